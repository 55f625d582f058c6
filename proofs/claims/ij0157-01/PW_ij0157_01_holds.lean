import PyProof.Rows.All
import Wide.All
import OpenK.AllK
import Wide.FinOn
import PySem.Challenge.RW_ij0157_01
open PySem PySem.W PyProof.Rows PySem.Calls
set_option Elab.async false
set_option maxRecDepth 100000
set_option maxHeartbeats 8000000
set_option linter.unusedVariables false
namespace Mine

/-! ## Growth of the state -/
def Kp (h h' : Heap) : Prop := ∀ b o, h.get? b = some o → h'.get? b = some o
theorem Kp.refl (h : Heap) : Kp h h := fun _ _ e => e
theorem Kp.trans {a b c : Heap} (x : Kp a b) (y : Kp b c) : Kp a c := fun p o e => y p o (x p o e)
theorem Kp.push (h : Heap) (o : Obj) : Kp h (h.push o) := fun _ _ e => Heap.get?_push_of_some o e
theorem Kp.none {h h' : Heap} (x : Kp h h') {a : Addr} (e : h'.get? a = none) : h.get? a = none := by
  cases q : h.get? a with
  | none => rfl
  | some o => rw [x a o q] at e; cases e

def GK (a b : Array GenState) : Prop := (∀ (i : Nat) x, a[i]? = some x → b[i]? = some x) ∧ (AllBare a → AllBare b)
theorem GK.refl (a : Array GenState) : GK a a := ⟨fun _ _ e => e, id⟩
theorem GK.trans {a b c : Array GenState} (x : GK a b) (y : GK b c) : GK a c := ⟨fun i v e => y.1 i v (x.1 i v e), fun e => y.2 (x.2 e)⟩

/-- the state has only grown; g = false: nothing but the heap and the tokens -/
structure Ex (g : Bool) (s s' : Shared) : Prop where
  keep : Kp s.heap s'.heap
  toks : s.toks ≤ s'.toks
  same : g = false → ∃ h tk, s' = { s with heap := h, toks := tk }
  os : s'.os = s.os
  gens : GK s.gens s'.gens

theorem Ex.refl (g : Bool) (s : Shared) : Ex g s s := ⟨Kp.refl _, Nat.le_refl _, fun _ => ⟨s.heap, s.toks, rfl⟩, rfl, GK.refl _⟩
theorem Ex.trans {g : Bool} {a b c : Shared} (x : Ex g a b) (y : Ex g b c) : Ex g a c :=
  ⟨x.keep.trans y.keep, Nat.le_trans x.toks y.toks, fun e => by
    obtain ⟨h, t, rfl⟩ := x.same e
    obtain ⟨h', t', rfl⟩ := y.same e
    exact ⟨h', t', rfl⟩, y.os.trans x.os, x.gens.trans y.gens⟩
theorem Ex.of {g : Bool} {s : Shared} {h : Heap} {tk : Nat} (hk : Kp s.heap h) (ht : s.toks ≤ tk) : Ex g s { s with heap := h, toks := tk } :=
  ⟨hk, ht, fun _ => ⟨h, tk, rfl⟩, rfl, GK.refl _⟩
theorem Ex.toG {g : Bool} {s s' : Shared} (x : Ex false s s') : Ex g s s' := ⟨x.keep, x.toks, fun _ => x.same rfl, x.os, x.gens⟩
theorem Ex.weak {g : Bool} {s s' : Shared} (x : Ex g s s') : Ex true s s' := ⟨x.keep, x.toks, (fun e => nomatch e), x.os, x.gens⟩
theorem Ex.keeps {s s' : Shared} (x : Ex false s s') : Keeps s s' := by
  obtain ⟨h, t, rfl⟩ := x.same rfl
  exact ⟨h, t, rfl, x.keep⟩
theorem Ex.ofKeeps {g : Bool} {s s' : Shared} (x : Keeps s s') (ht : s.toks ≤ s'.toks) : Ex g s s' := by
  obtain ⟨h, t, rfl, hk⟩ := x
  exact .of hk ht

/-! ## Facts about objects -/
abbrev Fact := Addr × (Obj → Prop)
def Facts (X : List Fact) (h : Heap) : Prop := ∀ x ∈ X, ∃ o, h.get? x.1 = some o ∧ x.2 o
def Fresh (X : List Fact) (h : Heap) : Prop := ∀ x ∈ X, h.get? x.1 = none
theorem Facts.nil (h : Heap) : Facts [] h := fun _ hx => by cases hx
theorem Fresh.nil (h : Heap) : Fresh [] h := fun _ hx => by cases hx
theorem Facts.keep {X : List Fact} {h h' : Heap} (f : Facts X h) (k : Kp h h') : Facts X h' := fun x hx => let ⟨o, a, b⟩ := f x hx; ⟨o, k _ _ a, b⟩
theorem Facts.append {X Y : List Fact} {h : Heap} (f : Facts X h) (g : Facts Y h) : Facts (X ++ Y) h := fun x hx => (List.mem_append.mp hx).elim (f x) (g x)
theorem Facts.cons {x : Fact} {Y : List Fact} {h : Heap} (f : ∃ o, h.get? x.1 = some o ∧ x.2 o) (g : Facts Y h) : Facts (x :: Y) h := fun y hy => by
  rcases List.mem_cons.mp hy with rfl | hy
  · exact f
  · exact g y hy
theorem Fresh.cons {x : Fact} {Y : List Fact} {h : Heap} (f : h.get? x.1 = none) (g : Fresh Y h) : Fresh (x :: Y) h := fun y hy => by
  rcases List.mem_cons.mp hy with rfl | hy
  · exact f
  · exact g y hy
theorem Facts.sub {X Y : List Fact} {h : Heap} (f : Facts X h) (hs : ∀ y ∈ Y, y ∈ X) : Facts Y h := fun y hy => f y (hs y hy)
theorem Fresh.back {X : List Fact} {h h' : Heap} (f : Fresh X h') (k : Kp h h') : Fresh X h := fun x hx => k.none (f x hx)
theorem Facts.but {X : List Fact} {h h' : Heap} {L : Addr} (f : Facts X h) (k : ∀ b o, b ≠ L → h.get? b = some o → h'.get? b = some o) (hn : ∀ x ∈ X, x.1 ≠ L) : Facts X h' :=
  fun x hx => let ⟨o, a, b⟩ := f x hx; ⟨o, k _ _ (hn x hx) a, b⟩

/-- a list, a cell, a tuple, a dict of texts -/
def isL (xs : Array Value) : Obj → Prop := fun o => ∃ n, o = { cls := .type "list", data := .seq xs n }
def isC (v : Value) : Obj → Prop := fun o => o.data = .cell (some v)
def isT (xs : Array Value) : Obj → Prop := fun o => o.cls = .type "tuple" ∧ o.dict = none ∧ o.slots = #[] ∧ ∃ n, o.data = .seq xs n

/-- the frame L holds the map m; the base and the facts hold -/
structure Cx (hB : Heap) (L : Addr) (m : Str → Option Value) (X : List Fact) (s : Shared) : Prop where
  ns : s.heap.Ns L m
  base : Kp hB s.heap
  facts : Facts X s.heap
  tok : 1 ≤ s.toks

section
variable {g : Bool} {hB : Heap} {L : Addr} {m : Str → Option Value} {X Y : List Fact} {s s' : Shared}
theorem Cx.up (c : Cx hB L m X s) (x : Ex g s s') : Cx hB L m X s' := ⟨c.ns.keeps x.keep, c.base.trans x.keep, c.facts.keep x.keep, Nat.le_trans c.tok x.toks⟩
theorem Cx.add (c : Cx hB L m X s) (f : Facts Y s.heap) : Cx hB L m (Y ++ X) s := ⟨c.ns, c.base, f.append c.facts, c.tok⟩
theorem Cx.less (c : Cx hB L m X s) (hs : ∀ y ∈ Y, y ∈ X) : Cx hB L m Y s := ⟨c.ns, c.base, c.facts.sub hs, c.tok⟩
end

section
variable {prog : Program} {w : World} {A : Around} {g : Bool} {α β : Type} {hB : Heap} {L : Addr} {m : Str → Option Value} {X Y : List Fact} {s : Shared}

/-- an evaluation that only grows the state, raises nothing and gives what Φ says, with new objects as told -/
def Pu (prog : Program) (w : World) (A : Around) (g : Bool) (hB : Heap) (L : Addr) (m : Str → Option Value) (X : List Fact) (t : Sem α) (Φ : α → List Fact → Prop) : Prop :=
  ∀ s, Cx hB L m X s → wpAny (model prog w) A t (fun a s' => ∃ Y, Φ a Y ∧ Facts Y s'.heap ∧ Fresh Y s.heap ∧ Ex g s s') (fun _ _ => False) s

theorem Pu.mono {t : Sem α} {Φ Φ' : α → List Fact → Prop} (h : Pu prog w A g hB L m X t Φ) (hi : ∀ a Y, Φ a Y → Φ' a Y) : Pu prog w A g hB L m X t Φ' :=
  fun s c => wpAny_mono (h s c) (fun a s' ⟨Y, p, q⟩ => ⟨Y, hi a Y p, q⟩) fun _ _ e => e
theorem Pu.toG {t : Sem α} {Φ : α → List Fact → Prop} (h : Pu prog w A false hB L m X t Φ) : Pu prog w A g hB L m X t Φ :=
  fun s c => wpAny_mono (h s c) (fun a s' ⟨Y, p, q, r, x⟩ => ⟨Y, p, q, r, x.toG⟩) fun _ _ e => e
theorem Pu.weak {t : Sem α} {Φ : α → List Fact → Prop} (h : Pu prog w A g hB L m X t Φ) : Pu prog w A true hB L m X t Φ :=
  fun s c => wpAny_mono (h s c) (fun a s' ⟨Y, p, q, r, x⟩ => ⟨Y, p, q, r, x.weak⟩) fun _ _ e => e
theorem Pu.less {t : Sem α} {Φ : α → List Fact → Prop} (h : Pu prog w A g hB L m Y t Φ) (hs : ∀ y ∈ Y, y ∈ X) : Pu prog w A g hB L m X t Φ :=
  fun s c => h s (c.less hs)

/-- use of a Pu at a state -/
theorem Pu.run {t : Sem α} {Φ : α → List Fact → Prop} {Q : α → Shared → Prop} {E : Value → Shared → Prop} (h : Pu prog w A g hB L m X t Φ) (c : Cx hB L m X s)
    (k : ∀ a Y s', Φ a Y → Facts Y s'.heap → Fresh Y s.heap → Ex g s s' → Cx hB L m (Y ++ X) s' → Q a s') : wpAny (model prog w) A t Q E s :=
  wpAny_mono (h s c) (fun a s' ⟨Y, p, q, r, x⟩ => k a Y s' p q r x ((c.up x).add q)) fun _ _ e => e.elim

theorem Pu.pure {a : α} {Φ : α → List Fact → Prop} (h : Φ a []) : Pu prog w A g hB L m X (pure a : Sem α) Φ :=
  fun s _ => wpAny_pure ⟨[], h, Facts.nil _, Fresh.nil _, Ex.refl _ _⟩

/-- sequence: the facts of the first part may be handed on -/
theorem Pu.bind {t : Sem α} {f : α → Sem β} {Φ : α → List Fact → Prop} {Ψ : β → List Fact → Prop} (h : Pu prog w A g hB L m X t Φ)
    (k : ∀ a Y, Φ a Y → Pu prog w A g hB L m (Y ++ X) (f a) (fun b Z => ∃ V, (∀ v ∈ V, v ∈ Y ∨ v ∈ Z) ∧ Ψ b V)) : Pu prog w A g hB L m X (t >>= f) Ψ :=
  fun s c => wpAny_bind (h.run c fun a Y s' hp hf hr hx c' => wpAny_mono (k a Y hp s' c') (fun b s'' ⟨Z, ⟨V, hV, hψ⟩, hf', hr', hx'⟩ =>
    ⟨V, hψ, fun v hv => (hV v hv).elim (fun q => hf.keep hx'.keep v q) (fun q => hf' v q), fun v hv => (hV v hv).elim (fun q => hr v q) (fun q => hx.keep.none (hr' v q)), hx.trans hx'⟩) fun _ _ e => e)
end

/-! values -/
def Is (v : Value) : Value → List Fact → Prop := fun a Y => a = v ∧ Y = []
def VS (x : Str) : Value → List Fact → Prop := fun a Y => (∃ t, a = .str x t) ∧ Y = []
def VI (i : Int) : Value → List Fact → Prop := fun a Y => (∃ t, a = .int i t) ∧ Y = []
def VB (b : Bool) : Value → List Fact → Prop := fun a Y => a = .bool b ∧ Y = []
def VL (xs : Array Value) : Value → List Fact → Prop := fun a Y => ∃ D, a = .ref D ∧ Y = [(D, isL xs)]
def BB (b : Bool) : Bool → List Fact → Prop := fun a Y => a = b ∧ Y = []
theorem Is.toS {x : Str} {t : Tok} {a : Value} {Y : List Fact} (h : Is (.str x t) a Y) : VS x a Y := ⟨⟨t, h.1⟩, h.2⟩
theorem Is.toI {x : Int} {t : Tok} {a : Value} {Y : List Fact} (h : Is (.int x t) a Y) : VI x a Y := ⟨⟨t, h.1⟩, h.2⟩

/-- what stands of the world in every heap that keeps the base -/
structure Wo (mg mb : Str → Option Value) (h : Heap) : Prop where
  g : h.Ns mainGlobals mg
  b : h.Ns builtinsNs mb
  lim : h.NoLimit
theorem Wo.keep {mg mb : Str → Option Value} {h h' : Heap} (W : Wo mg mb h) (k : Kp h h') : Wo mg mb h' := ⟨W.g.keeps k, W.b.keeps k, W.lim.keeps k⟩
theorem Wo.low {mg mb : Str → Option Value} {h : Heap} (W : Wo mg mb h) : sysModules < h.objs.size := by
  obtain ⟨o, _, _, ho, _⟩ := W.g
  exact Nat.lt_trans (by decide) (Heap.lt_size ho)

/-- room below -/
structure Rm (A : Around) (n : Nat) : Prop where
  hd : A.handled = none
  dp : A.depth + n < recursionLimit
  un : A.units + 100 * n < cLine
theorem Rm.in1 {A : Around} {n : Nat} (r : Rm A (n + 1)) : Rm A.in1 n := ⟨r.hd, by have := r.dp; show A.depth + n < _; omega, by have := r.un; show A.units + 1 + 100 * n < _; omega⟩
theorem Rm.deeper {A : Around} {n : Nat} {env : Env} (r : Rm A (n + 1)) : Rm (A.deeper env) n :=
  ⟨r.hd, by have := r.dp; show A.depth + 1 + n < _; omega, by have := r.un; show A.units + 3 + 100 * n < _; omega⟩
theorem Rm.le {A : Around} {n k : Nat} (r : Rm A n) (h : k ≤ n) : Rm A k := ⟨r.hd, by have := r.dp; omega, by have := r.un; omega⟩

section
variable {prog : Program} {w : World} {A : Around} {g : Bool} {α β : Type} {hB : Heap} {L : Addr} {m : Str → Option Value} {X Y : List Fact} {s : Shared} {env : Env}

/-- an end: the state has some more tokens -/
theorem done_tok {a : α} {Φ : α → List Fact → Prop} {tk : Nat} (h : Φ a []) (ht : s.toks ≤ tk) : ∃ Y, Φ a Y ∧ Facts Y ({ s with toks := tk } : Shared).heap ∧ Fresh Y s.heap ∧ Ex g s { s with toks := tk } :=
  ⟨[], h, Facts.nil _, Fresh.nil _, Ex.of (Kp.refl _) ht⟩
theorem done_same {a : α} {Φ : α → List Fact → Prop} (h : Φ a []) : ∃ Y, Φ a Y ∧ Facts Y s.heap ∧ Fresh Y s.heap ∧ Ex g s s :=
  ⟨[], h, Facts.nil _, Fresh.nil _, Ex.refl _ _⟩

/-- two trees in a row, then a third on what they gave -/
theorem run2 {t : Sem α} {u : Sem β} {Φ₁ : α → List Fact → Prop} {Φ₂ : β → List Fact → Prop} {γ : Type} {k : α → β → Sem γ} {Ψ : γ → List Fact → Prop}
    (ht : Pu prog w A g hB L m X t Φ₁) (hu : Pu prog w A g hB L m X u Φ₂) (hk : ∀ a b Y Z, Φ₁ a Y → Φ₂ b Z → Pu prog w A g hB L m (Z ++ (Y ++ X)) (k a b) Ψ) (c : Cx hB L m X s) :
    wpAny (model prog w) A t (fun a s₁ => wpAny (model prog w) A u (fun b s₂ => wpAny (model prog w) A (k a b) (fun r s' => ∃ Y, Ψ r Y ∧ Facts Y s'.heap ∧ Fresh Y s.heap ∧ Ex g s s') (fun _ _ => False) s₂) (fun _ _ => False) s₁) (fun _ _ => False) s :=
  ht.run c fun a Y s₁ p f r x c₁ => (hu.less fun y hy => List.mem_append_right _ hy).run c₁ fun b Z s₂ p' f' r' x' c₂ =>
    wpAny_mono (hk a b Y Z p p' s₂ c₂) (fun v s₃ ⟨V, q, fv, rv, xv⟩ => ⟨V, q, fv, (rv.back x'.keep).back x.keep, x.trans (x'.trans xv)⟩) fun _ _ e => e

theorem pu_BinOp {l r : PySem.Expr} {op : Operator} {pos : Pos} {Φ₁ Φ₂ Ψ : Value → List Fact → Prop} (hl : Pu prog w A g hB L m X (eval l env) Φ₁) (hr : Pu prog w A g hB L m X (eval r env) Φ₂)
    (h : ∀ a b Y Z, Φ₁ a Y → Φ₂ b Z → Pu prog w A g hB L m (Z ++ (Y ++ X)) (binaryOp op a b) Ψ) : Pu prog w A g hB L m X (eval (.BinOp l op r pos) env) Ψ :=
  fun s c => wpAny_BinOp (run2 hl hr h c)
theorem pu_Compare {l r : PySem.Expr} {op : CmpOp} {pos : Pos} {Φ₁ Φ₂ Ψ : Value → List Fact → Prop} (hl : Pu prog w A g hB L m X (eval l env) Φ₁) (hr : Pu prog w A g hB L m X (eval r env) Φ₂)
    (h : ∀ a b Y Z, Φ₁ a Y → Φ₂ b Z → Pu prog w A g hB L m (Z ++ (Y ++ X)) (compareOp op a b) Ψ) (hm : behindInMarks op r = false := by with_unfolding_all rfl) : Pu prog w A g hB L m X (eval (.Compare l [op] [r] pos) env) Ψ :=
  fun s c => wpAny_Compare1 (run2 hl hr h c) hm
theorem pu_isTrue_Compare {l r : PySem.Expr} {op : CmpOp} {pos : Pos} {whole : Sem Value} {Φ₁ Φ₂ : Value → List Fact → Prop} {b : Bool} (hl : Pu prog w A g hB L m X (eval l env) Φ₁) (hr : Pu prog w A g hB L m X (eval r env) Φ₂)
    (h : ∀ u v Y Z, Φ₁ u Y → Φ₂ v Z → Pu prog w A g hB L m (Z ++ (Y ++ X)) (compareOp op u v) (VB b)) (hm : behindInMarks op r = false := by with_unfolding_all rfl) :
    Pu prog w A g hB L m X (isTrue (.Compare l [op] [r] pos) env whole) (BB b) :=
  fun s c => wpAny_isTrue_Compare1 (wpAny_mono (run2 hl hr h c) (fun a s₁ h₁ => wpAny_mono h₁ (fun v s₂ h₂ => wpAny_mono h₂ (fun r s₃ ⟨V, ⟨e, e'⟩, f, q, x⟩ => by
    subst e e'
    exact wpAny_truthy_bool ⟨[], ⟨rfl, rfl⟩, Facts.nil _, Fresh.nil _, x⟩) fun _ _ e => e) fun _ _ e => e) fun _ _ e => e) hm
theorem pu_isTrue_value {e : PySem.Expr} {Φ : Value → List Fact → Prop} {b : Bool} {whole : Sem Value} (hv : Pu prog w A g hB L m X whole Φ) (h : ∀ v Y, Φ v Y → Pu prog w A g hB L m (Y ++ X) (truthy v) (BB b))
    (he : isTrue e env whole = (do let v ← whole; standAt e.pos; holding [v] (truthy v)) := by rfl) : Pu prog w A g hB L m X (isTrue e env whole) (BB b) :=
  fun s c => wpAny_isTrue_value (hv.run c fun v Y s₁ p f r x c₁ => wpAny_mono (h v Y p s₁ c₁) (fun _ _ ⟨Z, q, f', r', x'⟩ => ⟨Z, q, f', r'.back x.keep, x.trans x'⟩) fun _ _ e => e) he
theorem pu_isTrue_Not {x : PySem.Expr} {pos : Pos} {whole : Sem Value} {b : Bool} (h : Pu prog w A g hB L m X (isTrue x env (eval x env)) (BB b)) : Pu prog w A g hB L m X (isTrue (.UnaryOp .Not x pos) env whole) (BB (!b)) :=
  fun s c => wpAny_isTrue_Not (wpAny_mono (h s c) (fun b' s' ⟨Y, ⟨e, e'⟩, q⟩ => ⟨Y, ⟨by rw [e], e'⟩, q⟩) fun _ _ e => e)
theorem pu_isTrue_And {x y : PySem.Expr} {pos : Pos} {whole : Sem Value} {b c : Bool} (hx : Pu prog w A g hB L m X (isTrue x env (eval x env)) (BB b))
    (hy : b = true → Pu prog w A g hB L m X (isTrue y env (eval y env)) (BB c)) : Pu prog w A g hB L m X (isTrue (.BoolOp .And [x, y] pos) env whole) (BB (b && c)) :=
  fun s cx => wpAny_isTrue_BoolOp (wpAny_allTrue_And_cons (hx.run cx fun v Y s₁ p f r x c₁ => by
    obtain ⟨e1, e2⟩ := p
    subst e1 e2
    cases v with
    | false => exact ⟨[], ⟨rfl, rfl⟩, Facts.nil _, Fresh.nil _, x⟩
    | true => exact wpAny_allTrue_And_cons ((hy rfl).run c₁ fun v' Y' s₂ p' f' r' x' c₂ => by
        obtain ⟨e1, e2⟩ := p'
        subst e1 e2
        cases v' with
        | false => exact ⟨[], ⟨rfl, rfl⟩, Facts.nil _, Fresh.nil _, x.trans x'⟩
        | true => exact wpAny_allTrue_And_nil ⟨[], ⟨rfl, rfl⟩, Facts.nil _, Fresh.nil _, x.trans x'⟩)))

theorem pu_Not {x : PySem.Expr} {pos : Pos} {Φ : Value → List Fact → Prop} {b : Bool} (hv : Pu prog w A g hB L m X (eval x env) Φ) (h : ∀ v Y, Φ v Y → Pu prog w A g hB L m (Y ++ X) (truthy v) (BB b)) :
    Pu prog w A g hB L m X (eval (.UnaryOp .Not x pos) env) (VB (!b)) :=
  fun s c => wpAny_UnaryOp (hv.run c fun v Y s₁ p f r x c₁ => not_value (wpAny_mono (h v Y p s₁ c₁) (fun b' _ ⟨Z, ⟨e, e'⟩, f', r', x'⟩ => ⟨[], ⟨by rw [e], rfl⟩, Facts.nil _, Fresh.nil _, x.trans x'⟩) fun _ _ e => e))
/-- x and y, both bools -/
theorem pu_And {x y : PySem.Expr} {pos : Pos} {b c : Bool} (hx : Pu prog w A g hB L m X (eval x env) (VB b)) (hy : b = true → Pu prog w A g hB L m X (eval y env) (VB c)) :
    Pu prog w A g hB L m X (eval (.BoolOp .And [x, y] pos) env) (VB (b && c)) :=
  fun s cx => wpAny_And2 (hx.run cx fun v Y s₁ p f r x c₁ => by
    obtain ⟨e1, e2⟩ := p
    subst e1 e2
    refine wpAny_truthy_bool ?_
    cases b with
    | false => exact ⟨[], ⟨rfl, rfl⟩, Facts.nil _, Fresh.nil _, x⟩
    | true =>
      refine (hy rfl).run c₁ fun v' Y' s₂ p' f' r' x' c₂ => ?_
      obtain ⟨e1, e2⟩ := p'
      subst e1 e2
      exact ⟨[], ⟨rfl, rfl⟩, Facts.nil _, Fresh.nil _, x.trans x'⟩)
theorem pu_IfExp {test body orelse : PySem.Expr} {pos : Pos} {b : Bool} {Ψ : Value → List Fact → Prop} (ht : Pu prog w A g hB L m X (isTrue test env (eval test env)) (BB b))
    (h1 : b = true → Pu prog w A g hB L m X (eval body env) Ψ) (h2 : b = false → Pu prog w A g hB L m X (eval orelse env) Ψ) : Pu prog w A g hB L m X (eval (.IfExp test body orelse pos) env) Ψ :=
  fun s c => wpAny_IfExp (ht.run c fun v Y s₁ p f r x c₁ => by
    obtain ⟨e1, e2⟩ := p
    subst e1 e2
    have fin : ∀ {e : PySem.Expr}, Pu prog w A g hB L m X (eval e env) Ψ → wpAny (model prog w) A (eval e env) (fun a s' => ∃ Y, Ψ a Y ∧ Facts Y s'.heap ∧ Fresh Y s.heap ∧ Ex g s s') (fun _ _ => False) s₁ :=
      fun h => h.run c₁ fun a Z s₂ p' f' r' x' c₂ => ⟨Z, p', f', r'.back x.keep, x.trans x'⟩
    cases v with
    | false => rw [if_neg Bool.false_ne_true]; exact fin (h2 rfl)
    | true => rw [if_pos rfl]; exact fin (h1 rfl))

/-! names, constants -/
theorem pu_local {x : Str} {pos : Pos} {v : Value} (hv : m x = some v) (hL : env.locals = L := by rfl) (hk : env.scope.kind = .function := by rfl) (hl : env.kindOf x = some .local := by rfl)
    (hd : (x == ("__debug__" : Str)) = false := by decide) : Pu prog w A g hB L m X (eval (.Name x pos) env) (Is v) :=
  fun s c => wpAny_Name (wpAny_loadName_local hk hl (hL ▸ c.ns) hv (done_same ⟨rfl, rfl⟩)) hd
theorem pu_cell {x : Str} {pos : Pos} {v : Value} {ca : Addr} (hc : env.cells.lookup x = some ca) (hf : (ca, isC v) ∈ X) (hk : env.scope.kind = .function := by rfl) (hl : env.kindOf x = some .cell := by rfl)
    (hd : (x == ("__debug__" : Str)) = false := by decide) : Pu prog w A g hB L m X (eval (.Name x pos) env) (Is v) :=
  fun s c => wpAny_Name (wpAny_loadName_cell hk hl hc (c.facts _ hf) (done_same ⟨rfl, rfl⟩)) hd
theorem pu_free {x : Str} {pos : Pos} {v : Value} {ca : Addr} (hc : env.cells.lookup x = some ca) (hf : (ca, isC v) ∈ X) (hk : env.scope.kind = .function := by rfl) (hl : env.kindOf x = some .free := by rfl)
    (hd : (x == ("__debug__" : Str)) = false := by decide) (hn : (x == ("__classdict__" : Str)) = false := by decide) : Pu prog w A g hB L m X (eval (.Name x pos) env) (Is v) :=
  fun s c => wpAny_Name (wpAny_loadName_free hk hl hc (c.facts _ hf) (done_same ⟨rfl, rfl⟩) hn) hd
theorem pu_global {mg mb : Str → Option Value} {x : Str} {pos : Pos} {v : Value} (W : Wo mg mb hB) (hv : mg x = some v) (hG : env.globals = mainGlobals := by rfl) (hk : env.scope.kind = .function := by rfl)
    (hl : env.kindOf x = some .globalImplicit := by rfl) (hd : (x == ("__debug__" : Str)) = false := by decide) : Pu prog w A g hB L m X (eval (.Name x pos) env) (Is v) :=
  fun s c => Name_function_global hk hl (loadGlobal_global (hG ▸ W.g.keeps c.base) hv (done_same ⟨rfl, rfl⟩)) hd
theorem pu_builtin {mg mb : Str → Option Value} {x : Str} {pos : Pos} {v : Value} (W : Wo mg mb hB) (hn : mg x = none) (hv : mb x = some v) (hG : env.globals = mainGlobals := by rfl) (hB' : env.builtins = builtinsNs := by rfl)
    (hk : env.scope.kind = .function := by rfl) (hl : env.kindOf x = some .globalImplicit := by rfl) (hd : (x == ("__debug__" : Str)) = false := by decide) : Pu prog w A g hB L m X (eval (.Name x pos) env) (Is v) :=
  fun s c => Name_function_global hk hl (loadGlobal_builtin (hG ▸ W.g.keeps c.base) hn (hB' ▸ W.b.keeps c.base) hv (done_same ⟨rfl, rfl⟩)) hd

theorem pu_str {x : Str} {k : Nat} {pos : Pos} : Pu prog w A g hB L m X (eval (.Constant (.str x) k pos) env) (VS x) :=
  fun s c => PySem.wpAny_Constant_str (done_tok ⟨⟨_, rfl⟩, rfl⟩ (Nat.le_succ _))
theorem pu_int {i : Int} {k : Nat} {pos : Pos} : Pu prog w A g hB L m X (eval (.Constant (.int i) k pos) env) (VI i) :=
  fun s c => wpAny_Constant_int (done_tok ⟨⟨_, rfl⟩, rfl⟩ (Nat.le_succ _))
theorem pu_bool {b : Bool} {k : Nat} {pos : Pos} : Pu prog w A g hB L m X (eval (.Constant (.bool b) k pos) env) (VB b) :=
  fun s c => wpAny_Constant_bool (done_same ⟨rfl, rfl⟩)
theorem pu_none {k : Nat} {pos : Pos} : Pu prog w A g hB L m X (eval (.Constant .none k pos) env) (Is .none) :=
  fun s c => wpAny_Constant_none (done_same ⟨rfl, rfl⟩)

/-! truth -/
theorem pu_truthy_bool {b : Bool} : Pu prog w A g hB L m X (truthy (.bool b)) (BB b) := fun s c => wpAny_truthy_bool (done_same ⟨rfl, rfl⟩)
theorem pu_isTrue_bool {e : PySem.Expr} {b : Bool} {whole : Sem Value} (h : Pu prog w A g hB L m X whole (VB b))
    (he : isTrue e env whole = (do let v ← whole; standAt e.pos; holding [v] (truthy v)) := by rfl) : Pu prog w A g hB L m X (isTrue e env whole) (BB b) :=
  pu_isTrue_value h (fun v Y p => by obtain ⟨rfl, rfl⟩ := p; exact pu_truthy_bool) he

/-! operations on ints and texts -/
theorem op_add_int {a b : Int} {t u : Tok} : Pu prog w A g hB L m X (binaryOp .Add (.int a t) (.int b u)) (VI (a + b)) := fun s c => P.add_int (done_tok ⟨⟨_, rfl⟩, rfl⟩ (Nat.le_succ _))
theorem op_sub_int {a b : Int} {t u : Tok} : Pu prog w A g hB L m X (binaryOp .Sub (.int a t) (.int b u)) (VI (a - b)) := fun s c => P.sub_int (done_tok ⟨⟨_, rfl⟩, rfl⟩ (Nat.le_succ _))
theorem op_mod_int {a b : Int} {t u : Tok} (hb : b ≠ 0) : Pu prog w A g hB L m X (binaryOp .Mod (.int a t) (.int b u)) (VI (a.fmod b)) := fun s c => mod_int' hb (done_tok ⟨⟨_, rfl⟩, rfl⟩ (Nat.le_succ _))
theorem op_eq_int {a b : Int} {t u : Tok} : Pu prog w A g hB L m X (compareOp .Eq (.int a t) (.int b u)) (VB (a == b)) := fun s c => P.eq_int (done_same ⟨rfl, rfl⟩)
theorem op_lt_int {a b : Int} {t u : Tok} : Pu prog w A g hB L m X (compareOp .Lt (.int a t) (.int b u)) (VB (decide (a < b))) := fun s c => P.lt_int (done_same ⟨rfl, rfl⟩)
theorem op_gt_int {a b : Int} {t u : Tok} : Pu prog w A g hB L m X (compareOp .Gt (.int a t) (.int b u)) (VB (decide (a > b))) := fun s c => P.gt_int (done_same ⟨rfl, rfl⟩)
theorem op_ne_int {a b : Int} {t u : Tok} : Pu prog w A g hB L m X (compareOp .NotEq (.int a t) (.int b u)) (VB (a != b)) := fun s c => P.ne_int (done_same ⟨rfl, rfl⟩)
theorem str_eq_iff (x y : Str) : (x.cps.toList == y.cps.toList) = decide (x = y) := by
  by_cases h : x = y
  · subst h; simp
  · rw [decide_eq_false h]
    refine beq_eq_false_iff_ne.mpr fun e => h ?_
    obtain ⟨⟨a⟩⟩ := x
    obtain ⟨⟨b⟩⟩ := y
    exact congrArg (fun l : List Nat => (⟨l.toArray⟩ : Str)) e
theorem op_eq_str {x y : Str} {t u : Tok} : Pu prog w A g hB L m X (compareOp .Eq (.str x t) (.str y u)) (VB (decide (x = y))) := fun s c => P.eq_str (done_same ⟨by rw [str_eq_iff], rfl⟩)
theorem op_ne_str {x y : Str} {t u : Tok} : Pu prog w A g hB L m X (compareOp .NotEq (.str x t) (.str y u)) (VB (!decide (x = y))) :=
  fun s c => P.ne_str (done_same ⟨by rw [show (x.cps.toList != y.cps.toList) = !(x.cps.toList == y.cps.toList) from rfl, str_eq_iff], rfl⟩)
theorem op_in_str {x y : Str} {t u : Tok} : Pu prog w A g hB L m X (compareOp .In (.str y u) (.str x t)) (VB !(Builtin.Str.occurrences x y 0 x.length 1).isEmpty) := fun s c => P.in_str (done_same ⟨rfl, rfl⟩)
theorem op_notIn_str {x y : Str} {t u : Tok} : Pu prog w A g hB L m X (compareOp .NotIn (.str y u) (.str x t)) (VB (Builtin.Str.occurrences x y 0 x.length 1).isEmpty) :=
  fun s c => P.notIn_str (done_same ⟨by rw [Bool.not_not], rfl⟩)
theorem made_add {x y : Str} {t u : Tok} {Q : Value → Shared → Prop} (hz : x.length + y.length ≤ sizeLine) (h : ∀ t' k, s.toks ≤ k → Q (.str (x ++ y) t') { s with toks := k }) :
    (if x.length == 0 then Made.val (.str y u) else if y.length == 0 then Made.val (.str x t) else Made.str (x ++ y)).post Q s := by
  by_cases h1 : x.length = 0
  · have e : x ++ y = y := by obtain ⟨⟨a⟩⟩ := x; cases a with
      | nil => exact Str.empty_append y
      | cons _ _ => simp [Str.length] at h1
    rw [if_pos (by simp [h1])]
    rw [e] at h
    exact h u s.toks (Nat.le_refl _)
  · rw [if_neg (by simp [h1])]
    by_cases h2 : y.length = 0
    · have e : x ++ y = x := by obtain ⟨⟨a⟩⟩ := y; cases a with
        | nil => exact Str.append_empty x
        | cons _ _ => simp [Str.length] at h2
      rw [if_pos (by simp [h2])]
      rw [e] at h
      exact h t s.toks (Nat.le_refl _)
    · rw [if_neg (by simp [h2])]
      exact ⟨by rw [Str.length_append]; exact hz, h s.toks (s.toks + 1) (Nat.le_succ _)⟩
theorem op_add_str {x y : Str} {t u : Tok} (hz : x.length + y.length ≤ sizeLine) : Pu prog w A g hB L m X (binaryOp .Add (.str x t) (.str y u)) (VS (x ++ y)) :=
  fun s c => P.add_str (made_add hz fun t' k hk => done_tok ⟨⟨_, rfl⟩, rfl⟩ hk)
theorem op_iadd_str {x y : Str} {t u : Tok} (hz : x.length + y.length ≤ sizeLine) : Pu prog w A g hB L m X (inplaceOp .Add (.str x t) (.str y u)) (VS (x ++ y)) :=
  fun s c => P.iadd_str (made_add hz fun t' k hk => done_tok ⟨⟨_, rfl⟩, rfl⟩ hk)
theorem op_iadd_int {a b : Int} {t u : Tok} : Pu prog w A g hB L m X (inplaceOp .Add (.int a t) (.int b u)) (VI (a + b)) := fun s c => P.iadd_int (done_tok ⟨⟨_, rfl⟩, rfl⟩ (Nat.le_succ _))
theorem op_isub_int {a b : Int} {t u : Tok} : Pu prog w A g hB L m X (inplaceOp .Sub (.int a t) (.int b u)) (VI (a - b)) := fun s c => P.isub_int (done_tok ⟨⟨_, rfl⟩, rfl⟩ (Nat.le_succ _))
end

/-! ## The parts of the text -/
def nth : List Stmt → Nat → Stmt
  | [], _ => .Pass default
  | x :: _, 0 => x
  | _ :: r, n + 1 => nth r n
def stAt (i : Nat) : Stmt := nth PySem.Challenge.pw_ij0157_01.main.body i
def nmOf : Stmt → Str | .FunctionDef n .. => n | _ => Str.empty
def psOf : Stmt → Arguments | .FunctionDef _ a .. => a | _ => default
def bdOf : Stmt → List Stmt | .FunctionDef _ _ b .. => b | _ => []
def scOf : Stmt → Scope | .FunctionDef _ _ _ _ _ _ s .. => s | _ => default

/-! ## Statements -/
structure Re (g : Bool) (s s' : Shared) : Prop where
  toks : s.toks ≤ s'.toks
  same : g = false → ∃ h tk, s' = { s with heap := h, toks := tk }
  os : s'.os = s.os
  gens : GK s.gens s'.gens
theorem Ex.re {g : Bool} {s s' : Shared} (x : Ex g s s') : Re g s s' := ⟨x.toks, x.same, x.os, x.gens⟩
theorem Re.ex {g : Bool} {s s' : Shared} (x : Re g s s') (k : Kp s.heap s'.heap) : Ex g s s' := ⟨k, x.toks, x.same, x.os, x.gens⟩
theorem Re.refl (g : Bool) (s : Shared) : Re g s s := (Ex.refl g s).re
theorem Re.trans {g : Bool} {a b c : Shared} (x : Re g a b) (y : Re g b c) : Re g a c :=
  ⟨Nat.le_trans x.toks y.toks, fun e => by
    obtain ⟨h, t, rfl⟩ := x.same e
    obtain ⟨h', t', rfl⟩ := y.same e
    exact ⟨h', t', rfl⟩, y.os.trans x.os, x.gens.trans y.gens⟩
theorem Re.of {g : Bool} {s : Shared} {h : Heap} {tk : Nat} (ht : s.toks ≤ tk) : Re g s { s with heap := h, toks := tk } := ⟨ht, fun _ => ⟨h, tk, rfl⟩, rfl, GK.refl _⟩

abbrev upd (m : Str → Option Value) (x : Str) (v : Value) : Str → Option Value := fun y => if y = x then some v else m y

/-- within a frame: s₀ is where the call began, hB what is kept since some time -/
structure Sx (g : Bool) (s₀ : Shared) (hB : Heap) (L : Addr) (m : Str → Option Value) (X : List Fact) (s : Shared) : Prop where
  cx : Cx hB L m X s
  re : Re g s₀ s
  hL : hB.get? L = none
  off : ∀ x ∈ X, x.1 ≠ L

section
variable {prog : Program} {w : World} {A : Around} {g : Bool} {α β : Type} {s₀ : Shared} {hB : Heap} {L : Addr} {m : Str → Option Value} {X Y : List Fact} {s s' : Shared} {env : Env}

theorem Sx.ex (S : Sx g s₀ s₀.heap L m X s) : Ex g s₀ s := S.re.ex S.cx.base
theorem Sx.lex (S : Sx g s₀ s₀.heap L m X s) {v : Value} {Φ : Value → List Fact → Prop} (h : Φ v Y) (hf : Facts Y s.heap) (hn : ∀ y ∈ Y, s₀.heap.get? y.1 = none) : ∃ Y, Φ v Y ∧ Facts Y s.heap ∧ Fresh Y s₀.heap ∧ Ex g s₀ s :=
  ⟨Y, h, hf, hn, S.ex⟩
theorem Cx.hasL (c : Cx hB L m X s) : s.heap.get? L ≠ none := by
  obtain ⟨o, _, _, ho, _⟩ := c.ns
  rw [ho]; nofun
theorem Cx.newOff (c : Cx hB L m X s) (f : Fresh Y s.heap) : ∀ y ∈ Y, y.1 ≠ L := fun y hy e => c.hasL (e ▸ f y hy)
theorem Cx.newApart (c : Cx hB L m X s) (f : Fresh Y s.heap) : ∀ y ∈ Y, hB.get? y.1 = none ∧ ∀ x ∈ X, x.1 ≠ y.1 := fun y hy =>
  ⟨c.base.none (f y hy), fun x hx e => by
    obtain ⟨o, ho, _⟩ := c.facts x hx
    rw [e, f y hy] at ho; cases ho⟩
theorem Sx.grow (S : Sx g s₀ hB L m X s) (x : Ex g s s') (f : Facts Y s'.heap) (r : Fresh Y s.heap) : Sx g s₀ hB L m (Y ++ X) s' :=
  ⟨(S.cx.up x).add f, S.re.trans x.re, S.hL, fun y hy => (List.mem_append.mp hy).elim (S.cx.newOff r y) (S.off y)⟩
theorem Sx.up (S : Sx g s₀ hB L m X s) (x : Ex g s s') : Sx g s₀ hB L m X s' := ⟨S.cx.up x, S.re.trans x.re, S.hL, S.off⟩
theorem Sx.less (S : Sx g s₀ hB L m X s) (hs : ∀ y ∈ Y, y ∈ X) : Sx g s₀ hB L m Y s := ⟨S.cx.less hs, S.re, S.hL, fun y hy => S.off y (hs y hy)⟩
theorem Sx.weak (S : Sx g s₀ hB L m X s) : Sx true s₀ hB L m X s := ⟨S.cx, ⟨S.re.toks, fun e => (nomatch e), S.re.os, S.re.gens⟩, S.hL, S.off⟩

theorem sx_store {x : Str} {v : Value} {E : Value → Shared → Prop} {Q : Unit → Shared → Prop} (S : Sx g s₀ hB L m X s) (k : ∀ s', Sx g s₀ hB L (upd m x v) X s' → Q () s') (hL : env.locals = L := by rfl)
    (hl : env.kindOf x = some .local := by rfl) (hp : (env.scope.kind == .class || (env.scope.kind == .module && env.locals != env.globals)) = false := by rfl) : wpAny (model prog w) A (storeName env x v) Q E s := by
  subst hL
  refine wpAny_storeName_local hl S.cx.ns (fun h' hn hs => k _ ⟨⟨hn, fun b o e => ?_, ?_, Nat.le_succ_of_le S.cx.tok⟩, S.re.trans (.of (Nat.le_succ _)), S.hL, S.off⟩) hp
  · exact hs.extBut b o (fun q => by rw [q, S.hL] at e; cases e) (S.cx.base b o e)
  · exact S.cx.facts.but (fun b o hb e => hs.extBut b o hb e) S.off

theorem x_assign {x : Str} {p pos : Pos} {e : PySem.Expr} {E : Value → Shared → Prop} {Q : Flow → Shared → Prop} {Φ : Value → List Fact → Prop} (S : Sx g s₀ hB L m X s) (he : Pu prog w A g hB L m X (eval e env) Φ)
    (k : ∀ v Y s', Φ v Y → (∀ y ∈ Y, hB.get? y.1 = none ∧ ∀ x ∈ X, x.1 ≠ y.1) → Sx g s₀ hB L (upd m x v) (Y ++ X) s' → Q .next s') (hL : env.locals = L := by rfl)
    (hl : env.kindOf x = some .local := by rfl) (hp : (env.scope.kind == .class || (env.scope.kind == .module && env.locals != env.globals)) = false := by rfl)
    (hs : swapsWith e (some (.Name x p)) pos.line env = pure false := by rfl) : wpAny (model prog w) A (exec (.Assign [.Name x p] e pos) env) Q E s :=
  wpAny_Assign_Name (he.run S.cx fun v Y s₁ hv hf hr hx c₁ => sx_store (S.grow hx hf hr) (fun s' S' => k v Y s' hv (S.cx.newApart hr) S') hL hl hp) hs

theorem x_if {test : PySem.Expr} {body orelse : List Stmt} {pos : Pos} {b : Bool} {E : Value → Shared → Prop} {Q : Flow → Shared → Prop} (S : Sx g s₀ hB L m X s) (ht : Pu prog w A g hB L m X (isTrue test env (eval test env)) (BB b))
    (h1 : ∀ s', b = true → Sx g s₀ hB L m X s' → wpAny (model prog w) A (execs body env) Q E s') (h2 : ∀ s', b = false → Sx g s₀ hB L m X s' → wpAny (model prog w) A (execs orelse env) Q E s') :
    wpAny (model prog w) A (exec (.If test body orelse pos) env) Q E s :=
  wpAny_If (ht.run S.cx fun v Y s₁ hv hf hr hx c₁ => by
    obtain ⟨e1, e2⟩ := hv
    subst e1 e2
    cases v with
    | true => rw [if_pos rfl]; exact h1 s₁ rfl (S.up hx)
    | false => rw [if_neg Bool.false_ne_true]; exact h2 s₁ rfl (S.up hx))

theorem x_return {e : PySem.Expr} {pos : Pos} {E : Value → Shared → Prop} {Q : Flow → Shared → Prop} {Φ : Value → List Fact → Prop} (S : Sx g s₀ hB L m X s) (he : Pu prog w A g hB L m X (eval e env) Φ)
    (k : ∀ v Y s', Φ v Y → (∀ y ∈ Y, hB.get? y.1 = none ∧ ∀ x ∈ X, x.1 ≠ y.1) → Sx g s₀ hB L m (Y ++ X) s' → Q (.ret v) s') : wpAny (model prog w) A (exec (.Return (some e) pos) env) Q E s :=
  wpAny_Return_some (he.run S.cx fun v Y s₁ hv hf hr hx c₁ => k v Y s₁ hv (S.cx.newApart hr) (S.grow hx hf hr))

/-- the list D of the facts is turned -/
theorem Sx.turn {D : Addr} {p p' : Obj → Prop} {h' : Heap} (S : Sx g s₀ hB L m ((D, p) :: X) s) (hD : hB.get? D = none) (hX : ∀ x ∈ X, x.1 ≠ D) (hs : Heap.SameBut D s.heap h') (hp : ∃ o, h'.get? D = some o ∧ p' o) :
    Sx g s₀ hB L m ((D, p') :: X) { s with heap := h' } :=
  ⟨⟨S.cx.ns.sameBut hs fun e => S.off (D, p) (.head _) e.symm, fun b o e => hs.extBut b o (fun q => by rw [q, hD] at e; cases e) (S.cx.base b o e),
    Facts.cons hp ((S.cx.facts.sub fun y hy => .tail _ hy).but (fun b o hb e => hs.extBut b o hb e) hX), S.cx.tok⟩,
   ⟨S.re.toks, fun e => by obtain ⟨h, t, rfl⟩ := S.re.same e; exact ⟨h', t, rfl⟩, S.re.os, S.re.gens⟩, S.hL, fun y hy => by
    rcases List.mem_cons.mp hy with rfl | hy
    · exact S.off (D, p) (.head _)
    · exact S.off y (.tail _ hy)⟩

/-- D.append(e) as a statement -/
theorem x_append {o e : PySem.Expr} {apos pos epos : Pos} {D : Addr} {xs : Array Value} {E : Value → Shared → Prop} {Q : Flow → Shared → Prop} {Φ : Value → List Fact → Prop} (S : Sx g s₀ hB L m ((D, isL xs) :: X) s)
    (hD : hB.get? D = none) (hX : ∀ x ∈ X, x.1 ≠ D) (hsz : xs.size ≤ sizeLine)
    (ho : Pu prog w A g hB L m ((D, isL xs) :: X) (eval o env) (Is (.ref D))) (he : Pu prog w A g hB L m ((D, isL xs) :: X) (eval e env) Φ)
    (k : ∀ v Y s', Φ v Y → (∀ y ∈ Y, hB.get? y.1 = none ∧ (y.1 ≠ D) ∧ ∀ x ∈ X, x.1 ≠ y.1) → Sx g s₀ hB L m ((D, isL (xs.push v)) :: (Y ++ X)) s' → Q .next s')
    (hbase : attributeBase o "append" env (eval o env) = eval o env := by rfl)
    (hfew : ((backTo pos (starEach [e] env)).all (fun x => !x.1) && (backToKw pos (keywordEach [] env)).all (fun x => x.1.isSome)
      && decide (([e] : List PySem.Expr).length + ([] : List Keyword).length + (if ([] : List Keyword).isEmpty then 0 else 1) < 30)) = true := by rfl)
    (hline : (apos.endLine == pos.line) = true := by rfl) (htrees : backTo pos (starEach [e] env) = [(false, eval e env)] := by rfl) (hi : interactive env = false := by rfl)
    (hsw : swapsWith (.Call (.Attribute o "append" apos) [e] [] pos) none epos.line env = pure false := by rfl) :
    wpAny (model prog w) A (exec (.Expr (.Call (.Attribute o "append" apos) [e] [] pos) epos) env) Q E s := by
  refine wpAny_Expr (wpAny_Call_append hbase hfew hline htrees (ho.run S.cx fun v Y s₁ hv hf hr hx c₁ => ?_)) hi hsw
  obtain ⟨rfl, rfl⟩ := hv
  have S₁ := S.up hx
  obtain ⟨oD, hoD, n, rfl⟩ := S₁.cx.facts (D, isL xs) (.head _)
  refine ⟨D, xs, rfl, ⟨_, n, hoD, rfl, rfl, rfl⟩, he.run S₁.cx fun v Y s₂ hv hf hr hx' c₂ => ?_⟩
  have S₂ : Sx g s₀ hB L m ((D, isL xs) :: (Y ++ X)) s₂ := (S₁.grow hx' hf hr).less fun y hy => by
    rcases List.mem_cons.mp hy with rfl | hy
    · exact List.mem_append_right _ (.head _)
    · rcases List.mem_append.mp hy with hy | hy
      · exact List.mem_append_left _ hy
      · exact List.mem_append_right _ (.tail _ hy)
  have hY := S₁.cx.newApart hr
  have hYD : ∀ y ∈ Y, y.1 ≠ D := fun y hy e => (hY y hy).2 (D, isL xs) (.head _) e.symm
  obtain ⟨oD', hoD', n', rfl⟩ := S₂.cx.facts (D, isL xs) (.head _)
  refine wpAny_list_append_plain (hsz := hsz) ⟨n', hoD'⟩ fun h' hl hs => ?_
  obtain ⟨n'', hn''⟩ := hl
  exact k v Y _ hv (fun y hy => ⟨(hY y hy).1, hYD y hy, fun x hx => (hY y hy).2 x (.tail _ hx)⟩)
    (S₂.turn hD (fun x hx => (List.mem_append.mp hx).elim (hYD x) (hX x)) hs ⟨_, hn'', n'', rfl⟩)
end

/-! ## Dicts of texts -/
abbrev En := (Str × Tok) × (Str × Tok)
def ent (w : World) (e : En) : DictEntry := ⟨hashStr w e.1.1, .str e.1.1 e.1.2, .str e.2.1 e.2.2⟩
def isD (w : World) (es : List En) : Obj → Prop := fun o => ∃ n, o = { cls := .type "dict", data := .dict (es.map (ent w)).toArray n }
def kvOf (e : En) : Str × Value := (e.1.1, .str e.2.1 e.2.2)
structure EsOk (es : List En) : Prop where
  toks : ∀ e ∈ es, e.1.2 ≠ 0 ∧ e.2.2 ≠ 0 ∧ e.1.2 ≠ e.2.2
  keys : (es.map (·.1.1)).Nodup
  ne : ∀ e ∈ es, (e.1.1 == e.2.1) = false

theorem pairs_of (prog : Program) (w : World) : ∀ es : List En, Pairs (strKind prog w) (es.map (ent w)) (es.map kvOf)
  | [] => .nil
  | e :: r => .cons (strKind_is prog w _ _) rfl (pairs_of prog w r)
theorem dictAt_of {prog : Program} {w : World} {es : List En} {h : Heap} {D : Addr} {n : Nat} (ho : h.get? D = some { cls := .type "dict", data := .dict (es.map (ent w)).toArray n }) (hk : (es.map (·.1.1)).Nodup) :
    h.DictAt (strKind prog w) D (es.map kvOf) n :=
  ⟨_, _, ho, ⟨rfl, rfl, rfl⟩, rfl, fun e he => by
    obtain ⟨x, hx, rfl⟩ := List.mem_map.mp (List.mem_toArray.mp he)
    exact ⟨x.1.1, strKind_is prog w _ _, rfl⟩, pairs_of prog w es, by rw [List.map_map]; exact hk⟩
theorem dictOf_of {prog : Program} {w : World} {es : List En} {h : Heap} {D : Addr} {o : Obj} (ho : h.get? D = some o) (hd : isD w es o) (hk : (es.map (·.1.1)).Nodup) :
    h.DictOf (strKind prog w) D (es.map kvOf) := by
  obtain ⟨n, rfl⟩ := hd
  exact (dictAt_of ho hk).dictOf

def look (es : List En) (k : Str) : Option (Str × Tok) := (es.find? fun e => decide (e.1.1 = k)).map (·.2)
theorem valueAt_look (es : List En) (k : Str) : valueAt (es.map kvOf) k = (look es k).map fun p => Value.str p.1 p.2 := by
  induction es with
  | nil => rfl
  | cons e r ih =>
    unfold valueAt look at *
    rw [List.map_cons, List.find?_cons, List.find?_cons]
    by_cases h : e.1.1 = k
    · simp [kvOf, h]
    · have h1 : decide ((kvOf e).1 = k) = false := decide_eq_false h
      rw [h1, decide_eq_false h]
      exact ih

section
variable {prog : Program} {w : World} {A : Around} {g : Bool} {α β : Type} {s₀ : Shared} {hB : Heap} {L : Addr} {m : Str → Option Value} {X Y : List Fact} {s s' : Shared} {env : Env}

theorem op_notIn_dict {es : List En} {D : Addr} {x : Str} {t : Tok} (hD : (D, isD w es) ∈ X) (hk : (es.map (·.1.1)).Nodup) (hs : D ≠ sysModules) :
    Pu prog w A g hB L m X (compareOp .NotIn (.str x t) (.ref D)) (VB (!(look es x).isSome)) := fun s c => by
  obtain ⟨o, ho, hd⟩ := c.facts _ hD
  refine wpAny_notIn_of (knd := strKind prog w) (strKind_is prog w x t) (beq_eq_false_iff_ne.mpr hs) (dictOf_of ho hd hk).mapOf ?_
  exact done_tok ⟨by rw [valueAt_look, Option.isSome_map], rfl⟩ (Nat.le_succ _)

/-! ## Loops over an iterator that gives values one by one -/
theorem loop_name {x : Str} {px : Pos} {body : List Stmt} {I : Addr} {fp wr mu : List Addr} {n : Nat} {P : Nat → Value → Prop} {St : Nat → Heap → Prop} {R : Result → Shared → Prop}
    (W : Walks prog w A I fp wr n P St) (S : Sx g s₀ hB L m X s) (hst : St 0 s.heap) (hfp : ∀ b ∈ fp, b ≠ L ∧ b ∉ mu) (hmut : ∀ a ∈ mu, hB.get? a = none)
    (hwr : ∀ b ∈ wr, hB.get? b = none ∧ ∀ y ∈ X, y.1 ≠ b) (J : Nat → (Str → Option Value) → List Fact → Prop) (h0 : J 0 m X) (hJ : ∀ i m' X', J i m' X' → ∀ y ∈ X', ∃ z ∈ X, y.1 = z.1)
    (turn : ∀ i v m' X' hB' s', i < n → P i v → J i m' X' → Kp hB hB' → (∀ a ∈ mu, hB'.get? a = none) → Sx g s₀ hB' L (upd m' x v) X' s' →
      wpAny (model prog w) A (execs body env) (fun f s'' => f = .next ∧ ∃ m'' X'', J (i + 1) m'' X'' ∧ Sx g s₀ hB' L m'' X'' s'') (fun _ _ => False) s')
    (done : ∀ m' X' s', J n m' X' → Sx g s₀ hB L m' X' s' → R (.ok .next) s') (hL : env.locals = L := by rfl)
    (hl : env.kindOf x = some .local := by rfl) (hp : (env.scope.kind == .class || (env.scope.kind == .module && env.locals != env.globals)) = false := by rfl) :
    codeAny (model prog w) A (.forLoop (.Name x px) (.ref I) body [] env) R s := by
  subst hL
  refine codeAny_forLoop (fun k s' => ∃ i m' X', k = n + 1 - i ∧ i ≤ n ∧ J i m' X' ∧ St i s'.heap ∧ Sx g s₀ hB env.locals m' X' s') ?_ (n + 1) ⟨0, m, X, rfl, Nat.zero_le _, h0, hst, S⟩
  rintro k s' ⟨i, m', X', rfl, hi, hj, hsti, S'⟩
  have hwX : ∀ y ∈ X', ∀ b ∈ wr, y.1 ≠ b := fun y hy b hb e => by
    obtain ⟨z, hz, ez⟩ := hJ i m' X' hj y hy
    exact (hwr b hb).2 z hz (ez ▸ e)
  have hLw : ∀ b ∈ wr, env.locals ≠ b := fun b hb e => (hfp b (W.sub b hb)).1 e.symm
  -- a step of the iterator keeps the frame
  have step : ∀ (h' : Heap) (tk : Nat), s'.toks ≤ tk → (∀ b o, b ∉ wr → s'.heap.get? b = some o → h'.get? b = some o) → Sx g s₀ hB env.locals m' X' { s' with heap := h', toks := tk } := fun h' tk ht hk =>
    ⟨⟨S'.cx.ns.at' fun o e => hk _ o (fun hm => hLw _ hm rfl) e, fun b o e => hk b o (fun hm => by rw [(hwr b hm).1] at e; cases e) (S'.cx.base b o e),
      fun y hy => let ⟨o, a, b⟩ := S'.cx.facts y hy; ⟨o, hk _ o (fun hm => hwX y hy _ hm rfl) a, b⟩, Nat.le_trans S'.cx.tok ht⟩,
     S'.re.trans (.of ht), S'.hL, S'.off⟩
  by_cases hlt : i < n
  · refine wpAny_with_toks (Nat.le_refl s'.toks) (W.item i s' _ _ hlt hsti fun v h₁ tk₁ hP hst₁ hk₁ htk => ?_)
    have S₁ := step h₁ tk₁ htk hk₁
    have back : ∀ {s₂ : Shared}, Sx g s₀ hB env.locals (upd m' x v) X' s₂ → (∀ b o, b ≠ env.locals → h₁.get? b = some o → s₂.heap.get? b = some o) →
        wpAny (model prog w) A (execs body env) (fun f s₃ => match f with | .next | .cont => ∃ m_1, m_1 < n + 1 - i ∧ ∃ i m' X', m_1 = n + 1 - i ∧ i ≤ n ∧ J i m' X' ∧ St i s₃.heap ∧ Sx g s₀ hB env.locals m' X' s₃ | .brk => R (.ok .next) s₃ | .ret v => R (.ok (.ret v)) s₃) (fun _ _ => False) s₂ := by
      intro s₂ S₂ hk₂
      have hid : ∀ b o, b ∉ env.locals :: mu → h₁.get? b = some o → (hideAll s₂.heap (env.locals :: mu)).get? b = some o := fun b o hb e =>
        hideAll_get _ (hk₂ b o (fun q => hb (q ▸ .head _)) e) hb
      have hkB : Kp hB (hideAll s₂.heap (env.locals :: mu)) := fun b o e => hideAll_get _ (S₂.cx.base b o e) fun hm => by
        rcases List.mem_cons.mp hm with q | q
        · rw [q, S₂.hL] at e; cases e
        · rw [hmut b q] at e; cases e
      have S₃ : Sx g s₀ (hideAll s₂.heap (env.locals :: mu)) env.locals (upd m' x v) X' s₂ :=
        ⟨⟨S₂.cx.ns, fun b o e => of_hideAll _ e, S₂.cx.facts, S₂.cx.tok⟩, S₂.re, hideAll_none _ (.head _), S₂.off⟩
      refine wpAny_mono (turn i v m' X' _ s₂ hlt hP hj hkB (fun a ha => hideAll_none _ (.tail _ ha)) S₃) (fun f s₄ h₄ => ?_) fun _ _ e => e
      obtain ⟨rfl, m'', X'', hj', S₄⟩ := h₄
      refine ⟨n + 1 - (i + 1), by omega, i + 1, m'', X'', rfl, hlt, hj', ?_, ⟨⟨S₄.cx.ns, hkB.trans S₄.cx.base, S₄.cx.facts, S₄.cx.tok⟩, S₄.re, S'.hL, S₄.off⟩⟩
      exact W.frame _ _ _ hst₁ fun b hb o e => S₄.cx.base b o (hid b o (fun hm => by
        rcases List.mem_cons.mp hm with q | q
        · exact (hfp b hb).1 q
        · exact (hfp b hb).2 q) e)
    refine wpAny_assign_Name (wpAny_storeName_local hl S₁.cx.ns (fun h₂ hn₂ hs₂ => ?_) hp)
    refine wpAny_mono (back (s₂ := { s' with heap := h₂, toks := tk₁ + 1 }) ?_ fun b o hb e => hs₂.extBut b o hb e) (fun _ _ e => e) fun _ _ e => e.elim
    exact ⟨⟨hn₂, fun b o e => hs₂.extBut b o (fun q => by rw [q, S₁.hL] at e; cases e) (S₁.cx.base b o e), S₁.cx.facts.but (fun b o hb e => hs₂.extBut b o hb e) S₁.off, Nat.le_succ_of_le S₁.cx.tok⟩,
      S₁.re.trans (.of (Nat.le_succ _)), S₁.hL, S₁.off⟩
  · obtain rfl : i = n := by omega
    refine wpAny_with_toks (Nat.le_refl s'.toks) (W.done s' _ _ hsti fun h₁ tk₁ hk₁ htk => wpAny_execs_nil ?_)
    exact done m' X' _ hj (step h₁ tk₁ htk hk₁)

/-- for x in <text> -/
theorem x_for_str {x : Str} {px pos : Pos} {iter : PySem.Expr} {body : List Stmt} {mu : List Addr} {y : Str} {E : Value → Shared → Prop} {Q : Flow → Shared → Prop} (hh : A.handled = none)
    (S : Sx g s₀ hB L m X s) (he : Pu prog w A g hB L m X (eval iter env) (VS y)) (hmut : ∀ a ∈ mu, hB.get? a = none ∧ s.heap.get? a ≠ none)
    (J : Nat → (Str → Option Value) → List Fact → Prop) (h0 : J 0 m X) (hJ : ∀ i m' X', J i m' X' → ∀ y ∈ X', ∃ z ∈ X, y.1 = z.1)
    (turn : ∀ i c u m' X' hB' s', y.cps[i]? = some c → J i m' X' → Kp hB hB' → (∀ a ∈ mu, hB'.get? a = none) → Sx g s₀ hB' L (upd m' x (.str ⟨#[c]⟩ u)) X' s' →
      wpAny (model prog w) A (execs body env) (fun f s'' => f = .next ∧ ∃ m'' X'', J (i + 1) m'' X'' ∧ Sx g s₀ hB' L m'' X'' s'') (fun _ _ => False) s')
    (k : ∀ m' X' s', J y.cps.size m' X' → Sx g s₀ hB L m' X' s' → Q .next s') (hL : env.locals = L := by rfl)
    (hl : env.kindOf x = some .local := by rfl) (hp : (env.scope.kind == .class || (env.scope.kind == .module && env.locals != env.globals)) = false := by rfl)
    (hs : ∀ x, foldedSetIterable iter env x = pure x := by intro _; rfl) :
    wpAny (model prog w) A (exec (.For (.Name x px) iter body [] pos) env) Q E s := by
  refine wpAny_For (he.run S.cx fun v Y s₁ hv hf hr hx c₁ => ?_) hs
  obtain ⟨⟨t, rfl⟩, rfl⟩ := hv
  have S₁ := S.up hx
  refine wpAny_pyIter_str fun o St hW hst => ?_
  have hne : ∀ a, s₁.heap.get? a ≠ none → a ≠ s₁.heap.objs.size := fun a ha e => by
    cases q : s₁.heap.get? a with
    | none => exact ha q
    | some o => exact absurd (Heap.lt_size q) (by rw [e]; exact Nat.lt_irrefl _)
  have hnone : ∀ {h : Heap}, Kp h s₁.heap → h.get? s₁.heap.objs.size = none := fun k => by
    refine k.none ?_
    cases q : s₁.heap.get? s₁.heap.objs.size with
    | none => rfl
    | some o => exact absurd (Heap.lt_size q) (Nat.lt_irrefl _)
  have hXn : ∀ z ∈ X, s₁.heap.get? z.1 ≠ none := fun z hz => by
    obtain ⟨o, ho, _⟩ := S₁.cx.facts z hz
    rw [ho]; nofun
  have S₂ : Sx g s₀ hB L m X { s₁ with heap := s₁.heap.push o } := S₁.up (Ex.of (tk := s₁.toks) (Kp.push _ _) (Nat.le_refl _))
  refine codeAny_mono (R := fun r s' => match r with | .ok f => Q f s' | .error _ => False) (loop_name (hW A hh) S₂ hst (mu := mu) ?_ (fun a ha => (hmut a ha).1) ?_ J h0 hJ ?_ (fun m' X' s' hj S' => k m' X' s' hj S') hL hl hp) fun r s' hr => ?_
  · intro b hb
    rw [List.mem_singleton.mp hb]
    exact ⟨(hne L (S₁.cx.hasL)).symm, fun hm => (hne _ (by
      cases q : s.heap.get? s₁.heap.objs.size with
      | none => exact absurd q (hmut _ hm).2
      | some o => rw [hx.keep _ _ q]; nofun)) rfl⟩
  · intro b hb
    rw [List.mem_singleton.mp hb]
    exact ⟨hnone S₁.cx.base, fun z hz => hne _ (hXn z hz)⟩
  · rintro i v m' X' hB' s' hi ⟨c, u, hc, rfl⟩ hj hk hm S'
    exact turn i c u m' X' hB' s' hc hj hk hm S'
  · cases r with
    | ok f => exact hr
    | error e => exact hr.elim
end

/-! ## Calls of the text's defs -/
def FnAt (h : Heap) (st : Stmt) (a : Addr) : Prop :=
  ∃ o pm cd doc, h.get? a = some o ∧ o.data = .func (docDef (nmOf st) (psOf st) (bdOf st) (scOf st) pm cd doc) ∧ h.CodeRec cd (nmOf st)
theorem FnAt.keep {h h' : Heap} {st : Stmt} {a : Addr} (f : FnAt h st a) (k : Kp h h') : FnAt h' st a := by
  obtain ⟨o, pm, cd, doc, ho, hd, c, oc, vs, t, e, g, r⟩ := f
  exact ⟨o, pm, cd, doc, k _ _ ho, hd, c, oc, vs, t, e, k _ _ g, r⟩

/-- a call that raises nothing, keeps what stood and gives what Φ says -/
def Ret (prog : Program) (w : World) (A : Around) (g : Bool) (f : Value) (vals : List Value) (Φ : Value → List Fact → Prop) (s : Shared) : Prop :=
  wpAny (model prog w) A (call f vals) (fun v s' => ∃ Y, Φ v Y ∧ Facts Y s'.heap ∧ Fresh Y s.heap ∧ Ex g s s') (fun _ _ => False) s

/-- how a body ends -/
def Ends (g : Bool) (s : Shared) (Φ : Value → List Fact → Prop) : Flow → Shared → Prop :=
  fun f s' => ∃ v, f = .ret v ∧ ∃ Y, Φ v Y ∧ Facts Y s'.heap ∧ Fresh Y s.heap ∧ Ex g s s'

section
variable {prog : Program} {w : World} {A : Around} {g : Bool} {α β : Type} {s₀ : Shared} {hB : Heap} {L : Addr} {m : Str → Option Value} {X Y : List Fact} {s s' : Shared} {env : Env}

theorem size_none (h : Heap) : h.get? h.objs.size = none := by
  cases q : h.get? h.objs.size with
  | none => rfl
  | some o => exact absurd (Heap.lt_size q) (Nat.lt_irrefl _)

theorem enter_plain {mg mb : Str → Option Value} {st : Stmt} {a : Addr} {vals : List Value} {binds : List (Str × Value)} {Φ : Value → List Fact → Prop} {n : Nat}
    (hf : FnAt s.heap st a) (W : Wo mg mb s.heap) (r : Rm A (n + 1)) (ht : 1 ≤ s.toks) (hX : Facts X s.heap)
    (hbind : ∀ pm cd doc, bindArgs (docDef (nmOf st) (psOf st) (bdOf st) (scOf st) pm cd doc) ⟨vals, []⟩ = pure binds)
    (hloc : ∀ x ∈ binds, (scOf st).names.lookup x.1 = some .local)
    (h : ∀ cd s', Sx g s s.heap s.heap.objs.size (fun x => binds.reverse.lookup x) X s' →
      wpAny (model prog w) (A.deeper (envOf (nmOf st) (scOf st) s.heap.objs.size a cd)) (execs (bdOf st) (envOf (nmOf st) (scOf st) s.heap.objs.size a cd)) (Ends g s Φ) (fun _ _ => False) s')
    (hco : (scOf st).isCoroutine = false := by rfl) (hgen : (scOf st).isGenerator = false := by rfl) (hk : (scOf st).kind = .function := by rfl)
    (hcell : ∀ x ∈ (scOf st).names, x.2 ≠ .cell := by decide) : Ret prog w A g (.ref a) vals Φ s := by
  obtain ⟨o, pm, cd, doc, ho, hd, hc⟩ := hf
  refine wpAny_call (call_plain_ret (by have := r.dp; omega) ho hd W.lim hc (hbind pm cd doc) hloc (fun h₁ F => ?_) hco hgen hk hcell)
  refine wpAny_mono (h cd _ ⟨⟨F.ns, F.keep, hX.keep F.keep, Nat.le_trans ht (Nat.le_add_right _ _)⟩, .of (Nat.le_add_right _ _), size_none _, fun x hx e => ?_⟩) (fun f s' h' => ?_) fun _ _ e => e
  · obtain ⟨o', ho', _⟩ := hX x hx
    rw [e, size_none] at ho'; cases ho'
  · obtain ⟨v, rfl, q⟩ := h'
    exact q

theorem pu_boolAnd_cons {x y : Sem Value} {rest : List (Sem Value)} {pos : Pos} {b c : Bool} (hx : Pu prog w A g hB L m X x (VB b)) (hy : b = true → Pu prog w A g hB L m X (boolOp pos .And (y :: rest)) (VB c)) :
    Pu prog w A g hB L m X (boolOp pos .And (x :: y :: rest)) (VB (b && c)) := fun s cx => by
  show wpAny (model prog w) A (do
    let v ← x
    standAt pos
    let t ← holding [v] (truthy v)
    match BoolOp.And, t with
    | .And, false | .Or, true => pure v
    | _, _ => boolOp pos .And (y :: rest)) _ _ s
  refine wpAny_bind (hx.run cx fun v Y s₁ p f r x c₁ => wpAny_bind (wpAny_standAt (wpAny_bind (wpAny_holding ?_))))
  obtain ⟨e1, e2⟩ := p
  subst e1 e2
  refine wpAny_truthy_bool ?_
  cases b with
  | false => exact wpAny_pure ⟨[], ⟨rfl, rfl⟩, Facts.nil _, Fresh.nil _, x⟩
  | true =>
    refine (hy rfl).run c₁ fun v' Y' s₂ p' f' r' x' c₂ => ?_
    obtain ⟨e1, e2⟩ := p'
    subst e1 e2
    exact ⟨[], ⟨rfl, rfl⟩, Facts.nil _, Fresh.nil _, x.trans x'⟩
theorem pu_And3 {x y z : PySem.Expr} {pos : Pos} {b c d : Bool} (hx : Pu prog w A g hB L m X (eval x env) (VB b)) (hy : b = true → Pu prog w A g hB L m X (eval y env) (VB c))
    (hz : b = true → c = true → Pu prog w A g hB L m X (eval z env) (VB d)) : Pu prog w A g hB L m X (eval (.BoolOp .And [x, y, z] pos) env) (VB (b && (c && d))) :=
  pu_boolAnd_cons (rest := [eval z env]) hx fun hb => pu_boolAnd_cons (rest := []) (hy hb) fun hc => hz hb hc

theorem pu_newList {vs : List Value} (hz : vs.length ≤ sizeLine) : Pu prog w A g hB L m X (newList vs) (VL vs.toArray) := fun s c =>
  wpAny_newObj_type ⟨_, ⟨_, rfl, rfl⟩, Facts.cons ⟨_, Heap.get?_push_size _ rfl, 0, rfl⟩ (Facts.nil _), Fresh.cons (size_none _) (Fresh.nil _), Ex.of (tk := s.toks) (Kp.push _ _) (Nat.le_refl _)⟩
    (by show vs.toArray.size ≤ sizeLine; rw [List.size_toArray]; exact hz)
theorem pu_List_nil {pos : Pos} : Pu prog w A g hB L m X (eval (.List [] pos) env) (VL #[]) := fun s c =>
  wpAny_List (wpAny_items_nil ⟨Nat.zero_le _, ⟨_, ⟨_, rfl, rfl⟩, Facts.cons ⟨_, Heap.get?_push_size _ rfl, 0, rfl⟩ (Facts.nil _), Fresh.cons (size_none _) (Fresh.nil _), Ex.of (tk := s.toks) (Kp.push _ _) (Nat.le_refl _)⟩⟩)
end

/-! ## _law_bare -/
def bareStep (tb : Nat → Bool) (st : Bool × List Bool) (c : Nat) : Bool × List Bool := ((!st.1) && ((c == 92) && (!tb c)), st.2 ++ [(!st.1) && (!tb c)])
def bareF (tb : Nat → Bool) (l : List Nat) : List Bool := (l.foldl (bareStep tb) (false, [])).2
def tbOf (es : List En) (c : Nat) : Bool := (look es ⟨#[c]⟩).isSome
def boolsA (bs : List Bool) : Array Value := (bs.map Value.bool).toArray

theorem sign_eq (c k : Nat) : decide ((⟨#[c]⟩ : Str) = ⟨#[k]⟩) = (c == k) := by
  by_cases h : c = k
  · subst h; simp
  · rw [beq_eq_false_iff_ne.mpr h]
    exact decide_eq_false fun e => h (by injection e with e; simpa using e)

theorem bareF_length (tb : Nat → Bool) (l : List Nat) : ∀ st : Bool × List Bool, (l.foldl (bareStep tb) st).2.length = st.2.length + l.length := by
  induction l with
  | nil => intro st; rfl
  | cons c r ih => intro st; rw [List.foldl_cons, ih]; simp [bareStep]; omega

section
variable {prog : Program} {w : World} {A : Around} {g : Bool} {s : Shared}
theorem spec_bare {mg mb : Str → Option Value} {a d : Addr} {x : Str} {t : Tok} {es : List En} (hf : FnAt s.heap (stAt 10) a) (W : Wo mg mb s.heap) (r : Rm A 3) (ht : 1 ≤ s.toks)
    (hd : Facts [(d, isD w es)] s.heap) (hk : (es.map (·.1.1)).Nodup) (hs : d ≠ sysModules) (hx : x.cps.size ≤ 100000) :
    Ret prog w A g (.ref a) [.str x t, .ref d] (VL (boolsA (bareF (tbOf es) x.cps.toList))) s := by
  refine enter_plain (binds := [("text", .str x t), ("table", .ref d)]) hf W r ht hd (fun _ _ _ => rfl) (by simp only [List.forall_mem_cons]; exact ⟨rfl, rfl, fun _ h => nomatch h⟩) fun cd s₁ S₁ => ?_
  refine wpAny_execs_cons (x_assign S₁ pu_List_nil fun v Y s₂ hv hn S₂ => ?_)
  obtain ⟨D, rfl, rfl⟩ := hv
  have hD := hn _ (.head _)
  refine wpAny_execs_cons (x_assign S₂ pu_bool fun v Y s₃ hv hn S₃ => ?_)
  obtain ⟨rfl, rfl⟩ := hv
  refine wpAny_execs_cons (x_for_str (mu := [D]) r.hd S₃ ((pu_local (by rfl)).mono fun _ _ => Is.toS) ?_
    (fun i m' X' => ∃ bs, ((x.cps.toList.take i).foldl (bareStep (tbOf es)) (false, [])) = bs ∧ m' "bare" = some (.ref D) ∧ m' "hidden" = some (.bool bs.1) ∧ m' "table" = some (.ref d) ∧ X' = [(D, isL (boolsA bs.2)), (d, isD w es)])
    ⟨_, rfl, rfl, rfl, rfl, rfl⟩ ?_ ?_ ?_)
  · intro b hb
    rw [List.mem_singleton.mp hb]
    refine ⟨hD.1, ?_⟩
    obtain ⟨o, ho, _⟩ := S₃.cx.facts (D, isL #[]) (.head _)
    rw [ho]; nofun
  · rintro i m' X' ⟨bs, _, _, _, _, rfl⟩ y hy
    rcases List.mem_cons.mp hy with rfl | hy
    · exact ⟨_, .head _, rfl⟩
    · exact ⟨_, .tail _ (.head _), by rw [List.mem_singleton.mp hy]⟩
  · rintro i c u m' X' hB' s₄ hc ⟨bs, hbs, m1, m2, m3, rfl⟩ hkB hmu S₄
    have hlen : bs.2.length = i := by
      rw [← hbs, bareF_length]
      have := (Array.getElem?_eq_some_iff.mp hc).1
      simp; omega
    have hi := (Array.getElem?_eq_some_iff.mp hc).1
    have hdn : d ≠ D := fun e => (hD.2 (d, isD w es) (.head _)) e
    refine wpAny_execs_cons (x_append S₄ (hmu D (.head _)) (fun y hy => by rw [List.mem_singleton.mp hy]; exact hdn) ?_ (pu_local m1)
      (pu_And (pu_Not (pu_local m2) fun v Y p => by obtain ⟨rfl, rfl⟩ := p; exact pu_truthy_bool)
        fun _ => pu_Compare (pu_local (by rfl)) (pu_local m3) fun a b Y Z p q => by
          obtain ⟨rfl, rfl⟩ := p
          obtain ⟨rfl, rfl⟩ := q
          exact op_notIn_dict (.tail _ (.head _)) hk hs) fun v Y s₅ hv hn S₅ => ?_)
    · simp only [boolsA, List.size_toArray, List.length_map, hlen]
      have : (100000 : Nat) ≤ sizeLine := by decide
      omega
    obtain ⟨rfl, rfl⟩ := hv
    refine wpAny_execs_cons (x_assign S₅ (pu_And3 (pu_Not (pu_local m2) fun v Y p => by obtain ⟨rfl, rfl⟩ := p; exact pu_truthy_bool)
      (fun _ => pu_Compare (pu_local (by rfl)) pu_str fun a b Y Z p q => by
          obtain ⟨rfl, rfl⟩ := p
          obtain ⟨⟨u, rfl⟩, rfl⟩ := q
          exact op_eq_str)
      (fun _ _ => pu_Compare (pu_local (by rfl)) (pu_local m3) fun a b Y Z p q => by
          obtain ⟨rfl, rfl⟩ := p
          obtain ⟨rfl, rfl⟩ := q
          exact op_notIn_dict (.tail _ (.head _)) hk hs)) fun v Y s₆ hv hn S₆ => wpAny_execs_nil ?_)
    obtain ⟨rfl, rfl⟩ := hv
    refine ⟨rfl, _, _, ?_, S₆⟩
    refine ⟨bareStep (tbOf es) bs c, ?_, m1, ?_, m3, ?_⟩
    · rw [List.take_add_one, List.foldl_append, hbs]
      have : x.cps.toList[i]? = some c := by rw [Array.getElem?_toList]; exact hc
      rw [this]; rfl
    · exact congrArg some (congrArg Value.bool (by rw [show Str.ofString "\\" = ⟨#[92]⟩ from rfl, sign_eq]; rfl))
    · simp [boolsA, bareStep, tbOf]
  · rintro m' X' s₄ ⟨bs, hbs, m1, m2, m3, rfl⟩ S₄
    refine wpAny_execs_cons (x_return S₄ (pu_local m1) fun v Y s₅ hv hn S₅ => ?_)
    obtain ⟨rfl, rfl⟩ := hv
    refine ⟨_, rfl, S₅.lex (Y := [(D, isL (boolsA bs.2))]) ⟨D, rfl, ?_⟩ ?_ ?_⟩
    · rw [bareF, ← hbs, List.take_of_length_le (by simp)]
    · exact S₅.cx.facts.sub fun y hy => by rw [List.mem_singleton.mp hy]; exact .head _
    · exact fun y hy => by rw [List.mem_singleton.mp hy]; exact hD.1
end

/-! ## Generators: statements -/
section
variable {M : Model} {A : Around} {R : GenEnd} {Y : Protocol} {n : Nat} {s₀ : Shared} {c : Code} {fs : List Frame} {s : Shared} {env : Env} {α β : Type}
  {K : Flow → Sem Fin} {H : Value → Sem Fin} {gd : Bool → Bool} {lv : List Value → List Value}

theorem seg_quiet {m : Sem α} {K : α → Sem Fin} (h : wpAny M (A.over c fs) m (fun a s' => Seg M A R Y n s₀ c (K a) fs s') (fun _ _ => False) s) :
    Seg M A R Y n s₀ c (m.wrap K H gd lv) fs s := seg_wrap (wpAny_mono h (fun _ _ e => e) fun _ _ e => e.elim)
theorem seg_bindw {m : Sem α} {f : α → Sem β} {K : β → Sem Fin} (h : wpAny M (A.over c fs) m (fun a s' => Seg M A R Y n s₀ c ((f a).wrap K H gd lv) fs s') (fun _ _ => False) s) :
    Seg M A R Y n s₀ c ((m >>= f).wrap K H gd lv) fs s := by
  rw [Sem.bind_eq_wrap', Sem.wrap_wrap]
  exact seg_quiet h
theorem seg_stmt {st : Stmt} {rest : List Stmt} (h : wpAny M (A.over c fs) (exec st env) (fun f s' => f = .next ∧ Seg M A R Y n s₀ c ((execs rest env).wrap K H gd lv) fs s') (fun _ _ => False) s) :
    Seg M A R Y n s₀ c ((execs (st :: rest) env).wrap K H gd lv) fs s :=
  seg_execs_cons (seg_quiet (wpAny_mono h (fun f s' h' => by obtain ⟨rfl, h'⟩ := h'; exact h') fun _ _ e => e))
theorem seg_If {test : PySem.Expr} {body orelse : List Stmt} {pos : Pos} (h : wpAny M (A.over c fs) (isTrue test env (eval test env)) (fun b s' =>
      Seg M A R Y n s₀ c ((execs (if b = true then body else orelse) env).wrap K H gd lv) fs s') (fun _ _ => False) s) :
    Seg M A R Y n s₀ c ((exec (.If test body orelse pos) env).wrap K H gd lv) fs s := by
  rw [exec_If]
  refine seg_bindw (wpAny_standAt (seg_bindw (wpAny_mono h (fun b s' h' => ?_) fun _ _ e => e)))
  cases b <;> exact h'

/-- what a loop hands its frame -/
def backK (env : Env) (K : Flow → Sem Fin) (H : Value → Sem Fin) (gd : Bool → Bool) (lv : List Value → List Value) : Result → Sem Fin := fun r =>
  ((match r with | .ok f => (.pure f : Sem Flow) | .error e => .raise e).onRaise fun (x : Value) => do
        if (← field x 1) == Value.none then unsupported "frame.own-activation:exception-without-traceback"
        setFlight x env.frame).wrap K H gd lv
theorem seg_runOwn {c' : Code} (h : ∀ p, Seg M A R Y n s₀ c' (M.den c') (.ret (backK env K H gd lv) none (gd false) (lv []) c p [] :: fs) s) :
    Seg M A R Y n s₀ c ((runOwn c' env).wrap K H gd lv) fs s := seg_call h
theorem seg_For {target iter : PySem.Expr} {body orelse : List Stmt} {pos : Pos}
    (h : wpAny M (A.over c fs) (eval iter env) (fun x s₁ => wpAny M (A.over c fs) (pyIter x) (fun it s₂ =>
      ∀ p, Seg M A R Y n s₀ (.forLoop target it body orelse env) (M.den (.forLoop target it body orelse env)) (.ret (backK env K H gd lv) none (gd false) (lv []) c p [] :: fs) s₂) (fun _ _ => False) s₁) (fun _ _ => False) s)
    (hs : ∀ x, foldedSetIterable iter env x = pure x := by intro _; rfl) :
    Seg M A R Y n s₀ c ((exec (.For target iter body orelse pos) env).wrap K H gd lv) fs s := by
  rw [exec_For]
  refine seg_bindw (wpAny_standAt (seg_bindw (wpAny_mono h (fun x s₁ h₁ => ?_) fun _ _ e => e)))
  refine seg_bindw (wpAny_of_eq (hs x) ?_)
  refine seg_bindw (wpAny_standAt ?_)
  exact seg_bindw (wpAny_holding (wpAny_mono h₁ (fun it s₂ h₂ => seg_runOwn h₂) fun _ _ e => e))
theorem seg_back {r : Flow} {h g l p kp} (hk : Seg M A R Y n s₀ c (K r) fs s) : ∀ c', Seg M A R Y n s₀ c' (leafOf (.ok r)) (.ret (backK env K H gd lv) h g l c p kp :: fs) s := fun c' =>
  seg_leaf (.ok r) hk
end

section
variable {prog : Program} {w : World} {A : Around} {R : GenEnd} {Y : Protocol} {n : Nat} {s₀ : Shared} {fs : List Frame} {s : Shared} {env : Env}
/-- after a turn's body -/
def turnK (c : Code) : Flow → Sem Fin
  | .next | .cont => .pure (.again c)
  | .brk => .pure (.done .next)
  | .ret v => .pure (.done (.ret v))
def noteH (env : Env) : Value → Sem Fin := fun e => (do noteFrame e env; theTreesLotGoes e : Sem Unit).wrap (fun _ => .raise e) .raise id id

theorem seg_forTurn {target : PySem.Expr} {it : Value} {body : List Stmt} (h : wpAny (model prog w) (A.over (.forLoop target it body [] env) fs) (pyNext it) (fun r s₁ => match r with
      | none => ∀ c', Seg (model prog w) A R Y n s₀ c' (leafOf (.ok .next)) fs s₁
      | some v => wpAny (model prog w) (A.over (.forLoop target it body [] env) fs) (letOwnedTupleGo target it v) (fun _ s₂ => wpAny (model prog w) (A.over (.forLoop target it body [] env) fs) (assign target env v) (fun _ s₃ =>
          Seg (model prog w) A R Y n s₀ (.forLoop target it body [] env) ((execs body env).wrap (turnK (.forLoop target it body [] env)) (noteH env) id id) fs s₃) (fun _ _ => False) s₂) (fun _ _ => False) s₁) (fun _ _ => False) s) :
    Seg (model prog w) A R Y n s₀ (.forLoop target it body [] env) ((model prog w).den (.forLoop target it body [] env)) fs s := by
  show Seg _ A R Y n s₀ _ ((forTurn target it body [] env).onRaise (fun x => do noteFrame x env; theTreesLotGoes x)) fs s
  rw [Sem.onRaise_eq_wrap]
  unfold forTurn
  refine seg_bindw (wpAny_standAt (seg_bindw (wpAny_onRaise (wpAny_mono h (fun r s₁ h₁ => ?_) fun _ _ e => e.elim))))
  cases r with
  | none =>
    refine seg_again (c' := .block [] env) (by rfl) ?_
    exact h₁ _
  | some v =>
    refine seg_bindw (wpAny_mono h₁ (fun _ s₂ h₂ => ?_) fun _ _ e => e)
    refine seg_bindw (wpAny_mono h₂ (fun _ s₃ h₃ => ?_) fun _ _ e => e)
    rw [Sem.bind_eq_wrap', Sem.wrap_wrap]
    rw [Sem.wrap_congr (execs body env) _ _ (K' := turnK (.forLoop target it body [] env)) (H' := noteH env) (fun f => by cases f <;> rfl)
      (fun e => by
        show ((do noteFrame e env; theTreesLotGoes e : Sem Unit).bind fun _ => .raise e) = _
        rw [Sem.bind_eq_wrap]; rfl)]
    exact h₃
theorem seg_turned {c : Code} {f : Flow} (hf : f = .next) (hq : c.quiet = true) (h : Seg (model prog w) A R Y n s₀ c ((model prog w).den c) fs s) : Seg (model prog w) A R Y n s₀ c (turnK c f) fs s := by
  subst hf; exact seg_again hq h
end

/-! ## Rows of values, displays, calls -/
abbrev VPost := Value → List Fact → Prop
abbrev LPost := List Value → List Fact → Prop
def PNil : LPost := fun vs Y => vs = [] ∧ Y = []
def PCons (Φ : VPost) (Ψ : LPost) : LPost := fun vs Y => ∃ v vs' Y₁ Y₂, vs = v :: vs' ∧ Y = Y₁ ++ Y₂ ∧ Φ v Y₁ ∧ Ψ vs' Y₂
/-- of the facts Y and Z some are handed on -/
def Of (Y : List Fact) (Ψ : VPost) : VPost := fun b Z => ∃ V, (∀ v ∈ V, v ∈ Y ∨ v ∈ Z) ∧ Ψ b V
theorem Of.new {Y : List Fact} {Ψ : VPost} {b : Value} {Z : List Fact} (h : Ψ b Z) : Of Y Ψ b Z := ⟨Z, fun _ h => .inr h, h⟩

section
variable {prog : Program} {w : World} {A : Around} {g : Bool} {α β : Type} {s₀ : Shared} {hB : Heap} {L : Addr} {m : Str → Option Value} {X Y : List Fact} {s s' : Shared} {env : Env}

theorem pu_spl_nil : Pu prog w A g hB L m X (spliced []) PNil := fun s c => spliced_nil ⟨[], ⟨rfl, rfl⟩, Facts.nil _, Fresh.nil _, Ex.refl _ _⟩
theorem pu_spl_cons {e : Sem Value} {rest : List (Bool × Sem Value)} {Φ : VPost} {Ψ : LPost} (he : Pu prog w A g hB L m X e Φ) (hr : Pu prog w A g hB L m X (spliced rest) Ψ) :
    Pu prog w A g hB L m X (spliced ((false, e) :: rest)) (PCons Φ Ψ) := fun s c =>
  spliced_cons (he.run c fun v Y s₁ p f r x c₁ => (hr.less fun y hy => List.mem_append_right _ hy).run c₁ fun vs Y₂ s₂ p₂ f₂ r₂ x₂ c₂ =>
    ⟨Y ++ Y₂, ⟨v, vs, Y, Y₂, rfl, rfl, p, p₂⟩, (f.keep x₂.keep).append f₂, fun y hy => (List.mem_append.mp hy).elim (r y) (fun h => x.keep.none (r₂ y h)), x.trans x₂⟩)

theorem pu_Tuple {elts : List PySem.Expr} {k : Nat} {pos : Pos} {Ψ : LPost} (h : Pu prog w A g hB L m X (spliced (backTo pos (starEach elts env))) Ψ) (hz : ∀ vs Y, Ψ vs Y → vs.length ≤ sizeLine) :
    Pu prog w A g hB L m X (eval (.Tuple elts k pos) env) (fun v Z => ∃ T vs Y, v = .ref T ∧ Ψ vs Y ∧ Z = (T, isT vs.toArray) :: Y) := fun s c =>
  wpAny_Tuple (h.run c fun vs Y s₁ p f r x c₁ => ⟨hz vs Y p, (s₁.heap.objs.size, isT vs.toArray) :: Y, ⟨_, vs, Y, rfl, p, rfl⟩,
    Facts.cons ⟨_, Heap.get?_push_size _ rfl, rfl, rfl, rfl, 0, rfl⟩ (f.keep (Kp.push _ _)), Fresh.cons (x.keep.none (size_none _)) r, x.trans (Ex.of (tk := s₁.toks) (Kp.push _ _) (Nat.le_refl _))⟩)
theorem pu_List {elts : List PySem.Expr} {pos : Pos} {Ψ : LPost} (h : Pu prog w A g hB L m X (spliced (backTo pos (starEach elts env))) Ψ) (hz : ∀ vs Y, Ψ vs Y → vs.length ≤ sizeLine) :
    Pu prog w A g hB L m X (eval (.List elts pos) env) (fun v Z => ∃ T vs Y, v = .ref T ∧ Ψ vs Y ∧ Z = (T, isL vs.toArray) :: Y) := fun s c =>
  wpAny_List (h.run c fun vs Y s₁ p f r x c₁ => ⟨hz vs Y p, (s₁.heap.objs.size, isL vs.toArray) :: Y, ⟨_, vs, Y, rfl, p, rfl⟩,
    Facts.cons ⟨_, Heap.get?_push_size _ rfl, 0, rfl⟩ (f.keep (Kp.push _ _)), Fresh.cons (x.keep.none (size_none _)) r, x.trans (Ex.of (tk := s₁.toks) (Kp.push _ _) (Nat.le_refl _))⟩)

theorem pu_Tuple2 {e1 e2 : PySem.Expr} {k : Nat} {pos : Pos} {Φ₁ Φ₂ : VPost} (h1 : Pu prog w A g hB L m X (eval e1 env) Φ₁) (h2 : Pu prog w A g hB L m X (eval e2 env) Φ₂)
    (he : starEach [e1, e2] env = [(false, eval e1 env), (false, eval e2 env)] := by rfl) :
    Pu prog w A g hB L m X (eval (.Tuple [e1, e2] k pos) env) (fun v Z => ∃ T v1 v2 Y1 Y2, v = .ref T ∧ Φ₁ v1 Y1 ∧ Φ₂ v2 Y2 ∧ Z = (T, isT #[v1, v2]) :: (Y1 ++ Y2)) := by
  refine (pu_Tuple (Ψ := PCons Φ₁ (PCons Φ₂ PNil)) (by rw [he]; exact pu_spl_cons h1 (pu_spl_cons h2 pu_spl_nil)) ?_).mono ?_
  · rintro vs Y ⟨v₁, vs₁, Y₁, Y₂, rfl, rfl, h₁, v₂, vs₂, Y₃, Y₄, rfl, rfl, h₂, rfl, rfl⟩
    show (2 : Nat) ≤ sizeLine
    decide
  · rintro v Y ⟨T, vs, Y', rfl, ⟨v₁, vs₁, Y₁, Y₂, rfl, rfl, h₁, v₂, vs₂, Y₃, Y₄, rfl, rfl, h₂, rfl, rfl⟩, rfl⟩
    exact ⟨T, v₁, v₂, Y₁, Y₃, rfl, h₁, h₂, by simp⟩

/-- the call of something on a row of values -/
theorem then_call {fv : Value} {vs : List Value} {Ψ : VPost} {t : Sem Value} {Y : List Fact} (h : Pu prog w A g hB L m (Y ++ X) t (Of Y Ψ)) (c : Cx hB L m (Y ++ X) s') (f : Facts Y s'.heap) (r : Fresh Y s.heap) (x : Ex g s s') :
    wpAny (model prog w) A t (fun b s'' => ∃ Z, Ψ b Z ∧ Facts Z s''.heap ∧ Fresh Z s.heap ∧ Ex g s s'') (fun _ _ => False) s' :=
  wpAny_mono (h s' c) (fun b s'' ⟨Z, ⟨V, hV, hψ⟩, f', r', x'⟩ => ⟨V, hψ, fun v hv => (hV v hv).elim (fun q => f.keep x'.keep v q) (fun q => f' v q),
    fun v hv => (hV v hv).elim (fun q => r v q) (fun q => x.keep.none (r' v q)), x.trans x'⟩) fun _ _ e => e

theorem pu_Call_type {x : Str} {p pos : Pos} {args : List PySem.Expr} {e₁ : Sem Value} {rest : List (Bool × Sem Value)} {T : String} {Ψ₀ : LPost} {Ψ : VPost} (ht : backTo pos (starEach args env) = (false, e₁) :: rest) (hf : Pu prog w A g hB L m X (eval (.Name x p) env) (Is (.type T)))
    (ha : Pu prog w A g hB L m X (spliced ((false, e₁) :: rest)) Ψ₀) (hc : ∀ vs Y, Ψ₀ vs Y → Pu prog w A g hB L m (Y ++ X) (call (.type T) vs) (Of Y Ψ))
    (hp : rest.any (·.1) = false := by rfl) : Pu prog w A g hB L m X (eval (.Call (.Name x p) args [] pos) env) Ψ := fun s c =>
  Call_Name ht (hf.run c fun v Y s₁ pf f r x₁ c₁ => by
    obtain ⟨rfl, rfl⟩ := pf
    exact PySem.callWith_type (by show (false || rest.any (·.1)) = false; rw [hp]; rfl) (evalArgs_plain (ha.run c₁ fun vs Y s₂ p₂ f₂ r₂ x₂ c₂ =>
      then_call (fv := .type T) (vs := vs) (hc vs Y p₂) c₂ f₂ (r₂.back x₁.keep) (x₁.trans x₂))))
theorem pu_Call_builtin {x : Str} {p pos : Pos} {args : List PySem.Expr} {e₁ : Sem Value} {rest : List (Bool × Sem Value)} {T : String} {Ψ₀ : LPost} {Ψ : VPost} (ht : backTo pos (starEach args env) = (false, e₁) :: rest) (hf : Pu prog w A g hB L m X (eval (.Name x p) env) (Is (.builtin T)))
    (ha : Pu prog w A g hB L m X (spliced ((false, e₁) :: rest)) Ψ₀) (hc : ∀ vs Y, Ψ₀ vs Y → Pu prog w A g hB L m (Y ++ X) (call (.builtin T) vs) (Of Y Ψ))
    (hp : rest.any (·.1) = false := by rfl) : Pu prog w A g hB L m X (eval (.Call (.Name x p) args [] pos) env) Ψ := fun s c =>
  Call_Name ht (hf.run c fun v Y s₁ pf f r x₁ c₁ => by
    obtain ⟨rfl, rfl⟩ := pf
    exact callWith_builtin (by show (false || rest.any (·.1)) = false; rw [hp]; rfl) (evalArgs_plain (ha.run c₁ fun vs Y s₂ p₂ f₂ r₂ x₂ c₂ =>
      then_call (fv := .builtin T) (vs := vs) (hc vs Y p₂) c₂ f₂ (r₂.back x₁.keep) (x₁.trans x₂))))
/-- the call of a def of the text -/
theorem pu_Call_fun {x : Str} {p pos : Pos} {args : List PySem.Expr} {e₁ : Sem Value} {rest : List (Bool × Sem Value)} {a : Addr} {Ψ₀ : LPost} {Ψ : VPost} (ht : backTo pos (starEach args env) = (false, e₁) :: rest) (hf : Pu prog w A g hB L m X (eval (.Name x p) env) (Is (.ref a)))
    (hF : ∃ o fd, hB.get? a = some o ∧ o.data = .func fd)
    (ha : Pu prog w A g hB L m X (spliced ((false, e₁) :: rest)) Ψ₀) (hc : ∀ vs Y s, Ψ₀ vs Y → Cx hB L m (Y ++ X) s → Ret prog w A g (.ref a) vs (Of Y Ψ) s)
    : Pu prog w A g hB L m X (eval (.Call (.Name x p) args [] pos) env) Ψ := fun s c =>
  Call_Name ht (hf.run c fun v Y s₁ pf f r x₁ c₁ => by
    obtain ⟨rfl, rfl⟩ := pf
    obtain ⟨o, fd, ho, hd⟩ := hF
    exact callWith_function (evalArgs_plain (ha.run c₁ fun vs Y s₂ p₂ f₂ r₂ x₂ c₂ => ⟨⟨c₂.base a o ho, hd⟩,
      then_call (fv := .ref a) (vs := vs) (t := call (.ref a) vs) (fun s c => hc vs Y s p₂ c) c₂ f₂ (r₂.back x₁.keep) (x₁.trans x₂)⟩)))

/-- o.name(args) for a plain type -/
theorem pu_Method {o : PySem.Expr} {name : Str} {apos pos : Pos} {args : List PySem.Expr} {T id : String} {e₁ : Sem Value} {rest : List (Bool × Sem Value)} {Φ : VPost} {Ψ₀ : LPost} {Ψ : VPost}
    (ht : backTo pos (starEach args env) = (false, e₁) :: rest) (pa : PlainAttrs T) (slot : Slot T name id) (hty : typeOf (.builtin id) = pure (.type "method_descriptor")) (ho : Pu prog w A g hB L m X (eval o env) Φ)
    (hT : ∀ ov Y s, Φ ov Y → Cx hB L m (Y ++ X) s → s.TypeIs ov T ∧ (∀ a, ov = .ref a → ∃ ob, s.heap.get? a = some ob ∧ ob.dict = none))
    (ha : Pu prog w A g hB L m X (spliced ((false, e₁) :: rest)) Ψ₀)
    (hc : ∀ ov vs Y Z, Φ ov Y → Ψ₀ vs Z → Pu prog w A g hB L m ((Z ++ Y) ++ X) (call (.builtin id) (ov :: vs)) (Of (Z ++ Y) Ψ))
    (hp : rest.any (·.1) = false := by rfl)
    (hbase : attributeBase o name env (eval o env) = eval o env := by rfl) (hline : (apos.endLine == pos.line) = true := by rfl)
    (hfew : ((backTo pos (starEach args env)).all (fun x => !x.1) && (backToKw pos (keywordEach [] env)).all (fun x => x.1.isSome)
      && decide (args.length + ([] : List Keyword).length + (if ([] : List Keyword).isEmpty then 0 else 1) < 30)) = true := by rfl) :
    Pu prog w A g hB L m X (eval (.Call (.Attribute o name apos) args [] pos) env) Ψ := fun s c =>
  wpAny_Call_method hbase hfew hline pa slot hty (ho.run c fun ov Y s₁ pf f r x₁ c₁ => by
    obtain ⟨h1, h2⟩ := hT ov Y s₁ pf c₁
    refine ⟨h1, h2, ?_⟩
    rw [ht]
    exact callWith_builtin (by show (false || rest.any (·.1)) = false; rw [hp]; rfl) (evalArgs_plain ((ha.less fun y hy => List.mem_append_right _ hy).run c₁ fun vs Z s₂ p₂ f₂ r₂ x₂ c₂ =>
      then_call (fv := .none) (vs := vs) (hc ov vs Y Z pf p₂) (by rw [List.append_assoc]; exact c₂) (f₂.append (f.keep x₂.keep))
        (fun y hy => (List.mem_append.mp hy).elim (fun h => x₁.keep.none (r₂ y h)) (r y)) (x₁.trans x₂))))
end

section
variable {prog : Program} {w : World} {A : Around} {g : Bool} {α : Type} {hB : Heap} {L : Addr} {m : Str → Option Value} {X : List Fact} {s : Shared}
theorem Cx.run {t : Sem α} {Φ : α → List Fact → Prop} {Q : α → Shared → Prop} {E : Value → Shared → Prop} (c : Cx hB L m X s) (h : Pu prog w A g hB L m X t Φ)
    (k : ∀ a Y s', Φ a Y → Facts Y s'.heap → Fresh Y s.heap → Ex g s s' → Cx hB L m (Y ++ X) s' → Q a s') : wpAny (model prog w) A t Q E s := h.run c k
end

/-! ## _iter_escaped_chars -/
def mkS (l : List Nat) : Str := ⟨l.toArray⟩
def itF : Bool → Nat → List Nat → List (Nat × List Nat)
  | true, p, [] => [(p - 1, [92])]
  | false, _, [] => []
  | true, p, c :: r => (p, [92, c]) :: itF false (p + 1) r
  | false, p, c :: r => if c = 92 then itF true (p + 1) r else (p, [c]) :: itF false (p + 1) r

def forT : Stmt → PySem.Expr | .For t .. => t | _ => .Constant .none 0 default
def forI : Stmt → PySem.Expr | .For _ i .. => i | _ => .Constant .none 0 default
def forB : Stmt → List Stmt | .For _ _ b .. => b | _ => []

/-- a wake grows the state, keeps the base and what is guarded -/
structure Gw (pr : List Addr) (hB : Heap) (s₀ s : Shared) : Prop where
  same : ∃ h tk, s = { s₀ with heap := h, toks := tk }
  toks : s₀.toks ≤ s.toks
  prot : ∀ b ∈ pr, ∀ o, s₀.heap.get? b = some o → s.heap.get? b = some o
  base : Kp hB s.heap
/-- between two wakes -/
structure Rly (pr : List Addr) (hB : Heap) (s s'' : Shared) : Prop where
  keep : ∀ b o, b ∉ pr → s.heap.get? b = some o → s''.heap.get? b = some o
  base : Kp hB s''.heap
  has : ∀ b ∈ pr, s''.heap.get? b ≠ none
  tok : 1 ≤ s''.toks
def RG (pr : List Addr) (hB : Heap) : GenEnd := fun n s₀ r s => r = .ok (.ret .none) ∧ n = 0 ∧ Gw pr hB s₀ s
def YG (its : List (Nat × List Nat)) (pr : List Addr) (hB : Heap) : Protocol := fun n s₀ v s kap =>
  ∃ T t u p y, v = .ref T ∧ its[its.length - (n + 1)]? = some (p, y) ∧ n < its.length ∧ (∃ o, s.heap.get? T = some o ∧ isT #[.int (p : Nat) t, .str (mkS y) u] o) ∧ T ∉ pr ∧ Gw pr hB s₀ s ∧
    ∀ s'', Rly pr hB s s'' → kap (.send .none) s''
structure GL (pr : List Addr) (hB : Heap) (s₀ : Shared) (hW : Heap) : Prop where
  base : Kp hB hW
  has : ∀ b ∈ pr, s₀.heap.get? b ≠ none
  prot : ∀ b ∈ pr, ∀ o, s₀.heap.get? b = some o → hW.get? b = some o

section
variable {prog : Program} {w : World} {A : Around} {g : Bool} {s₀ : Shared} {hB hW : Heap} {L : Addr} {m : Str → Option Value} {X Y : List Fact} {s s' : Shared} {env : Env}
  {pr mu : List Addr} {its : List (Nat × List Nat)} {n : Nat} {c : Code} {fs : List Frame} {K : Flow → Sem Fin} {H : Value → Sem Fin} {gd : Bool → Bool} {lv : List Value → List Value}

theorem GL.gw (G : GL pr hB s₀ hW) (S : Sx false s₀ hW L m X s) : Gw pr hB s₀ s :=
  ⟨S.re.same rfl, S.re.toks, fun b hb o e => S.cx.base b o (G.prot b hb o e), G.base.trans S.cx.base⟩
theorem GL.hasW (G : GL pr hB s₀ hW) {b : Addr} (hb : b ∈ pr) : hW.get? b ≠ none := by
  cases q : s₀.heap.get? b with
  | none => exact absurd q (G.has b hb)
  | some o => rw [G.prot b hb o q]; nofun
theorem GL.wake (G : GL pr hB s₀ hW) (S : Sx false s₀ hW L m X s) (hmu : ∀ a ∈ mu, hW.get? a = none) (hL : L ∈ mu) {s'' : Shared} (R : Rly pr hB s s'') :
    GL pr hB s'' (hideAll s''.heap mu) ∧ Sx false s'' (hideAll s''.heap mu) L m [] s'' ∧ (∀ a ∈ mu, (hideAll s''.heap mu).get? a = none) ∧ ∀ b o, b ∈ mu → s.heap.get? b = some o → s''.heap.get? b = some o := by
  have off : ∀ b ∈ mu, b ∉ pr := fun b hb hp => G.hasW hp (hmu b hb)
  refine ⟨⟨fun b o e => hideAll_get _ (R.base b o e) fun hm => ?_, R.has, fun b hb o e => hideAll_get _ e fun hm => off b hm hb⟩,
    ⟨⟨S.cx.ns.at' fun o e => R.keep _ o (off _ hL) e, fun b o e => of_hideAll _ e, Facts.nil _, R.tok⟩, Re.refl _ _, hideAll_none _ hL, fun _ h => nomatch h⟩, fun a ha => hideAll_none _ ha, fun b o hb e => R.keep b o (off b hb) e⟩
  have h1 := G.base b o e
  rw [hmu b hm] at h1; cases h1

theorem gen_yield {e : PySem.Expr} {ypos pos : Pos} {pre r : List (Nat × List Nat)} {p : Nat} {y : List Nat} (hfs : splitAtGen fs = none) (hgd : gd false = false) (hfg : fs.any Frame.guarded = false)
    (S : Sx false s₀ hW L m [] s) (G : GL pr hB s₀ hW) (hmu : ∀ a ∈ mu, hW.get? a = none) (hL : L ∈ mu)
    (hv : Pu prog w (A.over c fs) false hW L m [] (eval e env) (fun v Y => ∃ T t u, v = .ref T ∧ Y = [(T, isT #[.int (p : Nat) t, .str (mkS y) u])])) (hits : its = pre ++ (p, y) :: r) (hn : n = r.length)
    (k : ∀ s'' hW', GL pr hB s'' hW' → Sx false s'' hW' L m [] s'' → (∀ a ∈ mu, hW'.get? a = none) → (∀ b o, b ∈ mu → s.heap.get? b = some o → s''.heap.get? b = some o) →
      Seg (model prog w) A (RG pr hB) (YG its pr hB) n s'' c (K .next) fs s'') (hco : env.scope.isCoroutine = false := by rfl) (hi : interactive env = false := by rfl) :
    Seg (model prog w) A (RG pr hB) (YG its pr hB) (n + 1) s₀ c ((exec (.Expr (.Yield (some e) ypos) pos) env).wrap K H gd lv) fs s := by
  refine seg_Expr_Yield hfs hgd hfg (hv.run S.cx fun v Y s₁ pv f rr x c₁ => ?_) hco hi
  obtain ⟨T, t, u, rfl, rfl⟩ := pv
  intro kap hk
  have S₁ := S.grow x f rr
  obtain ⟨o, ho, hd⟩ := f _ (.head _)
  refine ⟨T, t, u, p, y, rfl, ?_, ?_, ⟨o, ho, hd⟩, fun hT => ?_, G.gw S₁, fun s'' R => hk .none s'' ?_⟩
  · subst hits hn
    rw [List.length_append, List.length_cons, Nat.add_sub_cancel, List.getElem?_append_right (Nat.le_refl _), Nat.sub_self]; rfl
  · subst hits hn
    rw [List.length_append, List.length_cons]; omega
  · have h1 := rr _ (.head _)
    cases q : s₀.heap.get? T with
    | none => exact G.has T hT q
    | some o' => rw [S.cx.base _ _ (G.prot T hT o' q)] at h1; cases h1
  · obtain ⟨G', S', hmu', hk'⟩ := G.wake S₁ hmu hL R
    exact k s'' _ G' S' hmu' fun b o hb e => hk' b o hb (x.keep b o e)

/-- x1, x2 = a pair -/
theorem sx_assign2 {x1 x2 : Str} {p1 p2 pos : Pos} {k : Nat} {T : Addr} {v1 v2 : Value} {E : Value → Shared → Prop} {Q : Unit → Shared → Prop} (hh : A.handled = none) (S : Sx g s₀ hB L m X s) (hT : s.heap.IsTuple T #[v1, v2])
    (h : ∀ s', Sx g s₀ hB L (upd (upd m x1 v1) x2 v2) X s' → (∀ b o, b ≠ L → s.heap.get? b = some o → s'.heap.get? b = some o) → Q () s') (hL : env.locals = L := by rfl)
    (hl1 : env.kindOf x1 = some .local := by rfl) (hl2 : env.kindOf x2 = some .local := by rfl) (hp : (env.scope.kind == .class || (env.scope.kind == .module && env.locals != env.globals)) = false := by rfl) :
    wpAny (model prog w) A (assign (.Tuple [.Name x1 p1, .Name x2 p2] k pos) env (.ref T)) Q E s := by
  subst hL
  refine wpAny_assign_Tuple hh hT rfl rfl fun h₁ hx₁ => ?_
  show wpAny _ A (do holding [v2] (assign (.Name x1 p1) env v1); do holding [] (assign (.Name x2 p2) env v2); pure ()) _ _ _
  have hk : Kp s.heap h₁ := fun b o e => hx₁ b o (Nat.ne_of_lt (Heap.lt_size e)) e
  have S₁ : Sx g s₀ hB env.locals m X { s with heap := h₁ } := S.up (Ex.of (tk := s.toks) hk (Nat.le_refl _))
  refine wpAny_bind (wpAny_holding (wpAny_assign_Name (wpAny_storeName_local hl1 S₁.cx.ns (fun h₂ hn₂ hs₂ => ?_) hp)))
  refine wpAny_bind (wpAny_holding (wpAny_assign_Name (wpAny_storeName_local hl2 hn₂ (fun h₃ hn₃ hs₃ => wpAny_pure ?_) hp)))
  have up : ∀ b o, b ≠ env.locals → h₁.get? b = some o → h₃.get? b = some o := fun b o hb e => hs₃.extBut b o hb (hs₂.extBut b o hb e)
  refine h _ ⟨⟨hn₃, fun b o e => up b o (fun q => by rw [q, S.hL] at e; cases e) (S₁.cx.base b o e), S₁.cx.facts.but up S.off, Nat.le_trans S.cx.tok (Nat.le_trans (Nat.le_succ _) (Nat.le_succ _))⟩,
    S.re.trans (.of (Nat.le_trans (Nat.le_succ _) (Nat.le_succ _))), S.hL, S.off⟩ fun b o hb e => up b o hb (hk b o e)

theorem sx_storeK {x : Str} {v : Value} {E : Value → Shared → Prop} {Q : Unit → Shared → Prop} (S : Sx g s₀ hB L m X s) (k : ∀ s', Sx g s₀ hB L (upd m x v) X s' → (∀ b o, b ≠ L → s.heap.get? b = some o → s'.heap.get? b = some o) → Q () s') (hL : env.locals = L := by rfl)
    (hl : env.kindOf x = some .local := by rfl) (hp : (env.scope.kind == .class || (env.scope.kind == .module && env.locals != env.globals)) = false := by rfl) : wpAny (model prog w) A (storeName env x v) Q E s := by
  subst hL
  refine wpAny_storeName_local hl S.cx.ns (fun h' hn hs => k _ ⟨⟨hn, fun b o e => ?_, ?_, Nat.le_succ_of_le S.cx.tok⟩, S.re.trans (.of (Nat.le_succ _)), S.hL, S.off⟩ fun b o hb e => hs.extBut b o hb e) hp
  · exact hs.extBut b o (fun q => by rw [q, S.hL] at e; cases e) (S.cx.base b o e)
  · exact S.cx.facts.but (fun b o hb e => hs.extBut b o hb e) S.off
theorem x_assignK {x : Str} {p pos : Pos} {e : PySem.Expr} {E : Value → Shared → Prop} {Q : Flow → Shared → Prop} {Φ : Value → List Fact → Prop} (S : Sx g s₀ hB L m X s) (he : Pu prog w A g hB L m X (eval e env) Φ)
    (k : ∀ v Y s', Φ v Y → Sx g s₀ hB L (upd m x v) (Y ++ X) s' → (∀ b o, b ≠ L → s.heap.get? b = some o → s'.heap.get? b = some o) → Q .next s') (hL : env.locals = L := by rfl)
    (hl : env.kindOf x = some .local := by rfl) (hp : (env.scope.kind == .class || (env.scope.kind == .module && env.locals != env.globals)) = false := by rfl)
    (hs : swapsWith e (some (.Name x p)) pos.line env = pure false := by rfl) : wpAny (model prog w) A (exec (.Assign [.Name x p] e pos) env) Q E s :=
  wpAny_Assign_Name (he.run S.cx fun v Y s₁ hv hf hr hx c₁ => sx_storeK (S.grow hx hf hr) (fun s' S' hk => k v Y s' hv S' fun b o hb e => hk b o hb (hx.keep b o e)) hL hl hp) hs
end

section
variable {g : Bool} {s₀ s : Shared} {hB : Heap} {L : Addr} {m : Str → Option Value} {X : List Fact}
theorem Sx.step {wr : List Addr} {h' : Heap} {tk : Nat} (S : Sx g s₀ hB L m X s) (ht : s.toks ≤ tk) (hk : ∀ b o, b ∉ wr → s.heap.get? b = some o → h'.get? b = some o)
    (hwr : ∀ b ∈ wr, hB.get? b = none ∧ L ≠ b ∧ ∀ y ∈ X, y.1 ≠ b) : Sx g s₀ hB L m X { s with heap := h', toks := tk } :=
  ⟨⟨S.cx.ns.at' fun o e => hk _ o (fun hm => (hwr _ hm).2.1 rfl) e, fun b o e => hk b o (fun hm => by rw [(hwr b hm).1] at e; cases e) (S.cx.base b o e),
    fun y hy => let ⟨o, a, b⟩ := S.cx.facts y hy; ⟨o, hk _ o (fun hm => (hwr _ hm).2.2 y hy rfl) a, b⟩, Nat.le_trans S.cx.tok ht⟩, S.re.trans (.of ht), S.hL, S.off⟩
end

/-! the loop -/
section
variable {prog : Program} {w : World} {A : Around} {hB : Heap} {L e it a : Addr} {cd : Value} {pr : List Addr} {its : List (Nat × List Nat)} {FS : List Frame} {x : Str}
  {Pt : Nat → Array Value → Prop} {St : Nat → Heap → Prop} {Mid : Nat → Addr → Heap → Prop}

abbrev gEnv (L a : Addr) (cd : Value) : Env := envOf (nmOf (stAt 1)) (scOf (stAt 1)) L a cd
abbrev gFor : Stmt := nth (bdOf (stAt 1)) 2
abbrev gCode (L e a : Addr) (cd : Value) : Code := .forLoop (forT gFor) (.ref e) (forB gFor) [] (gEnv L a cd)

theorem gen_loop (hh : (A.over (gCode L e a cd) FS).handled = none) (W : WalksT prog w (A.over (gCode L e a cd) FS) e [e, it] [e, it] x.cps.size Pt St Mid)
    (hPt : ∀ i vals, Pt i vals → ∃ t c u, x.cps[i]? = some c ∧ vals = #[.int (i : Nat) t, .str ⟨#[c]⟩ u])
    (hLe : L ≠ e) (hLi : L ≠ it) (hx : x.cps.size ≤ 100000) (hfs : splitAtGen FS = none) (hfg : FS.any Frame.guarded = false)
    (exit : ∀ c' s₀ hW m s esc pre n, its = pre ++ itF esc x.cps.size [] → n = (itF esc x.cps.size []).length → GL pr hB s₀ hW → Sx false s₀ hW L m [] s → (∀ b ∈ [L, e, it], hW.get? b = none) →
      m "escape" = some (.bool esc) → (esc = true → ∃ t, m "pos" = some (.int (x.cps.size - 1 : Nat) t)) → Seg (model prog w) A (RG pr hB) (YG its pr hB) n s₀ c' (leafOf (.ok .next)) FS s) :
    ∀ k i esc s₀ hW m s pre n, k = x.cps.size - i → i ≤ x.cps.size → its = pre ++ itF esc i (x.cps.toList.drop i) → n = (itF esc i (x.cps.toList.drop i)).length → GL pr hB s₀ hW → Sx false s₀ hW L m [] s →
      (∀ b ∈ [L, e, it], hW.get? b = none) → m "escape" = some (.bool esc) → (esc = true → ∃ t, m "pos" = some (.int (i - 1 : Nat) t)) → St i s.heap →
      Seg (model prog w) A (RG pr hB) (YG its pr hB) n s₀ (gCode L e a cd) ((model prog w).den (gCode L e a cd)) FS s := by
  have hwr : ∀ {hW : Heap}, (∀ b ∈ [L, e, it], hW.get? b = none) → ∀ b ∈ [e, it], hW.get? b = none ∧ L ≠ b ∧ ∀ y ∈ ([] : List Fact), y.1 ≠ b := by
    intro hW hmu b hb
    refine ⟨hmu b (.tail _ hb), ?_, fun _ h => nomatch h⟩
    rcases List.mem_cons.mp hb with rfl | hb
    · exact hLe
    · rw [List.mem_singleton.mp hb]; exact hLi
  intro k
  induction k with
  | zero =>
    rintro i esc s₀ hW m s pre n hk hi hits hn G S hmu me mp hst
    obtain rfl : i = x.cps.size := by omega
    have hd : x.cps.toList.drop x.cps.size = [] := by simp
    rw [hd] at hits hn
    refine seg_forTurn (wpAny_with_toks (Nat.le_refl s.toks) (W.done s _ _ hst fun h₁ tk₁ hk₁ htk => ?_))
    exact fun c' => exit c' s₀ hW m _ esc pre n hits hn G (S.step htk hk₁ (hwr hmu)) hmu me mp
  | succ k ih =>
    rintro i esc s₀ hW m s pre n hk hi hits hn G S hmu me mp hst
    have hlt : i < x.cps.size := by omega
    obtain ⟨c, hc⟩ : ∃ c, x.cps[i]? = some c := ⟨_, Array.getElem?_eq_getElem hlt⟩
    have hd : x.cps.toList.drop i = c :: x.cps.toList.drop (i + 1) := by
      rw [List.drop_eq_getElem_cons (by simpa using hlt)]
      congr 1
      have := (Array.getElem?_eq_some_iff.mp hc).2
      simpa using this
    rw [hd] at hits hn
    refine seg_forTurn (wpAny_with_toks (Nat.le_refl s.toks) (W.item i s _ _ hlt hst fun T vals h₁ tk₁ hP hT htup hmid hk₁ htk => ?_))
    obtain ⟨t, c', u, hc', rfl⟩ := hPt i vals hP
    rw [hc] at hc'
    obtain rfl : c = c' := Option.some.inj hc'
    have S₁ := S.step htk hk₁ (hwr hmu)
    refine W.go _ _ _ i T { s with heap := h₁, toks := tk₁ } _ _ hmid fun h₂ hst₂ hk₂ => ?_
    have S₂ := S₁.step (h' := h₂) (tk := tk₁) (Nat.le_refl _) hk₂ (hwr hmu)
    have htup₂ : h₂.IsTuple T #[.int (i : Nat) t, .str ⟨#[c]⟩ u] := by
      obtain ⟨o, ho, r⟩ := htup
      exact ⟨o, hk₂ T o (W.apart _ _ _ hmid) ho, r⟩
    refine sx_assign2 hh S₂ htup₂ fun s₃ S₃ hk₃ => ?_
    have hst₃ : St (i + 1) s₃.heap := W.frame _ _ _ hst₂ fun b hb o e => hk₃ b o (fun q => by
      rcases List.mem_cons.mp hb with rfl | hb
      · exact hLe q.symm
      · rw [List.mem_singleton.mp hb] at q; exact hLi q.symm) e
    have frame : ∀ {h h' : Heap}, St (i + 1) h → (∀ b o, b ≠ L → h.get? b = some o → h'.get? b = some o) → St (i + 1) h' := fun st hk => W.frame _ _ _ st fun b hb o e => hk b o (fun q => by
      rcases List.mem_cons.mp hb with rfl | hb
      · exact hLe q.symm
      · rw [List.mem_singleton.mp hb] at q; exact hLi q.symm) e
    have back : ∀ {s₀ hW m s esc pre n}, its = pre ++ itF esc (i + 1) (x.cps.toList.drop (i + 1)) → n = (itF esc (i + 1) (x.cps.toList.drop (i + 1))).length → GL pr hB s₀ hW → Sx false s₀ hW L m [] s →
        (∀ b ∈ [L, e, it], hW.get? b = none) → m "escape" = some (.bool esc) → (∃ t, m "pos" = some (.int (i : Nat) t)) → St (i + 1) s.heap →
        Seg (model prog w) A (RG pr hB) (YG its pr hB) n s₀ (gCode L e a cd) (turnK (gCode L e a cd) .next) FS s := fun h1 h2 h3 h4 h5 h6 h7 h8 =>
      seg_again (by rfl) (ih (i + 1) _ _ _ _ _ _ _ (by omega) (by omega) h1 h2 h3 h4 h5 h6 (fun _ => h7) h8)
    refine seg_execs_cons (seg_If (S₃.cx.run (g := false) (pu_isTrue_bool (pu_local me)) fun b Y s₄ pb f r x₄ c₄ => ?_))
    obtain ⟨rfl, rfl⟩ := pb
    have S₄ := S₃.up x₄
    have hst₄ := frame hst₃ fun b o _ e => x₄.keep b o e
    cases b with
    | true =>
      rw [if_pos rfl]
      rw [show itF true i (c :: x.cps.toList.drop (i + 1)) = (i, [92, c]) :: itF false (i + 1) (x.cps.toList.drop (i + 1)) from rfl] at hits hn
      rw [hn, List.length_cons]
      refine seg_execs_cons (gen_yield hfs rfl hfg S₄ G hmu (.head _) ?_ hits rfl fun s₅ hW' G' S₅ hmu' hk₅ => ?_)
      · refine (pu_Tuple2 (pu_local (by rfl)) (pu_BinOp (Ψ := VS (mkS [92, c])) pu_str (pu_local (by rfl)) fun a b Y Z p q => ?_)).mono ?_
        · obtain ⟨⟨u₁, rfl⟩, rfl⟩ := p
          obtain ⟨rfl, rfl⟩ := q
          exact op_add_str (x := Str.ofString "\\") (show (2 : Nat) ≤ sizeLine by decide)
        · rintro v Y ⟨T', v1, v2, Y1, Y2, rfl, ⟨rfl, rfl⟩, ⟨⟨u₂, rfl⟩, rfl⟩, rfl⟩
          exact ⟨T', _, u₂, rfl, rfl⟩
      · refine seg_stmt (x_assignK S₅ pu_bool fun v Y s₆ pv S₆ hk₆ => ⟨rfl, ?_⟩)
        obtain ⟨rfl, rfl⟩ := pv
        have hst₅ : St (i + 1) s₅.heap := W.frame _ _ _ hst₄ fun b hb o e => hk₅ b o (.tail _ hb) e
        exact back (pre := pre ++ [(i, [92, c])]) (by rw [List.append_assoc]; exact hits) rfl G' S₆ hmu' rfl ⟨t, rfl⟩ (frame hst₅ hk₆)
    | false =>
      rw [if_neg Bool.false_ne_true]
      refine seg_execs_cons (seg_If (S₄.cx.run (g := false) (pu_isTrue_Compare (b := c == 92) (pu_local (by rfl)) pu_str fun a b Y Z p q => by
        obtain ⟨rfl, rfl⟩ := p
        obtain ⟨⟨u₁, rfl⟩, rfl⟩ := q
        rw [← sign_eq c 92]
        exact op_eq_str) fun b Y s₅ pb f r x₅ c₅ => ?_))
      obtain ⟨rfl, rfl⟩ := pb
      have S₅ := S₄.up x₅
      have hst₅ := frame hst₄ fun b o _ e => x₅.keep b o e
      by_cases h92 : c = 92
      · rw [if_pos (by simp [h92])]
        refine seg_stmt (x_assignK S₅ pu_bool fun v Y s₆ pv S₆ hk₆ => ⟨rfl, ?_⟩)
        obtain ⟨rfl, rfl⟩ := pv
        rw [show itF false i (c :: x.cps.toList.drop (i + 1)) = itF true (i + 1) (x.cps.toList.drop (i + 1)) from by rw [itF, if_pos h92]] at hits hn
        exact back hits hn G S₆ hmu rfl ⟨t, rfl⟩ (frame hst₅ hk₆)
      · rw [if_neg (by simp [h92])]
        rw [show itF false i (c :: x.cps.toList.drop (i + 1)) = (i, [c]) :: itF false (i + 1) (x.cps.toList.drop (i + 1)) from by rw [itF, if_neg h92]] at hits hn
        rw [hn, List.length_cons]
        refine seg_execs_cons (gen_yield hfs rfl hfg S₅ G hmu (.head _) ?_ hits rfl fun s₆ hW' G' S₆ hmu' hk₆ => ?_)
        · refine (pu_Tuple2 (pu_local (by rfl)) (pu_local (by rfl))).mono ?_
          rintro v Y ⟨T', v1, v2, Y1, Y2, rfl, ⟨rfl, rfl⟩, ⟨rfl, rfl⟩, rfl⟩
          exact ⟨T', _, u, rfl, rfl⟩
        · have hst₆ : St (i + 1) s₆.heap := W.frame _ _ _ hst₅ fun b hb o e => hk₆ b o (.tail _ hb) e
          exact back (pre := pre ++ [(i, [c])]) (by rw [List.append_assoc]; exact hits) rfl G' S₆ hmu' me ⟨t, rfl⟩ hst₆
end

def isEn (it : Addr) : Obj → Prop := fun o => o = { cls := .type "enumerate", dict := none, data := .fields #[.none, .bool false, .ref it, rawInt 0, .none, .none], slots := #[] }
def isSi (x : Str) (t : Tok) : Obj → Prop := fun o => o.cls = .type (strIterType x) ∧ o.data = .fields #[.str x t, .int 0 0]

section
variable {prog : Program} {w : World} {A : Around} {g : Bool} {s₀ : Shared} {hB : Heap} {L : Addr} {m : Str → Option Value} {X Y : List Fact} {s s' : Shared} {env : Env}
theorem op_enumerate {x : Str} {t : Tok} : Pu prog w A g hB L m X (call (.type "enumerate") [.str x t]) (fun v Y => ∃ e it, v = .ref e ∧ e ≠ it ∧ Y = [(e, isEn it), (it, isSi x t)]) := fun s c => by
  refine call_enumerate_str fun h' he hi hz hk => ⟨_, ⟨_, _, rfl, Nat.succ_ne_self _, rfl⟩, ?_, ?_, Ex.of (tk := s.toks) hk (Nat.le_refl _)⟩
  · exact Facts.cons ⟨_, he, rfl⟩ (Facts.cons (by obtain ⟨o, ho, r⟩ := hi; exact ⟨o, ho, r⟩) (Facts.nil _))
  · refine Fresh.cons ?_ (Fresh.cons (size_none _) (Fresh.nil _))
    show s.heap.get? (s.heap.objs.size + 1) = none
    cases q : s.heap.get? (s.heap.objs.size + 1) with
    | none => rfl
    | some o => exact absurd (Heap.lt_size q) (Nat.not_lt.mpr (Nat.le_succ _))
end

section
variable {prog : Program} {w : World} {A : Around} {hB hW : Heap} {L a : Addr} {cd : Value} {pr : List Addr} {its : List (Nat × List Nat)} {x : Str} {t : Tok} {s : Shared} {m : Str → Option Value}

theorem gen_loopS {e it : Addr} {FS : List Frame} (hh : (A.over (gCode L e a cd) FS).handled = none) (hei : e ≠ it)
    (hLe : L ≠ e) (hLi : L ≠ it) (hx : x.cps.size ≤ 100000) (hfs : splitAtGen FS = none) (hfg : FS.any Frame.guarded = false)
    (hits : its = itF false 0 x.cps.toList) (G : GL pr hB s hW) {s₃ : Shared} (S : Sx false s hW L m [] s₃) (hmu : ∀ b ∈ [L, e, it], hW.get? b = none) (he : m "escape" = some (.bool false))
    (hoe : IsEnum s₃.heap e it 0 .none) (hoi : s₃.heap.IsStrIter it (strIterType x) x t 0)
    (exit : ∀ c' s₀ hW m s esc pre n, its = pre ++ itF esc x.cps.size [] → n = (itF esc x.cps.size []).length → GL pr hB s₀ hW → Sx false s₀ hW L m [] s → (∀ b ∈ [L, e, it], hW.get? b = none) →
      m "escape" = some (.bool esc) → (esc = true → ∃ t, m "pos" = some (.int (x.cps.size - 1 : Nat) t)) → Seg (model prog w) A (RG pr hB) (YG its pr hB) n s₀ c' (leafOf (.ok .next)) FS s) :
    Seg (model prog w) A (RG pr hB) (YG its pr hB) its.length s (gCode L e a cd) ((model prog w).den (gCode L e a cd)) FS s₃ := by
  have D : ∀ A' : Around, A'.handled = none → Draws prog w A' it [it] x.cps.size (fun i v => ∃ c u, x.cps[i]? = some c ∧ v = .str ⟨#[c]⟩ u) (fun i h => h.IsStrIter it (strIterType x) x t i) := by
    intro A' hA
    unfold strIterType
    split
    · exact Draws.strAscii hA it x t
    · exact Draws.strWide hA it x t
  refine gen_loop hh (WalksT.enumerateD (D (A.over (gCode L e a cd) FS).in1 hh) e hei (fun hm => hei (List.mem_singleton.mp hm)) (.head _)) ?_ hLe hLi hx hfs hfg exit _ 0 false s hW m s₃ [] _ rfl (Nat.zero_le _) hits (by rw [hits]; rfl) G S hmu he (fun h => nomatch h) ⟨⟨_, hoe⟩, hoi⟩
  rintro i vals ⟨t', v, ⟨c, u, hc, rfl⟩, rfl⟩
  exact ⟨t', c, u, hc, rfl⟩

theorem gen_body {mg mb : Str → Option Value} (hh : A.handled = none) (Wb : Wo mg mb hB) (hg : mg "enumerate" = none) (hb : mb "enumerate" = some (.type "enumerate")) (hx : x.cps.size ≤ 100000)
    (hits : its = itF false 0 x.cps.toList) (G : GL pr hB s hW) (S : Sx false s hW L m [] s) (hm : m "addr" = some (.str x t)) :
    Seg (model prog w) A (RG pr hB) (YG its pr hB) its.length s (.func (bdOf (stAt 1)) (gEnv L a cd)) ((model prog w).den (.func (bdOf (stAt 1)) (gEnv L a cd))) [] s := by
  refine seg_func ?_
  refine seg_stmt (x_assign S pu_int fun v Y s₁ pv _ S₁ => ⟨rfl, ?_⟩)
  obtain ⟨⟨t₁, rfl⟩, rfl⟩ := pv
  refine seg_stmt (x_assign S₁ pu_bool fun v Y s₂ pv _ S₂ => ⟨rfl, ?_⟩)
  obtain ⟨rfl, rfl⟩ := pv
  have Wk : Wo mg mb hW := Wb.keep G.base
  refine seg_execs_cons (seg_For (S₂.cx.run (g := false) (pu_Call_type (Ψ := fun v Y => ∃ e it, v = .ref e ∧ e ≠ it ∧ Y = [(e, isEn it), (it, isSi x t)]) rfl (pu_builtin Wk hg hb)
    (pu_spl_cons (pu_local hm) pu_spl_nil) fun vs Y p => ?_) fun v Y s₃ pv f r x₃ c₃ => ?_))
  · obtain ⟨v, vs', Y₁, Y₂, rfl, rfl, ⟨rfl, rfl⟩, rfl, rfl⟩ := p
    exact op_enumerate.mono fun _ _ h => Of.new h
  obtain ⟨e, it, rfl, hne, rfl⟩ := pv
  obtain ⟨oe, hoe, rfl⟩ := f (e, isEn it) (.head _)
  obtain ⟨oi, hoi, hci, hdi⟩ := f (it, isSi x t) (.tail _ (.head _))
  refine wpAny_pyIter_enum hoe fun p => ?_
  have ap := S₂.cx.newApart r
  have hwe : hW.get? e = none := (ap _ (.head _)).1
  have hwi : hW.get? it = none := (ap _ (.tail _ (.head _))).1
  have hLe : L ≠ e := fun q => S₂.cx.newOff r _ (.head _) q.symm
  have hLi : L ≠ it := fun q => S₂.cx.newOff r _ (.tail _ (.head _)) q.symm
  have S₃ : Sx false s hW L (upd (upd m "pos" (.int 0 t₁)) "escape" (.bool false)) [] s₃ := (S₂.up x₃).less fun _ h => nomatch h
  have hmu : ∀ b ∈ [L, e, it], hW.get? b = none := fun b hb => by
    rcases List.mem_cons.mp hb with rfl | hb
    · exact S.hL
    rcases List.mem_cons.mp hb with rfl | hb
    · exact hwe
    · rw [List.mem_singleton.mp hb]; exact hwi
  refine gen_loopS (x := x) (t := t) (by show (marksOver _ (A.handled, A.handled)).1 = none; rw [hh]; rfl) hne hLe hLi hx rfl rfl hits G S₃ hmu rfl hoe ⟨oi, hoi, hci, hdi⟩ ?_
  intro c' s₀ hW' m' s₄ esc pre n hits' hn G' S' hmu' me mp
  refine seg_back (r := .next) ?_ c'
  refine seg_execs_cons (seg_If (S'.cx.run (g := false) (pu_isTrue_bool (pu_local me)) fun b Y s₅ pb f₅ r₅ x₅ c₅ => ?_))
  obtain ⟨rfl, rfl⟩ := pb
  have S₅ := S'.up x₅
  cases b with
  | true =>
    rw [if_pos rfl]
    obtain ⟨t₂, mp⟩ := mp rfl
    rw [show itF true x.cps.size [] = [(x.cps.size - 1, [92])] from rfl] at hits' hn
    rw [hn]
    refine seg_execs_cons (gen_yield (mu := [L, e, it]) (n := 0) rfl rfl rfl S₅ G' hmu' (.head _) ?_ hits' rfl fun s₆ hW₆ G₆ S₆ hmu₆ hk₆ => ?_)
    · refine (pu_Tuple2 (pu_local mp) pu_str).mono ?_
      rintro v Y ⟨T', v1, v2, Y1, Y2, rfl, ⟨rfl, rfl⟩, ⟨⟨u₂, rfl⟩, rfl⟩, rfl⟩
      exact ⟨T', _, u₂, rfl, rfl⟩
    · exact seg_end (.ok (.ret .none)) ⟨rfl, rfl, G₆.gw S₆⟩
  | false =>
    rw [if_neg Bool.false_ne_true]
    rw [show itF false x.cps.size [] = [] from rfl] at hn
    exact seg_end (.ok (.ret .none)) ⟨rfl, hn, G'.gw S₅⟩
end

/-! ## The generator as an object -/
def GSt (prog : Program) (w : World) (A : Around) (its : List (Nat × List Nat)) (pr : List Addr) (hB : Heap) (I : Addr) (g i : Nat) (s : Shared) : Prop :=
  s.heap.IsGen I g ∧ i ≤ its.length ∧ ∃ gs, s.gens[g]? = some gs ∧ gs.bare = true ∧ ∀ s'', Rly pr hB s s'' → gs.Goes (model prog w) A.in1 (RG pr hB) (YG its pr hB) (its.length - i) (.send .none) s''

section
variable {prog : Program} {w : World} {A : Around} {hB : Heap} {L I : Addr} {g i : Nat} {pr : List Addr} {its : List (Nat × List Nat)} {s s' s'' : Shared}

theorem Rly.trans (k : ∀ b o, b ∉ pr → s.heap.get? b = some o → s'.heap.get? b = some o) (R : Rly pr hB s' s'') : Rly pr hB s s'' := ⟨fun b o hb e => R.keep b o hb (k b o hb e), R.base, R.has, R.tok⟩
theorem GSt.frame (G : GSt prog w A its pr hB I g i s) (k : ∀ b o, b ∉ pr → s.heap.get? b = some o → s'.heap.get? b = some o) (hI : ∀ o, s.heap.get? I = some o → s'.heap.get? I = some o) (hg : s'.gens = s.gens) :
    GSt prog w A its pr hB I g i s' := by
  obtain ⟨⟨o, nm, qn, ho, r⟩, hi, gs, hgs, hb, hgo⟩ := G
  exact ⟨⟨o, nm, qn, hI o ho, r⟩, hi, gs, by rw [hg]; exact hgs, hb, fun s'' R => hgo s'' (R.trans k)⟩

/-- the relation between the states of the generators before and after a wake -/
def GOne (g : Nat) (a b : Array GenState) : Prop := b.size = a.size ∧ (∀ j, j ≠ g → b[j]? = a[j]?) ∧ (AllBare a → AllBare b)
theorem GOne.of2 {a : Array GenState} {x y : GenState} (hy : y.bare = true) : GOne g a ((a.setIfInBounds g x).setIfInBounds g y) := by
  refine ⟨by simp, fun j hj => ?_, fun h z hz => ?_⟩
  · rw [Array.getElem?_setIfInBounds, if_neg (fun q => hj q.symm), Array.getElem?_setIfInBounds, if_neg (fun q => hj q.symm)]
  · obtain ⟨j, hj, rfl⟩ := Array.mem_iff_getElem.mp hz
    by_cases e : g = j
    · subst e; rw [Array.getElem_setIfInBounds_self]; exact hy
    · have hj' : j < a.size := by simpa using hj
      rw [Array.getElem_setIfInBounds_ne (by simpa using hj') e, Array.getElem_setIfInBounds_ne hj' e]
      exact h _ (Array.getElem_mem _)

theorem gen_next {Q : Option Value → Shared → Prop} {E : Value → Shared → Prop} (hh : A.handled = none) (hl : s.heap.NoLimit) (hroom : A.depth < recursionLimit) (G : GSt prog w A its pr hB I g i s) (hI : I ∈ pr)
    (hhas : ∀ b ∈ pr, s.heap.get? b ≠ none) (hbase : Kp hB s.heap) (htok : 1 ≤ s.toks)
    (hitem : ∀ p y T t u h' tk gens', its[i]? = some (p, y) → (∃ o, h'.get? T = some o ∧ isT #[.int (p : Nat) t, .str (mkS y) u] o) → T ∉ pr → (∀ b ∈ pr, ∀ o, s.heap.get? b = some o → h'.get? b = some o) → Kp hB h' →
      s.toks ≤ tk → GOne g s.gens gens' → GSt prog w A its pr hB I g (i + 1) { s with heap := h', toks := tk, gens := gens' } → Q (some (.ref T)) { s with heap := h', toks := tk, gens := gens' })
    (hend : ∀ h' tk gens', i = its.length → (∀ b ∈ pr, ∀ o, s.heap.get? b = some o → h'.get? b = some o) → Kp hB h' → s.toks ≤ tk → GOne g s.gens gens' → Q none { s with heap := h', toks := tk, gens := gens' }) :
    wpAny (model prog w) A (pyNext (.ref I)) Q E s := by
  obtain ⟨hg, hi, gs, hgs, hbare, hgo⟩ := G
  have hgo := hgo (s.setGen g .running) ⟨fun _ _ _ e => e, hbase, hhas, htok⟩
  unfold pyNext
  refine wpAny_bind (wpAny_attempt (wpAny_callSpecial?_slot (name := Str.ofString "__next__") hg.typeIs slot_gen_next (wpAny_call_entry slot_gen_next hg.typeIs entry_gen_next ?_ (args_gen_next _))))
  show wpAny _ A.in1 (Builtin.Generator.genWake (.ref I) (.send .none)) _ _ s
  unfold Builtin.Generator.genWake
  refine wpAny_bind (wpAny_holding (wpAny_genNumber hg (wpAny_bind (wpAny_genState hgs ?_))))
  have gen2 : ∀ {s₁ : Shared} {y : GenState}, Gw pr hB (s.setGen g .running) s₁ → y.bare = true → ∃ h' tk gens', s₁.setGen g y = { s with heap := h', toks := tk, gens := gens' } ∧ h' = s₁.heap ∧ tk = s₁.toks ∧ GOne g s.gens gens' := by
    intro s₁ y W hy
    obtain ⟨h, tk, rfl⟩ := W.same
    exact ⟨h, tk, _, rfl, rfl, rfl, GOne.of2 hy⟩
  cases gs with
  | running => exact hgo.elim
  | finished => exact hgo.elim
  | _ =>
    refine wpAny_bind (wpAny_roomToWake hl hroom ?_)
    show wpAny _ A.in1 (.resume g (.send .none) [] _) _ _ s
    refine wpAny_resumeQ hgs hgo (fun x s₁ hx => ?_) (fun v s₁ gs' hb hv => ?_)
    · obtain ⟨rfl, hn, W⟩ := hx
      obtain ⟨h', tk, gens', e, e1, e2, hG⟩ := gen2 (y := .finished) W rfl
      rw [e]
      show wpAny _ A.in1 (newExc (.type "StopIteration") [] >>= _) _ _ _
      refine wpAny_bind ?_
      simp only [newExc, newTuple]
      refine wpAny_bind (wpAny_newObj_type ?_ (by size_fits))
      refine wpAny_bind (m := firstArgMember _ _) (wpAny_of_eq (a := Value.none) (by first | rfl | (simp only [firstArgMember]; rfl)) ?_)
      refine wpAny_newObj_type ?_ (by size_fits)
      simp only [raiseNew]
      refine wpAny_bind (wpAny_bind (wpAny_handled ?_))
      rw [show A.in1.handled = none from hh]
      refine wpAny_throw ?_
      refine wpAny_bind (wpAny_isInstance (T := "StopIteration") (b := true) ⟨_, Heap.get?_push_size _ rfl, rfl⟩ isSubtype_stop ?_)
      subst e1 e2
      have hn' : its.length - i = 0 := hn
      exact wpAny_pure (hend _ _ gens' (Nat.le_antisymm hi (Nat.le_of_sub_eq_zero hn')) (fun b hb o e => Heap.get?_push_of_some _ (Heap.get?_push_of_some _ (W.prot b hb o e))) (fun b o e => Heap.get?_push_of_some _ (Heap.get?_push_of_some _ (W.base b o e))) W.toks hG)
    · obtain ⟨T, t, u, p, y, rfl, hit, hlt, hT, hTp, W, hk⟩ := hv
      obtain ⟨h', tk, gens', e, e1, e2, hG⟩ := gen2 (y := gs') W hb
      rw [e]
      subst e1 e2
      have hlt' : its.length - i - 1 < its.length := hlt
      have hit' : its[its.length - (its.length - i - 1 + 1)]? = some (p, y) := hit
      have hR : Rly pr hB s₁ s₁ := ⟨fun _ _ _ e => e, W.base, fun b hb e => by
        cases q : s.heap.get? b with
        | none => exact hhas b hb q
        | some o => (rw [W.prot b hb o q] at e; cases e), Nat.le_trans htok W.toks⟩
      obtain ⟨m', hm⟩ : ∃ m', its.length - i = m' + 1 := by
        cases q : its.length - i with
        | zero =>
          have := hk s₁ hR
          simp only [q] at this
        | succ m' => exact ⟨m', rfl⟩
      have hgs' : g < s.gens.size := (Array.getElem?_eq_some_iff.mp hgs).1
      refine wpAny_pure ⟨.ref T, rfl, wpAny_pure (hitem p y T t u s₁.heap s₁.toks gens' ?_ hT hTp W.prot W.base W.toks hG ?_)⟩
      · rw [hm, Nat.add_sub_cancel, show its.length - (m' + 1) = i by omega] at hit'
        exact hit'
      · have he : gens' = (s.gens.setIfInBounds g .running).setIfInBounds g gs' := by
          obtain ⟨h0, tk0, hs₁⟩ := W.same
          subst hs₁
          injection e with _ e3
          exact e3.symm
        refine ⟨?_, by omega, gs', ?_, hb, fun s'' R => ?_⟩
        · obtain ⟨o, nm, qn, ho, r⟩ := hg
          exact ⟨o, nm, qn, W.prot I hI o ho, r⟩
        · show gens'[g]? = some gs'
          rw [he]
          simp [hgs']
        · have := hk s'' ⟨R.keep, R.base, R.has, R.tok⟩
          simp only [hm] at this
          rw [show its.length - (i + 1) = m' by omega]
          exact this
end

section
variable {prog : Program} {w : World} {A : Around} {hB : Heap} {pr : List Addr} {s : Shared}
theorem gen_made {mg mb : Str → Option Value} {a : Addr} {x : Str} {t : Tok} (hh : A.handled = none) (hroom : A.depth < recursionLimit) (hf : FnAt s.heap (stAt 1) a) (W : Wo mg mb hB) (hKB : Kp hB s.heap) (htok : 1 ≤ s.toks)
    (hg : mg "enumerate" = none) (hb : mb "enumerate" = some (.type "enumerate")) (hx : x.cps.size ≤ 100000) (hpr : ∀ b ∈ pr, s.heap.get? b ≠ none) :
    wpAny (model prog w) A (call (.ref a) [.str x t]) (fun v s' => ∃ I g, v = .ref I ∧ Ex true s s' ∧ s.heap.get? I = none ∧ s'.heap.get? I ≠ none ∧ s.gens.size ≤ g ∧
      GSt prog w A (itF false 0 x.cps.toList) (I :: pr) hB I g 0 s') (fun _ _ => False) s := by
  obtain ⟨o, pm, cd, doc, ho, hd, hc⟩ := hf
  have lim := W.lim.keeps hKB
  refine wpAny_call (codeAny_call_generator hroom ho hd (by rfl) (by rfl) rfl hc ?_)
  refine wpAny_of_eq (a := ([("addr", .str x t)] : List (Str × Value))) (by rfl) ?_
  refine wpAny_newFunctionEnv (show ∀ x ∈ (scOf (stAt 1)).names, x.2 ≠ NameKind.cell by decide) (by simp only [List.forall_mem_cons]; exact ⟨rfl, fun _ h => nomatch h⟩) (fun h₁ hn₁ hs₁ => ?_)
  have hk₁ : Kp s.heap h₁ := fun b o e => hs₁.extBut b o (Nat.ne_of_lt (Heap.lt_size e)) (Heap.get?_push_of_some _ e)
  refine ⟨lim.keeps hk₁, ?_⟩
  have hz : h₁.objs.size = s.heap.objs.size + 1 := by rw [hs₁.1, Heap.size_push]
  have hne : s.heap.objs.size ≠ h₁.objs.size := by rw [hz]; exact Nat.ne_of_lt (Nat.lt_succ_self _)
  have hLp : s.heap.objs.size ∉ h₁.objs.size :: pr := fun hm => by
    rcases List.mem_cons.mp hm with q | q
    · exact hne q
    · exact hpr _ q (size_none _)
  have hIn : s.heap.get? h₁.objs.size = none := hk₁.none (size_none _)
  refine ⟨h₁.objs.size, s.gens.size, rfl, ⟨hk₁.trans (Kp.push _ _), ?_, (fun e => nomatch e), rfl, fun i y e => ?_, fun hB => hB.push rfl⟩, hIn, ?_, Nat.le_refl _, ⟨_, _, _, Heap.get?_push_size _ rfl, rfl, rfl, rfl⟩, Nat.zero_le _,
    .fresh (.func (bdOf (stAt 1)) (gEnv s.heap.objs.size a cd)), ?_, rfl, fun s'' R => And.intro rfl ?_⟩
  · exact Nat.le_trans (Nat.le_succ _) (Nat.le_trans (Nat.le_succ _) (Nat.le_succ _))
  · show (s.gens.push _)[i]? = some y
    rw [Array.getElem?_push_lt (Array.getElem?_eq_some_iff.mp e).1]
    exact congrArg some (Array.getElem?_eq_some_iff.mp e).2
  · show (h₁.push _).get? h₁.objs.size ≠ none
    rw [Heap.get?_push_size _ rfl]; nofun
  · show (s.gens.push _)[s.gens.size]? = _
    simp
    rfl
  · have hBL : hB.get? s.heap.objs.size = none := hKB.none (size_none _)
    rw [Nat.sub_zero]
    refine gen_body (t := t) hh W hg hb hx rfl (hW := hideAll s''.heap [s.heap.objs.size]) ⟨fun b o e => hideAll_get _ (R.base b o e) fun hm => ?_, R.has, fun b hb o e => hideAll_get _ e fun hm => ?_⟩
      ⟨⟨?_, fun b o e => of_hideAll _ e, Facts.nil _, R.tok⟩, Re.refl _ _, hideAll_none _ (.head _), fun _ h => nomatch h⟩ (m := fun x_1 => ([("addr", Value.str x t)] : List (Str × Value)).reverse.lookup x_1) rfl
    · rw [List.mem_singleton.mp hm, hBL] at e; cases e
    · rw [List.mem_singleton.mp hm] at hb
      exact hLp hb
    · exact hn₁.at' fun o e => R.keep _ o hLp (Heap.get?_push_of_some _ e)
end

/-! ## for a, b in _iter_escaped_chars(..) -/
theorem GK.one {a b c : Array GenState} {g : Nat} (x : GK a b) (hg : a[g]? = none) (y : GOne g b c) : GK a c :=
  ⟨fun i v e => by rw [y.2.1 i (fun q => by rw [q, hg] at e; cases e)]; exact x.1 i v e, fun h => y.2.2 (x.2 h)⟩
theorem GK.size {a b : Array GenState} (x : GK a b) : a.size ≤ b.size := by
  rcases Nat.lt_or_ge b.size a.size with h | h
  · have := x.1 b.size a[b.size] (Array.getElem?_eq_getElem h)
    exact absurd (Array.getElem?_eq_some_iff.mp this).1 (Nat.lt_irrefl _)
  · exact h

section
variable {prog : Program} {w : World} {A : Around} {s₀ : Shared} {hB : Heap} {L : Addr} {m : Str → Option Value} {X : List Fact} {s : Shared} {env : Env}

theorem go_gen {elts : List PySem.Expr} {k g : Nat} {pos : Pos} {I T : Addr} {Q : Unit → Shared → Prop} {E : Value → Shared → Prop} (hI : s.heap.IsGen I g) (h : Q () s) :
    wpAny (model prog w) A (letOwnedTupleGo (.Tuple elts k pos) (.ref I) (.ref T)) Q E s := by
  obtain ⟨⟨c, d, dt, sl⟩, nm, qn, ho, hc, hd, hs⟩ := hI
  replace hc : c = .type "generator" := hc
  replace hd : dt = .fields #[.int g 0, nm, qn] := hd
  subst hc hd
  unfold letOwnedTupleGo
  refine wpAny_bind (wpAny_load ho ?_)
  show wpAny _ A (if (["enumerate", "zip", "dict_itemiterator", "dict_reverseitemiterator", "odict_iterator", "itertools.zip_longest", "itertools.pairwise"].contains "generator" && _) = true then _ else _) Q E s
  rw [if_neg (by simp)]
  exact wpAny_pure h

theorem x_for_gen {mg mb : Str → Option Value} {x1 x2 f : Str} {p1 p2 pt pf pc pos : Pos} {k : Nat} {arg : PySem.Expr} {body : List Stmt} {y : Str} {a : Addr} {mu : List Addr} {Q : Flow → Shared → Prop}
    (hh : A.handled = none) (hroom : A.depth < recursionLimit) (S : Sx true s₀ hB L m X s) (W : Wo mg mb hB) (hg : mg "enumerate" = none) (hb : mb "enumerate" = some (.type "enumerate")) (hf : FnAt hB (stAt 1) a)
    (hfn : Pu prog w A true hB L m X (eval (.Name f pf) env) (Is (.ref a))) (harg : Pu prog w A true hB L m X (eval arg env) (VS y)) (hy : y.cps.size ≤ 100000)
    (hmu : ∀ a ∈ mu, hB.get? a = none ∧ s.heap.get? a ≠ none) (J : Nat → (Str → Option Value) → List Fact → Prop) (B : Value → Prop) (h0 : ∃ X', (∀ y ∈ X', y ∈ X) ∧ J 0 m X')
    (hJ : ∀ i m' X', J i m' X' → (∀ y ∈ X', y.1 ∈ mu) ∧ ∀ b ∈ mu, ∃ y ∈ X', y.1 = b)
    (turn : ∀ i p z t u m' X' hB' s', (itF false 0 y.cps.toList)[i]? = some (p, z) → J i m' X' → Kp hB hB' → (∀ a ∈ mu, hB'.get? a = none) → Sx false s' hB' L (upd (upd m' x1 (.int (p : Nat) t)) x2 (.str (mkS z) u)) X' s' →
      wpAny (model prog w) A (execs body env) (fun f s'' => ∃ m'' X'', Sx false s' hB' L m'' X'' s'' ∧ ((f = .next ∧ J (i + 1) m'' X'') ∨ ∃ v, f = .ret v ∧ B v)) (fun _ _ => False) s')
    (done : ∀ m' X' s', J (itF false 0 y.cps.toList).length m' X' → Sx true s₀ hB L m' X' s' → Q .next s') (ret : ∀ v m' X' s', B v → Sx true s₀ hB L m' X' s' → Q (.ret v) s')
    (ht : backTo pc (starEach [arg] env) = [(false, eval arg env)]) (hL : env.locals = L := by rfl)
    (hl1 : env.kindOf x1 = some .local := by rfl) (hl2 : env.kindOf x2 = some .local := by rfl) (hp : (env.scope.kind == .class || (env.scope.kind == .module && env.locals != env.globals)) = false := by rfl)
    (hs : ∀ z, foldedSetIterable (.Call (.Name f pf) [arg] [] pc) env z = pure z := by intro _; rfl) :
    wpAny (model prog w) A (exec (.For (.Tuple [.Name x1 p1, .Name x2 p2] k pt) (.Call (.Name f pf) [arg] [] pc) body [] pos) env) Q (fun _ _ => False) s := by
  have hXs : ∀ b ∈ L :: mu, s.heap.get? b ≠ none := fun b hb => by
    rcases List.mem_cons.mp hb with rfl | hb
    · exact S.cx.hasL
    · exact (hmu b hb).2
  refine wpAny_For (Call_Name ht (hfn.run S.cx fun v Y s₁ pv fv rv x₁ c₁ => ?_)) hs
  obtain ⟨rfl, rfl⟩ := pv
  obtain ⟨o, pm, cd, doc, ho, hd, hcd⟩ := id hf
  refine callWith_function (evalArgs_plain (spliced_cons (harg.run c₁ fun v Y s₂ pv fv rv' x₂ c₂ => spliced_nil ⟨⟨c₂.base a o ho, hd⟩, ?_⟩)))
  obtain ⟨⟨t₀, rfl⟩, rfl⟩ := pv
  refine wpAny_mono (gen_made (pr := L :: mu) hh hroom (hf.keep c₂.base) W c₂.base c₂.tok hg hb hy (fun b hb e => ?_)) (fun v s₃ h₃ => ?_) fun _ _ e => e
  · cases q : s.heap.get? b with
    | none => exact hXs b hb q
    | some o' => rw [x₂.keep b o' (x₁.keep b o' q)] at e; cases e
  obtain ⟨I, g, rfl, x₃, hI0, hI1, hgs, G⟩ := h₃
  have hxx := x₁.trans (x₂.trans x₃)
  have S₃ := S.up hxx
  refine wpAny_pyIter_gen G.1 ?_
  have hIL : I ∉ L :: mu := fun hm => by
    cases q : s.heap.get? I with
    | none => exact hXs I hm q
    | some o' => rw [x₂.keep I o' (x₁.keep I o' q)] at hI0; cases hI0
  have hg0 : s₀.gens[g]? = none := by
    have h1 := (S.re.gens.trans (x₁.gens.trans x₂.gens)).size
    exact Array.getElem?_eq_none (Nat.le_trans h1 hgs)
  obtain ⟨X₀, hX₀, h0⟩ := h0
  have hprot : ∀ {s' : Shared}, (∀ b ∈ I :: L :: mu, s'.heap.get? b ≠ none) → True := fun _ => trivial
  refine codeAny_mono (R := fun r s' => match r with | .ok f => Q f s' | .error e => False) (codeAny_forLoop_any
    (fun n s' => ∃ i m' X', n = (itF false 0 y.cps.toList).length + 1 - i ∧ i ≤ (itF false 0 y.cps.toList).length ∧ J i m' X' ∧ GSt prog w A (itF false 0 y.cps.toList) (I :: L :: mu) hB I g i s' ∧ Sx true s₀ hB L m' X' s' ∧ ∀ b ∈ I :: L :: mu, s'.heap.get? b ≠ none)
    ?_ ((itF false 0 y.cps.toList).length + 1) ⟨0, m, X₀, rfl, Nat.zero_le _, h0, G, S₃.less hX₀, fun b hb => ?_⟩) fun r s' hr => ?_
  · rintro n s' ⟨i, m', X', rfl, hi, hj, G', S', hhas⟩
    obtain ⟨hX1, hX2⟩ := hJ i m' X' hj
    have stepW : ∀ (h' : Heap) (tk : Nat) (gens' : Array GenState), (∀ b ∈ I :: L :: mu, ∀ o, s'.heap.get? b = some o → h'.get? b = some o) → Kp hB h' → s'.toks ≤ tk → GOne g s'.gens gens' →
        Sx true s₀ hB L m' X' { s' with heap := h', toks := tk, gens := gens' } := fun h' tk gens' hpr hkb htk hG =>
      ⟨⟨S'.cx.ns.at' fun o e => hpr L (.tail _ (.head _)) o e, hkb, fun y hy => let ⟨o, a, b⟩ := S'.cx.facts y hy; ⟨o, hpr _ (.tail _ (.tail _ (hX1 y hy))) o a, b⟩, Nat.le_trans S'.cx.tok htk⟩,
        ⟨Nat.le_trans S'.re.toks htk, (fun e => nomatch e), S'.re.os, S'.re.gens.one hg0 hG⟩, S'.hL, S'.off⟩
    refine gen_next hh (W.lim.keeps S'.cx.base) hroom G' (.head _) hhas S'.cx.base S'.cx.tok (fun p z T t u h' tk gens' hit hT hTp hpr hkb htk hG G₂ => ?_) (fun h' tk gens' hi hpr hkb htk hG => wpAny_execs_nil ?_)
    · have S₂ := stepW h' tk gens' hpr hkb htk hG
      refine go_gen (g := g) G₂.1 ?_
      have S₂' : Sx false { s' with heap := h', toks := tk, gens := gens' } hB L m' X' { s' with heap := h', toks := tk, gens := gens' } := ⟨S₂.cx, Re.refl _ _, S₂.hL, S₂.off⟩
      obtain ⟨oT, hoT, hcT, _, _, nT, hdT⟩ := hT
      refine sx_assign2 hh S₂' ⟨oT, hoT, hcT, nT, hdT⟩ (fun s₃' S₃' hk₃ => ?_) hL hl1 hl2 hp
      have kV : Kp hB (hideAll s₃'.heap (L :: mu)) := fun b o e => hideAll_get _ (S₃'.cx.base b o e) fun hm => by
        rcases List.mem_cons.mp hm with q | q
        · rw [q, S.hL] at e; cases e
        · rw [(hmu b q).1] at e; cases e
      have Sv : Sx false s₃' (hideAll s₃'.heap (L :: mu)) L (upd (upd m' x1 (.int (p : Nat) t)) x2 (.str (mkS z) u)) X' s₃' :=
        ⟨⟨S₃'.cx.ns, fun b o e => of_hideAll _ e, S₃'.cx.facts, S₃'.cx.tok⟩, Re.refl _ _, hideAll_none _ (.head _), S₃'.off⟩
      refine wpAny_mono (turn i p z t u m' X' _ s₃' hit hj kV (fun a ha => hideAll_none _ (.tail _ ha)) Sv) (fun fl s₄ h₄ => ?_) fun _ _ e => e.elim
      obtain ⟨m'', X'', S₄, h₄⟩ := h₄
      have S₄t : Sx true s₀ hB L m'' X'' s₄ := ⟨⟨S₄.cx.ns, kV.trans S₄.cx.base, S₄.cx.facts, S₄.cx.tok⟩,
        S₂.re.trans (Re.trans ⟨S₃'.re.toks, (fun e => nomatch e), S₃'.re.os, S₃'.re.gens⟩ ⟨S₄.re.toks, (fun e => nomatch e), S₄.re.os, S₄.re.gens⟩), S.hL, S₄.off⟩
      rcases h₄ with ⟨rfl, hj'⟩ | ⟨v, rfl, hv⟩
      · have hlt := (List.getElem?_eq_some_iff.mp hit).1
        have ge : s₄.gens = gens' := by
          obtain ⟨h1, t1, e1⟩ := S₄.re.same rfl
          obtain ⟨h2, t2, e2⟩ := S₃'.re.same rfl
          rw [e1]; show s₃'.gens = gens'
          rw [e2]
        have kk : ∀ b o, b ∉ L :: mu → h'.get? b = some o → s₄.heap.get? b = some o := fun b o hb e =>
          S₄.cx.base b o (hideAll_get _ (hk₃ b o (fun q => hb (q ▸ .head _)) e) hb)
        have G₄ : GSt prog w A (itF false 0 y.cps.toList) (I :: L :: mu) hB I g (i + 1) s₄ := G₂.frame (fun b o hb e => kk b o (fun hm => hb (.tail _ hm)) e) (fun o e => kk I o hIL e) ge
        refine ⟨(itF false 0 y.cps.toList).length + 1 - (i + 1), by omega, i + 1, m'', X'', rfl, hlt, hj', G₄, S₄t, fun b hb => ?_⟩
        rcases List.mem_cons.mp hb with rfl | hb
        · obtain ⟨o', nm, qn, ho', _⟩ := G₄.1
          rw [ho']; nofun
        rcases List.mem_cons.mp hb with rfl | hb
        · exact S₄.cx.hasL
        · obtain ⟨y', hy', rfl⟩ := (hJ _ _ _ hj').2 b hb
          obtain ⟨o', ho', _⟩ := S₄.cx.facts y' hy'
          rw [ho']; nofun
      · exact ret v m'' X'' s₄ hv S₄t
    · exact done m' X' _ (hi ▸ hj) (stepW h' tk gens' hpr hkb htk hG)
  · rcases List.mem_cons.mp hb with rfl | hb
    · exact hI1
    · intro e
      cases q : s.heap.get? b with
      | none => exact hXs b hb q
      | some o' => rw [hxx.keep b o' q] at e; cases e
  · cases r with
    | ok f => exact hr
    | error e => exact hr.elim
end

/-! ## Texts: parts, length, join -/
def VP (o : Option Int) : VPost := fun v Y => (∃ p : Option (Int × Tok), p.map (·.1) = o ∧ v = partValue p) ∧ Y = []
/-- some texts, with any tokens -/
def TxtsAre (vs : List Value) (xs : List Str) : Prop := StrsAre vs xs

section
variable {prog : Program} {w : World} {A : Around} {g : Bool} {s₀ : Shared} {hB : Heap} {L : Addr} {m : Str → Option Value} {X Y : List Fact} {s s' : Shared} {env : Env}

theorem pu_localS {x : Str} {pos : Pos} {y : Str} {t : Tok} (hv : m x = some (.str y t)) (hL : env.locals = L := by rfl) (hk : env.scope.kind = .function := by rfl) (hl : env.kindOf x = some .local := by rfl)
    (hd : (x == ("__debug__" : Str)) = false := by decide) : Pu prog w A g hB L m X (eval (.Name x pos) env) (VS y) := (pu_local hv hL hk hl hd).mono fun _ _ => Is.toS
theorem pu_localI {x : Str} {pos : Pos} {i : Int} {t : Tok} (hv : m x = some (.int i t)) (hL : env.locals = L := by rfl) (hk : env.scope.kind = .function := by rfl) (hl : env.kindOf x = some .local := by rfl)
    (hd : (x == ("__debug__" : Str)) = false := by decide) : Pu prog w A g hB L m X (eval (.Name x pos) env) (VI i) := (pu_local hv hL hk hl hd).mono fun _ _ => Is.toI
theorem pu_part_none : Pu prog w A g hB L m X (evalPart none env) (VP none) := Pu.pure ⟨⟨none, rfl, rfl⟩, rfl⟩
theorem pu_part_some {e : PySem.Expr} {i : Int} (h : Pu prog w A g hB L m X (eval e env) (VI i)) : Pu prog w A g hB L m X (evalPart (some e) env) (VP (some i)) :=
  (show Pu prog w A g hB L m X (eval e env) (VP (some i)) from h.mono fun v Y ⟨⟨t, e⟩, q⟩ => ⟨⟨some (i, t), rfl, e⟩, q⟩)
theorem slice_post {x : Str} {t : Tok} {l u : Option (Int × Tok)} {Q : Value → Shared → Prop} (hz : x.length ≤ sizeLine)
    (h : ∀ t' tk, s.toks ≤ tk → Q (.str (Txt.slice x (l.map (·.1)) (u.map (·.1))) t') { s with toks := tk }) : (sliceMade x t l u none).post Q s := by
  have hl := Txt.slice_le x (l.map (·.1)) (u.map (·.1))
  unfold sliceMade
  unfold Txt.slice at h hl
  split
  · next c =>
    rw [if_pos (by simpa [slicePicked] using c)] at h
    exact h t s.toks (Nat.le_refl _)
  · next c =>
    rw [if_neg (by simpa [slicePicked] using c)] at h hl
    exact ⟨Nat.le_trans hl hz, h s.toks (s.toks + 1) (Nat.le_succ _)⟩
theorem pu_slice_str {value : PySem.Expr} {lo hi : Option PySem.Expr} {p pos : Pos} {x : Str} {l u : Option Int} (hv : Pu prog w A g hB L m X (eval value env) (VS x)) (hl : Pu prog w A g hB L m X (evalPart lo env) (VP l))
    (hu : Pu prog w A g hB L m X (evalPart hi env) (VP u)) (hz : x.length ≤ sizeLine) (ht : ∀ o r, letTemporaryGo value o r = pure () := by intro _ _; rfl) :
    Pu prog w A g hB L m X (eval (.Subscript value (.Slice lo hi none p) pos) env) (VS (Txt.slice x l u)) := fun s c => by
  refine wpAny_Subscript_str_slice (hv.run c fun v Y s₁ pv f r x₁ c₁ => ?_) ht
  obtain ⟨⟨t, rfl⟩, rfl⟩ := pv
  refine hl.run c₁ fun v Y s₂ pv f r x₂ c₂ => ?_
  obtain ⟨⟨pl, hpl, rfl⟩, rfl⟩ := pv
  refine hu.run c₂ fun v Y s₃ pv f r x₃ c₃ => ?_
  obtain ⟨⟨pu, hpu, rfl⟩, rfl⟩ := pv
  refine ⟨x, t, pl, pu, rfl, rfl, rfl, slice_post hz fun t' tk htk => ⟨[], ⟨⟨t', by rw [hpl, hpu]⟩, rfl⟩, Facts.nil _, Fresh.nil _, (x₁.trans (x₂.trans x₃)).trans ?_⟩⟩
  exact Ex.of (Kp.push _ _) htk

theorem op_len_str {x : Str} {t : Tok} (hz : x.length ≤ 100000) : Pu prog w A g hB L m X (call (.builtin "len") [.str x t]) (VI x.length) := fun s c =>
  P.len_str (by omega) (done_tok ⟨⟨_, rfl⟩, rfl⟩ (Nat.le_trans (Nat.le_succ _) (Nat.le_succ _)))
theorem op_is_none {v : Value} : Pu prog w A g hB L m X (compareOp .Is v .none) (VB (v == .none)) := fun s c => is_none (done_same ⟨rfl, rfl⟩)

theorem op_join {x : Str} {t : Tok} {D : Addr} {xs : Array Value} {ys : List Str} (hD : (D, isL xs) ∈ X) (ha : StrsAre xs.toList ys) (hw : (ys.map (·.length)).sum + ys.length * x.length ≤ 16777216) :
    Pu prog w A g hB L m X (call (.builtin "str.join") [.str x t, .ref D]) (VS (Txt.join x ys)) := fun s c => by
  obtain ⟨o, ho, n, rfl⟩ := c.facts _ hD
  exact wpAny_with_toks (Nat.le_refl s.toks) (join_list ⟨_, ho, rfl, n, rfl⟩ ha hw fun t' k hk => done_tok ⟨⟨t', rfl⟩, rfl⟩ hk)
end

/-! ## _strip_quoted_realnames -/
abbrev SSt := Nat × Option Nat × List Str
def stripStep (x : Str) (st : SSt) (it : Nat × List Nat) : SSt :=
  if it.2 = [34] then
    match st.2.1 with
    | none => (st.1, some it.1, st.2.2)
    | some q => (it.1 + 1, none, if st.1 = q then st.2.2 else st.2.2 ++ [Txt.slice x (some (st.1 : Int)) (some (q : Int))])
  else st
def stripSt (x : Str) : SSt := (itF false 0 x.cps.toList).foldl (stripStep x) (0, none, [])
def stripF (x : Str) : Str :=
  if (Builtin.Str.occurrences x "\"" 0 x.length 1).isEmpty then x
  else Txt.join "" ((stripSt x).2.2 ++ if (stripSt x).1 < x.length then [Txt.slice x (some ((stripSt x).1 : Int)) none] else [])

theorem itF_length : ∀ (l : List Nat) (e : Bool) (p : Nat), (itF e p l).length ≤ l.length + (if e then 1 else 0)
  | [], true, _ => Nat.le_refl _
  | [], false, _ => Nat.le_refl _
  | c :: r, true, p => by
    have := itF_length r false (p + 1)
    simp only [itF, List.length_cons, if_true] at *
    simp at this
    omega
  | c :: r, false, p => by
    unfold itF
    split
    · have := itF_length r true (p + 1)
      simp at *
      omega
    · have := itF_length r false (p + 1)
      simp at *
      omega
theorem strip_weighs (x : Str) : ∀ (its : List (Nat × List Nat)) (st : SSt), (∀ y ∈ st.2.2, y.length ≤ x.length) →
    (∀ y ∈ (its.foldl (stripStep x) st).2.2, y.length ≤ x.length) ∧ (its.foldl (stripStep x) st).2.2.length ≤ st.2.2.length + its.length
  | [], st, h => ⟨h, Nat.le_refl _⟩
  | it :: r, st, h => by
    have h1 : (∀ y ∈ (stripStep x st it).2.2, y.length ≤ x.length) ∧ (stripStep x st it).2.2.length ≤ st.2.2.length + 1 := by
      unfold stripStep
      split
      · split
        · exact ⟨h, Nat.le_succ _⟩
        · refine ⟨fun y hy => ?_, ?_⟩
          · dsimp only at hy
            split at hy
            · exact h y hy
            · rcases List.mem_append.mp hy with hy | hy
              · exact h y hy
              · rw [List.mem_singleton.mp hy]; exact Txt.slice_le _ _ _
          · dsimp only
            split
            · exact Nat.le_succ _
            · rw [List.length_append]; exact Nat.le_refl _
      · exact ⟨h, Nat.le_succ _⟩
    have h2 := strip_weighs x r _ h1.1
    rw [List.foldl_cons, List.length_cons]
    exact ⟨h2.1, by omega⟩
theorem sum_le_mul (n : Nat) : ∀ (l : List Str), (∀ y ∈ l, y.length ≤ n) → (l.map (·.length)).sum ≤ l.length * n
  | [], _ => Nat.zero_le _
  | y :: r, h => by
    have h1 := sum_le_mul n r fun z hz => h z (.tail _ hz)
    have h2 := h y (.head _)
    rw [List.map_cons, List.sum_cons, List.length_cons, Nat.succ_mul]
    omega
theorem StrsAre.snoc {vs : List Value} {ys : List Str} (h : StrsAre vs ys) (y : Str) (t : Tok) : StrsAre (vs ++ [.str y t]) (ys ++ [y]) := by
  induction h with
  | nil => exact .cons y t .nil
  | cons z u _ ih => exact .cons z u ih
theorem StrsAre.len {vs : List Value} {ys : List Str} (h : StrsAre vs ys) : vs.length = ys.length := by
  induction h with
  | nil => rfl
  | cons z u _ ih => rw [List.length_cons, List.length_cons, ih]

theorem mkS_inj {a b : List Nat} : mkS a = mkS b ↔ a = b := ⟨fun h => by injection h with h; injection h, fun h => by rw [h]⟩
theorem mkS_toList (x : Str) : mkS x.cps.toList = x := by obtain ⟨⟨a⟩⟩ := x; rfl
theorem mkS_length (l : List Nat) : (mkS l).length = l.length := by show l.toArray.size = _; simp
theorem fold_snoc {α β : Type} {f : β → α → β} {l : List α} {a b : β} {i : Nat} {y : α} (hb : (l.take i).foldl f a = b) (h : l[i]? = some y) : (l.take (i + 1)).foldl f a = f b y := by
  rw [List.take_add_one, List.foldl_append, hb, h]; rfl

def bdIf : Stmt → List Stmt | .If _ b .. => b | _ => []
def orOf : Stmt → List Stmt | .If _ _ o .. => o | _ => []

/-! ## The module -/
structure Ad where
  (it st ck pp rp es un ba pl ta wr : Addr)
/-- a def with one default: the empty dict -/
def FnD (h : Heap) (st : Stmt) (a : Addr) : Prop :=
  ∃ o pm cd doc tu d n1 n2 ot, h.get? a = some o ∧ o.data = .func { docDef (nmOf st) (psOf st) (bdOf st) (scOf st) pm cd doc with defaults := .ref tu } ∧ h.CodeRec cd (nmOf st) ∧
    h.get? tu = some ot ∧ ot.data = .seq #[.ref d] n1 ∧ h.get? d = some { cls := .type "dict", data := .dict #[] n2 } ∧ d ≠ sysModules
theorem FnD.keep {h h' : Heap} {st : Stmt} {a : Addr} (f : FnD h st a) (k : Kp h h') : FnD h' st a := by
  obtain ⟨o, pm, cd, doc, tu, d, n1, n2, ot, ho, hd, ⟨c, oc, vs, t, e, g, r⟩, htu, hot, hdd, hne⟩ := f
  exact ⟨o, pm, cd, doc, tu, d, n1, n2, ot, k _ _ ho, hd, ⟨c, oc, vs, t, e, k _ _ g, r⟩, k _ _ htu, hot, k _ _ hdd, hne⟩
structure Md (ad : Ad) (mg mb : Str → Option Value) (h : Heap) : Prop where
  W : Wo mg mb h
  fit : FnAt h (stAt 1) ad.it
  fst : FnAt h (stAt 2) ad.st
  fck : FnAt h (stAt 3) ad.ck
  fpp : FnAt h (stAt 4) ad.pp
  frp : FnAt h (stAt 6) ad.rp
  fes : FnD h (stAt 7) ad.es
  fun' : FnD h (stAt 8) ad.un
  fba : FnAt h (stAt 10) ad.ba
  fpl : FnAt h (stAt 11) ad.pl
  fta : FnAt h (stAt 12) ad.ta
  fwr : FnAt h (stAt 13) ad.wr
  nit : mg "_iter_escaped_chars" = some (.ref ad.it)
  nst : mg "_strip_quoted_realnames" = some (.ref ad.st)
  nck : mg "_check_parenthesis" = some (.ref ad.ck)
  npp : mg "_pre_parse_validation" = some (.ref ad.pp)
  nrp : mg "dict_replace_saxutils" = some (.ref ad.rp)
  nes : mg "escape" = some (.ref ad.es)
  nun : mg "unescape" = some (.ref ad.un)
  nba : mg "_law_bare" = some (.ref ad.ba)
  npl : mg "_law_places" = some (.ref ad.pl)
  nta : mg "_law_taken" = some (.ref ad.ta)
  nwr : mg "_law_written" = some (.ref ad.wr)
  g_enumerate : mg "enumerate" = none
  g_len : mg "len" = none
  g_range : mg "range" = none
  g_list : mg "list" = none
  g_dict : mg "dict" = none
  g_chr : mg "chr" = none
  b_enumerate : mb "enumerate" = some (.type "enumerate")
  b_len : mb "len" = some (.builtin "len")
  b_range : mb "range" = some (.type "range")
  b_list : mb "list" = some (.type "list")
  b_dict : mb "dict" = some (.type "dict")
  b_chr : mb "chr" = some (.builtin "chr")
theorem Md.keep {ad : Ad} {mg mb : Str → Option Value} {h h' : Heap} (M : Md ad mg mb h) (k : Kp h h') : Md ad mg mb h' :=
  { M with W := M.W.keep k, fit := M.fit.keep k, fst := M.fst.keep k, fck := M.fck.keep k, fpp := M.fpp.keep k, frp := M.frp.keep k, fes := M.fes.keep k, fun' := M.fun'.keep k,
           fba := M.fba.keep k, fpl := M.fpl.keep k, fta := M.fta.keep k, fwr := M.fwr.keep k }
theorem FnAt.func {h : Heap} {st : Stmt} {a : Addr} (f : FnAt h st a) : ∃ o fd, h.get? a = some o ∧ o.data = .func fd := by
  obtain ⟨o, pm, cd, doc, ho, hd, _⟩ := f
  exact ⟨o, _, ho, hd⟩
theorem FnD.func {h : Heap} {st : Stmt} {a : Addr} (f : FnD h st a) : ∃ o fd, h.get? a = some o ∧ o.data = .func fd := by
  obtain ⟨o, pm, cd, doc, tu, d, n1, n2, ot, ho, hd, _⟩ := f
  exact ⟨o, _, ho, hd⟩

section
variable {prog : Program} {w : World} {A : Around} {s : Shared}
set_option maxHeartbeats 4000000 in
theorem spec_strip {ad : Ad} {mg mb : Str → Option Value} {x : Str} {t : Tok} (M : Md ad mg mb s.heap) (r : Rm A 4) (ht : 1 ≤ s.toks) (hx : x.length ≤ 3000) :
    Ret prog w A true (.ref ad.st) [.str x t] (VS (stripF x)) s := by
  refine enter_plain (X := []) (binds := [("addr", .str x t)]) M.fst M.W r ht (Facts.nil _) (fun _ _ _ => rfl) (by simp only [List.forall_mem_cons]; exact ⟨rfl, fun _ h => nomatch h⟩) fun cd s₁ S₁ => ?_
  have rd : Rm (A.deeper (envOf (nmOf (stAt 2)) (scOf (stAt 2)) s.heap.objs.size ad.st cd)) 3 := r.deeper
  unfold stripF
  refine wpAny_execs_cons (x_if (b := (Builtin.Str.occurrences x "\"" 0 x.length 1).isEmpty) S₁ (pu_isTrue_Compare pu_str (pu_local (by rfl)) fun u v Y Z p q => ?_) (fun s₂ hq S₂ => ?_) (fun s₂ hq S₂ => ?_))
  · obtain ⟨⟨u₁, rfl⟩, rfl⟩ := p
    obtain ⟨rfl, rfl⟩ := q
    exact op_notIn_str
  · rw [if_pos hq]
    refine wpAny_execs_cons (x_return S₂ (pu_local (by rfl)) fun v Y s₃ pv hn S₃ => ?_)
    obtain ⟨rfl, rfl⟩ := pv
    exact ⟨_, rfl, S₃.lex ⟨⟨t, rfl⟩, rfl⟩ (Facts.nil _) (Fresh.nil _)⟩
  · rw [hq, if_neg Bool.false_ne_true]
    refine wpAny_execs_nil ?_
    refine wpAny_execs_cons (x_assign S₂ pu_int fun v Y s₃ pv hn S₃ => ?_)
    obtain ⟨⟨t₁, rfl⟩, rfl⟩ := pv
    refine wpAny_execs_cons (x_assign S₃ pu_none fun v Y s₄ pv hn S₄ => ?_)
    obtain ⟨rfl, rfl⟩ := pv
    refine wpAny_execs_cons (x_assign S₄ pu_List_nil fun v Y s₅ pv hn S₅ => ?_)
    obtain ⟨D, rfl, rfl⟩ := pv
    have hD := (hn _ (.head _)).1
    have hDs : s₅.heap.get? D ≠ none := by
      obtain ⟨o, ho, _⟩ := S₅.cx.facts (D, isL #[]) (.head _)
      rw [ho]; nofun
    refine wpAny_execs_cons (x_for_gen (mu := [D]) rd.hd (by have := rd.dp; omega) S₅ M.W M.g_enumerate M.b_enumerate M.fit (pu_global M.W M.nit) ((pu_local (by rfl)).mono fun _ _ => Is.toS) (by show x.length ≤ 100000; omega)
      (fun b hb => by rw [List.mem_singleton.mp hb]; exact ⟨hD, hDs⟩)
      (fun i m' X' => ∃ st : SSt, ((itF false 0 x.cps.toList).take i).foldl (stripStep x) (0, none, []) = st ∧ (∃ t, m' "start" = some (.int (st.1 : Nat) t)) ∧
        (match st.2.1 with | none => m' "open_pos" = some .none | some q => ∃ t, m' "open_pos" = some (.int (q : Nat) t)) ∧ m' "result" = some (.ref D) ∧ m' "addr" = some (.str x t) ∧
        ∃ xs : Array Value, StrsAre xs.toList st.2.2 ∧ X' = [(D, isL xs)])
      (fun _ => False) ⟨[(D, isL #[])], ?_, _, rfl, ⟨t₁, rfl⟩, rfl, rfl, rfl, #[], .nil, rfl⟩ ?_ ?_ ?_ (fun v m' X' s' h _ => h.elim) rfl)
    · intro y hy
      exact List.mem_append_left _ hy
    · rintro i m' X' ⟨st, _, _, _, _, _, xs, _, rfl⟩
      exact ⟨fun y hy => by rw [List.mem_singleton.mp hy]; exact .head _, fun b hb => ⟨_, .head _, (List.mem_singleton.mp hb).symm⟩⟩
    · rintro i p z t₂ u₂ m' X' hB' s₆ hit ⟨st, hst, ⟨t₃, ms⟩, mo, mr, ma, xs, hxs, rfl⟩ hkB hmu S₆
      have hsn : ((itF false 0 x.cps.toList).take (i + 1)).foldl (stripStep x) (0, none, []) = stripStep x st (p, z) := fold_snoc hst hit
      have hq : decide (mkS z = Str.ofString "\"") = decide (z = [34]) := decide_eq_decide.mpr (mkS_inj (b := [34]))
      have hxl : st.2.2.length ≤ 6000 := by
        have h1 := (strip_weighs x ((itF false 0 x.cps.toList).take i) (0, none, []) (fun _ h => nomatch h)).2
        have h2 := itF_length x.cps.toList false 0
        have h3 : ((itF false 0 x.cps.toList).take i).length ≤ (itF false 0 x.cps.toList).length := List.length_take_le' ..
        have h4 : x.cps.toList.length = x.length := rfl
        rw [hst] at h1
        simp at h1 h2 h3 h4
        omega
      refine wpAny_execs_cons (x_if (b := decide (z = [34])) S₆ (pu_isTrue_Compare (pu_local (by rfl)) pu_str fun u v Y Z p q => ?_) (fun s₇ hz S₇ => ?_) (fun s₇ hz S₇ => wpAny_execs_nil (wpAny_execs_nil ?_)))
      · obtain ⟨rfl, rfl⟩ := p
        obtain ⟨⟨u₁, rfl⟩, rfl⟩ := q
        rw [← hq]
        exact op_eq_str
      · have hz := of_decide_eq_true hz
        subst hz
        obtain ⟨sa, so, sr⟩ := st
        cases so with
        | none =>
          have mo : m' "open_pos" = some .none := mo
          refine wpAny_execs_cons (x_if (b := true) S₇ (pu_isTrue_Compare (pu_local mo) pu_none fun u v Y Z p q => ?_) (fun s₈ _ S₈ => ?_) (fun s₈ h S₈ => nomatch h))
          · obtain ⟨rfl, rfl⟩ := p
            obtain ⟨rfl, rfl⟩ := q
            exact op_is_none (v := .none)
          · refine wpAny_execs_cons (x_assign S₈ (pu_local (by rfl)) fun v Y s₉ pv hn S₉ => ?_)
            obtain ⟨rfl, rfl⟩ := pv
            refine wpAny_execs_nil (wpAny_execs_nil (wpAny_execs_nil ?_))
            refine ⟨_, _, S₉, .inl ⟨rfl, _, hsn, ⟨t₃, ms⟩, ⟨t₂, rfl⟩, mr, ma, xs, hxs, rfl⟩⟩
        | some q =>
          obtain ⟨t₄, mo⟩ : ∃ t, m' "open_pos" = some (.int (q : Nat) t) := mo
          refine wpAny_execs_cons (x_if (b := false) S₇ (pu_isTrue_Compare (pu_local mo) pu_none fun u v Y Z p q => ?_) (fun s₈ h S₈ => nomatch h) (fun s₈ _ S₈ => ?_))
          · obtain ⟨rfl, rfl⟩ := p
            obtain ⟨rfl, rfl⟩ := q
            exact op_is_none (v := .int _ _)
          · have hxs' : xs.size ≤ sizeLine := by
              have h1 := StrsAre.len hxs
              have h2 : (6000 : Nat) ≤ sizeLine := by decide
              simp at h1 hxl
              omega
            have fin : ∀ (s₉ : Shared) (xs' : Array Value) (sr' : List Str), StrsAre xs'.toList sr' → (stripStep x (sa, some q, sr) (p, [34])).2.2 = sr' →
                Sx false s₆ hB' s.heap.objs.size (upd (upd m' "pos" (.int (p : Nat) t₂)) "ch" (.str (mkS [34]) u₂)) [(D, isL xs')] s₉ →
                wpAny (model prog w) (A.deeper (envOf (nmOf (stAt 2)) (scOf (stAt 2)) s.heap.objs.size ad.st cd)) (execs [nth (orOf (nth (bdIf (nth (forB (nth (bdOf (stAt 2)) 4)) 0)) 0)) 1, nth (orOf (nth (bdIf (nth (forB (nth (bdOf (stAt 2)) 4)) 0)) 0)) 2] (envOf (nmOf (stAt 2)) (scOf (stAt 2)) s.heap.objs.size ad.st cd))
                  (fun f s'' => f = .next ∧ ∃ m'' X'', Sx false s₆ hB' s.heap.objs.size m'' X'' s'' ∧ ∃ st : SSt, ((itF false 0 x.cps.toList).take (i + 1)).foldl (stripStep x) (0, none, []) = st ∧ (∃ t, m'' "start" = some (.int (st.1 : Nat) t)) ∧
                    (match st.2.1 with | none => m'' "open_pos" = some .none | some q => ∃ t, m'' "open_pos" = some (.int (q : Nat) t)) ∧ m'' "result" = some (.ref D) ∧ m'' "addr" = some (.str x t) ∧
                    ∃ xs : Array Value, StrsAre xs.toList st.2.2 ∧ X'' = [(D, isL xs)]) (fun _ _ => False) s₉ := by
              intro s₉ xs' sr' h1 h2 S₉
              refine wpAny_execs_cons (x_assign S₉ (pu_BinOp (Ψ := VI ((p : Int) + 1)) (pu_local (by rfl)) pu_int fun a b Y Z p q => ?_) fun v Y s₁₀ pv hn S₁₀ => ?_)
              · obtain ⟨rfl, rfl⟩ := p
                obtain ⟨⟨u, rfl⟩, rfl⟩ := q
                exact op_add_int
              obtain ⟨⟨t₅, rfl⟩, rfl⟩ := pv
              refine wpAny_execs_cons (x_assign S₁₀ pu_none fun v Y s₁₁ pv hn S₁₁ => wpAny_execs_nil ?_)
              obtain ⟨rfl, rfl⟩ := pv
              exact ⟨rfl, _, _, S₁₁, _, hsn, ⟨t₅, rfl⟩, rfl, mr, ma, xs', by rw [h2]; exact h1, rfl⟩
            refine wpAny_execs_cons (x_if (b := ((sa : Int) != (q : Int))) S₈ (pu_isTrue_Compare (pu_local ms) (pu_local mo) fun u v Y Z p q => ?_) (fun s₉ hne S₉ => ?_) (fun s₉ heq S₉ => wpAny_execs_nil ?_))
            · obtain ⟨rfl, rfl⟩ := p
              obtain ⟨rfl, rfl⟩ := q
              exact op_ne_int
            · have hne' : ¬ sa = q := fun e => by rw [e] at hne; simp at hne
              refine wpAny_execs_cons (x_append S₉ (hmu D (.head _)) (fun _ h => nomatch h) hxs' (pu_local mr) (pu_slice_str (pu_localS ma) (pu_part_some (pu_localI ms)) (pu_part_some (pu_localI mo))
                (Nat.le_trans hx (by decide))) fun v Y s₁₀ pv hn S₁₀ => wpAny_execs_nil ?_)
              obtain ⟨⟨t₆, rfl⟩, rfl⟩ := pv
              refine wpAny_mono (fin s₁₀ _ (sr ++ [Txt.slice x (some (sa : Int)) (some (q : Int))]) (by rw [Array.toList_push]; exact StrsAre.snoc hxs _ _) (by rw [stripStep, if_pos rfl]; show (if sa = q then _ else _) = _; rw [if_neg hne']) S₁₀) (fun f s'' h => ?_) fun _ _ e => e
              obtain ⟨rfl, m'', X'', S'', j⟩ := h
              exact wpAny_execs_nil (wpAny_execs_nil ⟨m'', X'', S'', .inl ⟨rfl, j⟩⟩)
            · have heq' : sa = q := Int.ofNat_inj.mp (by simpa using heq)
              refine wpAny_mono (fin s₉ xs sr hxs (by rw [stripStep, if_pos rfl]; show (if sa = q then _ else _) = _; rw [if_pos heq']) S₉) (fun f s'' h => ?_) fun _ _ e => e
              obtain ⟨rfl, m'', X'', S'', j⟩ := h
              exact wpAny_execs_nil (wpAny_execs_nil ⟨m'', X'', S'', .inl ⟨rfl, j⟩⟩)
      · refine ⟨_, _, S₇, .inl ⟨rfl, st, ?_, ⟨t₃, ms⟩, mo, mr, ma, xs, hxs, rfl⟩⟩
        rw [hsn, stripStep, if_neg (of_decide_eq_false hz)]
    · rintro m' X' s₆ ⟨st, hst, ⟨t₃, ms⟩, mo, mr, ma, xs, hxs, rfl⟩ S₆
      have hst' : stripSt x = st := by rw [← hst, List.take_length]; rfl
      rw [hst']
      have hw := strip_weighs x (itF false 0 x.cps.toList) (0, none, []) (fun _ h => nomatch h)
      rw [show (itF false 0 x.cps.toList).foldl (stripStep x) (0, none, []) = st from hst'] at hw
      have hl : st.2.2.length ≤ 3000 := by
        have h1 := hw.2
        have h2 := itF_length x.cps.toList false 0
        have h4 : x.cps.toList.length = x.length := rfl
        simp at h1 h2 h4
        omega
      have fin : ∀ (s₉ : Shared) (xs' : Array Value) (sr' : List Str), StrsAre xs'.toList sr' → (∀ y ∈ sr', y.length ≤ x.length) → sr'.length ≤ 3001 → sr' = st.2.2 ++ (if st.1 < x.length then [Txt.slice x (some (st.1 : Int)) none] else []) →
          Sx true s s.heap s.heap.objs.size m' [(D, isL xs')] s₉ →
          wpAny (model prog w) (A.deeper (envOf (nmOf (stAt 2)) (scOf (stAt 2)) s.heap.objs.size ad.st cd)) (execs [nth (bdOf (stAt 2)) 6] (envOf (nmOf (stAt 2)) (scOf (stAt 2)) s.heap.objs.size ad.st cd))
            (Ends true s (VS (Txt.join "" (st.2.2 ++ if st.1 < x.length then [Txt.slice x (some (st.1 : Int)) none] else [])))) (fun _ _ => False) s₉ := by
        intro s₉ xs' sr' h1 h2 h3 h4 S₉
        refine wpAny_execs_cons (x_return S₉ (Φ := VS (Txt.join "" sr')) ?_ fun v Y s₁₀ pv hn S₁₀ => ?_)
        · refine pu_Method (T := "str") (id := "str.join") (Φ := VS "") (Ψ₀ := PCons (Is (.ref D)) PNil) rfl F.plainAttrs_str F.slot_str_join F.type_str_join pu_str (fun ov Y s p c => ?_) (pu_spl_cons (pu_local mr) pu_spl_nil) (fun ov vs Y Z p q => ?_)
          · obtain ⟨⟨t, rfl⟩, rfl⟩ := p
            exact ⟨typeIs_str _ _ _, fun a h => nomatch h⟩
          · obtain ⟨⟨u₁, rfl⟩, rfl⟩ := p
            obtain ⟨v, vs', Y₁, Y₂, rfl, rfl, ⟨rfl, rfl⟩, rfl, rfl⟩ := q
            refine (op_join (.head _) h1 ?_).mono fun _ _ h => Of.new h
            have h5 := sum_le_mul x.length sr' h2
            have h6 : sr'.length * x.length ≤ 3001 * 3000 := Nat.mul_le_mul h3 hx
            show _ + sr'.length * 0 ≤ _
            omega
        · obtain ⟨⟨t, rfl⟩, rfl⟩ := pv
          exact ⟨_, rfl, S₁₀.lex (Y := []) ⟨⟨t, by rw [h4]⟩, rfl⟩ (Facts.nil _) (Fresh.nil _)⟩
      refine wpAny_execs_cons (x_if (b := decide (((st.1 : Nat) : Int) < (x.length : Int))) S₆ (pu_isTrue_Compare (Φ₂ := VI x.length) (pu_local ms) ?_ fun u v Y Z p q => ?_) (fun s₇ hlt S₇ => ?_) (fun s₇ hge S₇ => wpAny_execs_nil ?_))
      · refine pu_Call_builtin rfl (pu_builtin M.W M.g_len M.b_len) (pu_spl_cons (pu_local ma) pu_spl_nil) fun vs Y p => ?_
        obtain ⟨v, vs', Y₁, Y₂, rfl, rfl, ⟨rfl, rfl⟩, rfl, rfl⟩ := p
        exact (op_len_str (by omega)).mono fun _ _ h => Of.new h
      · obtain ⟨rfl, rfl⟩ := p
        obtain ⟨⟨t, rfl⟩, rfl⟩ := q
        exact op_lt_int
      · have hlt' : st.1 < x.length := by have := of_decide_eq_true hlt; omega
        refine wpAny_execs_cons (x_append S₇ hD (fun _ h => nomatch h) ?_ (pu_local mr) (pu_slice_str (pu_localS ma) (pu_part_some (pu_localI ms)) pu_part_none (Nat.le_trans hx (by decide))) fun v Y s₈ pv hn S₈ => wpAny_execs_nil ?_)
        · have h1 := StrsAre.len hxs
          have h2 : (6000 : Nat) ≤ sizeLine := by decide
          simp at h1 hl
          omega
        obtain ⟨⟨t₆, rfl⟩, rfl⟩ := pv
        refine fin s₈ _ (st.2.2 ++ [Txt.slice x (some (st.1 : Int)) none]) (by rw [Array.toList_push]; exact StrsAre.snoc hxs _ _) (fun y hy => ?_) (by rw [List.length_append]; exact Nat.succ_le_succ hl) (by rw [if_pos hlt']) S₈
        rcases List.mem_append.mp hy with hy | hy
        · exact hw.1 y hy
        · rw [List.mem_singleton.mp hy]; exact Txt.slice_le _ _ _
      · have hge' : ¬ st.1 < x.length := by have := of_decide_eq_false hge; omega
        exact fin s₇ xs st.2.2 hxs hw.1 (by omega) (by rw [if_neg hge', List.append_nil]) S₇
end

section
variable {prog : Program} {w : World} {A : Around} {g : Bool} {s₀ : Shared} {hB : Heap} {L : Addr} {m : Str → Option Value} {X Y : List Fact} {s s' : Shared} {env : Env}
theorem x_aug {x : Str} {p pos : Pos} {op : Operator} {e : PySem.Expr} {v0 : Value} {E : Value → Shared → Prop} {Q : Flow → Shared → Prop} {Φ Ψ : VPost} (S : Sx g s₀ hB L m X s) (hv : m x = some v0) (he : Pu prog w A g hB L m X (eval e env) Φ)
    (hop : ∀ b Y, Φ b Y → Pu prog w A g hB L m (Y ++ X) (inplaceOp op v0 b) Ψ) (k : ∀ v Z s', Ψ v Z → Sx g s₀ hB L (upd m x v) (Z ++ X) s' → Q .next s') (hL : env.locals = L := by rfl) (hkd : env.scope.kind = .function := by rfl)
    (hl : env.kindOf x = some .local := by rfl) (hp : (env.scope.kind == .class || (env.scope.kind == .module && env.locals != env.globals)) = false := by rfl) :
    wpAny (model prog w) A (exec (.AugAssign (.Name x p) op e pos) env) Q E s := by
  refine wpAny_AugAssign_Name (wpAny_loadName_local hkd hl (hL ▸ S.cx.ns) hv ?_)
  refine he.run S.cx fun b Y s₁ pb f r x₁ c₁ => ?_
  have S₁ := S.grow x₁ f r
  refine (hop b Y pb).run c₁ fun v Z s₂ pv f₂ r₂ x₂ c₂ => ?_
  have S₂ := S₁.grow x₂ f₂ r₂
  exact sx_store (S₂.less (Y := Z ++ X) fun y hy => (List.mem_append.mp hy).elim (fun h => List.mem_append_left _ h) (fun h => List.mem_append_right _ (List.mem_append_right _ h))) (fun s' S' => k v Z s' pv S') hL hl hp
end

/-! ## _check_parenthesis -/
def checkGo : Int → List (Nat × List Nat) → Bool
  | o, [] => o == 0
  | o, it :: r => if it.2 = [40] then checkGo (o + 1) r else if it.2 = [41] then (if o - 1 < 0 then false else checkGo (o - 1) r) else checkGo o r
def checkF (x : Str) : Bool := checkGo 0 (itF false 0 (stripF x).cps.toList)

section
variable {prog : Program} {w : World} {A : Around} {g : Bool} {s : Shared}
theorem Ret.mono {f : Value} {vals : List Value} {Φ Ψ : VPost} (h : Ret prog w A g f vals Φ s) (hi : ∀ v Y, Φ v Y → Ψ v Y) : Ret prog w A g f vals Ψ s :=
  wpAny_mono h (fun v s' ⟨Y, p, q⟩ => ⟨Y, hi v Y p, q⟩) fun _ _ e => e
theorem Ret.weak {f : Value} {vals : List Value} {Φ : VPost} (h : Ret prog w A g f vals Φ s) : Ret prog w A true f vals Φ s :=
  wpAny_mono h (fun v s' ⟨Y, p, q, r, x⟩ => ⟨Y, p, q, r, x.weak⟩) fun _ _ e => e

theorem spec_check {ad : Ad} {mg mb : Str → Option Value} {x : Str} {t : Tok} (M : Md ad mg mb s.heap) (r : Rm A 5) (ht : 1 ≤ s.toks) (hx : x.length ≤ 3000) (hs : (stripF x).length ≤ 100000) :
    Ret prog w A true (.ref ad.ck) [.str x t] (VB (checkF x)) s := by
  refine enter_plain (X := []) (binds := [("addr", .str x t)]) M.fck M.W r ht (Facts.nil _) (fun _ _ _ => rfl) (by simp only [List.forall_mem_cons]; exact ⟨rfl, fun _ h => nomatch h⟩) fun cd s₁ S₁ => ?_
  have rd : Rm (A.deeper (envOf (nmOf (stAt 3)) (scOf (stAt 3)) s.heap.objs.size ad.ck cd)) 4 := r.deeper
  refine wpAny_execs_cons (x_assign (Φ := VS (stripF x)) S₁ ?_ fun v Y s₂ pv hn S₂ => ?_)
  · refine pu_Call_fun rfl (pu_global M.W M.nst) M.fst.func (pu_spl_cons (pu_local (by rfl)) pu_spl_nil) fun vs Y s₂ p c => ?_
    obtain ⟨v, vs', Y₁, Y₂, rfl, rfl, ⟨rfl, rfl⟩, rfl, rfl⟩ := p
    exact (spec_strip (M.keep c.base) rd c.tok hx).mono fun _ _ h => Of.new h
  obtain ⟨⟨t₁, rfl⟩, rfl⟩ := pv
  refine wpAny_execs_cons (x_assign S₂ pu_int fun v Y s₃ pv hn S₃ => ?_)
  obtain ⟨⟨t₂, rfl⟩, rfl⟩ := pv
  refine wpAny_execs_cons (x_for_gen (mu := []) rd.hd (by have := rd.dp; omega) S₃ M.W M.g_enumerate M.b_enumerate M.fit (pu_global M.W M.nit) (pu_localS (by rfl)) hs (fun b hb => nomatch hb)
    (fun i m' X' => ∃ o : Int, checkGo o ((itF false 0 (stripF x).cps.toList).drop i) = checkF x ∧ (∃ t, m' "opens" = some (.int o t)) ∧ X' = [])
    (fun v => v = .bool false ∧ checkF x = false) ⟨[], (fun _ h => nomatch h), 0, rfl, ⟨t₂, rfl⟩, rfl⟩ ?_ ?_ ?_ (fun v m' X' s' h S' => ?_) rfl)
  · rintro i m' X' ⟨o, _, _, rfl⟩
    exact ⟨fun y hy => (nomatch hy), fun b hb => (nomatch hb)⟩
  · rintro i p z t₂ u₂ m' X' hB' s₆ hit ⟨o, ho, ⟨t₃, mo⟩, rfl⟩ hkB hmu S₆
    have hd : (itF false 0 (stripF x).cps.toList).drop i = (p, z) :: (itF false 0 (stripF x).cps.toList).drop (i + 1) := by
      obtain ⟨h1, h2⟩ := List.getElem?_eq_some_iff.mp hit
      rw [List.drop_eq_getElem_cons h1, h2]
    rw [hd] at ho
    have hq1 : decide (mkS z = Str.ofString "(") = decide (z = [40]) := decide_eq_decide.mpr (mkS_inj (b := [40]))
    have hq2 : decide (mkS z = Str.ofString ")") = decide (z = [41]) := decide_eq_decide.mpr (mkS_inj (b := [41]))
    refine wpAny_execs_cons (x_if (b := decide (z = [40])) S₆ (pu_isTrue_Compare (pu_local (by rfl)) pu_str fun u v Y Z p q => ?_) (fun s₇ hz S₇ => ?_) (fun s₇ hz S₇ => ?_))
    · obtain ⟨rfl, rfl⟩ := p
      obtain ⟨⟨u₁, rfl⟩, rfl⟩ := q
      rw [← hq1]
      exact op_eq_str
    · have hz := of_decide_eq_true hz
      rw [checkGo, if_pos hz] at ho
      refine wpAny_execs_cons (x_aug (Ψ := VI (o + 1)) S₇ (show upd _ _ _ _ = some (.int o t₃) from mo) pu_int (fun b Y p => ?_) fun v Z s₈ pv S₈ => wpAny_execs_nil (wpAny_execs_nil ?_))
      · obtain ⟨⟨t, rfl⟩, rfl⟩ := p
        exact op_iadd_int
      · obtain ⟨⟨t, rfl⟩, rfl⟩ := pv
        exact ⟨_, _, S₈, .inl ⟨rfl, _, ho, ⟨t, rfl⟩, rfl⟩⟩
    · have hz := of_decide_eq_false hz
      rw [checkGo, if_neg hz] at ho
      refine wpAny_execs_cons (x_if (b := decide (z = [41])) S₇ (pu_isTrue_Compare (pu_local (by rfl)) pu_str fun u v Y Z p q => ?_) (fun s₈ hz S₈ => ?_) (fun s₈ hz S₈ => wpAny_execs_nil (wpAny_execs_nil (wpAny_execs_nil ?_))))
      · obtain ⟨rfl, rfl⟩ := p
        obtain ⟨⟨u₁, rfl⟩, rfl⟩ := q
        rw [← hq2]
        exact op_eq_str
      · have hz := of_decide_eq_true hz
        rw [if_pos hz] at ho
        refine wpAny_execs_cons (x_aug (Ψ := VI (o - 1)) S₈ (show upd _ _ _ _ = some (.int o t₃) from mo) pu_int (fun b Y p => ?_) fun v Z s₉ pv S₉ => ?_)
        · obtain ⟨⟨t, rfl⟩, rfl⟩ := p
          exact op_isub_int
        obtain ⟨⟨t, rfl⟩, rfl⟩ := pv
        refine wpAny_execs_cons (x_if (b := decide (o - 1 < 0)) S₉ (pu_isTrue_Compare (pu_localI (by rfl)) pu_int fun u v Y Z p q => ?_) (fun s₁₀ hz S₁₀ => ?_) (fun s₁₀ hz S₁₀ => wpAny_execs_nil (wpAny_execs_nil (wpAny_execs_nil (wpAny_execs_nil ?_)))))
        · obtain ⟨⟨t, rfl⟩, rfl⟩ := p
          obtain ⟨⟨t, rfl⟩, rfl⟩ := q
          exact op_lt_int
        · rw [if_pos (of_decide_eq_true hz)] at ho
          refine wpAny_execs_cons (x_return S₁₀ pu_bool fun v Y s₁₁ pv hn S₁₁ => ?_)
          obtain ⟨rfl, rfl⟩ := pv
          exact ⟨_, _, S₁₁, .inr ⟨_, rfl, rfl, ho.symm⟩⟩
        · rw [if_neg (of_decide_eq_false hz)] at ho
          exact ⟨_, _, S₁₀, .inl ⟨rfl, _, ho, ⟨t, rfl⟩, rfl⟩⟩
      · have hz := of_decide_eq_false hz
        rw [if_neg hz] at ho
        exact ⟨_, _, S₈, .inl ⟨rfl, o, ho, ⟨t₃, mo⟩, rfl⟩⟩
  · rintro m' X' s₆ ⟨o, ho, ⟨t₃, mo⟩, rfl⟩ S₆
    refine wpAny_execs_cons (x_return S₆ (pu_Compare (Ψ := VB (checkF x)) (pu_localI mo) pu_int fun u v Y Z p q => ?_) fun v Y s₇ pv hn S₇ => ?_)
    · obtain ⟨⟨t, rfl⟩, rfl⟩ := p
      obtain ⟨⟨t, rfl⟩, rfl⟩ := q
      rw [← ho, List.drop_length]
      exact op_eq_int
    · obtain ⟨rfl, rfl⟩ := pv
      exact ⟨_, rfl, S₇.lex (Y := []) ⟨rfl, rfl⟩ (Facts.nil _) (Fresh.nil _)⟩
  · obtain ⟨rfl, hc⟩ := h
    exact ⟨_, rfl, S'.lex (Y := []) ⟨by rw [hc], rfl⟩ (Facts.nil _) (Fresh.nil _)⟩
end

/-! ## for x in <list>, _pre_parse_validation -/
def VSL (ys : List Str) : VPost := fun v Y => ∃ D zs, v = .ref D ∧ StrsAre (zs : Array Value).toList ys ∧ Y = [(D, isL zs)]

section
variable {prog : Program} {w : World} {A : Around} {g : Bool} {s₀ : Shared} {hB : Heap} {L : Addr} {m : Str → Option Value} {X Y : List Fact} {s s' : Shared} {env : Env}
theorem x_for_list {x : Str} {px pos : Pos} {iter : PySem.Expr} {body : List Stmt} {mu : List Addr} {ax : Addr} {xs : Array Value} {E : Value → Shared → Prop} {Q : Flow → Shared → Prop} (hh : A.handled = none)
    (S : Sx g s₀ hB L m X s) (he : Pu prog w A g hB L m X (eval iter env) (Is (.ref ax))) (hax : (ax, isL xs) ∈ X) (haxm : ax ∉ mu) (hmut : ∀ a ∈ mu, hB.get? a = none ∧ s.heap.get? a ≠ none)
    (J : Nat → (Str → Option Value) → List Fact → Prop) (h0 : J 0 m X) (hJ : ∀ i m' X', J i m' X' → ∀ y ∈ X', ∃ z ∈ X, y.1 = z.1)
    (turn : ∀ i v m' X' hB' s', xs[i]? = some v → J i m' X' → Kp hB hB' → (∀ a ∈ mu, hB'.get? a = none) → Sx g s₀ hB' L (upd m' x v) X' s' →
      wpAny (model prog w) A (execs body env) (fun f s'' => f = .next ∧ ∃ m'' X'', J (i + 1) m'' X'' ∧ Sx g s₀ hB' L m'' X'' s'') (fun _ _ => False) s')
    (k : ∀ m' X' s', J xs.size m' X' → Sx g s₀ hB L m' X' s' → Q .next s') (hL : env.locals = L := by rfl)
    (hl : env.kindOf x = some .local := by rfl) (hp : (env.scope.kind == .class || (env.scope.kind == .module && env.locals != env.globals)) = false := by rfl)
    (hs : ∀ x, foldedSetIterable iter env x = pure x := by intro _; rfl) :
    wpAny (model prog w) A (exec (.For (.Name x px) iter body [] pos) env) Q E s := by
  refine wpAny_For (he.run S.cx fun v Y s₁ hv hf hr hx c₁ => ?_) hs
  obtain ⟨rfl, rfl⟩ := hv
  have S₁ := S.up hx
  obtain ⟨oa, hoa, n, rfl⟩ := S₁.cx.facts _ hax
  have hla : s₁.heap.IsList ax xs := ⟨_, hoa, rfl, n, rfl⟩
  refine wpAny_pyIter_list hla ?_
  have hne : ∀ a, s₁.heap.get? a ≠ none → a ≠ s₁.heap.objs.size := fun a ha e => ha (e ▸ size_none _)
  have hXn : ∀ z ∈ X, s₁.heap.get? z.1 ≠ none := fun z hz => by
    obtain ⟨o, ho, _⟩ := S₁.cx.facts z hz
    rw [ho]; nofun
  have S₂ : Sx g s₀ hB L m X { s₁ with heap := s₁.heap.push { cls := .type "list_iterator", data := .fields #[.ref ax, .int 0 0] } } := S₁.up (Ex.of (tk := s₁.toks) (Kp.push _ _) (Nat.le_refl _))
  refine codeAny_mono (R := fun r s' => match r with | .ok f => Q f s' | .error _ => False) (loop_name (Walks.list hh s₁.heap.objs.size ax (hne _ (hXn _ hax)) xs) S₂
    ⟨⟨_, Heap.get?_push_size _ rfl, rfl, rfl⟩, hla.push _⟩ (mu := mu) ?_ (fun a ha => (hmut a ha).1) ?_ J h0 hJ ?_ (fun m' X' s' hj S' => k m' X' s' hj S') hL hl hp) fun r s' hr => ?_
  · intro b hb
    rcases List.mem_cons.mp hb with rfl | hb
    · exact ⟨(hne L (S₁.cx.hasL)).symm, fun hm => (hne _ (by
        cases q : s.heap.get? s₁.heap.objs.size with
        | none => exact absurd q (hmut _ hm).2
        | some o => rw [hx.keep _ _ q]; nofun)) rfl⟩
    · rw [List.mem_singleton.mp hb]
      exact ⟨S.off _ hax, haxm⟩
  · intro b hb
    rw [List.mem_singleton.mp hb]
    exact ⟨S₁.cx.base.none (size_none _), fun z hz => hne _ (hXn z hz)⟩
  · intro i v m' X' hB' s' _ hi hj hk hm S'
    exact turn i v m' X' hB' s' hi hj hk hm S'
  · cases r with
    | ok f => exact hr
    | error e => exact hr.elim
end

def prepF (x : Str) : Str := if checkF x then x else "('', '')"
theorem StrsAre.nthS {vs : List Value} {ys : List Str} (h : StrsAre vs ys) : ∀ {i : Nat} {v : Value}, vs[i]? = some v → ∃ y t, v = .str y t ∧ ys[i]? = some y := by
  induction h with
  | nil => intro i v h; simp at h
  | cons z u _ ih =>
    intro i v h
    cases i with
    | zero => simp at h; exact ⟨z, u, h.symm, by simp⟩
    | succ i => simpa using ih (by simpa using h)

section
variable {prog : Program} {w : World} {A : Around} {s : Shared}
theorem spec_prep {ad : Ad} {mg mb : Str → Option Value} {D : Addr} {xs : Array Value} {ys : List Str} (M : Md ad mg mb s.heap) (r : Rm A 6) (ht : 1 ≤ s.toks) (hD : Facts [(D, isL xs)] s.heap) (hxs : StrsAre xs.toList ys)
    (hys : ∀ y ∈ ys, y.length ≤ 3000 ∧ (stripF y).length ≤ 100000) (hn : ys.length ≤ 1000) :
    Ret prog w A true (.ref ad.pp) [.ref D] (VSL (ys.map prepF)) s := by
  refine enter_plain (X := [(D, isL xs)]) (binds := [("email_header_fields", .ref D)]) M.fpp M.W r ht hD (fun _ _ _ => rfl) (by simp only [List.forall_mem_cons]; exact ⟨rfl, fun _ h => nomatch h⟩) fun cd s₁ S₁ => ?_
  have rd : Rm (A.deeper (envOf (nmOf (stAt 4)) (scOf (stAt 4)) s.heap.objs.size ad.pp cd)) 5 := r.deeper
  refine wpAny_execs_cons (x_assign S₁ pu_List_nil fun v Y s₂ pv hn₂ S₂ => ?_)
  obtain ⟨R, rfl, rfl⟩ := pv
  have hR := hn₂ _ (.head _)
  have hRD : R ≠ D := fun e => hR.2 (D, isL xs) (.head _) e.symm
  have hRs : s₂.heap.get? R ≠ none := by
    obtain ⟨o, ho, _⟩ := S₂.cx.facts (R, isL #[]) (.head _)
    rw [ho]; nofun
  refine wpAny_execs_cons (x_for_list (mu := [R]) rd.hd S₂ (pu_local (by rfl)) (.tail _ (.head _)) (fun hm => hRD (List.mem_singleton.mp hm).symm) (fun b hb => by rw [List.mem_singleton.mp hb]; exact ⟨hR.1, hRs⟩)
    (fun i m' X' => ∃ zs : Array Value, StrsAre zs.toList ((ys.take i).map prepF) ∧ m' "accepted_values" = some (.ref R) ∧ X' = [(R, isL zs), (D, isL xs)]) ⟨#[], .nil, rfl, rfl⟩ ?_ ?_ ?_)
  · rintro i m' X' ⟨zs, _, _, rfl⟩ y hy
    rcases List.mem_cons.mp hy with rfl | hy
    · exact ⟨_, .head _, rfl⟩
    · exact ⟨_, .tail _ (.head _), by rw [List.mem_singleton.mp hy]⟩
  · rintro i v m' X' hB' s₃ hi ⟨zs, hzs, ma, rfl⟩ hkB hmu S₃
    obtain ⟨y, t, rfl, hy⟩ := StrsAre.nthS hxs (i := i) (by rw [Array.getElem?_toList]; exact hi)
    have hym : y ∈ ys := List.mem_of_getElem? hy
    have hzl : zs.size ≤ sizeLine := by
      have h1 := StrsAre.len hzs
      have h2 : (1000 : Nat) ≤ sizeLine := by decide
      have h3 : (ys.take i).length ≤ ys.length := List.length_take_le' ..
      simp at h1 h3
      omega
    have hsn : (ys.take (i + 1)).map prepF = (ys.take i).map prepF ++ [prepF y] := by
      rw [List.take_add_one, List.map_append, hy]; rfl
    have fin : ∀ (s₉ : Shared) (t' : Tok) (m'' : Str → Option Value), Sx true s hB' s.heap.objs.size m'' [(R, isL zs), (D, isL xs)] s₉ → m'' "v" = some (.str (prepF y) t') → m'' "accepted_values" = some (.ref R) →
        wpAny (model prog w) (A.deeper (envOf (nmOf (stAt 4)) (scOf (stAt 4)) s.heap.objs.size ad.pp cd)) (execs [nth (forB (nth (bdOf (stAt 4)) 1)) 1] (envOf (nmOf (stAt 4)) (scOf (stAt 4)) s.heap.objs.size ad.pp cd))
          (fun f s'' => f = .next ∧ ∃ m'' X'', (∃ zs : Array Value, StrsAre zs.toList ((ys.take (i + 1)).map prepF) ∧ m'' "accepted_values" = some (.ref R) ∧ X'' = [(R, isL zs), (D, isL xs)]) ∧ Sx true s hB' s.heap.objs.size m'' X'' s'') (fun _ _ => False) s₉ := by
      intro s₉ t' m'' S₉ mv mr
      refine wpAny_execs_cons (x_append S₉ (hmu R (.head _)) (fun y hy => by rw [List.mem_singleton.mp hy]; exact hRD.symm) hzl (pu_local mr) (pu_local mv) fun v Y s₁₀ pv hn S₁₀ => wpAny_execs_nil ?_)
      obtain ⟨rfl, rfl⟩ := pv
      exact ⟨rfl, _, _, ⟨_, by rw [hsn, Array.toList_push]; exact StrsAre.snoc hzs _ _, mr, rfl⟩, S₁₀⟩
    refine wpAny_execs_cons (x_if (b := !checkF y) S₃ (pu_isTrue_Not (pu_isTrue_bool ?_)) (fun s₄ hc S₄ => ?_) (fun s₄ hc S₄ => wpAny_execs_nil ?_))
    · refine pu_Call_fun rfl (pu_global (M.keep hkB).W M.nck) (M.keep hkB).fck.func (pu_spl_cons (pu_local (by rfl)) pu_spl_nil) fun vs Y s₂ p c => ?_
      obtain ⟨v, vs', Y₁, Y₂, rfl, rfl, ⟨rfl, rfl⟩, rfl, rfl⟩ := p
      exact (spec_check ((M.keep hkB).keep c.base) rd c.tok (hys y hym).1 (hys y hym).2).mono fun _ _ h => Of.new h
    · refine wpAny_execs_cons (x_assign S₄ pu_str fun v Y s₅ pv hn S₅ => wpAny_execs_nil ?_)
      obtain ⟨⟨t₅, rfl⟩, rfl⟩ := pv
      exact fin s₅ t₅ _ S₅ (by rw [prepF, if_neg (by simpa using hc)]; rfl) ma
    · exact fin s₄ t _ S₄ (by rw [prepF, if_pos (by simpa using hc)]; rfl) ma
  · rintro m' X' s₃ ⟨zs, hzs, ma, rfl⟩ S₃
    refine wpAny_execs_cons (x_return S₃ (pu_local ma) fun v Y s₄ pv hn S₄ => ?_)
    obtain ⟨rfl, rfl⟩ := pv
    have hl : xs.size = ys.length := by have := StrsAre.len hxs; simpa using this
    refine ⟨_, rfl, S₄.lex (Y := [(R, isL zs)]) ⟨R, zs, rfl, ?_, rfl⟩ ?_ ?_⟩
    · rw [hl, List.take_length] at hzs; exact hzs
    · exact S₄.cx.facts.sub fun y hy => by rw [List.mem_singleton.mp hy]; exact .head _
    · exact fun y hy => by rw [List.mem_singleton.mp hy]; exact hR.1
end

section
variable {prog : Program} {w : World} {A : Around} {s : Shared}
theorem items_next {it d : Addr} {i n ep : Nat} {ok ov : Value} {es : Array DictEntry} {e : DictEntry} {od : Obj} {Q : Option Value → Shared → Prop} {E : Value → Shared → Prop} (he : IsItemIter s.heap it d i n ep ok ov)
    (hd : s.heap.get? d = some od) (hdd : od.data = .dict es ep) (hn : es.size = n) (hx : es[i]? = some e)
    (hQ : ∀ h', IsItemIterOut h' it d (i + 1) n ep e.key e.val s.heap.objs.size → h'.get? s.heap.objs.size = some { cls := .type "tuple", data := .seq #[e.key, e.val] } →
      (∀ b o, b ≠ it → s.heap.get? b = some o → h'.get? b = some o) → Q (some (.ref s.heap.objs.size)) { s with heap := h' }) :
    wpAny (model prog w) A (pyNext (.ref it)) Q E s := by
  have hT : s.TypeIs (.ref it) "dict_itemiterator" := ⟨_, he, rfl⟩
  unfold pyNext
  refine wpAny_bind (wpAny_attempt (wpAny_callSpecial?_slot (name := Str.ofString "__next__") hT F.slot_dict_itemiterator_next
    (wpAny_call_entry F.slot_dict_itemiterator_next hT F.entry_dict_itemiterator_next ?_ (F.args_dict_itemiterator_next_1 _))))
  have hown : Builtin.Dict_items.ownsTuple "dict_itemiterator" = true := by decide
  have hlt : i < es.size := (Array.getElem?_eq_some_iff.mp hx).1
  repeat first
    | (with_reducible refine wpAny_typeNameOfWhole_itemiter hT ?_)
    | (with_reducible refine wpAny_isOneOf_itemiter hT ?_)
    | (with_reducible refine wpAny_fieldsOf he rfl ?_)
    | (with_reducible refine wpAny_dictEntries hd hdd ?_)
    | (with_reducible refine wpAny_dictEpoch hd hdd ?_)
    | (with_reducible refine wpAny_pure ?_)
    | (with_reducible refine wpAny_bind ?_)
    | refine wpAny_typeNameOfWhole_itemiter hT ?_
    | refine wpAny_pure ?_
    | refine wpAny_bind ?_
  rw [if_neg (by simp [hn])]
  repeat first
    | (with_reducible refine wpAny_dictEpoch hd hdd ?_)
    | (with_reducible refine wpAny_pure ?_)
    | (with_reducible refine wpAny_bind ?_)
    | refine wpAny_pure ?_
    | refine wpAny_bind ?_
  rw [if_neg (by simp)]
  refine wpAny_pure ?_
  simp only [show ¬ ((i : Int) < 0) from by omega, if_false, Int.toNat_natCast, hx]
  refine wpAny_bind (wpAny_bind (wpAny_typeNameOfWhole_itemiter hT (wpAny_pure ?_)))
  refine wpAny_bind (wpAny_isOneOf_itemiter hT ?_)
  show wpAny _ _ (setField (.ref it) 3 (rawInt ((i : Int) + 1)) >>= _) _ _ s
  refine wpAny_bind (wpAny_setField_rec he (by simp) fun h₁ he₁ hs₁ => ?_)
  have hT₁ : Shared.TypeIs { s with heap := h₁ } (.ref it) "dict_itemiterator" := ⟨_, he₁, rfl⟩
  refine wpAny_bind (wpAny_holding ?_)
  refine wpAny_bind (wpAny_isOneOf_itemiter hT₁ (wpAny_bind (wpAny_isOneOf_itemiter hT₁ ?_)))
  show wpAny _ _ (Builtin.Dict_items.pairFromOwner (.ref it) 6 e.key e.val) _ _ _
  unfold Builtin.Dict_items.pairFromOwner
  refine wpAny_bind (wpAny_newTuple ?_)
  have he₁' : IsItemIter h₁ it d (i + 1) n ep ok ov := he₁
  have hi₁ : it < h₁.objs.size := Heap.lt_size he₁'
  have hz₁ : h₁.objs.size = s.heap.objs.size := hs₁.1
  have he₂ : IsItemIter (h₁.push { cls := .type "tuple", data := .seq #[e.key, e.val] }) it d (i + 1) n ep ok ov := Heap.get?_push_of_some _ he₁'
  refine wpAny_bind (wpAny_bind (wpAny_field he₂ rfl (x := .none) rfl (wpAny_pure ?_)))
  rw [if_pos rfl]
  refine wpAny_bind (wpAny_field he₂ rfl (x := ok) rfl ?_)
  refine wpAny_bind (wpAny_field he₂ rfl (x := ov) rfl ?_)
  refine wpAny_bind (wpAny_setField_rec he₂ (by simp) fun h₃ he₃ hs₃ => ?_)
  refine wpAny_bind (wpAny_setField_rec he₃ (by simp) fun h₄ he₄ hs₄ => ?_)
  refine wpAny_bind (wpAny_setField_rec he₄ (by simp) fun h₅ he₅ hs₅ => ?_)
  refine wpAny_bind (wpAny_setField_rec he₅ (by simp) fun h₆ he₆ hs₆ => ?_)
  refine wpAny_bind (wpAny_letGo (wpAny_pure (wpAny_pure ⟨_, rfl, wpAny_pure ?_⟩)))
  have up : ∀ b o, b ≠ it → (h₁.push { cls := .type "tuple", data := .seq #[e.key, e.val] }).get? b = some o → h₆.get? b = some o := fun b o hb x =>
    hs₆.extBut b o hb (hs₅.extBut b o hb (hs₄.extBut b o hb (hs₃.extBut b o hb x)))
  show Q (some (.ref h₁.objs.size)) { s with heap := h₆ }
  rw [hz₁]
  refine hQ h₆ ?_ ?_ fun b o hb x => up b o hb (Heap.get?_push_of_some _ (hs₁.extBut b o hb x))
  · rw [hz₁] at he₆; exact he₆
  · rw [← hz₁]
    exact up _ _ (Nat.ne_of_gt hi₁) (Heap.get?_push_size _ rfl)
end

/-! ## for a, b in <dict of texts>.items() -/
section
variable {prog : Program} {w : World} {A : Around} {g : Bool} {s₀ : Shared} {hB : Heap} {L : Addr} {m : Str → Option Value} {X Y : List Fact} {s s' : Shared} {env : Env}

theorem x_for_items {x1 x2 dn : Str} {p1 p2 pt pd pa pc pos : Pos} {k : Nat} {body : List Stmt} {d : Addr} {es : List En} {Q : Flow → Shared → Prop} {E : Value → Shared → Prop}
    (hh : A.handled = none) (S : Sx g s₀ hB L m X s) (hd : m dn = some (.ref d)) (hX : (d, isD w es) ∈ X) (hk : (es.map (·.1.1)).Nodup) (hds : d ≠ sysModules)
    (J : Nat → (Str → Option Value) → Prop) (h0 : J 0 m)
    (turn : ∀ i e m' hB' s', es[i]? = some e → J i m' → Kp hB hB' → Sx g s₀ hB' L (upd (upd m' x1 (.str e.1.1 e.1.2)) x2 (.str e.2.1 e.2.2)) X s' →
      wpAny (model prog w) A (execs body env) (fun f s'' => f = .next ∧ ∃ m'', J (i + 1) m'' ∧ Sx g s₀ hB' L m'' X s'') (fun _ _ => False) s')
    (done : ∀ m' s', J es.length m' → Sx g s₀ hB L m' X s' → Q .next s') (hL : env.locals = L := by rfl)
    (hkf : env.scope.kind = .function := by rfl) (hld : env.kindOf dn = some .local := by rfl) (hdb : (dn == ("__debug__" : Str)) = false := by decide)
    (hl1 : env.kindOf x1 = some .local := by rfl) (hl2 : env.kindOf x2 = some .local := by rfl) (hp : (env.scope.kind == .class || (env.scope.kind == .module && env.locals != env.globals)) = false := by rfl)
    (hbase : attributeBase (.Name dn pd) "items" env (eval (.Name dn pd) env) = eval (.Name dn pd) env := by rfl) (hline : (pa.endLine == pc.line) = true := by rfl)
    (hs : ∀ z, foldedSetIterable (.Call (.Attribute (.Name dn pd) "items" pa) [] [] pc) env z = pure z := by intro _; rfl) :
    wpAny (model prog w) A (exec (.For (.Tuple [.Name x1 p1, .Name x2 p2] k pt) (.Call (.Attribute (.Name dn pd) "items" pa) [] [] pc) body [] pos) env) Q E s := by
  obtain ⟨od, hod, n, rfl⟩ := S.cx.facts _ hX
  have hdat := dictAt_of (prog := prog) hod hk
  have hkl : (es.map kvOf).length = es.length := List.length_map ..
  refine wpAny_For (wpAny_Call_items (knd := strKind prog w) (beq_eq_false_iff_ne.mpr hds) hdat.dictOf hbase hline (fun Q' h => wpAny_Name (wpAny_loadName_local hkf hld (hL ▸ S.cx.ns) hd h) hdb) ?_) hs
  have S₁ : Sx g s₀ hB L m X { s with heap := s.heap.push { cls := .type "dict_items", data := .fields #[.ref d] } } := S.up (Ex.of (tk := s.toks) (Kp.push _ _) (Nat.le_refl _))
  refine wpAny_pyIter_items (knd := strKind prog w) (kvs := es.map kvOf) (ep := n) ⟨_, Heap.get?_push_size _ rfl, rfl, rfl⟩ (dictAt_of (Heap.get?_push_of_some _ hod) hk) ?_
  rw [hkl]
  generalize hs₂ : ({ ({ s with heap := s.heap.push { cls := .type "dict_items", data := .fields #[.ref d] } } : Shared) with
      heap := (s.heap.push { cls := .type "dict_items", data := .fields #[.ref d] }).push { cls := .type "dict_itemiterator", data := .fields #[.none, .bool false, .ref d, .int 0 0, .int es.length 0, .int n 0, .none, .none] } } : Shared) = s₂
  have S₂ : Sx g s₀ hB L m X s₂ := by rw [← hs₂]; exact S₁.up (Ex.of (tk := s.toks) (Kp.push _ _) (Nat.le_refl _))
  generalize hit : (s.heap.push { cls := .type "dict_items", data := .fields #[.ref d] }).objs.size = it
  have hI : IsItemIter s₂.heap it d 0 es.length n .none .none := by
    rw [← hs₂, ← hit]
    exact Heap.get?_push_size _ rfl
  have hBi : hB.get? it = none := by rw [← hit]; exact S₁.cx.base.none (size_none _)
  have hiL : it ≠ L := fun e => by
    have := S₁.cx.hasL
    rw [← e, ← hit] at this
    exact this (size_none _)
  have hdi : d ≠ it := fun e => by
    have h1 : (s.heap.push { cls := .type "dict_items", data := .fields #[.ref d] }).get? it = none := by rw [← hit]; exact size_none _
    rw [← e, Heap.get?_push_of_some _ hod] at h1; cases h1
  have hdL : d ≠ L := S.off _ hX
  have hod₂ : s₂.heap.get? d = some { cls := .type "dict", data := .dict (es.map (ent w)).toArray n } := by
    rw [← hs₂]; exact Heap.get?_push_of_some _ (Heap.get?_push_of_some _ hod)
  have hXi : ∀ y ∈ X, y.1 ≠ it := fun y hy e => by
    obtain ⟨o, ho, _⟩ := S₁.cx.facts y hy
    rw [e, ← hit, size_none] at ho; cases ho
  clear hs₂ hit S₁ hdat
  refine codeAny_mono (R := fun r s' => match r with | .ok f => Q f s' | .error e => False) (codeAny_forLoop_any
    (fun f s' => ∃ i m' ok ov, f = es.length + 1 - i ∧ i ≤ es.length ∧ J i m' ∧ IsItemIter s'.heap it d i es.length n ok ov ∧ s'.heap.get? d = some { cls := .type "dict", data := .dict (es.map (ent w)).toArray n } ∧ Sx g s₀ hB L m' X s')
    ?_ (es.length + 1) ⟨0, m, .none, .none, rfl, Nat.zero_le _, h0, hI, hod₂, S₂⟩) fun r s' hr => ?_
  · rintro f s₃ ⟨i, m', ok, ov, rfl, hi, hj, hI₃, hod₃, S₃⟩
    have hwr : ∀ b ∈ [it], hB.get? b = none ∧ L ≠ b ∧ ∀ y ∈ X, y.1 ≠ b := fun b hb => by rw [List.mem_singleton.mp hb]; exact ⟨hBi, hiL.symm, hXi⟩
    by_cases hlt : i < es.length
    · obtain ⟨e, he⟩ : ∃ e, es[i]? = some e := ⟨_, List.getElem?_eq_getElem hlt⟩
      refine items_next (e := ent w e) hI₃ hod₃ rfl (by simp) (by simp [he]) fun h₄ hI₄ hT₄ hk₄ => ?_
      have S₄ := S₃.step (wr := [it]) (h' := h₄) (tk := s₃.toks) (Nat.le_refl _) (fun b o hb x => hk₄ b o (fun q => hb (by simp [q])) x) hwr
      refine wpAny_letOwnedTupleGo_items hI₄ fun h₅ hI₅ hs₅ => ?_
      replace hs₅ : Heap.SameBut it h₄ h₅ := hs₅
      have S₅ := S₄.step (wr := [it]) (h' := h₅) (tk := s₃.toks) (Nat.le_refl _) (fun b o hb x => hs₅.extBut b o (fun q => hb (by simp [q])) x) hwr
      have hTi : s₃.heap.objs.size ≠ it := Nat.ne_of_gt (Heap.lt_size hI₃)
      refine sx_assign2 hh S₅ (v1 := .str e.1.1 e.1.2) (v2 := .str e.2.1 e.2.2) ⟨_, hs₅.extBut _ _ hTi hT₄, rfl, _, rfl⟩ (fun s₆ S₆ hk₆ => ?_) hL hl1 hl2 hp
      have kV : Kp hB (hideAll s₆.heap [L]) := fun b o e => hideAll_get _ (S₆.cx.base b o e) fun hm => by
        rw [List.mem_singleton.mp hm, S.hL] at e; cases e
      have Sv : Sx g s₀ (hideAll s₆.heap [L]) L (upd (upd m' x1 (.str e.1.1 e.1.2)) x2 (.str e.2.1 e.2.2)) X s₆ :=
        ⟨⟨S₆.cx.ns, fun b o e => of_hideAll _ e, S₆.cx.facts, S₆.cx.tok⟩, S₆.re, hideAll_none _ (.head _), S₆.off⟩
      refine wpAny_mono (turn i e m' _ s₆ he hj kV Sv) (fun fl s₇ h₇ => ?_) fun _ _ e => e.elim
      obtain ⟨rfl, m'', hj', S₇⟩ := h₇
      have kk : ∀ b o, b ≠ L → h₅.get? b = some o → s₇.heap.get? b = some o := fun b o hb x =>
        S₇.cx.base b o (hideAll_get _ (hk₆ b o hb x) fun hm => hb (List.mem_singleton.mp hm))
      exact ⟨es.length + 1 - (i + 1), by omega, i + 1, m'', _, _, rfl, hlt, hj', kk it _ hiL hI₅, kk d _ hdL (hs₅.extBut d _ hdi (hk₄ d _ hdi hod₃)), ⟨⟨S₇.cx.ns, kV.trans S₇.cx.base, S₇.cx.facts, S₇.cx.tok⟩, S₇.re, S.hL, S₇.off⟩⟩
    · obtain rfl : i = es.length := by omega
      refine wpAny_pyNext_items_end (knd := strKind prog w) (kvs := es.map kvOf) hh (by rw [hkl]; exact hI₃) (dictAt_of hod₃ hk) (by rw [List.getElem?_eq_none]; rw [hkl]; exact Nat.le_refl _) fun h₄ hk₄ => wpAny_execs_nil ?_
      exact done m' _ hj (S₃.step (wr := [it]) (h' := h₄) (tk := s₃.toks) (Nat.le_refl _) (fun b o hb x => hk₄ b o (fun q => hb (by simp [q])) x) hwr)
  · cases r with
    | ok f => exact hr
    | error e => exact hr.elim
end

/-! ## dict_replace_saxutils, escape, unescape -/
def dreplF (x : Str) (es : List En) : Str := es.foldl (fun s e => Txt.replace s e.1.1 e.2.1) x

section
variable {prog : Program} {w : World} {A : Around} {g : Bool} {s₀ : Shared} {hB : Heap} {L : Addr} {m : Str → Option Value} {X Y : List Fact} {s s' : Shared} {env : Env}
theorem op_replace {x y z : Str} {t u v : Tok} (hu : u ≠ 0) (hv : v ≠ 0) (huv : u ≠ v) (hyz : (y == z) = false) (hx : x.length ≤ 100000) (hz : z.length ≤ 10) :
    Pu prog w A g hB L m X (call (.builtin "str.replace") [.str x t, .str y u, .str z v]) (VS (Txt.replace x y z)) := fun s c =>
  wpAny_with_toks (Nat.le_refl s.toks) (SC.replace hu hv huv hyz (by
    have h1 : (x.length + 1) * z.length ≤ 100001 * 10 := Nat.mul_le_mul (Nat.succ_le_succ hx) hz
    omega) fun t' k hk => done_tok ⟨⟨t', rfl⟩, rfl⟩ hk)

theorem spec_drepl {mg mb : Str → Option Value} {a d : Addr} {x : Str} {t : Tok} {es : List En} (hf : FnAt s.heap (stAt 6) a) (W : Wo mg mb s.heap) (r : Rm A 2) (ht : 1 ≤ s.toks) (hd : Facts [(d, isD w es)] s.heap) (ok : EsOk es) (hds : d ≠ sysModules)
    (hl : ∀ i, (dreplF x (es.take i)).length ≤ 100000) (hv : ∀ e ∈ es, e.2.1.length ≤ 10) : Ret prog w A g (.ref a) [.str x t, .ref d] (VS (dreplF x es)) s := by
  refine enter_plain (X := [(d, isD w es)]) (binds := [("s", .str x t), ("d", .ref d)]) hf W r ht hd (fun _ _ _ => rfl) (by simp only [List.forall_mem_cons]; exact ⟨rfl, rfl, fun _ h => nomatch h⟩) fun cd s₁ S₁ => ?_
  have rd : Rm (A.deeper (envOf (nmOf (stAt 6)) (scOf (stAt 6)) s.heap.objs.size a cd)) 1 := r.deeper
  refine wpAny_execs_cons (x_for_items rd.hd S₁ (by rfl) (.head _) ok.keys hds (fun i m' => ∃ t', m' "s" = some (.str (dreplF x (es.take i)) t')) ⟨t, rfl⟩ ?_ ?_)
  · rintro i e m' hB' s₂ he ⟨t', ms⟩ hkB S₂
    have hem : e ∈ es := List.mem_of_getElem? he
    refine wpAny_execs_cons (x_assign (Φ := VS (Txt.replace (dreplF x (es.take i)) e.1.1 e.2.1)) S₂ ?_ fun v Y s₃ pv hn S₃ => wpAny_execs_nil ?_)
    · refine pu_Method (T := "str") (id := "str.replace") rfl F.plainAttrs_str F.slot_str_replace F.type_str_replace (pu_localS ms) (fun ov Y s p c => ?_) (pu_spl_cons (pu_local (by rfl)) (pu_spl_cons (pu_local (by rfl)) pu_spl_nil)) (fun ov vs Y Z p q => ?_)
      · obtain ⟨⟨t, rfl⟩, rfl⟩ := p
        exact ⟨typeIs_str _ _ _, fun a h => nomatch h⟩
      · obtain ⟨⟨u₁, rfl⟩, rfl⟩ := p
        obtain ⟨v, vs', Y₁, Y₂, rfl, rfl, ⟨rfl, rfl⟩, v', vs'', Y₃, Y₄, rfl, rfl, ⟨rfl, rfl⟩, rfl, rfl⟩ := q
        exact (op_replace (ok.toks e hem).1 (ok.toks e hem).2.1 (ok.toks e hem).2.2 (ok.ne e hem) (hl i) (hv e hem)).mono fun _ _ h => Of.new h
    obtain ⟨⟨t₃, rfl⟩, rfl⟩ := pv
    have hsn : dreplF x (es.take (i + 1)) = Txt.replace (dreplF x (es.take i)) e.1.1 e.2.1 := fold_snoc rfl he
    exact ⟨rfl, _, ⟨t₃, by rw [hsn]; rfl⟩, S₃⟩
  · rintro m' s₂ ⟨t', ms⟩ S₂
    rw [List.take_length] at ms
    refine wpAny_execs_cons (x_return S₂ (pu_localS ms) fun v Y s₃ pv hn S₃ => ?_)
    obtain ⟨⟨t₃, rfl⟩, rfl⟩ := pv
    exact ⟨_, rfl, S₃.lex (Y := []) ⟨⟨t₃, rfl⟩, rfl⟩ (Facts.nil _) (Fresh.nil _)⟩

theorem op_truthy_dict {es : List En} {D : Addr} (hD : (D, isD w es) ∈ X) (hk : (es.map (·.1.1)).Nodup) (hs : D ≠ sysModules) (hn : es.length ≤ 1000) : Pu prog w A g hB L m X (truthy (.ref D)) (BB (!es.isEmpty)) := fun s c => by
  obtain ⟨o, ho, hd⟩ := c.facts _ hD
  exact wpAny_truthy_dict (knd := strKind prog w) (beq_eq_false_iff_ne.mpr hs) (dictOf_of ho hd hk) (by rw [List.length_map]; omega)
    (done_tok ⟨by cases es <;> rfl, rfl⟩ (Nat.le_trans (Nat.le_succ _) (Nat.le_succ _)))

theorem pu_two_str {x y : Str} {k1 k2 : Nat} {p1 p2 : Pos} : Pu prog w A g hB L m X (spliced [(false, eval (.Constant (.str x) k1 p1) env), (false, eval (.Constant (.str y) k2 p2) env)])
    (fun vs Y => (∃ t u, vs = [.str x t, .str y u] ∧ t ≠ 0 ∧ u ≠ 0 ∧ t ≠ u) ∧ Y = []) := fun s c =>
  spliced_cons (PySem.wpAny_Constant_str (spliced_cons (PySem.wpAny_Constant_str (spliced_nil ⟨[], ⟨⟨_, _, rfl, Nat.ne_of_gt c.tok, Nat.succ_ne_zero _, (Nat.succ_ne_self _).symm⟩, rfl⟩, Facts.nil _, Fresh.nil _,
    Ex.of (h := s.heap) (Kp.refl _) (Nat.le_trans (Nat.le_succ _) (Nat.le_succ _))⟩))))

/-- e.replace('..', '..') -/
theorem pu_replace2 {o : PySem.Expr} {x y : Str} {k1 k2 : Nat} {p1 p2 apos pos : Pos} {z : Str} (ho : Pu prog w A g hB L m X (eval o env) (VS z)) (hne : (x == y) = false) (hz : z.length ≤ 100000) (hy : y.length ≤ 10)
    (ht : backTo pos (starEach [.Constant (.str x) k1 p1, .Constant (.str y) k2 p2] env) = [(false, eval (.Constant (.str x) k1 p1) env), (false, eval (.Constant (.str y) k2 p2) env)] := by rfl)
    (hbase : attributeBase o "replace" env (eval o env) = eval o env := by rfl) (hline : (apos.endLine == pos.line) = true := by rfl)
    (hfew : ((backTo pos (starEach [.Constant (.str x) k1 p1, .Constant (.str y) k2 p2] env)).all (fun x => !x.1) && (backToKw pos (keywordEach [] env)).all (fun x => x.1.isSome)
      && decide (([.Constant (.str x) k1 p1, .Constant (.str y) k2 p2] : List PySem.Expr).length + ([] : List Keyword).length + (if ([] : List Keyword).isEmpty then 0 else 1) < 30)) = true := by rfl) :
    Pu prog w A g hB L m X (eval (.Call (.Attribute o "replace" apos) [.Constant (.str x) k1 p1, .Constant (.str y) k2 p2] [] pos) env) (VS (Txt.replace z x y)) := by
  refine pu_Method (T := "str") (id := "str.replace") ht F.plainAttrs_str F.slot_str_replace F.type_str_replace ho (fun ov Y s p c => ?_) pu_two_str (fun ov vs Y Z p q => ?_) rfl hbase hline hfew
  · obtain ⟨⟨t, rfl⟩, rfl⟩ := p
    exact ⟨typeIs_str _ _ _, fun a h => nomatch h⟩
  · obtain ⟨⟨u₁, rfl⟩, rfl⟩ := p
    obtain ⟨⟨t, u, rfl, h1, h2, h3⟩, rfl⟩ := q
    exact (op_replace h1 h2 h3 hne hz hy).mono fun _ _ h => Of.new h

theorem enter_dflt {mg mb : Str → Option Value} {st : Stmt} {a : Addr} {vals : List Value} {binds : Addr → List (Str × Value)} {Φ : Value → List Fact → Prop} {n : Nat}
    (hf : FnD s.heap st a) (W : Wo mg mb s.heap) (r : Rm A (n + 1)) (ht : 1 ≤ s.toks) (hX : Facts X s.heap)
    (hbind : ∀ (s' : Shared) pm cd doc tu d k ot, s'.heap.get? tu = some ot → ot.data = .seq #[.ref d] k → BindsTo s' { docDef (nmOf st) (psOf st) (bdOf st) (scOf st) pm cd doc with defaults := .ref tu } ⟨vals, []⟩ (binds d))
    (hloc : ∀ d, ∀ x ∈ binds d, (scOf st).names.lookup x.1 = some .local)
    (h : ∀ d cd s', d ≠ sysModules → (d, isD w []) ∈ [(d, isD w [])] ++ X → Sx g s s.heap s.heap.objs.size (fun x => (binds d).reverse.lookup x) ([(d, isD w [])] ++ X) s' →
      wpAny (model prog w) (A.deeper (envOf (nmOf st) (scOf st) s.heap.objs.size a cd)) (execs (bdOf st) (envOf (nmOf st) (scOf st) s.heap.objs.size a cd)) (Ends g s Φ) (fun _ _ => False) s')
    (hco : (scOf st).isCoroutine = false := by rfl) (hgen : (scOf st).isGenerator = false := by rfl) (hk : (scOf st).kind = .function := by rfl)
    (hcell : ∀ x ∈ (scOf st).names, x.2 ≠ .cell := by decide) : Ret prog w A g (.ref a) vals Φ s := by
  obtain ⟨o, pm, cd, doc, tu, d, n1, n2, ot, ho, hd, hc, htu, hot, hdd, hne⟩ := hf
  refine wpAny_call (codeAny_call_function (by have := r.dp; omega) ho hd hco hgen rfl hc ?_)
  refine hbind s pm cd doc tu d n1 ot htu hot _ _ _ _ (wpAny_newFunctionEnv hcell (hloc d) (fun h₁ hns hsb => ⟨W.lim.fresh _ hsb, ?_⟩) hk)
  have hk₁ : Kp s.heap h₁ := fun b o e => hsb.extBut b o (Nat.ne_of_lt (Heap.lt_size e)) (Heap.get?_push_of_some _ e)
  show codeAny _ _ (.func (bdOf st) (envOf (nmOf st) (scOf st) s.heap.objs.size a cd)) _ _
  have hX' : Facts ([(d, isD w [])] ++ X) s.heap := Facts.cons ⟨_, hdd, n2, rfl⟩ hX
  refine codeAny_func (wpAny_mono (h d cd _ hne (.head _) ⟨⟨hns, hk₁, hX'.keep hk₁, Nat.le_trans ht (Nat.le_add_right _ _)⟩, .of (Nat.le_add_right _ _), size_none _, fun x hx e => ?_⟩) (fun f s' h' => ?_) fun _ _ e => e.elim)
  · obtain ⟨o', ho', _⟩ := hX' x hx
    rw [e, size_none] at ho'; cases ho'
  · obtain ⟨v, rfl, q⟩ := h'
    exact q

def esc0 (x : Str) : Str := Txt.replace (Txt.replace (Txt.replace x "&" "&amp;") ">" "&gt;") "<" "&lt;"
def escF (x : Str) (es : List En) : Str := dreplF (esc0 x) es
def une0 (x : Str) : Str := Txt.replace (Txt.replace x "&lt;" "<") "&gt;" ">"
def uneF (x : Str) (es : List En) : Str := Txt.replace (dreplF (une0 x) es) "&amp;" "&"
/-- what a chain of replacements asks of its lengths -/
structure EscOk (x : Str) (es : List En) : Prop where
  l0 : x.length ≤ 100000
  l1 : (Txt.replace x "&" "&amp;").length ≤ 100000
  l2 : (Txt.replace (Txt.replace x "&" "&amp;") ">" "&gt;").length ≤ 100000
  l3 : ∀ i, (dreplF (esc0 x) (es.take i)).length ≤ 100000
structure UneOk (x : Str) (es : List En) : Prop where
  l0 : x.length ≤ 100000
  l1 : (Txt.replace x "&lt;" "<").length ≤ 100000
  l3 : ∀ i, (dreplF (une0 x) (es.take i)).length ≤ 100000

/-- the body of escape -/
theorem body_escape {ad : Ad} {mg mb : Str → Option Value} {x : Str} {t : Tok} {D : Addr} {es : List En} {cd : Value} {s₁ : Shared} {m : Str → Option Value} (M : Md ad mg mb s.heap) (r : Rm A 4)
    (mt : m "data" = some (.str x t)) (me : m "entities" = some (.ref D)) (S₁ : Sx g s s.heap s.heap.objs.size m X s₁) (hD : (D, isD w es) ∈ X) (ok : EsOk es) (hDs : D ≠ sysModules) (hv : ∀ e ∈ es, e.2.1.length ≤ 10) (hn : es.length ≤ 1000) (lo : EscOk x es) :
    wpAny (model prog w) (A.deeper (envOf (nmOf (stAt 7)) (scOf (stAt 7)) s.heap.objs.size ad.es cd)) (execs (bdOf (stAt 7)) (envOf (nmOf (stAt 7)) (scOf (stAt 7)) s.heap.objs.size ad.es cd)) (Ends g s (VS (escF x es))) (fun _ _ => False) s₁ := by
  have rd : Rm (A.deeper (envOf (nmOf (stAt 7)) (scOf (stAt 7)) s.heap.objs.size ad.es cd)) 3 := r.deeper
  refine wpAny_execs_cons (x_assign S₁ (pu_replace2 (pu_localS mt) (by decide) lo.l0 (by decide)) fun v Y s₂ pv _ S₂ => ?_)
  obtain ⟨⟨t₂, rfl⟩, rfl⟩ := pv
  refine wpAny_execs_cons (x_assign S₂ (pu_replace2 (pu_localS (by rfl)) (by decide) lo.l1 (by decide)) fun v Y s₃ pv _ S₃ => ?_)
  obtain ⟨⟨t₃, rfl⟩, rfl⟩ := pv
  refine wpAny_execs_cons (x_assign S₃ (pu_replace2 (pu_localS (by rfl)) (by decide) lo.l2 (by decide)) fun v Y s₄ pv _ S₄ => ?_)
  obtain ⟨⟨t₄, rfl⟩, rfl⟩ := pv
  have fin : ∀ (s₉ : Shared) (t' : Tok) (m' : Str → Option Value) (X' : List Fact), Sx g s s.heap s.heap.objs.size m' X' s₉ → m' "data" = some (.str (escF x es) t') →
      wpAny (model prog w) (A.deeper (envOf (nmOf (stAt 7)) (scOf (stAt 7)) s.heap.objs.size ad.es cd)) (execs [nth (bdOf (stAt 7)) 4] (envOf (nmOf (stAt 7)) (scOf (stAt 7)) s.heap.objs.size ad.es cd)) (Ends g s (VS (escF x es))) (fun _ _ => False) s₉ := by
    intro s₉ t' m' X' S₉ md
    refine wpAny_execs_cons (x_return S₉ (pu_localS md) fun v Y s₁₀ pv _ S₁₀ => ?_)
    obtain ⟨⟨t₅, rfl⟩, rfl⟩ := pv
    exact ⟨_, rfl, S₁₀.lex (Y := []) ⟨⟨t₅, rfl⟩, rfl⟩ (Facts.nil _) (Fresh.nil _)⟩
  refine wpAny_execs_cons (x_if (b := !es.isEmpty) S₄ (pu_isTrue_value (pu_local me) fun v Y p => ?_) (fun s₅ hb S₅ => ?_) (fun s₅ hb S₅ => wpAny_execs_nil ?_))
  · obtain ⟨rfl, rfl⟩ := p
    exact op_truthy_dict hD ok.keys hDs hn
  · refine wpAny_execs_cons (x_assign (Φ := VS (escF x es)) S₅ ?_ fun v Y s₆ pv _ S₆ => wpAny_execs_nil ?_)
    · refine pu_Call_fun rfl (pu_global M.W M.nrp) M.frp.func (pu_spl_cons (pu_local (by rfl)) (pu_spl_cons (pu_local me) pu_spl_nil)) fun vs Y s₂ p c => ?_
      obtain ⟨v, vs', Y₁, Y₂, rfl, rfl, ⟨rfl, rfl⟩, v', vs'', Y₃, Y₄, rfl, rfl, ⟨rfl, rfl⟩, rfl, rfl⟩ := p
      exact (spec_drepl (M.keep c.base).frp (M.keep c.base).W (rd.le (by omega)) c.tok (c.facts.sub fun y hy => by rw [List.mem_singleton.mp hy]; exact hD) ok hDs lo.l3 hv).mono fun _ _ h => Of.new h
    obtain ⟨⟨t₆, rfl⟩, rfl⟩ := pv
    exact fin s₆ t₆ _ _ S₆ rfl
  · have he : es = [] := by cases es with
      | nil => rfl
      | cons e r => simp at hb
    exact fin s₅ t₄ _ _ S₅ (by rw [he]; rfl)

/-- the body of unescape -/
theorem body_unescape {ad : Ad} {mg mb : Str → Option Value} {x : Str} {t : Tok} {D : Addr} {es : List En} {cd : Value} {s₁ : Shared} {m : Str → Option Value} (M : Md ad mg mb s.heap) (r : Rm A 4)
    (mt : m "data" = some (.str x t)) (me : m "entities" = some (.ref D)) (S₁ : Sx g s s.heap s.heap.objs.size m X s₁) (hD : (D, isD w es) ∈ X) (ok : EsOk es) (hDs : D ≠ sysModules) (hv : ∀ e ∈ es, e.2.1.length ≤ 10) (hn : es.length ≤ 1000) (lo : UneOk x es) :
    wpAny (model prog w) (A.deeper (envOf (nmOf (stAt 8)) (scOf (stAt 8)) s.heap.objs.size ad.un cd)) (execs (bdOf (stAt 8)) (envOf (nmOf (stAt 8)) (scOf (stAt 8)) s.heap.objs.size ad.un cd)) (Ends g s (VS (uneF x es))) (fun _ _ => False) s₁ := by
  have rd : Rm (A.deeper (envOf (nmOf (stAt 8)) (scOf (stAt 8)) s.heap.objs.size ad.un cd)) 3 := r.deeper
  refine wpAny_execs_cons (x_assign S₁ (pu_replace2 (pu_localS mt) (by decide) lo.l0 (by decide)) fun v Y s₂ pv _ S₂ => ?_)
  obtain ⟨⟨t₂, rfl⟩, rfl⟩ := pv
  refine wpAny_execs_cons (x_assign S₂ (pu_replace2 (pu_localS (by rfl)) (by decide) lo.l1 (by decide)) fun v Y s₃ pv _ S₃ => ?_)
  obtain ⟨⟨t₃, rfl⟩, rfl⟩ := pv
  have fin : ∀ (s₉ : Shared) (t' : Tok) (m' : Str → Option Value) (X' : List Fact), Sx g s s.heap s.heap.objs.size m' X' s₉ → m' "data" = some (.str (dreplF (une0 x) es) t') →
      wpAny (model prog w) (A.deeper (envOf (nmOf (stAt 8)) (scOf (stAt 8)) s.heap.objs.size ad.un cd)) (execs [nth (bdOf (stAt 8)) 3] (envOf (nmOf (stAt 8)) (scOf (stAt 8)) s.heap.objs.size ad.un cd)) (Ends g s (VS (uneF x es))) (fun _ _ => False) s₉ := by
    intro s₉ t' m' X' S₉ md
    refine wpAny_execs_cons (x_return S₉ (pu_replace2 (pu_localS md) (by decide) (by have := lo.l3 es.length; rw [List.take_length] at this; exact this) (by decide)) fun v Y s₁₀ pv _ S₁₀ => ?_)
    obtain ⟨⟨t₅, rfl⟩, rfl⟩ := pv
    exact ⟨_, rfl, S₁₀.lex (Y := []) ⟨⟨t₅, rfl⟩, rfl⟩ (Facts.nil _) (Fresh.nil _)⟩
  refine wpAny_execs_cons (x_if (b := !es.isEmpty) S₃ (pu_isTrue_value (pu_local me) fun v Y p => ?_) (fun s₅ hb S₅ => ?_) (fun s₅ hb S₅ => wpAny_execs_nil ?_))
  · obtain ⟨rfl, rfl⟩ := p
    exact op_truthy_dict hD ok.keys hDs hn
  · refine wpAny_execs_cons (x_assign (Φ := VS (dreplF (une0 x) es)) S₅ ?_ fun v Y s₆ pv _ S₆ => wpAny_execs_nil ?_)
    · refine pu_Call_fun rfl (pu_global M.W M.nrp) M.frp.func (pu_spl_cons (pu_local (by rfl)) (pu_spl_cons (pu_local me) pu_spl_nil)) fun vs Y s₂ p c => ?_
      obtain ⟨v, vs', Y₁, Y₂, rfl, rfl, ⟨rfl, rfl⟩, v', vs'', Y₃, Y₄, rfl, rfl, ⟨rfl, rfl⟩, rfl, rfl⟩ := p
      exact (spec_drepl (M.keep c.base).frp (M.keep c.base).W (rd.le (by omega)) c.tok (c.facts.sub fun y hy => by rw [List.mem_singleton.mp hy]; exact hD) ok hDs lo.l3 hv).mono fun _ _ h => Of.new h
    obtain ⟨⟨t₆, rfl⟩, rfl⟩ := pv
    exact fin s₆ t₆ _ _ S₆ rfl
  · have he : es = [] := by cases es with
      | nil => rfl
      | cons e r => simp at hb
    exact fin s₅ t₃ _ _ S₅ (by rw [he]; rfl)

theorem spec_escape1 {ad : Ad} {mg mb : Str → Option Value} {x : Str} {t : Tok} (M : Md ad mg mb s.heap) (r : Rm A 4) (ht : 1 ≤ s.toks) (lo : EscOk x []) :
    Ret prog w A g (.ref ad.es) [.str x t] (VS (esc0 x)) s :=
  enter_dflt (X := []) (binds := fun d => [("data", .str x t), ("entities", .ref d)]) M.fes M.W r ht (Facts.nil _) (fun s' pm cd doc tu d k ot h1 h2 => BindsTo.of_defaults rfl h1 h2 rfl rfl)
    (fun d => by simp only [List.forall_mem_cons]; exact ⟨rfl, rfl, fun _ h => nomatch h⟩) fun d cd s₁ hd hm S₁ => body_escape M r rfl rfl S₁ hm ⟨(fun _ h => nomatch h), .nil, (fun _ h => nomatch h)⟩ hd (fun _ h => nomatch h) (Nat.zero_le _) lo
theorem spec_escape2 {ad : Ad} {mg mb : Str → Option Value} {x : Str} {t : Tok} {D : Addr} {es : List En} (M : Md ad mg mb s.heap) (r : Rm A 4) (ht : 1 ≤ s.toks) (hD : Facts [(D, isD w es)] s.heap) (ok : EsOk es) (hDs : D ≠ sysModules) (hv : ∀ e ∈ es, e.2.1.length ≤ 10) (hn : es.length ≤ 1000)
    (lo : EscOk x es) : Ret prog w A g (.ref ad.es) [.str x t, .ref D] (VS (escF x es)) s :=
  enter_dflt (X := [(D, isD w es)]) (binds := fun d => [("data", .str x t), ("entities", .ref D)]) M.fes M.W r ht hD (fun s' pm cd doc tu d k ot h1 h2 => BindsTo.of_defaults rfl h1 h2 rfl rfl)
    (fun d => by simp only [List.forall_mem_cons]; exact ⟨rfl, rfl, fun _ h => nomatch h⟩) fun d cd s₁ hd hm S₁ => body_escape M r rfl rfl S₁ (.tail _ (.head _)) ok hDs hv hn lo
theorem spec_unescape {ad : Ad} {mg mb : Str → Option Value} {x : Str} {t : Tok} {D : Addr} {es : List En} (M : Md ad mg mb s.heap) (r : Rm A 4) (ht : 1 ≤ s.toks) (hD : Facts [(D, isD w es)] s.heap) (ok : EsOk es) (hDs : D ≠ sysModules) (hv : ∀ e ∈ es, e.2.1.length ≤ 10) (hn : es.length ≤ 1000)
    (lo : UneOk x es) : Ret prog w A g (.ref ad.un) [.str x t, .ref D] (VS (uneF x es)) s :=
  enter_dflt (X := [(D, isD w es)]) (binds := fun d => [("data", .str x t), ("entities", .ref D)]) M.fun' M.W r ht hD (fun s' pm cd doc tu d k ot h1 h2 => BindsTo.of_defaults rfl h1 h2 rfl rfl)
    (fun d => by simp only [List.forall_mem_cons]; exact ⟨rfl, rfl, fun _ h => nomatch h⟩) fun d cd s₁ hd hm S₁ => body_unescape M r rfl rfl S₁ (.tail _ (.head _)) ok hDs hv hn lo
end

/-! ## List comprehensions -/
abbrev NoE : Value → Shared → Prop := fun _ _ => False
abbrev testsOf (ifs : List PySem.Expr) (env : Env) : Sem Bool :=
  forIn ifs true fun c r => if r = true then do let ok ← isTrue c env (eval c env); pure (ForInStep.yield ok) else pure (ForInStep.yield r)

section
variable {prog : Program} {w : World} {A : Around} {R : Result → Shared → Prop} {s : Shared}
theorem comp_turns {elt target iter : PySem.Expr} {ifs : List PySem.Expr} {scope : Scope} {pos : Pos} {it acc : Value} {env : Env} (I : Nat → Shared → Prop)
    (turn : ∀ n s, I n s → wpAny (model prog w) A (pyNext it) (fun r s₁ => match r with
      | none => R (.ok .next) s₁
      | some v => wpAny (model prog w) A (letOwnedTupleGo target it v) (fun _ s₂ => wpAny (model prog w) A (assign target env v) (fun _ s₃ => wpAny (model prog w) A (testsOf ifs env) (fun ok s₄ =>
          if ok = true then wpAny (model prog w) A (eval elt env) (fun x s₅ => wpAny (model prog w) A (call (.builtin "list.append") [acc, x]) (fun _ s₆ => ∃ m, m < n ∧ I m s₆) NoE s₅) NoE s₄
          else ∃ m, m < n ∧ I m s₄) NoE s₃) NoE s₂) NoE s₁) NoE s) (n : Nat) (h : I n s) :
    codeAny (model prog w) A (.compLoop (.ListComp elt [⟨target, iter, ifs, 0⟩] scope pos) 0 it acc env) R s := by
  refine codeAny_loop rfl I (fun n s hI => ?_) n h
  show wpAny _ A ((compTurn (.ListComp elt [⟨target, iter, ifs, 0⟩] scope pos) 0 it acc env).onRaise (fun x => do noteFrame x env; theTreesLotGoes x)) _ _ s
  refine wpAny_onRaise (wpAny_mono (E := NoE) ?_ (fun _ _ q => q) fun _ _ e => e.elim)
  rw [compTurn_list]
  refine wpAny_bind (wpAny_standAt (wpAny_bind (wpAny_mono (turn n s hI) (fun r s₁ h₁ => ?_) fun _ _ e => e)))
  cases r with
  | none => exact wpAny_pure h₁
  | some v =>
    refine wpAny_bind (wpAny_mono h₁ (fun _ s₂ h₂ => wpAny_bind (wpAny_mono h₂ (fun _ s₃ h₃ => wpAny_bind (wpAny_mono h₃ (fun ok s₄ h₄ => ?_) fun _ _ e => e)) fun _ _ e => e)) fun _ _ e => e)
    cases ok with
    | false => exact wpAny_pure ⟨rfl, h₄⟩
    | true => exact wpAny_bind (wpAny_bind (wpAny_mono h₄ (fun x s₅ h₅ => wpAny_bind (wpAny_mono h₅ (fun _ s₆ h₆ => wpAny_pure (wpAny_pure ⟨rfl, h₆⟩)) fun _ _ e => e)) fun _ _ e => e))
end

section
variable {prog : Program} {w : World} {A : Around} {g : Bool} {hB : Heap} {L : Addr} {m : Str → Option Value} {X : List Fact} {s : Shared} {env : Env}
theorem pu_tests_nil : Pu prog w A g hB L m X (testsOf [] env) (BB true) := fun s c => wpAny_tests_nil (done_same ⟨rfl, rfl⟩)
theorem pu_tests_one {c : PySem.Expr} {b : Bool} (h : Pu prog w A g hB L m X (isTrue c env (eval c env)) (BB b)) : Pu prog w A g hB L m X (testsOf [c] env) (BB b) := fun s cx => wpAny_tests_one (h s cx)
end

/-- an iterator that owns no tuple -/
def Plain (I : Addr) (h : Heap) : Prop := ∃ o T fs, h.get? I = some o ∧ o.cls = .type T ∧ o.data = .fields fs ∧ ["enumerate", "zip", "dict_itemiterator", "dict_reverseitemiterator", "odict_iterator", "itertools.zip_longest", "itertools.pairwise"].contains T = false
theorem go_plain {prog : Program} {w : World} {A : Around} {s : Shared} {elts : List PySem.Expr} {k : Nat} {pos : Pos} {I T : Addr} {Q : Unit → Shared → Prop} {E : Value → Shared → Prop} (hI : Plain I s.heap) (h : Q () s) :
    wpAny (model prog w) A (letOwnedTupleGo (.Tuple elts k pos) (.ref I) (.ref T)) Q E s := by
  obtain ⟨o, K, fs, ho, hc, hd, hK⟩ := hI
  unfold letOwnedTupleGo
  refine wpAny_bind (wpAny_load ho ?_)
  rw [hc, hd]
  show wpAny _ A (if (["enumerate", "zip", "dict_itemiterator", "dict_reverseitemiterator", "odict_iterator", "itertools.zip_longest", "itertools.pairwise"].contains K && _) = true then _ else _) Q E s
  rw [if_neg (by rw [hK, Bool.false_and]; exact Bool.false_ne_true)]
  exact wpAny_pure h

/-- one turn of a comprehension, seen from the frame C: G tells of the number of items, the list so far and the new objects -/
structure CompTurn (prog : Program) (w : World) (A : Around) (target : PySem.Expr) (ifs : List PySem.Expr) (elt : PySem.Expr) (cenv : Env) (K0 : Heap) (C I : Addr) (X : List Fact) (n : Nat) (P : Nat → Value → Prop)
    (G : Nat → List Value → List Fact → Prop) : Prop where
  small : ∀ i ys Z, G i ys Z → ys.length ≤ i
  turn : ∀ i v ys Z mC s₀ s D, i < n → P i v → Plain I s.heap → G i ys Z → Sx false s₀ K0 C mC ((D, isL ys.toArray) :: (Z ++ X)) s → ∀ Q : Shared → Prop,
    (∀ mC' s₁ (b : Bool), Sx false s₀ K0 C mC' ((D, isL ys.toArray) :: (Z ++ X)) s₁ → (∀ b o, b ≠ C → s.heap.get? b = some o → s₁.heap.get? b = some o) →
      Pu prog w A false K0 C mC' (Z ++ X) (testsOf ifs cenv) (BB b) → (b = false → G (i + 1) ys Z) →
      (b = true → ∃ Φ, Pu prog w A false K0 C mC' (Z ++ X) (eval elt cenv) Φ ∧ ∀ y V, Φ y V → G (i + 1) (ys ++ [y]) (V ++ Z)) → Q s₁) →
    wpAny (model prog w) A (letOwnedTupleGo target (.ref I) v) (fun _ s' => wpAny (model prog w) A (assign target cenv v) (fun _ s'' => Q s'') NoE s') NoE s

section
variable {prog : Program} {w : World} {A : Around} {env : Env} {K0 : Heap} {X : List Fact} {s₂ : Shared}

theorem comp_core {target elt iter : PySem.Expr} {ifs : List PySem.Expr} {scope : Scope} {cl : List (Str × Addr)} {pos : Pos} {I : Addr} {fp wr : List Addr} {n : Nat} {P : Nat → Value → Prop} {St : Nat → Heap → Prop}
    {G : Nat → List Value → List Fact → Prop} {RR : Value → Addr → Result → Shared → Prop} (W : Walks prog w A I fp wr n P St) (hpl : ∀ i h, St i h → Plain I h) (hn : n ≤ sizeLine) (hK : Kp K0 s₂.heap) (fX : Facts X s₂.heap) (tok : 1 ≤ s₂.toks) (hst : St 0 s₂.heap)
    (hfp : ∀ b ∈ fp, s₂.heap.get? b ≠ none) (hwr : ∀ b ∈ wr, K0.get? b = none ∧ ∀ x ∈ X, x.1 ≠ b) (hcell : ∀ y ∈ scope.names, y.2 ≠ .cell) (hkind : scope.kind = .function) (hG0 : G 0 [] [])
    (hlive : (∀ i h, St i h → ∀ b ∈ wr, h.get? b ≠ none) ∨ ∀ i ys Z, G i ys Z → Z = [])
    (T : ∀ C, s₂.heap.get? C = none → CompTurn prog w A target ifs elt (compEnvC scope cl C env) K0 C I X n P G)
    (hRR : ∀ D C mC ys Z s', s₂.heap.get? D = none → s₂.heap.get? C = none → D ≠ C → G n ys Z → Sx false s₂ K0 C mC ((D, isL ys.toArray) :: (Z ++ X)) s' → (∀ z ∈ Z, K0.get? z.1 = none) → RR (.ref D) C (.ok .next) s') :
    wpAny (model prog w) A (newList []) (fun acc s₃ => wpAny (model prog w) A (newFunctionEnv scope env.globals cl [] env.qual none .none (some env)) (fun cenv s₄ =>
      codeAny (model prog w) A (.compStart (.ListComp elt [⟨target, iter, ifs, 0⟩] scope pos) 0 (.ref I) acc { cenv with scope := relabel scope env }) (RR acc cenv.locals) s₄) NoE s₃) NoE s₂ := by
  refine wpAny_newObj_type (wpAny_newFunctionEnv hcell (by intro y hy; simp at hy) (fun h₁ hns₁ hsb₁ => ?_) hkind)
  dsimp only at hns₁ hsb₁ ⊢
  generalize hH2 : s₂.heap.push { cls := .type "list", dict := none, data := .seq ([] : List Value).toArray } = H2 at hns₁ hsb₁ ⊢
  generalize hCe : H2.objs.size = C at hns₁ hsb₁ ⊢
  generalize hDe : s₂.heap.objs.size = D at hns₁ hsb₁ ⊢
  have hk2 : Kp s₂.heap H2 := hH2 ▸ Kp.push _ _
  have hD0 : s₂.heap.get? D = none := hDe ▸ size_none _
  have hC0 : s₂.heap.get? C = none := hk2.none (hCe ▸ size_none _)
  have hD2 : H2.get? D = some { cls := .type "list", dict := none, data := .seq #[] } := by rw [← hH2, ← hDe]; exact Heap.get?_push_size _ rfl
  have hDC : D ≠ C := fun e => by rw [e, ← hCe, size_none] at hD2; cases hD2
  have hk1 : Kp H2 h₁ := fun b o e => hsb₁.extBut b o (fun q => by rw [q, ← hCe, size_none] at e; cases e) (Heap.get?_push_of_some _ e)
  have hks : Kp s₂.heap h₁ := hk2.trans hk1
  have hXC : ∀ x ∈ X, x.1 ≠ C ∧ x.1 ≠ D := fun x hx => by
    obtain ⟨o, ho, _⟩ := fX x hx
    exact ⟨fun e => (by rw [e, hC0] at ho; cases ho), fun e => (by rw [e, hD0] at ho; cases ho)⟩
  have TT := T C hC0
  have loop : ∀ s₃ : Shared, s₃ = { s₂ with heap := h₁, toks := s₂.toks + ([] : List (Str × Value)).length } →
      codeAny (model prog w) A (.compLoop (.ListComp elt [⟨target, iter, ifs, 0⟩] scope pos) 0 (.ref I) (.ref D) (compEnvC scope cl C env)) (RR (.ref D) C) s₃ := by
    rintro s₃ rfl
    refine comp_turns (fun k s' => ∃ i mC ys Z, k = n + 1 - i ∧ i ≤ n ∧ G i ys Z ∧ St i s'.heap ∧ (∀ z ∈ Z, K0.get? z.1 = none ∧ z.1 ≠ D ∧ z.1 ∉ wr) ∧ Sx false s₂ K0 C mC ((D, isL ys.toArray) :: (Z ++ X)) s') ?_ (n + 1)
      ⟨0, _, [], [], rfl, Nat.zero_le _, hG0, W.frame _ _ _ hst fun b _ o e => hks b o e, (fun _ h => nomatch h),
        ⟨⟨hns₁, hK.trans hks, Facts.cons ⟨_, hk1 _ _ hD2, 0, rfl⟩ (fX.keep hks), tok⟩, .of (Nat.le_refl _), hK.none hC0, fun x hx => ?_⟩⟩
    · have hwl : ∀ b ∈ wr, s₂.heap.get? b ≠ none := fun b hb => hfp b (W.sub b hb)
      rintro k s' ⟨i, mC, ys, Z, rfl, hi, hg, hst', hZ, S'⟩
      have hwr' : ∀ b ∈ wr, K0.get? b = none ∧ C ≠ b ∧ ∀ y ∈ (D, isL ys.toArray) :: (Z ++ X), y.1 ≠ b := fun b hb => by
        refine ⟨(hwr b hb).1, fun e => hwl b hb (e ▸ hC0), fun y hy => ?_⟩
        rcases List.mem_cons.mp hy with rfl | hy
        · exact fun e => hwl b hb (e ▸ hD0)
        rcases List.mem_append.mp hy with hy | hy
        · exact fun e => (hZ y hy).2.2 (e ▸ hb)
        · exact (hwr b hb).2 y hy
      by_cases hlt : i < n
      · refine wpAny_with_toks (Nat.le_refl s'.toks) (W.item i s' _ _ hlt hst' fun v h₃ tk₃ hP hst₃ hk₃ htk => ?_)
        have S₃ := S'.step htk hk₃ hwr'
        refine TT.turn i v ys Z mC _ _ D hlt hP (hpl _ _ hst₃) hg S₃ _ fun mC' s₄ b S₄ hk₄ htest hbf hbt => ?_
        have hst₄ : St (i + 1) s₄.heap := W.frame _ _ _ hst₃ fun b hb o e => hk₄ b o (fun q => hfp b hb (q ▸ hC0)) e
        refine htest.run (S₄.cx.less fun y hy => .tail _ hy) fun b' Y s₅ pb f r x₅ c₅ => ?_
        obtain ⟨rfl, rfl⟩ := pb
        have S₅ := S₄.up x₅
        have hst₅ : St (i + 1) s₅.heap := W.frame _ _ _ hst₄ fun b _ o e => x₅.keep b o e
        cases b' with
        | false =>
          rw [if_neg Bool.false_ne_true]
          exact ⟨n + 1 - (i + 1), by omega, i + 1, mC', ys, Z, rfl, hlt, hbf rfl, hst₅, hZ, S₅⟩
        | true =>
          rw [if_pos rfl]
          obtain ⟨Φ, he, hG'⟩ := hbt rfl
          refine he.run (S₅.cx.less fun y hy => .tail _ hy) fun y V s₆ pv fv rv x₆ c₆ => ?_
          have S₆ := S₅.grow x₆ fv rv
          have hst₆ : St (i + 1) s₆.heap := W.frame _ _ _ hst₅ fun b _ o e => x₆.keep b o e
          have hgn := hG' y V pv
          obtain ⟨oD, hoD, nD, rfl⟩ := S₆.cx.facts (D, isL ys.toArray) (List.mem_append_right _ (.head _))
          have hV := S₅.cx.newApart rv
          have hVD : ∀ z ∈ V, z.1 ≠ D := fun z hz e => (hV z hz).2 (D, isL ys.toArray) (.head _) e.symm
          have hsz : ys.toArray.size ≤ sizeLine := by
            have h1 := TT.small i ys Z hg
            rw [List.size_toArray]
            omega
          refine wpAny_list_append_plain (hsz := hsz) ⟨nD, hoD⟩ fun h₇ hl₇ hs₇ => ?_
          replace hs₇ : Heap.SameBut D s₆.heap h₇ := hs₇
          obtain ⟨n₇, hn₇⟩ := hl₇
          have S₆' : Sx false s₂ K0 C mC' ((D, isL ys.toArray) :: ((V ++ Z) ++ X)) s₆ := S₆.less fun y hy => by
            rcases List.mem_cons.mp hy with rfl | hy
            · exact List.mem_append_right _ (.head _)
            rcases List.mem_append.mp hy with hy | hy
            · rcases List.mem_append.mp hy with hy | hy
              · exact List.mem_append_left _ hy
              · exact List.mem_append_right _ (.tail _ (List.mem_append_left _ hy))
            · exact List.mem_append_right _ (.tail _ (List.mem_append_right _ hy))
          have S₇ := S₆'.turn (p' := isL (ys ++ [y]).toArray) (h' := h₇) (hK.none hD0) (fun z hz => ?_) hs₇ ⟨_, hn₇, n₇, by simp⟩
          · refine ⟨n + 1 - (i + 1), by omega, i + 1, mC', ys ++ [y], V ++ Z, rfl, hlt, hgn, ?_, ?_, S₇⟩
            · exact W.frame _ _ _ hst₆ fun b hb o e => hs₇.extBut b o (fun q => hfp b hb (q ▸ hD0)) e
            · intro z hz
              rcases List.mem_append.mp hz with hz | hz
              · refine ⟨(hV z hz).1, hVD z hz, fun hw => ?_⟩
                rcases hlive with hl | hl
                · exact hl _ _ hst₅ _ hw (rv z hz)
                · have := hl _ _ _ hgn
                  rw [List.append_eq_nil_iff] at this
                  rw [this.1] at hz; cases hz
              · exact hZ z hz
          · rcases List.mem_append.mp hz with hz | hz
            · rcases List.mem_append.mp hz with hz | hz
              · exact hVD z hz
              · exact (hZ z hz).2.1
            · exact (hXC z hz).2
      · obtain rfl : i = n := by omega
        refine wpAny_with_toks (Nat.le_refl s'.toks) (W.done s' _ _ hst' fun h₃ tk₃ hk₃ htk => ?_)
        exact hRR D C mC ys Z _ hD0 hC0 hDC hg (S'.step htk hk₃ hwr') fun z hz => (hZ z hz).1
    · rcases List.mem_cons.mp hx with rfl | hx
      · exact hDC
      · exact (hXC x hx).1
  exact codeAny_compStart_list (loop _ rfl) (W.self 0 _ _ _ (W.frame _ _ _ hst fun b _ o e => hks b o e) (loop _ rfl))
end

section
variable {prog : Program} {w : World} {A : Around} {g : Bool} {s₀ : Shared} {hB : Heap} {L : Addr} {m : Str → Option Value} {X : List Fact} {s : Shared} {env : Env}

theorem Re.toG {g : Bool} {a b : Shared} (x : Re false a b) : Re g a b := ⟨x.toks, fun _ => x.same rfl, x.os, x.gens⟩
/-- what the source of a comprehension hands on -/
def Source (prog : Program) (w : World) (A : Around) (env : Env) (target : PySem.Expr) (ifs : List PySem.Expr) (elt : PySem.Expr) (scope : Scope) (cl : List (Str × Addr)) (n : Nat) (G : Nat → List Value → List Fact → Prop)
    (X : List Fact) (v : Value) (s₁ : Shared) : Prop :=
  ∀ Q : Value → Shared → Prop, (∀ I fp wr P St s₂, Walks prog w A I fp wr n P St → (∀ i h, St i h → Plain I h) → Ex false s₁ s₂ → St 0 s₂.heap → (∀ b ∈ fp, s₂.heap.get? b ≠ none) → (∀ b ∈ wr, s₁.heap.get? b = none) →
    ((∀ i h, St i h → ∀ b ∈ wr, h.get? b ≠ none) ∨ ∀ i ys Z, G i ys Z → Z = []) → (∀ C, s₂.heap.get? C = none → CompTurn prog w A target ifs elt (compEnvC scope cl C env) s₁.heap C I X n P G) → Q (.ref I) s₂) →
    wpAny (model prog w) A (pyIter v) Q NoE s₁

theorem pu_comp {target elt iter : PySem.Expr} {ifs : List PySem.Expr} {scope : Scope} {cl : List (Str × Addr)} {pos : Pos} {n : Nat} {G : Nat → List Value → List Fact → Prop} {Φ : VPost}
    (hit : Pu prog w A g hB L m X (eval iter env) Φ) (hsrc : ∀ v Y s₁, Φ v Y → Cx hB L m (Y ++ X) s₁ → Source prog w A env target ifs elt scope cl n G (Y ++ X) v s₁) (hG0 : G 0 [] []) (hn : n ≤ sizeLine)
    (hclos : closureFor scope env = pure cl := by rfl) (hcell : ∀ y ∈ scope.names, y.2 ≠ .cell := by decide) (hkind : scope.kind = .function := by rfl)
    (hnames : ∀ x ∈ scope.names, x.2 = .local → scope.names.lookup x.1 = some .local := by decide) (hs : ∀ x, foldedSetIterable iter env x = pure x := by intro _; rfl) :
    Pu prog w A g hB L m X (eval (.ListComp elt [⟨target, iter, ifs, 0⟩] scope pos) env) (fun v W => ∃ D ys Z, v = .ref D ∧ G n ys Z ∧ W = (D, isL ys.toArray) :: Z) := fun s c => by
  rw [eval_ListComp]
  refine wpAny_comprehension_free (use := none) rfl hs hclos hkind hnames (hit.run c fun v Y s₁ pv fv rv x₁ c₁ => ?_)
  refine hsrc v Y s₁ pv c₁ _ fun I fp wr P St s₂ W hpl x₂ hst hfp hwr hlive T => ?_
  have c₂ := c₁.up x₂
  refine comp_core (K0 := s₁.heap) (X := Y ++ X) (RR := fun acc C => compPost (model prog w) A NoE none (fun a s' => ∃ W, (∃ D ys Z, a = .ref D ∧ G n ys Z ∧ W = (D, isL ys.toArray) :: Z) ∧ Facts W s'.heap ∧ Fresh W s.heap ∧ Ex g s s') acc C)
    W hpl hn x₂.keep c₂.facts c₂.tok hst hfp (fun b hb => ⟨hwr b hb, fun y hy e => ?_⟩) hcell hkind hG0 hlive T fun D C mC ys Z s' hD hC hDC hg S' hZ => ?_
  · obtain ⟨o, ho, _⟩ := c₁.facts y hy
    rw [e, hwr b hb] at ho; cases ho
  refine ⟨mC, S'.cx.ns, fun h' hs' => ?_⟩
  replace hs' : Heap.SameBut C s'.heap h' := hs'
  have hD1 : s₁.heap.get? D = none := x₂.keep.none hD
  have hC1 : s₁.heap.get? C = none := x₂.keep.none hC
  have hk : Kp s₁.heap h' := fun b o e => hs'.extBut b o (fun q => by rw [q, hC1] at e; cases e) (S'.cx.base b o e)
  have ex : Ex g s₁ { s' with heap := h' } := ((x₂.toG (g := g)).re.trans (S'.re.toG.trans (Re.of (h := h') (tk := s'.toks) (Nat.le_refl _)))).ex hk
  refine ⟨_, ⟨D, ys, Z, rfl, hg, rfl⟩, ?_, ?_, x₁.trans ex⟩
  · refine (S'.cx.facts.sub fun y hy => ?_).but (fun b o hb e => hs'.extBut b o hb e) fun y hy => ?_
    · rcases List.mem_cons.mp hy with rfl | hy
      · exact .head _
      · exact .tail _ (List.mem_append_left _ hy)
    · rcases List.mem_cons.mp hy with rfl | hy
      · exact hDC
      · exact S'.off y (.tail _ (List.mem_append_left _ hy))
  · refine Fresh.cons (x₁.keep.none hD1) fun y hy => x₁.keep.none (hZ y hy)

theorem x_assign_comp {target elt iter : PySem.Expr} {ifs : List PySem.Expr} {scope : Scope} {cl : List (Str × Addr)} {pos spos py : Pos} {y : Str} {n : Nat} {G : Nat → List Value → List Fact → Prop} {Φ : VPost} {Q : Flow → Shared → Prop}
    (S : Sx g s₀ hB L m X s)
    (hit : Pu prog w A g hB L m X (eval iter env) Φ) (hsrc : ∀ v Y s₁, Φ v Y → Cx hB L m (Y ++ X) s₁ → Source prog w A env target ifs elt scope cl n G (Y ++ X) v s₁) (hG0 : G 0 [] []) (hn : n ≤ sizeLine)
    (k : ∀ D ys Z s', G n ys Z → (∀ z ∈ (D, isL ys.toArray) :: Z, hB.get? z.1 = none ∧ ∀ x ∈ X, x.1 ≠ z.1) → Sx g s₀ hB L (upd m y (.ref D)) (((D, isL ys.toArray) :: Z) ++ X) s' → Q .next s') (hL : env.locals = L := by rfl)
    (hsw : swapsWith (.ListComp elt [⟨target, iter, ifs, 0⟩] scope pos) (some (.Name y py)) spos.line env = pure true := by rfl)
    (hclos : closureFor scope env = pure cl := by rfl) (hcell : ∀ y ∈ scope.names, y.2 ≠ .cell := by decide) (hkind : scope.kind = .function := by rfl)
    (hnames : ∀ x ∈ scope.names, x.2 = .local → scope.names.lookup x.1 = some .local := by decide) (hy : env.kindOf y = some .local := by rfl)
    (hp : (env.scope.kind == .class || (env.scope.kind == .module && env.locals != env.globals)) = false := by rfl) (hs : ∀ x, foldedSetIterable iter env x = pure x := by intro _; rfl) :
    wpAny (model prog w) A (exec (.Assign [.Name y py] (.ListComp elt [⟨target, iter, ifs, 0⟩] scope pos) spos) env) Q NoE s := by
  subst hL
  rw [exec_Assign_Name_used _ _ _ _ hsw]
  refine wpAny_bind (wpAny_standAt (wpAny_bind ?_))
  show wpAny _ A (do let _ ← comprehension (.ListComp elt [⟨target, iter, ifs, 0⟩] scope pos) scope env _ (newList []) false (eval iter env) (some (assign (.Name y py) env))) _ _ s
  refine wpAny_bind (wpAny_mono (wpAny_comprehension_free (use := some (assign (.Name y py) env)) (Q := fun _ s' => Q .next s') (E := NoE) rfl hs hclos hkind hnames (hit.run S.cx fun v Y s₁ pv fv rv x₁ c₁ => ?_)) (fun _ s' hq => wpAny_pure (wpAny_pure hq)) fun _ _ e => e)
  have S₁ := S.grow x₁ fv rv
  refine hsrc v Y s₁ pv c₁ _ fun I fp wr P St s₂ W hpl x₂ hst hfp hwr hlive T => ?_
  have c₂ := c₁.up x₂
  refine comp_core (K0 := s₁.heap) (X := Y ++ X) (RR := fun acc C => compPost (model prog w) A NoE (some (assign (.Name y py) env)) (fun _ s' => Q .next s') acc C)
    W hpl hn x₂.keep c₂.facts c₂.tok hst hfp (fun b hb => ⟨hwr b hb, fun y hy e => ?_⟩) hcell hkind hG0 hlive T fun D C mC ys Z s' hD hC hDC hg S' hZ => ?_
  · obtain ⟨o, ho, _⟩ := c₁.facts y hy
    rw [e, hwr b hb] at ho; cases ho
  have hD1 : s₁.heap.get? D = none := x₂.keep.none hD
  have hC1 : s₁.heap.get? C = none := x₂.keep.none hC
  have hLC : env.locals ≠ C := fun e => S₁.cx.hasL (e ▸ hC1)
  -- the outer frame as it stands at the end of the loop
  have S₃ : Sx g s₀ hB env.locals m (((D, isL ys.toArray) :: Z) ++ X) s' := by
    refine ⟨⟨S₁.cx.ns.keeps S'.cx.base, S₁.cx.base.trans S'.cx.base, S'.cx.facts.sub fun y hy => ?_, S'.cx.tok⟩, S₁.re.trans ((x₂.toG (g := g)).re.trans S'.re.toG), S.hL, fun y hy => ?_⟩
    · rcases List.mem_cons.mp hy with rfl | hy
      · exact .head _
      rcases List.mem_append.mp hy with hy | hy
      · exact .tail _ (List.mem_append_left _ hy)
      · exact .tail _ (List.mem_append_right _ (List.mem_append_right _ hy))
    · rcases List.mem_cons.mp hy with rfl | hy
      · exact fun e => S₁.cx.hasL (e ▸ hD1)
      rcases List.mem_append.mp hy with hy | hy
      · exact fun e => S₁.cx.hasL (e ▸ hZ y hy)
      · exact S.off y hy
  show wpAny _ A (assign (.Name y py) env (.ref D)) _ _ _
  refine wpAny_assign_Name (sx_storeK S₃ (fun s₄ S₄ hk₄ => ?_) rfl hy hp)
  refine ⟨mC, S'.cx.ns.at' fun o e => hk₄ C o (Ne.symm hLC) e, fun h₅ hs₅ => ?_⟩
  replace hs₅ : Heap.SameBut C s₄.heap h₅ := hs₅
  refine k D ys Z _ hg (fun z hz => ?_) ?_
  · have hz1 : s₁.heap.get? z.1 = none := by
      rcases List.mem_cons.mp hz with rfl | hz
      · exact hD1
      · exact hZ z hz
    refine ⟨S₁.cx.base.none hz1, fun x hx e => ?_⟩
    obtain ⟨o, ho, _⟩ := S₁.cx.facts x (List.mem_append_right _ hx)
    rw [e, hz1] at ho; cases ho
  · exact S₄.step (wr := [C]) (h' := h₅) (tk := s₄.toks) (Nat.le_refl _) (fun b o hb e => hs₅.extBut b o (fun q => hb (by simp [q])) e) fun b hb => by
      rw [List.mem_singleton.mp hb]
      refine ⟨S₁.cx.base.none hC1, hLC, fun y hy e => ?_⟩
      rcases List.mem_cons.mp hy with rfl | hy
      · exact hDC e
      rcases List.mem_append.mp hy with hy | hy
      · exact S'.off y (.tail _ (List.mem_append_left _ hy)) e
      · exact S'.off y (.tail _ (List.mem_append_right _ (List.mem_append_right _ hy))) e
end

/-! ## Lists: items, slices, sums, ranges -/
/-- a range of natural numbers -/
def isR (a b : Nat) : Obj → Prop := fun o => ∃ t u v, o = { cls := .type "range", dict := none, data := .fields #[.int (a : Int) t, .int (b : Int) u, .int 1 v], slots := #[] }
def VR (a b : Nat) : VPost := fun v Y => ∃ r, v = .ref r ∧ Y = [(r, isR a b)]
/-- a list of natural numbers -/
def VNL (ns : List Nat) : VPost := fun v Y => ∃ D xs, v = .ref D ∧ IntsAre (xs : Array Value).toList (ns.map Int.ofNat) ∧ Y = [(D, isL xs)]

theorem small_nat {a b : Nat} (ha : a ≤ 1000000) (hb : b ≤ 1000000) : Builtin.Range.small a b 1 = true := small_one (by omega) (by omega) (by omega) (by omega)
theorem size_nat {a b : Nat} : Builtin.Range.rangeSize (a : Int) (b : Int) 1 = ((b - a : Nat) : Int) := by
  rw [rangeSize_one]
  split <;> omega
theorem items_range {a n : Nat} {acc : Array Value} (h : ItemsOf (fun i (v : Value) => ∃ t, v = .int ((a : Int) + (i : Nat) * 1) t) acc n) : IntsAre acc.toList ((List.range' a n).map Int.ofNat) := by
  obtain ⟨h1, h2⟩ := h
  have key : ∀ (l : List Value) (a : Nat), (∀ (j : Nat) v, l[j]? = some v → ∃ t, v = .int ((a : Int) + (j : Nat) * 1) t) → IntsAre l ((List.range' a l.length).map Int.ofNat) := by
    intro l
    induction l with
    | nil => intro a _; exact .nil
    | cons v r ih =>
      intro a h
      obtain ⟨t, rfl⟩ := h 0 v rfl
      rw [List.length_cons, List.range'_succ, List.map_cons]
      have e : (a : Int) + ((0 : Nat) : Int) * 1 = Int.ofNat a := by simp
      rw [e]
      refine .cons _ _ (ih (a + 1) fun j v hj => ?_)
      obtain ⟨t, rfl⟩ := h (j + 1) v hj
      exact ⟨t, by congr 1; push_cast; omega⟩
  have := key acc.toList a fun j v hj => h2 j v (by rw [← Array.getElem?_toList]; exact hj)
  rw [Array.length_toList, h1] at this
  exact this

section
variable {prog : Program} {w : World} {A : Around} {g : Bool} {s₀ : Shared} {hB : Heap} {L : Addr} {m : Str → Option Value} {X Y : List Fact} {s s' : Shared} {env : Env}

theorem op_range1 {b : Nat} {t : Tok} : Pu prog w A g hB L m X (call (.type "range") [.int (b : Nat) t]) (VR 0 b) := fun s c =>
  call_range_1 ⟨_, ⟨_, rfl, rfl⟩, Facts.cons ⟨_, Heap.get?_push_size _ rfl, _, _, _, rfl⟩ (Facts.nil _), Fresh.cons (size_none _) (Fresh.nil _), Ex.of (Kp.push _ _) (Nat.le_trans (Nat.le_succ _) (Nat.le_succ _))⟩
theorem op_range2 {a b : Nat} {t u : Tok} : Pu prog w A g hB L m X (call (.type "range") [.int (a : Nat) t, .int (b : Nat) u]) (VR a b) := fun s c =>
  call_range_2 ⟨_, ⟨_, rfl, rfl⟩, Facts.cons ⟨_, Heap.get?_push_size _ rfl, _, _, _, rfl⟩ (Facts.nil _), Fresh.cons (size_none _) (Fresh.nil _), Ex.of (Kp.push _ _) (Nat.le_succ _)⟩
theorem op_list_range {a b : Nat} {r : Addr} (hh : A.handled = none) (hr : (r, isR a b) ∈ X) (ha : a ≤ 1000000) (hb : b ≤ 1000000) : Pu prog w A g hB L m X (call (.type "list") [.ref r]) (VNL (List.range' a (b - a))) := fun s c => by
  obtain ⟨o, ho, t, u, v, rfl⟩ := c.facts _ hr
  refine wpAny_with_toks (Nat.le_refl s.toks) (call_list_range hh ho (small_nat ha hb) size_nat (by omega) fun h' tk acc' c' hk hS hacc htk => ?_)
  exact ⟨_, ⟨_, acc', rfl, items_range hacc, rfl⟩, Facts.cons ⟨_, hS, c', rfl⟩ (Facts.nil _), Fresh.cons (size_none _) (Fresh.nil _), Ex.of hk htk⟩
theorem op_add_list {l b : Addr} {xs ys : Array Value} (hl : (l, isL xs) ∈ X) (hb : (b, isL ys) ∈ X) (hz : xs.size + ys.size ≤ sizeLine) : Pu prog w A g hB L m X (binaryOp .Add (.ref l) (.ref b)) (VL (xs ++ ys)) := fun s c => by
  obtain ⟨o, ho, n, rfl⟩ := c.facts _ hl
  obtain ⟨o', ho', n', rfl⟩ := c.facts _ hb
  exact P.add_list (hsz := hz) ho ho' ⟨_, ⟨_, rfl, rfl⟩, Facts.cons ⟨_, Heap.get?_push_size _ rfl, 0, rfl⟩ (Facts.nil _), Fresh.cons (size_none _) (Fresh.nil _), Ex.of (tk := s.toks) (Kp.push _ _) (Nat.le_refl _)⟩
theorem op_len_list {l : Addr} {xs : Array Value} (hl : (l, isL xs) ∈ X) (hz : xs.size ≤ 1000000) : Pu prog w A g hB L m X (call (.builtin "len") [.ref l]) (VI xs.size) := fun s c => by
  obtain ⟨o, ho, n, rfl⟩ := c.facts _ hl
  exact call_len_list ⟨_, ho, rfl, n, rfl⟩ (by omega) (done_tok ⟨⟨_, rfl⟩, rfl⟩ (Nat.le_trans (Nat.le_succ _) (Nat.le_succ _)))

/-- x[i] on a list and on a text -/
theorem pu_item_list {value slice : PySem.Expr} {pos : Pos} {l : Addr} {xs : Array Value} {k : Nat} {v : Value} (hv : Pu prog w A g hB L m X (eval value env) (Is (.ref l))) (hl : (l, isL xs) ∈ X) (hi : Pu prog w A g hB L m X (eval slice env) (VI (k : Nat)))
    (hx : xs[k]? = some v) (hz : k ≤ 1000000) (hs : ∀ o i, subscripted slice false o i = operate [o, i] (getItem o i) := by intro _ _; with_unfolding_all rfl) (ht : ∀ o r, letTemporaryGo value o r = pure () := by intro _ _; with_unfolding_all rfl) :
    Pu prog w A g hB L m X (eval (.Subscript value slice pos) env) (Is v) := fun s c =>
  Subscript_ (hv.run c fun a Y s₁ pv f r x₁ c₁ => by
    obtain ⟨rfl, rfl⟩ := pv
    refine hi.run c₁ fun b Z s₂ pb f₂ r₂ x₂ c₂ => ?_
    obtain ⟨⟨t, rfl⟩, rfl⟩ := pb
    obtain ⟨o, ho, n, rfl⟩ := c₂.facts _ hl
    exact subscriptTail_builtin (T := "list") ⟨_, ho, rfl⟩ PySem.F.slot_list_getitem.lookup (wpAny_getItem_list ⟨_, ho, rfl, n, rfl⟩ (by omega) (by omega) (by simpa using hx) ⟨[], ⟨rfl, rfl⟩, Facts.nil _, Fresh.nil _, x₁.trans x₂⟩) (hs _ _) (ht _))
theorem pu_item_str {value slice : PySem.Expr} {pos : Pos} {x : Str} {k c : Nat} (hv : Pu prog w A g hB L m X (eval value env) (VS x)) (hi : Pu prog w A g hB L m X (eval slice env) (VI (k : Nat)))
    (hx : x.cps[k]? = some c) (hz : k ≤ 1000000) (hs : ∀ o i, subscripted slice false o i = operate [o, i] (getItem o i) := by intro _ _; with_unfolding_all rfl) (ht : ∀ o r, letTemporaryGo value o r = pure () := by intro _ _; with_unfolding_all rfl) :
    Pu prog w A g hB L m X (eval (.Subscript value slice pos) env) (VS ⟨#[c]⟩) := fun s cx =>
  Subscript_ (hv.run cx fun a Y s₁ pv f r x₁ c₁ => by
    obtain ⟨⟨t, rfl⟩, rfl⟩ := pv
    refine hi.run c₁ fun b Z s₂ pb f₂ r₂ x₂ c₂ => ?_
    obtain ⟨⟨u, rfl⟩, rfl⟩ := pb
    have hk := (Array.getElem?_eq_some_iff.mp hx).1
    have hsi : (seqIndex? (k : Int) x.length).bind (x.cps[·]?) = some c := by
      have : seqIndex? (k : Int) x.length = some k := by
        unfold seqIndex?
        have h1 : ¬ ((k : Int) < 0) := by omega
        have h2 : (k : Int) < (x.length : Int) := by show (k : Int) < (x.cps.size : Int); omega
        simp [h1, h2]
      rw [this]; exact hx
    exact subscriptTail_builtin (T := "str") (typeIs_str _ _ _) PySem.F.slot_str_getitem.lookup (PySem.P.getItem_str (by simp; omega) hsi (by
      have x₃ := x₁.trans x₂
      exact ⟨[], ⟨⟨_, rfl⟩, rfl⟩, Facts.nil _, Fresh.nil _, x₃.trans (Ex.of (h := s₂.heap) (Kp.refl _) (Nat.le_succ _))⟩)) (hs _ _) (ht _))
end

/-! slices -/
theorem pick_from (xs : Array Value) (k : Nat) : slicePick xs (some (k : Int)) none none = (xs.toList.drop k).toArray := by
  rw [kms_pick_eq]
  unfold kms_pick
  have h1 : kms_lo (some (k : Int)) xs.toList.length = min k xs.toList.length := by
    unfold kms_lo
    have : ¬ ((k : Int) < 0) := by omega
    simp [this]
  rw [h1, kmk_drop_min]
  show (List.take (xs.toList.length - min k xs.toList.length) _).toArray = _
  rw [List.take_of_length_le (by rw [List.length_drop]; omega)]
theorem pick_upto (xs : Array Value) (k : Nat) : slicePick xs none (some (k : Int)) none = (xs.toList.take k).toArray := by
  rw [kms_pick_eq]
  unfold kms_pick
  have h1 : kms_hi (some (k : Int)) xs.toList.length = min k xs.toList.length := by
    unfold kms_hi
    have : ¬ ((k : Int) < 0) := by omega
    simp [this]
  rw [h1]
  show (List.take (min k xs.toList.length - 0) (List.drop 0 _)).toArray = _
  rw [Nat.sub_zero, List.drop_zero, kmk_take_min]

/-! ranges behind a list -/
theorem Walks.shift {prog : Program} {w : World} {A : Around} {I : Addr} {fp wr : List Addr} {n : Nat} {P : Nat → Value → Prop} {St : Nat → Heap → Prop} (W : Walks prog w A I fp wr n P St) (k : Nat) (P0 : Nat → Value → Prop) :
    Walks prog w A I fp wr (k + n) (fun i v => if i < k then P0 i v else P (i - k) v) (fun i h => k ≤ i ∧ St (i - k) h) where
  sub := W.sub
  frame := fun i h h' st hk => ⟨st.1, W.frame _ _ _ st.2 hk⟩
  item := fun i s Q E hi st hQ => W.item (i - k) s Q E (by omega) st.2 fun v h' tk hP hst hk => hQ v h' tk (by rw [if_neg (by omega)]; exact hP) ⟨by omega, by rw [show i + 1 - k = i - k + 1 by omega]; exact hst⟩ hk
  done := fun s Q E st hQ => W.done s Q E (by have := st.2; rw [Nat.add_sub_cancel_left] at this; exact this) hQ
  self := fun i s Q E st hQ => W.self (i - k) s Q E st.2 hQ

section
variable {prog : Program} {w : World} {A : Around} {s : Shared}
theorem call_extend_range {S r : Addr} {xs : Array Value} {n0 : Nat} {a b : Nat} {t u v : Tok} {Q : Value → Shared → Prop} {E : Value → Shared → Prop} (hh : A.handled = none) (hS : s.heap.get? S = some { cls := .type "list", data := .seq xs n0 })
    (hr : IsRange s.heap r a b 1 t u v) (ha : a ≤ 1000000) (hb : b ≤ 1000000) (hx : xs.size ≤ 1000000)
    (h : ∀ h' tk acc c, (∀ b o, b ≠ S → s.heap.get? b = some o → h'.get? b = some o) → h'.get? S = some { cls := .type "list", data := .seq acc c } →
      (∃ zs, acc.toList = xs.toList ++ zs ∧ IntsAre zs ((List.range' a (b - a)).map Int.ofNat)) → Q .none { s with heap := h', toks := tk }) :
    wpAny (model prog w) A (call (.builtin "list.extend") [.ref S, .ref r]) Q E s := by
  have hSr : S ≠ r := fun e => by rw [e, hr] at hS; simp at hS
  have hSI : S ≠ s.heap.objs.size := Nat.ne_of_lt (Heap.lt_size hS)
  refine wpAny_call (codeAny_call_builtin PySem.F.slot_list_extend.plain PySem.F.entry_list_extend (PySem.F.slot_list_extend.check _ _ _ _ _ _ _ _ ⟨_, hS, rfl⟩ (PySem.F.args_list_extend_2 _ _) ?_))
  show wpAny _ A.in1 (Builtin.List.listExtendWith (.ref S) (.ref r) .none) _ _ s
  have W := (Walks.shift (Walks.range (prog := prog) (w := w) (A := A.in1) hh s.heap.objs.size a 1 (b - a)) xs.size (fun i v => xs[i]? = some v)).toS
  have fin : ∀ acc : Array Value, ItemsOf (fun i v => if i < xs.size then xs[i]? = some v else ∃ t, v = Value.int ((a : Int) + ((i - xs.size : Nat) : Int) * 1) t) acc (xs.size + (b - a)) →
      ∃ zs, acc.toList = xs.toList ++ zs ∧ IntsAre zs ((List.range' a (b - a)).map Int.ofNat) := by
    rintro acc ⟨h1, h2⟩
    have e1 : acc.toList.take xs.size = xs.toList := by
      apply List.ext_getElem?
      intro j
      by_cases hj : j < xs.size
      · rw [List.getElem?_take_of_lt hj]
        obtain ⟨v, hv⟩ : ∃ v, acc[j]? = some v := ⟨_, Array.getElem?_eq_getElem (by omega)⟩
        have := h2 j v hv
        dsimp only at this
        rw [if_pos hj] at this
        rw [Array.getElem?_toList, hv, Array.getElem?_toList, this]
      · rw [List.getElem?_eq_none (by rw [List.length_take]; omega), List.getElem?_eq_none (by rw [Array.length_toList]; omega)]
    refine ⟨acc.toList.drop xs.size, by rw [← e1]; simp, ?_⟩
    have e2 : ItemsOf (fun i (v : Value) => ∃ t, v = .int ((a : Int) + (i : Nat) * 1) t) (acc.toList.drop xs.size).toArray (b - a) := by
      refine ⟨by simp; omega, fun j v hj => ?_⟩
      have hj' : acc[xs.size + j]? = some v := by simpa [List.getElem?_drop] using hj
      have := h2 _ _ hj'
      dsimp only at this
      rw [if_neg (by omega), Nat.add_sub_cancel_left] at this
      exact this
    exact items_range e2
  have key : ∀ (R : Result → Shared → Prop), (∀ s', Q .none s' → R (.ok (.ret .none)) s') → ∀ (h : Heap) (c₁ tk : Nat), IsRangeIter h s.heap.objs.size (a : Int) ((b - a : Nat) : Int) 1 → (∀ b o, b ≠ S → s.heap.get? b = some o → h.get? b = some o) →
      h.get? S = some { cls := .type "list", data := .seq xs c₁ } → codeAny (model prog w) A (.builtin "list.extend.loop" ⟨[.ref S, .ref s.heap.objs.size, .none], []⟩) R { s with heap := h, toks := tk } := by
    intro R hR h₁ c₁ tk hit hk hS₁
    refine codeAny_extend_loopS W (by have : (2000000 : Nat) ≤ sizeLine := by decide
                                      omega) S (fun hm => hSI (List.mem_singleton.mp hm)) .none (b - a) xs.size _ xs c₁ (by omega) (by omega) ⟨Nat.le_refl _, ?_⟩ hS₁ ⟨rfl, fun j v hj => ?_⟩ fun s' acc' c' hm hS' hacc => ?_
    · rw [Nat.sub_self]; simpa using hit
    · show (if j < xs.size then _ else _)
      rw [if_pos (Array.getElem?_eq_some_iff.mp hj).1]; exact hj
    · rw [Moved.eq_with hm]
      refine hR _ (h s'.heap s'.toks acc' c' (fun b o hb e => hm.heap b o (fun hmem => ?_) (hk b o hb e)) hS' (fin acc' hacc))
      rcases List.mem_cons.mp hmem with e' | hmem
      · exact hb e'
      · exact absurd (Heap.lt_size e) (by rw [List.mem_singleton.mp hmem]; exact Nat.lt_irrefl _)
  have h1 : Builtin.List.listSameRef (.ref S) (.ref r) = false := by simp [Builtin.List.listSameRef, hSr]
  have hit₁ : IsRangeIter (s.heap.push { cls := .type "range_iterator", data := .fields #[rawInt a, rawInt (Builtin.Range.rangeSize a b 1), rawInt 1] }) s.heap.objs.size (a : Int) ((b - a : Nat) : Int) 1 := by
    rw [size_nat]; exact Heap.get?_push_size _ rfl
  have hS₁ := Heap.get?_push_of_some { cls := .type "range_iterator", data := .fields #[rawInt a, rawInt (Builtin.Range.rangeSize a b 1), rawInt 1] } hS
  unfold Builtin.List.listExtendWith
  refine wpAny_bind (wpAny_typeOf (T := "range") ⟨_, hr, rfl⟩ ?_)
  simp only [h1, show (Value.type "range" == Value.type "list") = false by decide, show (Value.type "range" == Value.type "tuple") = false by decide, Bool.or_false, Bool.false_eq_true, if_false]
  refine wpAny_bind (wpAny_pyIter_range hr (small_nat ha hb) (wpAny_bind (wpAny_holding (wpAny_hint_range (n := b - a) (Heap.get?_push_of_some _ hr) size_nat (by omega) ?_))))
  refine wpAny_ite_split (fun _ => ?_) (fun _ => wpAny_pure ⟨plainId_quiet PySem.F.plain_extend_loop _, key _ ?_ _ n0 _ hit₁ (fun b o _ e => Heap.get?_push_of_some _ e) hS₁⟩)
  · refine wpAny_bind (wpAny_rule (wpAny_bind ?_))
    show wpAny _ _ (updateSeq S (·.push .none) >>= fun _ => updateSeq S (·.pop)) _ _ _
    have hsl : (2000000 : Nat) ≤ sizeLine := by decide
    refine wpAny_bind (wpAny_updateSeq hS₁ rfl ?_ (by omega) (by rw [Array.size_push]; omega))
    have hS₂ := IsL.update hS₁ (·.push Value.none)
    refine wpAny_updateSeq hS₂ rfl ?_ (by rw [Array.size_push]; omega) (by simp; omega)
    have hS₃ := IsL.update hS₂ (·.pop)
    simp only [Array.pop_push] at hS₃
    refine wpAny_pure ⟨plainId_quiet PySem.F.plain_extend_loop _, key _ (fun s' q => q) _ _ _ ?_ (fun b o hb e => ?_) hS₃⟩
    · exact (Heap.get?_update_other _ _ hSI).trans ((Heap.get?_update_other _ _ hSI).trans hit₁)
    · exact (Heap.get?_update_other _ _ (Ne.symm hb)).trans ((Heap.get?_update_other _ _ (Ne.symm hb)).trans (Heap.get?_push_of_some _ e))
  · exact fun s' q => q
end

section
variable {prog : Program} {w : World} {A : Around} {g : Bool} {s₀ : Shared} {hB : Heap} {L : Addr} {m : Str → Option Value} {X Y : List Fact} {s s' : Shared} {env : Env}

theorem pu_slice_list {value : PySem.Expr} {lo hi : Option PySem.Expr} {p pos : Pos} {l : Addr} {xs : Array Value} {ol oh : Option Int} (hv : Pu prog w A g hB L m X (eval value env) (Is (.ref l))) (hl : (l, isL xs) ∈ X)
    (h1 : Pu prog w A g hB L m X (evalPart lo env) (VP ol)) (h2 : Pu prog w A g hB L m X (evalPart hi env) (VP oh)) (hz : xs.size ≤ sizeLine) (ht : ∀ o r, letTemporaryGo value o r = pure () := by intro _ _; rfl) :
    Pu prog w A g hB L m X (eval (.Subscript value (.Slice lo hi none p) pos) env) (VL (slicePick xs ol oh none)) := fun s c => by
  refine wpAny_Subscript_Slice (T := "list") PySem.F.slot_list_getitem.lookup (hv.run c fun v Y s₁ pv f r x₁ c₁ => ?_) ht
  obtain ⟨rfl, rfl⟩ := pv
  refine wpAny_Slice (h1.run c₁ fun v Y s₂ pv f r x₂ c₂ => ?_)
  obtain ⟨⟨p1, hp1, rfl⟩, rfl⟩ := pv
  refine h2.run c₂ fun v' Y' s₃ pv' f' r' x₃ c₃ => ?_
  obtain ⟨⟨p2, hp2, rfl⟩, rfl⟩ := pv'
  rw [evalPart_none]
  refine wpAny_pure ?_
  obtain ⟨o, ho, n, rfl⟩ := c₃.facts _ hl
  have part : ∀ q : Option (Int × Tok), IsPart (partValue q) (q.map (·.1)) := fun q => by cases q <;> constructor
  have hll : s₃.heap.IsList l xs := ⟨_, ho, rfl, n, rfl⟩
  subst hp1 hp2
  refine ⟨⟨_, Heap.get?_push_of_some _ ho, rfl⟩, wpAny_getItem_list_slice (hll.push _) (Heap.IsSliceOf.new ..) (part p1) (part p2) .none (by simp) ?_ hz⟩
  refine ⟨_, ⟨_, rfl, rfl⟩, Facts.cons ⟨_, Heap.get?_push_size _ rfl, 0, rfl⟩ (Facts.nil _), Fresh.cons ((x₁.trans (x₂.trans x₃)).keep.none ((Kp.push _ _).none (size_none _))) (Fresh.nil _), (x₁.trans (x₂.trans x₃)).trans ?_⟩
  exact Ex.of (tk := s₃.toks) ((Kp.push _ _).trans (Kp.push _ _)) (Nat.le_refl _)

theorem x_extend_range {o e : PySem.Expr} {apos pos epos : Pos} {D : Addr} {xs : Array Value} {a b : Nat} {E : Value → Shared → Prop} {Q : Flow → Shared → Prop} (hh : A.handled = none) (S : Sx g s₀ hB L m ((D, isL xs) :: X) s)
    (hD : hB.get? D = none) (hX : ∀ x ∈ X, x.1 ≠ D) (hsz : xs.size ≤ 1000000) (ha : a ≤ 1000000) (hb : b ≤ 1000000)
    (ho : Pu prog w A g hB L m ((D, isL xs) :: X) (eval o env) (Is (.ref D))) (he : Pu prog w A g hB L m ((D, isL xs) :: X) (eval e env) (VR a b))
    (k : ∀ zs s', IntsAre zs ((List.range' a (b - a)).map Int.ofNat) → Sx g s₀ hB L m ((D, isL (xs.toList ++ zs).toArray) :: X) s' → Q .next s')
    (ht : backTo pos (starEach [e] env) = [(false, eval e env)])
    (hbase : attributeBase o "extend" env (eval o env) = eval o env := by rfl)
    (hfew : ((backTo pos (starEach [e] env)).all (fun x => !x.1) && (backToKw pos (keywordEach [] env)).all (fun x => x.1.isSome)
      && decide (([e] : List PySem.Expr).length + ([] : List Keyword).length + (if ([] : List Keyword).isEmpty then 0 else 1) < 30)) = true := by rfl)
    (hline : (apos.endLine == pos.line) = true := by rfl) (hi : interactive env = false := by rfl)
    (hsw : swapsWith (.Call (.Attribute o "extend" apos) [e] [] pos) none epos.line env = pure false := by rfl) :
    wpAny (model prog w) A (exec (.Expr (.Call (.Attribute o "extend" apos) [e] [] pos) epos) env) Q E s := by
  refine wpAny_Expr (wpAny_Call_method hbase hfew hline PySem.F.plainAttrs_list PySem.F.slot_list_extend PySem.F.type_list_extend (ho.run S.cx fun v Y s₁ hv hf hr hx c₁ => ?_)) hi hsw
  obtain ⟨rfl, rfl⟩ := hv
  have S₁ := S.up hx
  obtain ⟨oD, hoD, n, rfl⟩ := S₁.cx.facts (D, isL xs) (.head _)
  refine ⟨⟨_, hoD, rfl⟩, fun a e => by cases e; exact ⟨_, hoD, rfl⟩, ?_⟩
  rw [ht]
  refine callWith_builtin rfl (evalArgs_plain (spliced_cons (he.run S₁.cx fun v Y s₂ hv hf hr hx' c₂ => spliced_nil ?_)))
  obtain ⟨r, rfl, rfl⟩ := hv
  have S₂ := S₁.grow hx' hf hr
  obtain ⟨or, hor, t, u, w', rfl⟩ := S₂.cx.facts (r, isR a b) (.head _)
  obtain ⟨oD', hoD', n', rfl⟩ := S₂.cx.facts (D, isL xs) (.tail _ (.head _))
  refine wpAny_with_toks (Nat.le_refl s₂.toks) (call_extend_range hh hoD' hor ha hb hsz fun h' tk acc c hk hS hacc htk => ?_)
  obtain ⟨zs, e1, hz⟩ := hacc
  have e2 : acc = (xs.toList ++ zs).toArray := by rw [← e1, Array.toArray_toList]
  subst e2
  show Q .next _
  have S₂' : Sx g s₀ hB L m ((D, isL xs) :: X) s₂ := S₂.less fun y hy => .tail _ hy
  have S₃ : Sx g s₀ hB L m X { s₂ with heap := h', toks := tk } := (S₂'.less fun y hy => .tail _ hy).step (wr := [D]) htk (fun b o hb e => hk b o (fun q => hb (by simp [q])) e) fun b hb => by
    rw [List.mem_singleton.mp hb]
    exact ⟨hD, (S.off (D, isL xs) (.head _)).symm, hX⟩
  refine k zs _ hz ⟨⟨S₃.cx.ns, S₃.cx.base, Facts.cons ⟨_, hS, c, rfl⟩ S₃.cx.facts, S₃.cx.tok⟩, S₃.re, S₃.hL, fun y hy => ?_⟩
  rcases List.mem_cons.mp hy with rfl | hy
  · exact S.off (D, isL xs) (.head _)
  · exact S.off y (.tail _ hy)

theorem x_while {test : PySem.Expr} {body : List Stmt} {pos : Pos} {Q : Flow → Shared → Prop} {E : Value → Shared → Prop} (S : Sx g s₀ hB L m X s) (J : Nat → (Str → Option Value) → List Fact → Prop) {n : Nat} (h0 : J n m X) (B : Nat → Bool)
    (htest : ∀ k m' X', J k m' X' → Pu prog w A g hB L m' X' (isTrue test env (eval test env)) (BB (B k)))
    (turn : ∀ k m' X' s', B k = true → J k m' X' → Sx g s₀ hB L m' X' s' → wpAny (model prog w) A (execs body env) (fun f s'' => f = .next ∧ ∃ k' m'' X'', k' < k ∧ J k' m'' X'' ∧ Sx g s₀ hB L m'' X'' s'') NoE s')
    (done : ∀ k m' X' s', B k = false → J k m' X' → Sx g s₀ hB L m' X' s' → Q .next s') :
    wpAny (model prog w) A (exec (.While test body [] pos) env) Q E s := by
  refine wpAny_While (codeAny_mono (R := fun r s' => match r with | .ok f => Q f s' | .error e => False) (codeAny_whileLoop (fun k s' => ∃ m' X', J k m' X' ∧ Sx g s₀ hB L m' X' s') ?_ n ⟨m, X, h0, S⟩) fun r s' hr => ?_)
  · rintro k s' ⟨m', X', hj, S'⟩
    refine (htest k m' X' hj).run S'.cx fun b Y s₁ pb f r x₁ c₁ => ?_
    obtain ⟨rfl, rfl⟩ := pb
    have S₁ := S'.up x₁
    cases hb : B k with
    | true =>
      rw [if_pos rfl]
      refine wpAny_mono (turn k m' X' s₁ hb hj S₁) (fun f s₂ h₂ => ?_) fun _ _ e => e.elim
      obtain ⟨rfl, k', m'', X'', hlt, hj', S₂⟩ := h₂
      exact ⟨k', hlt, m'', X'', hj', S₂⟩
    | false =>
      rw [if_neg Bool.false_ne_true]
      exact wpAny_execs_nil (done k m' X' s₁ hb hj S₁)
  · cases r with
    | ok f => exact hr
    | error e => exact hr.elim
end

/-! ## Functions with cells -/
def isCo (v : Option Value) : Obj → Prop := fun o => o.data = .cell v
abbrev cellsOf (st : Stmt) (L : Addr) : List (Str × Addr) := cellsFrom (L + 1) (scOf st).names []
abbrev envC (st : Stmt) (L a : Addr) (cd : Value) : Env := envOfC (nmOf st) (scOf st) L a cd

section
variable {prog : Program} {w : World} {A : Around} {g : Bool} {s₀ : Shared} {hB : Heap} {L : Addr} {m : Str → Option Value} {X Y : List Fact} {s s' : Shared} {env : Env}

theorem enter_cells {mg mb : Str → Option Value} {st : Stmt} {a : Addr} {vals : List Value} {binds : List (Str × Value)} {Φ : Value → List Fact → Prop} {n : Nat}
    (hf : FnAt s.heap st a) (W : Wo mg mb s.heap) (r : Rm A (n + 1)) (ht : 1 ≤ s.toks) (hX : Facts X s.heap)
    (hbind : ∀ pm cd doc, bindArgs (docDef (nmOf st) (psOf st) (bdOf st) (scOf st) pm cd doc) ⟨vals, []⟩ = pure binds)
    (hkind : ∀ x ∈ binds, (scOf st).names.lookup x.1 = some .local ∨ ((scOf st).names.lookup x.1 = some .cell ∧ ((cellsOf st s.heap.objs.size).lookup x.1).isSome = true))
    (hnd : ∀ L, ((cellsOf st L).map (·.1)).Nodup)
    (h : ∀ cd s', (∀ p ∈ cellsOf st s.heap.objs.size, s.heap.get? p.2 = none) → (∀ p ∈ cellsOf st s.heap.objs.size, ∀ y ∈ X, y.1 ≠ p.2) →
      Sx g s s.heap s.heap.objs.size (bindL (envC st s.heap.objs.size a cd).kindOf binds fun _ => none)
        (((cellsOf st s.heap.objs.size).map fun p => (p.2, isCo (bindC (envC st s.heap.objs.size a cd).kindOf binds (fun _ => none) p.1))) ++ X) s' →
      wpAny (model prog w) (A.deeper (envC st s.heap.objs.size a cd)) (execs (bdOf st) (envC st s.heap.objs.size a cd)) (Ends g s Φ) NoE s')
    (hco : (scOf st).isCoroutine = false := by rfl) (hgen : (scOf st).isGenerator = false := by rfl) (hk : (scOf st).kind = .function := by rfl) : Ret prog w A g (.ref a) vals Φ s := by
  obtain ⟨o, pm, cd, doc, ho, hd, hc⟩ := hf
  refine wpAny_call (codeAny_call_function (by have := r.dp; omega) ho hd hco hgen rfl hc ?_)
  rw [hbind]
  refine wpAny_pure (wpAny_with_toks (Nat.le_refl s.toks) (wpAny_newFunctionEnv_cells hk hkind fun env he s₁ X₁ htk => ?_))
  obtain ⟨h₁, tk, rfl⟩ := X₁.toInCall.same
  have hlim := W.lim.keeps X₁.toInCall.keep
  refine ⟨hlim, ?_⟩
  subst he
  show codeAny _ _ (.func (bdOf st) (envC st s.heap.objs.size a cd)) _ _
  have hcf : ∀ p ∈ cellsOf st s.heap.objs.size, s.heap.get? p.2 = none := fun p hp => by
    have := X₁.above p.1 p.2 hp
    cases q : s.heap.get? p.2 with
    | none => rfl
    | some o => exact absurd (Heap.lt_size q) (Nat.not_lt.mpr (Nat.le_of_lt this))
  have hlook : ∀ p ∈ cellsOf st s.heap.objs.size, (cellsOf st s.heap.objs.size).lookup p.1 = some p.2 := fun p hp => by
    have key : ∀ (l : List (Str × Addr)), (l.map (·.1)).Nodup → p ∈ l → l.lookup p.1 = some p.2 := by
      intro l
      induction l with
      | nil => intro _ h; cases h
      | cons q r ih =>
        intro hn hm
        rw [List.map_cons, List.nodup_cons] at hn
        rcases List.mem_cons.mp hm with rfl | hm'
        · obtain ⟨a, b⟩ := p
          simp [List.lookup]
        · have : (p.1 == q.1) = false := beq_eq_false_iff_ne.mpr fun e => hn.1 (by rw [← e]; exact List.mem_map.mpr ⟨p, hm', rfl⟩)
          have hq : q = (q.1, q.2) := rfl
          rw [hq, List.lookup_cons, this]
          exact ih hn.2 hm'
    exact key _ (hnd _) hp
  refine codeAny_func (wpAny_mono (h cd _ hcf (fun p hp y hy e => ?_) ⟨⟨X₁.toInCall.ns, X₁.toInCall.keep, Facts.append ?_ (hX.keep X₁.toInCall.keep), Nat.le_trans ht htk⟩, .of htk, size_none _, fun x hx e => ?_⟩) (fun f s' h' => ?_) fun _ _ e => e.elim)
  · obtain ⟨o', ho', _⟩ := hX y hy
    rw [e, hcf p hp] at ho'; cases ho'
  · intro x hx
    obtain ⟨p, hp, rfl⟩ := List.mem_map.mp hx
    obtain ⟨o', ho', hd'⟩ := X₁.cell p.1 p.2 (hlook p hp)
    exact ⟨o', ho', hd'⟩
  · rcases List.mem_append.mp hx with hx | hx
    · obtain ⟨p, hp, rfl⟩ := List.mem_map.mp hx
      exact absurd (X₁.above p.1 p.2 hp) (by rw [show p.2 = s.heap.objs.size from e]; exact Nat.lt_irrefl _)
    · obtain ⟨o', ho', _⟩ := hX x hx
      rw [e, size_none] at ho'; cases ho'
  · obtain ⟨v, rfl, q⟩ := h'
    exact q

/-- a name that is a cell is written -/
theorem sx_storeC {x : Str} {v : Value} {ca : Addr} {p : Obj → Prop} {v0 : Option Value} {E : Value → Shared → Prop} {Q : Unit → Shared → Prop} (S : Sx g s₀ hB L m ((ca, isCo v0) :: X) s) (hca : hB.get? ca = none) (hX : ∀ y ∈ X, y.1 ≠ ca)
    (k : ∀ s', Sx g s₀ hB L m ((ca, isCo (some v)) :: X) s' → Q () s') (hc : env.cells.lookup x = some ca) (hk : env.scope.kind = .function := by rfl) (hl : env.kindOf x = some .cell := by rfl) :
    wpAny (model prog w) A (storeName env x v) Q E s := by
  obtain ⟨o, ho, hd⟩ := S.cx.facts (ca, isCo v0) (.head _)
  refine wpAny_storeName_cell hk hl hc ⟨o, ho, hd⟩ fun h' hv hs => k _ ?_
  obtain ⟨o', ho', hd'⟩ := hv
  exact S.turn hca hX hs ⟨o', ho', hd'⟩
theorem x_assignC {x : Str} {p pos : Pos} {e : PySem.Expr} {ca : Addr} {v0 : Option Value} {E : Value → Shared → Prop} {Q : Flow → Shared → Prop} {Φ : Value → List Fact → Prop} (S : Sx g s₀ hB L m ((ca, isCo v0) :: X) s) (hca : hB.get? ca = none) (hX : ∀ y ∈ X, y.1 ≠ ca)
    (he : Pu prog w A g hB L m ((ca, isCo v0) :: X) (eval e env) Φ)
    (k : ∀ v Y s', Φ v Y → (∀ y ∈ Y, hB.get? y.1 = none ∧ y.1 ≠ ca ∧ ∀ x ∈ X, x.1 ≠ y.1) → Sx g s₀ hB L m ((ca, isCo (some v)) :: (Y ++ X)) s' → Q .next s') (hc : env.cells.lookup x = some ca) (hk : env.scope.kind = .function := by rfl)
    (hl : env.kindOf x = some .cell := by rfl) (hs : swapsWith e (some (.Name x p)) pos.line env = pure false := by rfl) : wpAny (model prog w) A (exec (.Assign [.Name x p] e pos) env) Q E s :=
  wpAny_Assign_Name (he.run S.cx fun v Y s₁ hv hf hr hx c₁ => by
    have hY := S.cx.newApart hr
    have hYc : ∀ y ∈ Y, y.1 ≠ ca := fun y hy e => (hY y hy).2 (ca, isCo v0) (.head _) e.symm
    have S₁ : Sx g s₀ hB L m ((ca, isCo v0) :: (Y ++ X)) s₁ := (S.grow hx hf hr).less fun y hy => by
      rcases List.mem_cons.mp hy with rfl | hy
      · exact List.mem_append_right _ (.head _)
      rcases List.mem_append.mp hy with hy | hy
      · exact List.mem_append_left _ hy
      · exact List.mem_append_right _ (.tail _ hy)
    exact sx_storeC (p := isCo v0) S₁ hca (fun y hy => (List.mem_append.mp hy).elim (hYc y) (hX y)) (fun s' S' => k v Y s' hv (fun y hy => ⟨(hY y hy).1, hYc y hy, fun x hx => (hY y hy).2 x (.tail _ hx)⟩) S') hc hk hl) hs
end

/-! ## Sources of comprehensions -/
section
variable {prog : Program} {w : World} {A : Around} {K0 : Heap} {C I : Addr} {X : List Fact} {n : Nat} {P : Nat → Value → Prop} {G : Nat → List Value → List Fact → Prop} {cenv : Env}

theorem turn_name {x : Str} {px : Pos} {ifs : List PySem.Expr} {elt : PySem.Expr} (hsm : ∀ i ys Z, G i ys Z → ys.length ≤ i)
    (h : ∀ i v ys Z mC, i < n → P i v → G i ys Z → mC x = some v → ∃ b : Bool, Pu prog w A false K0 C mC (Z ++ X) (testsOf ifs cenv) (BB b) ∧ (b = false → G (i + 1) ys Z) ∧
      (b = true → ∃ Φ, Pu prog w A false K0 C mC (Z ++ X) (eval elt cenv) Φ ∧ ∀ y V, Φ y V → G (i + 1) (ys ++ [y]) (V ++ Z)))
    (hC : cenv.locals = C) (hl : cenv.kindOf x = some .local) (hp : (cenv.scope.kind == .class || (cenv.scope.kind == .module && cenv.locals != cenv.globals)) = false) :
    CompTurn prog w A (.Name x px) ifs elt cenv K0 C I X n P G where
  small := hsm
  turn := fun i v ys Z mC s₀ s D hi hP _ hg S Q k => by
    refine wpAny_of_eq (rfl : letOwnedTupleGo (.Name x px) (.ref I) v = pure ()) ?_
    refine wpAny_assign_Name (sx_storeK S (fun s₁ S₁ hk => ?_) hC hl hp)
    obtain ⟨b, h1, h2, h3⟩ := h i v ys Z (upd mC x v) hi hP hg (if_pos rfl)
    exact k _ s₁ b S₁ hk h1 h2 h3
end

section
variable {prog : Program} {w : World} {A : Around} {env : Env} {target elt : PySem.Expr} {ifs : List PySem.Expr} {scope : Scope} {cl : List (Str × Addr)} {G : Nat → List Value → List Fact → Prop} {X : List Fact} {s₁ : Shared}

theorem src_list {ax : Addr} {xs : Array Value} (hh : A.handled = none) (f : Facts X s₁.heap) (hax : (ax, isL xs) ∈ X)
    (T : ∀ C I, s₁.heap.get? C = none → s₁.heap.get? I = none → CompTurn prog w A target ifs elt (compEnvC scope cl C env) s₁.heap C I X xs.size (fun i v => xs[i]? = some v) G) :
    Source prog w A env target ifs elt scope cl xs.size G X (.ref ax) s₁ := fun Q k => by
  obtain ⟨o, ho, n, rfl⟩ := f _ hax
  have hl : s₁.heap.IsList ax xs := ⟨_, ho, rfl, n, rfl⟩
  have hne : ax ≠ s₁.heap.objs.size := Nat.ne_of_lt (Heap.lt_size ho)
  refine wpAny_pyIter_list hl ?_
  refine k _ _ _ _ _ _ (Walks.list hh s₁.heap.objs.size ax hne xs) (fun i h st => by obtain ⟨⟨oi, hoi, hc, hd⟩, _⟩ := st; exact ⟨oi, _, _, hoi, hc, hd, by decide⟩) (Ex.of (tk := s₁.toks) (Kp.push _ _) (Nat.le_refl _)) ⟨⟨_, Heap.get?_push_size _ rfl, rfl, rfl⟩, hl.push _⟩ (fun b hb => ?_) (fun b hb => ?_) (.inl fun i h st b hb => ?_)
    fun C hC => T C _ ((Kp.push _ _).none hC) (size_none _)
  · rcases List.mem_cons.mp hb with rfl | hb
    · show (s₁.heap.push _).get? _ ≠ none
      rw [Heap.get?_push_size _ rfl]; nofun
    · rw [List.mem_singleton.mp hb]
      show (s₁.heap.push _).get? ax ≠ none
      rw [Heap.get?_push_of_some _ ho]; nofun
  · rw [List.mem_singleton.mp hb]; exact size_none _
  · rw [List.mem_singleton.mp hb]
    obtain ⟨⟨oi, hoi, _⟩, _⟩ := st
    rw [hoi]; nofun

theorem src_str {x : Str} {t : Tok} (hh : A.handled = none)
    (T : ∀ C I, s₁.heap.get? C = none → CompTurn prog w A target ifs elt (compEnvC scope cl C env) s₁.heap C I X x.cps.size (fun i v => ∃ c u, x.cps[i]? = some c ∧ v = .str ⟨#[c]⟩ u) G) :
    Source prog w A env target ifs elt scope cl x.cps.size G X (.str x t) s₁ := fun Q k => by
  have fin : ∀ nm : String, ["enumerate", "zip", "dict_itemiterator", "dict_reverseitemiterator", "odict_iterator", "itertools.zip_longest", "itertools.pairwise"].contains nm = false → Walks prog w A s₁.heap.objs.size [s₁.heap.objs.size] [s₁.heap.objs.size] x.cps.size (fun i v => ∃ c u, x.cps[i]? = some c ∧ v = .str ⟨#[c]⟩ u) (fun i h => h.IsStrIter s₁.heap.objs.size nm x t i) →
      Q (.ref s₁.heap.objs.size) { s₁ with heap := s₁.heap.push { cls := .type nm, data := .fields #[.str x t, .int 0 0] } } := fun nm hnm W => by
    refine k _ _ _ _ _ _ W (fun i h st => by obtain ⟨oi, hoi, hc, hd⟩ := st; exact ⟨oi, _, _, hoi, hc, hd, hnm⟩) (Ex.of (tk := s₁.toks) (Kp.push _ _) (Nat.le_refl _)) ⟨_, Heap.get?_push_size _ rfl, rfl, rfl⟩ (fun b hb => ?_) (fun b hb => ?_) (.inl fun i h st b hb => ?_) fun C hC => T C _ ((Kp.push _ _).none hC)
    · rw [List.mem_singleton.mp hb]
      show (s₁.heap.push _).get? _ ≠ none
      rw [Heap.get?_push_size _ rfl]; nofun
    · rw [List.mem_singleton.mp hb]; exact size_none _
    · rw [List.mem_singleton.mp hb]
      obtain ⟨oi, hoi, _⟩ := st
      rw [hoi]; nofun
  cases ha : x.cps.all (· < 128)
  · exact wpAny_pyIter_wide ha (fin _ (by decide) (Walks.strWide hh _ x t))
  · exact wpAny_pyIter_ascii ha (fin _ (by decide) (Walks.strAscii hh _ x t))

theorem src_range {r : Addr} {b : Nat} (hh : A.handled = none) (f : Facts X s₁.heap) (hr : (r, isR 0 b) ∈ X) (hb : b ≤ 1000000)
    (T : ∀ C I, s₁.heap.get? C = none → CompTurn prog w A target ifs elt (compEnvC scope cl C env) s₁.heap C I X b (fun i v => ∃ t, v = .int (i : Nat) t) G) :
    Source prog w A env target ifs elt scope cl b G X (.ref r) s₁ := fun Q k => by
  obtain ⟨o, ho, t, u, v, rfl⟩ := f _ hr
  refine wpAny_pyIter_range ho (small_nat (by omega) hb) ?_
  have W := Walks.range (prog := prog) (w := w) (A := A) hh s₁.heap.objs.size ((0 : Nat) : Int) 1 b
  have hP : (fun (i : Nat) (v : Value) => ∃ t, v = .int (((0 : Nat) : Int) + (i : Nat) * 1) t) = (fun (i : Nat) (v : Value) => ∃ t, v = .int (i : Nat) t) := by
    funext i v
    have : ((0 : Nat) : Int) + (i : Nat) * 1 = (i : Nat) := by simp
    rw [this]
  rw [hP] at W
  refine k _ _ _ _ _ _ W (fun i h st => ⟨_, _, _, st, rfl, rfl, by decide⟩) (Ex.of (tk := s₁.toks) (Kp.push _ _) (Nat.le_refl _)) ?_ (fun b hb => ?_) (fun b hb => ?_) (.inl fun i h st b hb => ?_) fun C hC => T C _ ((Kp.push _ _).none hC)
  · have e := @size_nat 0 b
    rw [Nat.sub_zero] at e
    have : IsRangeIter (s₁.heap.push { cls := .type "range_iterator", data := .fields #[rawInt ((0 : Nat) : Int), rawInt (Builtin.Range.rangeSize ((0 : Nat) : Int) b 1), rawInt 1] }) s₁.heap.objs.size ((0 : Nat) : Int) (b : Int) 1 := by
      rw [e]; exact Heap.get?_push_size _ rfl
    simpa using this
  · rw [List.mem_singleton.mp hb]
    show (s₁.heap.push _).get? _ ≠ none
    rw [Heap.get?_push_size _ rfl]; nofun
  · rw [List.mem_singleton.mp hb]; exact size_none _
  · rw [List.mem_singleton.mp hb, st]; nofun
end

/-! ## _law_places -/
def markAt (x : Str) (bs : List Bool) (k : Nat) : Bool := (x.cps[k]? == some 34) && (bs[k]? == some true)
def marksF (x : Str) (bs : List Bool) : List Nat := (List.range x.length).filter (markAt x bs)
def placesGo (n : Nat) : List Nat → Nat → List Nat
  | m0 :: m1 :: r, s => List.range' s (m0 - s) ++ placesGo n r (m1 + 1)
  | _, s => List.range' s (n - s)
def placesF (x : Str) (bs : List Bool) : List Nat := placesGo x.length (marksF x bs) 0

theorem placesGo_length (n : Nat) : ∀ (ms : List Nat) (s : Nat), (∀ m ∈ ms, m ≤ n) → (placesGo n ms s).length ≤ n * (ms.length + 1)
  | [], s, _ => by simp [placesGo]
  | [m0], s, _ => by
    simp only [placesGo, List.length_range', List.length_cons, List.length_nil]
    omega
  | m0 :: m1 :: r, s, h => by
    have h1 := placesGo_length n r (m1 + 1) fun m hm => h m (.tail _ (.tail _ hm))
    have h2 := h m0 (.head _)
    rw [placesGo, List.length_append, List.length_range', List.length_cons, List.length_cons]
    have : n * (r.length + 1 + 1 + 1) = n * (r.length + 1) + n + n := by rw [Nat.mul_add, Nat.mul_add, Nat.mul_add]; omega
    omega

theorem IntsAre.snocN {vs : List Value} {ns : List Nat} (h : IntsAre vs (ns.map Int.ofNat)) (n : Nat) (t : Tok) : IntsAre (vs ++ [.int (n : Int) t]) ((ns ++ [n]).map Int.ofNat) := by
  induction vs generalizing ns with
  | nil => cases ns with
    | nil => exact .cons _ _ .nil
    | cons a r => cases h
  | cons v r ih => cases ns with
    | nil => cases h
    | cons a q => cases h with
      | cons _ _ h => exact .cons _ _ (ih h)
theorem IntsAre.appN {vs ws : List Value} {ns ms : List Int} (h : IntsAre vs ns) (h' : IntsAre ws ms) : IntsAre (vs ++ ws) (ns ++ ms) := by
  induction h with
  | nil => exact h'
  | cons n t _ ih => exact .cons n t ih
theorem IntsAre.nthN {vs : List Value} {ns : List Nat} (h : IntsAre vs (ns.map Int.ofNat)) {i n : Nat} (hn : ns[i]? = some n) : ∃ t, vs[i]? = some (.int (n : Int) t) := by
  induction ns generalizing vs i with
  | nil => simp at hn
  | cons a r ih => cases h with
    | cons _ t h => cases i with
      | zero => simp at hn; exact ⟨t, by simp [hn]⟩
      | succ i => simpa using ih h (by simpa using hn)
theorem IntsAre.dropN {vs : List Value} {ns : List Int} (h : IntsAre vs ns) : ∀ k, IntsAre (vs.drop k) (ns.drop k) := by
  induction h with
  | nil => intro k; simpa using IntsAre.nil
  | cons n t h ih => intro k; cases k with
    | zero => exact .cons n t h
    | succ k => exact ih k
theorem IntsAre.lenN {vs : List Value} {ns : List Nat} (h : IntsAre vs (ns.map Int.ofNat)) : vs.length = ns.length := by
  have := h.length
  simpa using this

section
variable {prog : Program} {w : World} {A : Around} {g : Bool} {s : Shared}
theorem spec_places {ad : Ad} {mg mb : Str → Option Value} {x : Str} {t : Tok} {d : Addr} {bs : List Bool} (M : Md ad mg mb s.heap) (r : Rm A 3) (ht : 1 ≤ s.toks) (hd : Facts [(d, isL (boolsA bs))] s.heap) (hbs : bs.length = x.length) (hx : x.length ≤ 500) :
    Ret prog w A g (.ref ad.pl) [.str x t, .ref d] (VNL (placesF x bs)) s := by
  refine enter_cells (X := [(d, isL (boolsA bs))]) (binds := [("text", .str x t), ("bare", .ref d)]) M.fpl M.W r ht hd (fun _ _ _ => rfl)
    (by simp only [List.forall_mem_cons]; exact ⟨.inr ⟨rfl, rfl⟩, .inr ⟨rfl, rfl⟩, fun _ h => nomatch h⟩) (fun L => by show [("bare" : Str), "text"].Nodup; decide) fun cd s₁ hc hcX S₁ => ?_
  generalize hLe : s.heap.objs.size = L at hc hcX S₁ ⊢
  have rd : Rm (A.deeper (envC (stAt 11) L ad.pl cd)) 2 := r.deeper
  replace S₁ : Sx g s s.heap L (fun _ => none) [(L + 1 + 1, isC (.ref d)), (L + 1, isC (.str x t)), (d, isL (boolsA bs))] s₁ := S₁
  have hls : (2000000 : Nat) ≤ sizeLine := by decide
  refine wpAny_execs_cons (x_assign_comp (n := x.length) (G := fun i ys Z => Z = [] ∧ IntsAre ys (((List.range i).filter (markAt x bs)).map Int.ofNat)) (Φ := VR 0 x.length) S₁ ?_ ?_ ⟨rfl, .nil⟩ (by omega) fun D ys Z s₂ hg hn S₂ => ?_)
  · refine pu_Call_type rfl (pu_builtin M.W M.g_range M.b_range) (pu_spl_cons (Φ := VI x.length) (pu_Call_builtin rfl (pu_builtin M.W M.g_len M.b_len) (pu_spl_cons (pu_cell (by rfl) (.tail _ (.head _))) pu_spl_nil) fun vs Y p => ?_) pu_spl_nil) fun vs Y p => ?_
    · obtain ⟨v, vs', Y₁, Y₂, rfl, rfl, ⟨rfl, rfl⟩, rfl, rfl⟩ := p
      exact (op_len_str (by omega)).mono fun _ _ h => Of.new h
    · obtain ⟨v, vs', Y₁, Y₂, rfl, rfl, ⟨⟨u, rfl⟩, rfl⟩, rfl, rfl⟩ := p
      exact op_range1.mono fun _ _ h => Of.new h
  · intro v Y s₂ pv c₂
    obtain ⟨r, rfl, rfl⟩ := pv
    refine src_range rd.hd c₂.facts (.head _) (by omega) fun C I hC => turn_name ?_ (fun i v ys Z mC hi hP hg hk => ?_) rfl rfl rfl
    · rintro i ys Z ⟨_, h⟩
      rw [IntsAre.lenN h]
      exact Nat.le_trans (List.length_filter_le _ _) (by rw [List.length_range]; exact Nat.le_refl _)
    · obtain ⟨u, rfl⟩ := hP
      obtain ⟨rfl, hys⟩ := hg
      obtain ⟨c, hc⟩ : ∃ c, x.cps[i]? = some c := ⟨_, Array.getElem?_eq_getElem hi⟩
      obtain ⟨b2, hb2⟩ : ∃ b2, bs[i]? = some b2 := ⟨_, List.getElem?_eq_getElem (by omega)⟩
      have hm : markAt x bs i = ((c == 34) && b2) := by
        unfold markAt
        rw [hc, hb2]
        cases b2 <;> simp
      have hsn : (List.range (i + 1)).filter (markAt x bs) = (List.range i).filter (markAt x bs) ++ (if markAt x bs i then [i] else []) := by
        rw [List.range_succ, List.filter_append]
        congr 1
        cases h : markAt x bs i <;> simp [h]
      refine ⟨markAt x bs i, ?_, fun hb => ⟨rfl, by rw [hsn, hb]; simpa using hys⟩, fun hb => ⟨Is (.int (i : Nat) u), pu_local hk, fun y V p => ?_⟩⟩
      · rw [hm]
        refine pu_tests_one (pu_isTrue_And (pu_isTrue_Compare (pu_item_str (c := c) ((pu_cell (by rfl) (.tail _ (.tail _ (.head _)))).mono fun _ _ => Is.toS) (pu_localI hk) hc (by omega)) pu_str fun u v Y Z p q => ?_) fun _ => pu_isTrue_bool (pu_item_list (l := d) (xs := boolsA bs) (k := i) (v := .bool b2) (pu_cell (by rfl) (.tail _ (.head _))) (.tail _ (.tail _ (.tail _ (.head _)))) (pu_localI hk) ?_ (by omega)))
        · obtain ⟨⟨t, rfl⟩, rfl⟩ := p
          obtain ⟨⟨t, rfl⟩, rfl⟩ := q
          rw [← sign_eq c 34]
          exact op_eq_str
        · simp [boolsA, hb2]
      · obtain ⟨rfl, rfl⟩ := p
        exact ⟨rfl, by rw [hsn, hb]; exact IntsAre.snocN hys i u⟩
  · obtain ⟨rfl, hys⟩ := hg
    have hmk : ∀ m ∈ marksF x bs, m ≤ x.length := fun m hm => Nat.le_of_lt (List.mem_range.mp (List.mem_filter.mp hm).1)
    have hml : (marksF x bs).length ≤ x.length := Nat.le_trans (List.length_filter_le _ _) (by rw [List.length_range]; exact Nat.le_refl _)
    have hpl : (placesF x bs).length ≤ 1000000 := by
      have h1 := placesGo_length x.length (marksF x bs) 0 hmk
      have h2 : x.length * ((marksF x bs).length + 1) ≤ 500 * 501 := Nat.mul_le_mul hx (by omega)
      unfold placesF
      omega
    refine wpAny_execs_cons (x_assign S₂ pu_List_nil fun v Y s₃ pv hn₃ S₃ => ?_)
    obtain ⟨P, rfl, rfl⟩ := pv
    refine wpAny_execs_cons (x_assign S₃ pu_int fun v Y s₄ pv _ S₄ => ?_)
    obtain ⟨⟨t₄, rfl⟩, rfl⟩ := pv
    have hP := hn₃ _ (.head _)
    refine wpAny_execs_cons (x_while S₄ (fun k m' X' => ∃ (marks : List Nat) (start : Nat) (Dm : Addr) (xm : Array Value) (pl : List Value) (acc : List Nat) (t' : Tok), k = marks.length ∧ IntsAre xm.toList (marks.map Int.ofNat) ∧ m' "marks" = some (.ref Dm) ∧ m' "places" = some (.ref P) ∧
        m' "start" = some (.int (start : Nat) t') ∧ IntsAre pl (acc.map Int.ofNat) ∧ acc ++ placesGo x.length marks start = placesF x bs ∧ (∀ m ∈ marks, m ≤ x.length) ∧ start ≤ x.length + 1 ∧ marks.length ≤ 500 ∧ Dm ≠ P ∧
        X' = [(P, isL pl.toArray), (Dm, isL xm), (L + 1 + 1, isC (.ref d)), (L + 1, isC (.str x t)), (d, isL (boolsA bs))])
      (n := (marksF x bs).length) ⟨marksF x bs, 0, D, ys.toArray, [], [], t₄, rfl, (show IntsAre ys ((marksF x bs).map Int.ofNat) from hys), rfl, rfl, rfl, .nil, rfl, hmk, by omega, by omega, fun e => hP.2 (D, isL ys.toArray) (.head _) e, rfl⟩ (fun k => decide ((k : Int) > 1)) ?_ ?_ ?_)
    · rintro k m' X' ⟨marks, start, Dm, xm, pl, acc, t', rfl, hxm, mm, mp, ms, hpl', hacc, hmm, hst, hmz, hDP, rfl⟩
      refine pu_isTrue_Compare (Φ₁ := VI marks.length) ?_ pu_int fun u v Y Z p q => ?_
      · refine pu_Call_builtin rfl (pu_builtin M.W M.g_len M.b_len) (pu_spl_cons (pu_local mm) pu_spl_nil) fun vs Y p => ?_
        obtain ⟨v, vs', Y₁, Y₂, rfl, rfl, ⟨rfl, rfl⟩, rfl, rfl⟩ := p
        have hz : xm.size = marks.length := by have := IntsAre.lenN hxm; simpa using this
        rw [← hz]
        exact (op_len_list (.tail _ (.head _)) (by omega)).mono fun _ _ h => Of.new h
      · obtain ⟨⟨t, rfl⟩, rfl⟩ := p
        obtain ⟨⟨t, rfl⟩, rfl⟩ := q
        exact op_gt_int
    · rintro k m' X' s₅ hB ⟨marks, start, Dm, xm, pl, acc, t', rfl, hxm, mm, mp, ms, hpl', hacc, hmm, hst, hmz, hDP, rfl⟩ S₅
      obtain ⟨m0, m1, mr, rfl⟩ : ∃ m0 m1 mr, marks = m0 :: m1 :: mr := by
        match marks, hB with
        | [], h => simp at h
        | [_], h => simp at h
        | m0 :: m1 :: mr, _ => exact ⟨m0, m1, mr, rfl⟩
      have hxz : xm.size ≤ sizeLine := by
        have h1 := IntsAre.lenN hxm
        rw [Array.length_toList] at h1
        omega
      obtain ⟨u0, hx0⟩ := IntsAre.nthN hxm (i := 0) (n := m0) rfl
      obtain ⟨u1, hx1⟩ := IntsAre.nthN hxm (i := 1) (n := m1) rfl
      have h0 := hmm m0 (.head _)
      have h1 := hmm m1 (.tail _ (.head _))
      have hal : acc.length ≤ 1000000 := by
        have := congrArg List.length hacc
        rw [List.length_append] at this
        omega
      have hpz : pl.toArray.size ≤ 1000000 := by
        have := IntsAre.lenN hpl'
        rw [List.size_toArray]
        omega
      refine wpAny_execs_cons (x_extend_range (a := start) (b := m0) rd.hd S₅ hP.1 (fun y hy => ?_) hpz (by omega) (by omega) (pu_local mp) ?_ (fun zs s₆ hz S₆ => ?_) rfl)
      · rcases List.mem_cons.mp hy with rfl | hy
        · exact hDP
        · exact hP.2 y (.tail _ hy)
      · refine pu_Call_type rfl (pu_builtin M.W M.g_range M.b_range) (pu_spl_cons (pu_local ms) (pu_spl_cons (pu_item_list (k := 0) (pu_local mm) (.tail _ (.head _)) pu_int (by rw [← Array.getElem?_toList]; exact hx0) (by omega)) pu_spl_nil)) fun vs Y p => ?_
        obtain ⟨v, vs', Y₁, Y₂, rfl, rfl, ⟨rfl, rfl⟩, v', vs'', Y₃, Y₄, rfl, rfl, ⟨rfl, rfl⟩, rfl, rfl⟩ := p
        exact op_range2.mono fun _ _ h => Of.new h
      refine wpAny_execs_cons (x_assign (Φ := VI ((m1 : Int) + 1)) S₆ (pu_BinOp (pu_item_list (k := 1) (pu_local mm) (.tail _ (.head _)) pu_int (by rw [← Array.getElem?_toList]; exact hx1) (by omega)) pu_int fun a b Y Z p q => ?_) fun v Y s₇ pv _ S₇ => ?_)
      · obtain ⟨rfl, rfl⟩ := p
        obtain ⟨⟨t, rfl⟩, rfl⟩ := q
        exact op_add_int
      obtain ⟨⟨t₇, rfl⟩, rfl⟩ := pv
      refine wpAny_execs_cons (x_assign S₇ (pu_slice_list (ol := some ((2 : Nat) : Int)) (oh := none) (pu_local (show upd _ _ _ _ = some (.ref Dm) from mm)) (.tail _ (.head _)) (pu_part_some pu_int) pu_part_none hxz) fun v Y s₈ pv hn₈ S₈ => wpAny_execs_nil ?_)
      obtain ⟨D8, rfl, rfl⟩ := pv
      have h8 := hn₈ _ (.head _)
      refine ⟨rfl, mr.length, _, _, by simp; omega, ?_, S₈.less (Y := [(P, isL (pl ++ zs).toArray), (D8, isL (slicePick xm (some ((2 : Nat) : Int)) none none)), (L + 1 + 1, isC (.ref d)), (L + 1, isC (.str x t)), (d, isL (boolsA bs))]) fun y hy => ?_⟩
      · refine ⟨mr, m1 + 1, D8, _, pl ++ zs, acc ++ List.range' start (m0 - start), t₇, rfl, ?_, rfl, mp, rfl, ?_, ?_, fun m hm => hmm m (.tail _ (.tail _ hm)), by omega, ?_, fun e => h8.2 (P, isL (pl.toArray.toList ++ zs).toArray) (.head _) e.symm, rfl⟩
        · rw [pick_from]
          exact IntsAre.dropN hxm 2
        · rw [List.map_append]
          exact IntsAre.appN hpl' hz
        · rw [List.append_assoc]
          exact hacc
        · simp at hmz; omega
      · rcases List.mem_cons.mp hy with rfl | hy
        · exact .tail _ (.head _)
        rcases List.mem_cons.mp hy with rfl | hy
        · exact .head _
        · exact .tail _ (.tail _ (.tail _ hy))
    · rintro k m' X' s₅ hB ⟨marks, start, Dm, xm, pl, acc, t', rfl, hxm, mm, mp, ms, hpl', hacc, hmm, hst, hmz, hDP, rfl⟩ S₅
      have hgo : placesGo x.length marks start = List.range' start (x.length - start) := by
        match marks, hB with
        | [], _ => rfl
        | [_], _ => rfl
        | m0 :: m1 :: mr, h =>
          simp at h
          omega
      rw [hgo] at hacc
      have hsum : acc.length + (x.length - start) = (placesF x bs).length := by rw [← hacc, List.length_append, List.length_range']
      have hpz : pl.length = acc.length := IntsAre.lenN hpl'
      refine wpAny_execs_cons (x_return (Φ := VNL (placesF x bs)) S₅ (pu_BinOp (Φ₂ := VNL (List.range' start (x.length - start))) (pu_local mp) ?_ fun a b Y Z p q => ?_) fun v Y s₆ pv hn₆ S₆ => ?_)
      · refine pu_Call_type rfl (pu_builtin M.W M.g_list M.b_list) (pu_spl_cons (Φ := VR start x.length) ?_ pu_spl_nil) fun vs Y p => ?_
        · refine pu_Call_type rfl (pu_builtin M.W M.g_range M.b_range) (pu_spl_cons (pu_local ms) (pu_spl_cons (Φ := VI x.length) (pu_Call_builtin rfl (pu_builtin M.W M.g_len M.b_len) (pu_spl_cons (pu_cell (by rfl) (.tail _ (.tail _ (.tail _ (.head _))))) pu_spl_nil) fun vs Y p => ?_) pu_spl_nil)) fun vs Y p => ?_
          · obtain ⟨v, vs', Y₁, Y₂, rfl, rfl, ⟨rfl, rfl⟩, rfl, rfl⟩ := p
            exact (op_len_str (by omega)).mono fun _ _ h => Of.new h
          · obtain ⟨v, vs', Y₁, Y₂, rfl, rfl, ⟨rfl, rfl⟩, v', vs'', Y₃, Y₄, rfl, rfl, ⟨⟨u, rfl⟩, rfl⟩, rfl, rfl⟩ := p
            exact op_range2.mono fun _ _ h => Of.new h
        · obtain ⟨v, vs', Y₁, Y₂, rfl, rfl, ⟨r', rfl, rfl⟩, rfl, rfl⟩ := p
          exact (op_list_range rd.hd (.head _) (by omega) (by omega)).mono fun _ _ h => Of.new h
      · obtain ⟨rfl, rfl⟩ := p
        obtain ⟨D', xs', rfl, hxs', rfl⟩ := q
        have hz' : xs'.size = x.length - start := by have := IntsAre.lenN hxs'; simpa using this
        refine (op_add_list (.tail _ (.head _)) (.head _) (by rw [List.size_toArray]; omega)).mono fun v Y h => ?_
        obtain ⟨E, rfl, rfl⟩ := h
        refine ⟨E, _, rfl, ?_, rfl⟩
        rw [← hacc, List.map_append]
        simpa using IntsAre.appN hpl' hxs'
      · obtain ⟨E, xs', rfl, hxs', rfl⟩ := pv
        refine ⟨_, rfl, S₆.lex (Y := [(E, isL xs')]) ⟨E, xs', rfl, hxs', rfl⟩ ?_ ?_⟩
        · exact S₆.cx.facts.sub fun y hy => by rw [List.mem_singleton.mp hy]; exact .head _
        · exact fun y hy => by rw [List.mem_singleton.mp hy]; exact (hn₆ _ (.head _)).1
end

/-! ## Plain law: texts as lists of code points -/
def tl (x : Str) : List Nat := x.cps.toList
theorem tl_mkS (l : List Nat) : tl (mkS l) = l := rfl
theorem mkS_tl (x : Str) : mkS (tl x) = x := mkS_toList x
theorem tl_len (x : Str) : (tl x).length = x.length := rfl
theorem tl_inj {x y : Str} (h : tl x = tl y) : x = y := by rw [← mkS_tl x, h, mkS_tl]
theorem tl_append (x y : Str) : tl (x ++ y) = tl x ++ tl y := by
  show (x ++ y).cps.toList = _
  rw [Str.cps_append, Array.toList_append]; rfl

/-- y replaced by z, from the left -/
def replGo (y z : List Nat) : Nat → List Nat → List Nat
  | _, [] => []
  | k + 1, _ :: r => replGo y z k r
  | 0, c :: r => if y.isPrefixOf (c :: r) then z ++ replGo y z (y.length - 1) r else c :: replGo y z 0 r
def repl (y z l : List Nat) : List Nat := replGo y z 0 l

theorem replGo_drop (y z : List Nat) : ∀ (k : Nat) (l : List Nat), replGo y z k l = repl y z (l.drop k)
  | 0, l => rfl
  | k + 1, [] => by simp [repl, replGo]
  | k + 1, c :: r => by rw [List.drop_succ_cons, ← replGo_drop y z k r]; rfl
theorem repl_nil (y z : List Nat) : repl y z [] = [] := rfl
theorem repl_hit {y z : List Nat} {c : Nat} {r : List Nat} (hy : y ≠ []) (h : y.isPrefixOf (c :: r) = true) : repl y z (c :: r) = z ++ repl y z ((c :: r).drop y.length) := by
  show (if y.isPrefixOf (c :: r) then z ++ replGo y z (y.length - 1) r else c :: replGo y z 0 r) = _
  rw [if_pos h, replGo_drop]
  cases y with
  | nil => exact absurd rfl hy
  | cons a q => rfl
theorem repl_miss {y z : List Nat} {c : Nat} {r : List Nat} (h : y.isPrefixOf (c :: r) = false) : repl y z (c :: r) = c :: repl y z r := by
  show (if y.isPrefixOf (c :: r) then z ++ replGo y z (y.length - 1) r else c :: replGo y z 0 r) = _
  rw [if_neg (by rw [h]; exact Bool.false_ne_true)]; rfl
theorem repl_none {y z : List Nat} : ∀ (l : List Nat), (∀ k, k < l.length → y.isPrefixOf (l.drop k) = false) → repl y z l = l
  | [], _ => rfl
  | c :: r, h => by
    rw [repl_miss (h 0 (Nat.zero_lt_succ _)), repl_none r fun k hk => by simpa using h (k + 1) (Nat.succ_lt_succ hk)]
theorem repl_skip {y z : List Nat} : ∀ (n : Nat) (l : List Nat), (∀ k, k < n → y.isPrefixOf (l.drop k) = false) → repl y z l = l.take n ++ repl y z (l.drop n)
  | 0, l, _ => rfl
  | n + 1, [], _ => by simp [repl_nil]
  | n + 1, c :: r, h => by
    rw [repl_miss (h 0 (Nat.zero_lt_succ _)), repl_skip n r fun k hk => by simpa using h (k + 1) (Nat.succ_lt_succ hk)]
    rfl

open StrLaws Builtin.Str in
theorem at_iff {x y : Str} (hy : 1 ≤ y.length) (k : Nat) : At x y x.length k ↔ (tl y).isPrefixOf ((tl x).drop k) = true := by
  rw [List.isPrefixOf_iff_prefix]
  unfold At
  rw [subAt_eq]
  constructor
  · rintro ⟨h1, h2⟩
    have h2 := beq_iff_eq.mp h2
    rw [List.prefix_iff_eq_take]
    exact h2.symm
  · intro h
    have h1 := h.length_le
    rw [List.length_drop] at h1
    have e1 : (tl y).length = y.length := rfl
    have e2 : (tl x).length = x.length := rfl
    refine ⟨by omega, beq_iff_eq.mpr ?_⟩
    exact (List.prefix_iff_eq_take.mp h).symm

open StrLaws Builtin.Str in
theorem join_parts {x y z : Str} (hy : 1 ≤ y.length) : ∀ (cuts : List Nat) (a f : Nat), a ≤ x.length → ChainG x y x.length a cuts f → (∀ k, f ≤ k → ¬ At x y x.length k) →
    tl (Str.join z (partsFrom x y.length a cuts)) = repl (tl y) (tl z) ((tl x).drop a)
  | [], a, f, ha, h, hn => by
    have hf : f = a := h
    subst hf
    show tl (strSub x f x.length) = _
    have e : tl (strSub x f x.length) = (tl x).drop f := by
      show (strSub x f x.length).cps.toList = _
      rw [strSub_toList]
      exact List.take_of_length_le (by rw [List.length_drop]; exact Nat.le_refl _)
    rw [e, repl_none]
    intro k hk
    rw [List.drop_drop]
    exact Bool.eq_false_iff.mpr fun h => hn (f + k) (Nat.le_add_right _ _) ((at_iff hy _).mpr h)
  | c :: r, a, f, ha, h, hn => by
    obtain ⟨hac, hat, hno, hch⟩ := h
    have hcw : c + y.length ≤ x.length := hat.1
    have ih := join_parts (z := z) hy r (c + y.length) f hcw hch hn
    obtain ⟨p, q, hpq⟩ := partsFrom_ne x y.length (c + y.length) r
    have e1 : tl (Str.join z (partsFrom x y.length a (c :: r))) = tl (strSub x a c) ++ tl z ++ tl (Str.join z (partsFrom x y.length (c + y.length) r)) := by
      show tl (Str.join z (strSub x a c :: partsFrom x y.length (c + y.length) r)) = _
      rw [hpq]
      show tl (strSub x a c ++ z ++ Str.join z (p :: q)) = _
      rw [tl_append, tl_append]
    rw [e1, ih, repl_skip (c - a) ((tl x).drop a)]
    · have e2 : tl (strSub x a c) = ((tl x).drop a).take (c - a) := strSub_toList x a c
      rw [e2, List.drop_drop, show a + (c - a) = c by omega, List.append_assoc]
      congr 1
      have hp := (at_iff hy c).mp hat
      cases hd : (tl x).drop c with
      | nil =>
        rw [hd] at hp
        cases hyl : tl y with
        | nil => have : (tl y).length = y.length := rfl; rw [hyl] at this; simp at this; omega
        | cons a b => rw [hyl] at hp; cases hp
      | cons u v =>
        rw [hd] at hp
        rw [repl_hit (fun e => by have : (tl y).length = y.length := rfl; rw [e] at this; simp at this; omega) hp, ← hd, List.drop_drop]
        rfl
    · intro k hk
      rw [List.drop_drop]
      exact Bool.eq_false_iff.mpr fun h => hno (a + k) (Nat.le_add_right _ _) (by omega) ((at_iff hy _).mpr h)

open StrLaws Builtin.Str in
theorem replace_eq (x y z : Str) (hy : 1 ≤ y.length) : tl (Txt.replace x y z) = repl (tl y) (tl z) (tl x) := by
  obtain ⟨f, hch, hn⟩ := occ_tight x y hy
  have h0 : (y.length == 0) = false := by simp; omega
  unfold Txt.replace
  rw [h0, Bool.false_and, Bool.or_false]
  have key := join_parts (z := z) hy _ 0 f (Nat.zero_le _) hch hn
  rw [List.drop_zero] at key
  cases he : (occurrences x y 0 x.length (x.length + 1)).isEmpty with
  | false => rw [if_neg Bool.false_ne_true, glued_eq_join, partsBetween_eq]; exact key
  | true =>
    rw [if_pos rfl, ← key, List.isEmpty_iff.mp he]
    show tl x = tl (strSub x 0 x.length)
    show _ = (strSub x 0 x.length).cps.toList
    rw [strSub_toList, List.drop_zero, Nat.sub_zero]
    exact (List.take_of_length_le (Nat.le_refl _)).symm

/-- y stands somewhere in l -/
def hasSub (y l : List Nat) : Bool := (List.range (l.length + 1)).any fun k => y.isPrefixOf (l.drop k)
open StrLaws Builtin.Str in
theorem occ_has (x y : Str) (hy : 1 ≤ y.length) : (!(occurrences x y 0 x.length 1).isEmpty) = hasSub (tl y) (tl x) := by
  rw [Bool.eq_iff_iff, found_iff]
  unfold hasSub
  rw [List.any_eq_true]
  constructor
  · rintro ⟨i, hi⟩
    refine ⟨i, List.mem_range.mpr ?_, (at_iff hy i).mp hi⟩
    have := hi.1
    have e : (tl x).length = x.length := rfl
    omega
  · rintro ⟨i, _, hi⟩
    exact ⟨i, (at_iff hy i).mpr hi⟩
theorem repl_noSub {y z l : List Nat} (h : hasSub y l = false) : repl y z l = l := repl_none l fun k hk => by
  unfold hasSub at h
  rw [List.any_eq_false] at h
  exact Bool.eq_false_iff.mpr (h k (List.mem_range.mpr (by omega)))

/-! ## _law_taken -/
def rowAt (x : Str) (bs : List Bool) (k : Nat) : Bool := (bs[k]? == some true) && (x.cps.getD k 0 == 40 || x.cps.getD k 0 == 41)
def rowF (x : Str) (bs : List Bool) (ns : List Nat) : List Nat := (ns.filter (rowAt x bs)).map fun k => x.cps.getD k 0
def takenGo : Nat → List Nat → List Nat
  | 0, l => l
  | n + 1, l => if hasSub [40, 41] l then takenGo n (repl [40, 41] [] l) else l
def takenF (row : List Nat) : Bool := takenGo row.length row == []

theorem join_flat : ∀ (l : List Str), tl (Txt.join "" l) = (l.map tl).flatten := by
  intro l
  show tl (Builtin.Str.glued "" l) = _
  rw [StrLaws.glued_eq_join]
  induction l with
  | nil => rfl
  | cons x r ih =>
    cases r with
    | nil => simp [PySem.Str.join]
    | cons y q =>
      show tl (x ++ "" ++ PySem.Str.join "" (y :: q)) = _
      rw [tl_append, tl_append, ih]
      show tl x ++ [] ++ _ = _
      simp
theorem join_ones {α : Type} (f : α → Nat) (l : List α) : Txt.join "" (l.map fun k => (⟨#[f k]⟩ : Str)) = mkS (l.map f) := by
  apply tl_inj
  rw [join_flat, tl_mkS, List.map_map]
  induction l with
  | nil => rfl
  | cons a r ih => rw [List.map_cons, List.flatten_cons, ih]; rfl
theorem replGo_le (y z : List Nat) (hz : z = []) : ∀ (l : List Nat) (k : Nat), (replGo y z k l).length ≤ l.length - k
  | [], k => by cases k <;> exact Nat.zero_le _
  | c :: r, k + 1 => by
    have := replGo_le y z hz r k
    rw [List.length_cons]
    show (replGo y z k r).length ≤ _
    omega
  | c :: r, 0 => by
    show (if y.isPrefixOf (c :: r) then z ++ replGo y z (y.length - 1) r else c :: replGo y z 0 r).length ≤ _
    split
    · have := replGo_le y z hz r (y.length - 1)
      rw [hz, List.nil_append, List.length_cons]
      subst hz
      omega
    · have := replGo_le y z hz r 0
      rw [List.length_cons, List.length_cons]
      omega
theorem repl_lt {y : List Nat} (hy : y ≠ []) : ∀ (l : List Nat), hasSub y l = true → (repl y [] l).length < l.length
  | [], h => by
    unfold hasSub at h
    cases y with
    | nil => exact absurd rfl hy
    | cons a b => simp [List.isPrefixOf] at h
  | c :: r, h => by
    cases hp : y.isPrefixOf (c :: r) with
    | true =>
      rw [repl_hit hy hp, List.nil_append]
      have h1 := replGo_le y [] rfl ((c :: r).drop y.length) 0
      have h2 : 1 ≤ y.length := by cases y with
        | nil => exact absurd rfl hy
        | cons a b => simp
      show (replGo y [] 0 ((c :: r).drop y.length)).length < _
      rw [List.length_drop] at h1
      rw [List.length_cons] at *
      omega
    | false =>
      rw [repl_miss hp]
      refine Nat.succ_lt_succ (repl_lt hy r ?_)
      unfold hasSub at *
      rw [List.any_eq_true] at *
      obtain ⟨k, hk, hk'⟩ := h
      cases k with
      | zero => rw [List.drop_zero, hp] at hk'; cases hk'
      | succ k =>
        refine ⟨k, List.mem_range.mpr ?_, by simpa using hk'⟩
        have := List.mem_range.mp hk
        rw [List.length_cons] at this
        omega

theorem takenGo_stable : ∀ (n : Nat) (l : List Nat), l.length ≤ n → takenGo n l = takenGo l.length l
  | 0, l, h => by rw [Nat.le_zero.mp h]
  | n + 1, l, h => by
    cases hs : hasSub [40, 41] l with
    | false =>
      rw [takenGo, if_neg (by rw [hs]; exact Bool.false_ne_true)]
      cases hl : l.length with
      | zero => rfl
      | succ k => rw [takenGo, if_neg (by rw [hs]; exact Bool.false_ne_true)]
    | true =>
      have hlt := repl_lt (y := [40, 41]) (by decide) l hs
      rw [takenGo, if_pos hs, takenGo_stable n _ (by omega)]
      cases hl : l.length with
      | zero => omega
      | succ k => rw [takenGo, if_pos hs, takenGo_stable k _ (by omega)]

theorem takenGo_step {l : List Nat} (hs : hasSub [40, 41] l = true) : takenGo l.length l = takenGo (repl [40, 41] [] l).length (repl [40, 41] [] l) := by
  have hlt := repl_lt (y := [40, 41]) (by decide) l hs
  cases hl : l.length with
  | zero => omega
  | succ k => rw [takenGo, if_pos hs, takenGo_stable k _ (by omega)]

section
variable {prog : Program} {w : World} {A : Around} {g : Bool} {s₀ : Shared} {hB : Heap} {L : Addr} {m : Str → Option Value} {X Y : List Fact} {s s' : Shared} {env : Env}
theorem x_while2 {test : PySem.Expr} {body : List Stmt} {pos : Pos} {Q : Flow → Shared → Prop} {E : Value → Shared → Prop} (S : Sx g s₀ hB L m X s) (J : Nat → Bool → (Str → Option Value) → List Fact → Prop) {n : Nat} {b0 : Bool} (h0 : J n b0 m X)
    (htest : ∀ k b m' X', J k b m' X' → Pu prog w A g hB L m' X' (isTrue test env (eval test env)) (BB b))
    (turn : ∀ k m' X' s', J k true m' X' → Sx g s₀ hB L m' X' s' → wpAny (model prog w) A (execs body env) (fun f s'' => f = .next ∧ ∃ k' b' m'' X'', k' < k ∧ J k' b' m'' X'' ∧ Sx g s₀ hB L m'' X'' s'') NoE s')
    (done : ∀ k m' X' s', J k false m' X' → Sx g s₀ hB L m' X' s' → Q .next s') :
    wpAny (model prog w) A (exec (.While test body [] pos) env) Q E s := by
  refine wpAny_While (codeAny_mono (R := fun r s' => match r with | .ok f => Q f s' | .error e => False) (codeAny_whileLoop (fun k s' => ∃ b m' X', J k b m' X' ∧ Sx g s₀ hB L m' X' s') ?_ n ⟨b0, m, X, h0, S⟩) fun r s' hr => ?_)
  · rintro k s' ⟨b, m', X', hj, S'⟩
    refine (htest k b m' X' hj).run S'.cx fun b' Y s₁ pb f r x₁ c₁ => ?_
    obtain ⟨rfl, rfl⟩ := pb
    have S₁ := S'.up x₁
    cases b' with
    | true =>
      rw [if_pos rfl]
      refine wpAny_mono (turn k m' X' s₁ hj S₁) (fun f s₂ h₂ => ?_) fun _ _ e => e.elim
      obtain ⟨rfl, k', b', m'', X'', hlt, hj', S₂⟩ := h₂
      exact ⟨k', hlt, b', m'', X'', hj', S₂⟩
    | false =>
      rw [if_neg Bool.false_ne_true]
      exact wpAny_execs_nil (done k m' X' s₁ hj S₁)
  · cases r with
    | ok f => exact hr
    | error e => exact hr.elim

theorem spec_taken {ad : Ad} {mg mb : Str → Option Value} {x : Str} {t : Tok} {d e : Addr} {bs : List Bool} {xs : Array Value} {ns : List Nat} (M : Md ad mg mb s.heap) (r : Rm A 3) (ht : 1 ≤ s.toks)
    (hd : Facts [(d, isL (boolsA bs)), (e, isL xs)] s.heap) (hbs : bs.length = x.length) (hx : x.length ≤ 500) (hxs : IntsAre xs.toList (ns.map Int.ofNat)) (hns : ∀ k ∈ ns, k < x.length) (hnl : ns.length ≤ 100000) :
    Ret prog w A g (.ref ad.ta) [.str x t, .ref d, .ref e] (VB (takenF (rowF x bs ns))) s := by
  refine enter_cells (X := [(d, isL (boolsA bs)), (e, isL xs)]) (binds := [("text", .str x t), ("bare", .ref d), ("places", .ref e)]) M.fta M.W r ht hd (fun _ _ _ => rfl)
    (by simp only [List.forall_mem_cons]; exact ⟨.inr ⟨rfl, rfl⟩, .inr ⟨rfl, rfl⟩, .inl rfl, fun _ h => nomatch h⟩) (fun L => by show [("bare" : Str), "text"].Nodup; decide) fun cd s₁ hc hcX S₁ => ?_
  generalize hLe : s.heap.objs.size = L at hc hcX S₁ ⊢
  have rd : Rm (A.deeper (envC (stAt 12) L ad.ta cd)) 2 := r.deeper
  replace S₁ : Sx g s s.heap L (fun y => if y = "places" then some (.ref e) else none) [(L + 1 + 1, isC (.ref d)), (L + 1, isC (.str x t)), (d, isL (boolsA bs)), (e, isL xs)] s₁ := S₁
  have hls : (2000000 : Nat) ≤ sizeLine := by decide
  have hxz : xs.size = ns.length := by have := IntsAre.lenN hxs; simpa using this
  refine wpAny_execs_cons (x_assign (Φ := VS (mkS (rowF x bs ns))) S₁ ?_ fun v Y s₂ pv _ S₂ => ?_)
  · refine pu_Method (T := "str") (id := "str.join") (Ψ₀ := PCons (VSL (((ns.filter (rowAt x bs)).map fun k => (⟨#[x.cps.getD k 0]⟩ : Str)))) PNil) rfl F.plainAttrs_str F.slot_str_join F.type_str_join pu_str (fun ov Y s p c => ?_) (pu_spl_cons ?_ pu_spl_nil) fun ov vs Y Z p q => ?_
    · obtain ⟨⟨t, rfl⟩, rfl⟩ := p
      exact ⟨typeIs_str _ _ _, fun a h => nomatch h⟩
    · refine (pu_comp (n := xs.size) (G := fun i ys Z => Z = [] ∧ StrsAre ys (((ns.take i).filter (rowAt x bs)).map fun k => (⟨#[x.cps.getD k 0]⟩ : Str))) (Φ := Is (.ref e)) (pu_local (by rfl)) ?_ ⟨rfl, .nil⟩ (by omega)).mono ?_
      · intro v Y s₂ pv c₂
        obtain ⟨rfl, rfl⟩ := pv
        refine src_list rd.hd c₂.facts (.tail _ (.tail _ (.tail _ (.head _)))) fun C I hC hI => turn_name ?_ (fun i v ys Z mC hi hP hg hk => ?_) rfl rfl rfl
        · rintro i ys Z ⟨_, h⟩
          rw [StrsAre.len h, List.length_map]
          exact Nat.le_trans (List.length_filter_le _ _) (List.length_take_le _ _)
        · obtain ⟨k, hk'⟩ : ∃ k, ns[i]? = some k := ⟨_, List.getElem?_eq_getElem (by omega)⟩
          obtain ⟨u, hu⟩ := IntsAre.nthN hxs hk'
          rw [Array.getElem?_toList, hP] at hu
          obtain rfl := Option.some.inj hu
          obtain ⟨rfl, hys⟩ := hg
          have hkx : k < x.length := hns k (List.mem_of_getElem? hk')
          obtain ⟨c, hc⟩ : ∃ c, x.cps[k]? = some c := ⟨_, Array.getElem?_eq_getElem hkx⟩
          obtain ⟨b2, hb2⟩ : ∃ b2, bs[k]? = some b2 := ⟨_, List.getElem?_eq_getElem (by omega)⟩
          have hcd : x.cps.getD k 0 = c := by rw [Array.getD_eq_getD_getElem?, hc]; rfl
          have hm : rowAt x bs k = (b2 && (c == 40 || c == 41)) := by
            unfold rowAt
            rw [hb2, hcd]
            cases b2 <;> simp
          have hsn : (ns.take (i + 1)).filter (rowAt x bs) = (ns.take i).filter (rowAt x bs) ++ (if rowAt x bs k then [k] else []) := by
            rw [List.take_add_one, List.filter_append, hk']
            congr 1
            cases h : rowAt x bs k <;> simp [h]
          refine ⟨rowAt x bs k, ?_, fun hb => ⟨rfl, by rw [hsn, hb]; simpa using hys⟩, fun hb => ⟨VS ⟨#[c]⟩, pu_item_str (c := c) ((pu_cell (by rfl) (.tail _ (.head _))).mono fun _ _ => Is.toS) (pu_localI hk) hc (by omega), fun y V p => ?_⟩⟩
          · rw [hm]
            refine pu_tests_one (pu_isTrue_And (pu_isTrue_bool (pu_item_list (l := d) (xs := boolsA bs) (k := k) (v := .bool b2) (pu_cell (by rfl) (.head _)) (.tail _ (.tail _ (.head _))) (pu_localI hk) ?_ (by omega))) fun _ =>
              pu_isTrue_Compare (pu_item_str (c := c) ((pu_cell (by rfl) (.tail _ (.head _))).mono fun _ _ => Is.toS) (pu_localI hk) hc (by omega)) pu_str fun u v Y Z p q => ?_)
            · simp [boolsA, hb2]
            · obtain ⟨⟨t, rfl⟩, rfl⟩ := p
              obtain ⟨⟨t, rfl⟩, rfl⟩ := q
              have : (c == 40 || c == 41) = !(Builtin.Str.occurrences (Str.ofString "()") ⟨#[c]⟩ 0 (Str.ofString "()").length 1).isEmpty := by
                rw [StrLaws.found_one]
                show _ = decide (c ∈ [40, 41])
                by_cases h1 : c = 40 <;> by_cases h2 : c = 41 <;> simp [h1, h2]
              rw [this]
              exact op_in_str
          · obtain ⟨⟨u', rfl⟩, rfl⟩ := p
            refine ⟨rfl, ?_⟩
            rw [hsn, hb, if_pos rfl, List.map_append]
            have := StrsAre.snoc hys ⟨#[c]⟩ u'
            rw [List.map_singleton, hcd]
            exact this
      · rintro v Y ⟨D, ys, Z, rfl, ⟨rfl, hys⟩, rfl⟩
        refine ⟨D, _, rfl, ?_, rfl⟩
        rw [hxz, List.take_length] at hys
        exact hys
    · obtain ⟨⟨u₁, rfl⟩, rfl⟩ := p
      obtain ⟨v, vs', Y₁, Y₂, rfl, rfl, ⟨D, zs, rfl, hzs, rfl⟩, rfl, rfl⟩ := q
      refine (op_join (.head _) hzs ?_).mono fun v V h => Of.new (by rw [join_ones] at h; exact h)
      have h5 := sum_le_mul 1 ((ns.filter (rowAt x bs)).map fun k => (⟨#[x.cps.getD k 0]⟩ : Str)) (fun y hy => by
        obtain ⟨k, _, rfl⟩ := List.mem_map.mp hy
        exact Nat.le_refl _)
      have h6 : (ns.filter (rowAt x bs)).length ≤ ns.length := List.length_filter_le _ _
      rw [List.length_map] at h5
      show _ + _ * 0 ≤ _
      omega
  obtain ⟨⟨t₂, rfl⟩, rfl⟩ := pv
  have hrl : (rowF x bs ns).length ≤ 100000 := by
    unfold rowF
    rw [List.length_map]
    exact Nat.le_trans (List.length_filter_le _ _) hnl
  refine wpAny_execs_cons (x_while2 S₂ (fun k b m' X' => ∃ (cur : List Nat) (t' : Tok), cur.length ≤ k ∧ cur.length ≤ 100000 ∧ b = hasSub [40, 41] cur ∧ takenGo cur.length cur = takenGo (rowF x bs ns).length (rowF x bs ns) ∧ m' "row" = some (.str (mkS cur) t'))
    (n := (rowF x bs ns).length) ⟨rowF x bs ns, t₂, Nat.le_refl _, hrl, rfl, rfl, rfl⟩ ?_ ?_ ?_)
  · rintro k b m' X' ⟨cur, t', hk, hl, rfl, hgo, mr⟩
    refine pu_isTrue_Compare pu_str (pu_local mr) fun u v Y Z p q => ?_
    obtain ⟨⟨t, rfl⟩, rfl⟩ := p
    obtain ⟨rfl, rfl⟩ := q
    have := occ_has (mkS cur) (Str.ofString "()") (by decide)
    rw [tl_mkS] at this
    rw [← show _ = hasSub [40, 41] cur from this]
    exact op_in_str
  · rintro k m' X' s₃ ⟨cur, t', hk, hl, hb, hgo, mr⟩ S₃
    refine wpAny_execs_cons (x_assign S₃ (pu_replace2 (pu_localS mr) (by decide) (by rw [mkS_length]; exact hl) (by decide)) fun v Y s₄ pv _ S₄ => wpAny_execs_nil ?_)
    obtain ⟨⟨t₄, rfl⟩, rfl⟩ := pv
    have hlt := repl_lt (y := [40, 41]) (by decide) cur hb.symm
    have hre : Txt.replace (mkS cur) (Str.ofString "()") (Str.ofString "") = mkS (repl [40, 41] [] cur) := tl_inj (replace_eq (mkS cur) (Str.ofString "()") (Str.ofString "") (by decide))
    refine ⟨rfl, (repl [40, 41] [] cur).length, _, _, _, by omega, ⟨repl [40, 41] [] cur, t₄, Nat.le_refl _, by omega, rfl, ?_, by rw [hre]; rfl⟩, S₄⟩
    rw [← hgo, takenGo_step hb.symm]
  · rintro k m' X' s₃ ⟨cur, t', hk, hl, hb, hgo, mr⟩ S₃
    refine wpAny_execs_cons (x_return S₃ (pu_Compare (Ψ := VB (takenF (rowF x bs ns))) (pu_localS mr) pu_str fun u v Y Z p q => ?_) fun v Y s₄ pv _ S₄ => ?_)
    · obtain ⟨⟨t, rfl⟩, rfl⟩ := p
      obtain ⟨⟨t, rfl⟩, rfl⟩ := q
      have : takenF (rowF x bs ns) = decide (mkS cur = Str.ofString "") := by
        unfold takenF
        have h1 := hgo
        have h2 : takenGo cur.length cur = cur := by
          cases h : cur.length with
          | zero => rfl
          | succ n => rw [takenGo, if_neg (by rw [← hb]; exact Bool.false_ne_true)]
        rw [← h1, h2]
        rw [Bool.eq_iff_iff, beq_iff_eq, decide_eq_true_iff]
        exact (mkS_inj (b := [])).symm
      rw [this]
      exact op_eq_str
    · obtain ⟨rfl, rfl⟩ := pv
      exact ⟨_, rfl, S₄.lex (Y := []) ⟨rfl, rfl⟩ (Facts.nil _) (Fresh.nil _)⟩
end

/-! ## dict displays, dict.get, _law_written -/
def isDk (prog : Program) (w : World) (kvs : List (Str × Value)) : Obj → Prop := fun o => ∃ es ep, o.ExactDict ∧ o.data = .dict es ep ∧ KeysOf (strKind prog w) es ∧ Pairs (strKind prog w) es.toList kvs ∧ (kvs.map (·.1)).Nodup
theorem dk_of {prog : Program} {w : World} {kvs : List (Str × Value)} {h : Heap} {D : Addr} (x : h.DictOf (strKind prog w) D kvs) : ∃ o, h.get? D = some o ∧ isDk prog w kvs o := by
  obtain ⟨o, es, ep, ho, r1, r2, r3⟩ := x
  exact ⟨o, ho, es, ep, r1, r2, r3⟩
theorem of_dk {prog : Program} {w : World} {kvs : List (Str × Value)} {h : Heap} {D : Addr} {o : Obj} (ho : h.get? D = some o) (x : isDk prog w kvs o) : h.DictOf (strKind prog w) D kvs := by
  obtain ⟨es, ep, r1, r2, r3⟩ := x
  exact ⟨o, es, ep, ho, r1, r2, r3⟩

section
variable {prog : Program} {w : World} {A : Around} {g : Bool} {s₀ : Shared} {hB : Heap} {L : Addr} {m : Str → Option Value} {X Y : List Fact} {s s' : Shared} {env : Env}
theorem op_get {D : Addr} {k : Str} {t : Tok} {dflt : Value} {kvs : List (Str × Value)} (hD : ∀ s, Cx hB L m X s → s.heap.DictOf (strKind prog w) D kvs) (hs : D ≠ sysModules) :
    Pu prog w A g hB L m X (call (.builtin "dict.get") [.ref D, .str k t, dflt]) (Is ((valueAt kvs k).getD dflt)) := fun s c => by
  have hm := (hD s c).mapOf
  exact call_meetsIn PySem.F.slot_dict_get hm.typeIs PySem.F.entry_dict_get (PySem.F.args_dict_get_3 _ _ _) (meets_dict_get_default (strKind prog w) D (strKind_is prog w k t) (beq_eq_false_iff_ne.mpr hs) dflt) ⟨_, hm, done_tok ⟨rfl, rfl⟩ (Nat.le_succ _)⟩

theorem pu_Dict_nil {mg mb : Str → Option Value} {pos : Pos} (W : Wo mg mb hB) : Pu prog w A g hB L m X (eval (.Dict [] [] pos) env) (fun v Y => ∃ D, v = .ref D ∧ D ≠ sysModules ∧ Y = [(D, isD w [])]) := fun s c => by
  rw [eval_Dict_empty]
  refine wpAny_bind (wpAny_standAt ?_)
  unfold newDict
  exact wpAny_newObj_type ⟨_, ⟨_, rfl, Nat.ne_of_gt (W.keep c.base).low, rfl⟩, Facts.cons ⟨_, Heap.get?_push_size _ rfl, 0, rfl⟩ (Facts.nil _), Fresh.cons (size_none _) (Fresh.nil _), Ex.of (tk := s.toks) (Kp.push _ _) (Nat.le_refl _)⟩

/-- {'a': 'b', ..} with three texts -/
theorem pu_Dict3 {mg mb : Str → Option Value} (W : Wo mg mb hB) {k1 k2 k3 v1 v2 v3 : Str} {a1 a2 a3 b1 b2 b3 : Nat} {p1 p2 p3 q1 q2 q3 pos : Pos} (hm : ∀ t1 t2 t3, merged [] [(k1, Value.str v1 t1), (k2, .str v2 t2), (k3, .str v3 t3)] = [(k1, .str v1 t1), (k2, .str v2 t2), (k3, .str v3 t3)]) :
    Pu prog w A g hB L m X (eval (.Dict [some (.Constant (.str k1) a1 p1), some (.Constant (.str k2) a2 p2), some (.Constant (.str k3) a3 p3)] [.Constant (.str v1) b1 q1, .Constant (.str v2) b2 q2, .Constant (.str v3) b3 q3] pos) env)
      (fun v Y => ∃ D t1 t2 t3, v = .ref D ∧ D ≠ sysModules ∧ Y = [(D, isDk prog w [(k1, .str v1 t1), (k2, .str v2 t2), (k3, .str v3 t3)])]) := fun s c => by
  refine wpAny_Dict_walk (knd := strKind prog w) rfl rfl (by simp) (by show (3 : Nat) ≤ 15; decide) ?_
  refine pairTrees_cons_walk (PySem.wpAny_Constant_str (PySem.wpAny_Constant_str ?_))
  refine pairTrees_cons_walk (PySem.wpAny_Constant_str (PySem.wpAny_Constant_str ?_))
  refine pairTrees_cons_walk (PySem.wpAny_Constant_str (PySem.wpAny_Constant_str (pairTrees_nil_walk ?_)))
  have hD : (s.heap.push { cls := .type "dict", data := .dict #[] }).get? s.heap.objs.size = some { cls := .type "dict", data := .dict #[] } := Heap.get?_push_size _ rfl
  refine ⟨[(k1, .str v1 _), (k2, .str v2 _), (k3, .str v3 _)], ⟨strKind_is prog w _ _, rfl, strKind_is prog w _ _, rfl, strKind_is prog w _ _, rfl, trivial⟩, ⟨_, #[], 0, hD, ⟨rfl, rfl, rfl⟩, rfl, (fun e he => by simp at he), .nil, .nil⟩, fun h' hd hs => ?_⟩
  rw [hm] at hd
  replace hs : Heap.SameBut s.heap.objs.size (s.heap.push { cls := .type "dict", data := .dict #[] }) h' := hs
  refine ⟨_, ⟨_, _, _, _, rfl, Nat.ne_of_gt (W.keep c.base).low, rfl⟩, Facts.cons (dk_of hd) (Facts.nil _), Fresh.cons (size_none _) (Fresh.nil _), Ex.of (fun b o e => hs.extBut b o (Nat.ne_of_lt (Heap.lt_size e)) (Heap.get?_push_of_some _ e)) ?_⟩
  simp
  omega
end

def toldL (c : Nat) : List Nat := if c = 38 then [38, 97, 109, 112, 59] else if c = 60 then [38, 108, 116, 59] else if c = 62 then [38, 103, 116, 59] else [c]
def writeL (es : List En) (c : Nat) : List Nat := match look es ⟨#[c]⟩ with | some p => tl p.1 | none => toldL c
def writtenF (x : Str) (es : List En) : Str := mkS ((tl x).flatMap (writeL es))
abbrev toldKv (t1 t2 t3 : Tok) : List (Str × Value) := [("&", .str "&amp;" t1), ("<", .str "&lt;" t2), (">", .str "&gt;" t3)]
theorem told_get (c : Nat) (t1 t2 t3 u : Tok) : ∃ u', (valueAt (toldKv t1 t2 t3) ⟨#[c]⟩).getD (.str ⟨#[c]⟩ u) = .str (mkS (toldL c)) u' := by
  unfold toldL
  have e1 : ((Str.ofString "&" : Str) = ⟨#[c]⟩) = (c = 38) := by
    rw [eq_comm (a := Str.ofString "&")]
    exact propext ⟨fun h => by injection h with h; injection h with h; injection h, fun h => by rw [h]; rfl⟩
  have e2 : ((Str.ofString "<" : Str) = ⟨#[c]⟩) = (c = 60) := by
    rw [eq_comm (a := Str.ofString "<")]
    exact propext ⟨fun h => by injection h with h; injection h with h; injection h, fun h => by rw [h]; rfl⟩
  have e3 : ((Str.ofString ">" : Str) = ⟨#[c]⟩) = (c = 62) := by
    rw [eq_comm (a := Str.ofString ">")]
    exact propext ⟨fun h => by injection h with h; injection h with h; injection h, fun h => by rw [h]; rfl⟩
  unfold valueAt
  by_cases h1 : c = 38
  · subst h1; exact ⟨t1, rfl⟩
  by_cases h2 : c = 60
  · subst h2; exact ⟨t2, rfl⟩
  by_cases h3 : c = 62
  · subst h3; exact ⟨t3, rfl⟩
  have f1 : decide ((Str.ofString "&" : Str) = ⟨#[c]⟩) = false := decide_eq_false (by rw [e1]; exact h1)
  have f2 : decide ((Str.ofString "<" : Str) = ⟨#[c]⟩) = false := decide_eq_false (by rw [e2]; exact h2)
  have f3 : decide ((Str.ofString ">" : Str) = ⟨#[c]⟩) = false := decide_eq_false (by rw [e3]; exact h3)
  rw [if_neg h1, if_neg h2, if_neg h3, toldKv, List.find?_cons, List.find?_cons, List.find?_cons]
  simp only [f1, f2, f3, List.find?_nil]
  exact ⟨u, rfl⟩
theorem write_get (es : List En) (c : Nat) (u : Tok) : ∃ u', (valueAt (es.map kvOf) ⟨#[c]⟩).getD (.str (mkS (toldL c)) u) = .str (mkS (writeL es c)) u' := by
  rw [valueAt_look]
  unfold writeL
  cases h : look es ⟨#[c]⟩ with
  | none => exact ⟨u, rfl⟩
  | some p => exact ⟨p.2, by show Value.str p.1 p.2 = _; rw [mkS_tl]⟩
theorem look_mem {es : List En} {k : Str} {p : Str × Tok} (h : look es k = some p) : ∃ e ∈ es, e.2 = p := by
  unfold look at h
  obtain ⟨e, he, rfl⟩ := Option.map_eq_some_iff.mp h
  exact ⟨e, List.mem_of_find?_eq_some he, rfl⟩
theorem writeL_length {es : List En} (hv : ∀ e ∈ es, e.2.1.length ≤ 10) (c : Nat) : (writeL es c).length ≤ 10 := by
  unfold writeL
  cases h : look es ⟨#[c]⟩ with
  | none =>
    show (toldL c).length ≤ 10
    unfold toldL
    split
    · decide
    split
    · decide
    split
    · decide
    · show 1 ≤ 10; decide
  | some p =>
    obtain ⟨e, he, rfl⟩ := look_mem h
    exact hv e he

section
variable {prog : Program} {w : World} {A : Around} {g : Bool} {s : Shared}
theorem spec_written {ad : Ad} {mg mb : Str → Option Value} {x : Str} {t : Tok} {d : Addr} {es : List En} (M : Md ad mg mb s.heap) (r : Rm A 3) (ht : 1 ≤ s.toks) (hd : Facts [(d, isD w es)] s.heap) (hk : (es.map (·.1.1)).Nodup) (hds : d ≠ sysModules)
    (hv : ∀ e ∈ es, e.2.1.length ≤ 10) (hx : x.length ≤ 100000) : Ret prog w A g (.ref ad.wr) [.str x t, .ref d] (VS (writtenF x es)) s := by
  refine enter_cells (X := [(d, isD w es)]) (binds := [("text", .str x t), ("table", .ref d)]) M.fwr M.W r ht hd (fun _ _ _ => rfl)
    (by simp only [List.forall_mem_cons]; exact ⟨.inl rfl, .inr ⟨rfl, rfl⟩, fun _ h => nomatch h⟩) (fun L => by show [("told" : Str), "table"].Nodup; decide) fun cd s₁ hc hcX S₁ => ?_
  have hLlow : sysModules < s.heap.objs.size := M.W.low
  generalize hLe : s.heap.objs.size = L at hc hcX S₁ hLlow ⊢
  have rd : Rm (A.deeper (envC (stAt 13) L ad.wr cd)) 2 := r.deeper
  replace S₁ : Sx g s s.heap L (fun y => if y = "text" then some (.str x t) else none) [(L + 1 + 1, isCo none), (L + 1, isC (.ref d)), (d, isD w es)] s₁ := S₁
  have hls : (2000000 : Nat) ≤ sizeLine := by decide
  have hc2 : s.heap.get? (L + 1 + 1) = none := hc ("told", L + 1 + 1) (.head _)
  have hcd : d ≠ L + 1 + 1 := hcX ("told", L + 1 + 1) (.head _) (d, isD w es) (.head _)
  refine wpAny_execs_cons (x_assignC (ca := L + 1 + 1) (v0 := none) S₁ hc2 (fun y hy => ?_) (pu_Dict3 M.W fun _ _ _ => rfl) (fun v Y s₂ pv hn S₂ => ?_) (by rfl))
  · rcases List.mem_cons.mp hy with rfl | hy
    · show L + 1 ≠ L + 1 + 1
      omega
    · rw [List.mem_singleton.mp hy]; exact hcd
  obtain ⟨D, t1, t2, t3, rfl, hDs, rfl⟩ := pv
  refine wpAny_execs_cons (x_return (Φ := VS (writtenF x es)) S₂ ?_ fun v Y s₃ pv hn S₃ => ?_)
  · refine pu_Method (T := "str") (id := "str.join") (Ψ₀ := PCons (VSL ((tl x).map fun c => mkS (writeL es c))) PNil) rfl F.plainAttrs_str F.slot_str_join F.type_str_join pu_str (fun ov Y s p c => ?_) (pu_spl_cons ?_ pu_spl_nil) fun ov vs Y Z p q => ?_
    · obtain ⟨⟨t, rfl⟩, rfl⟩ := p
      exact ⟨typeIs_str _ _ _, fun a h => nomatch h⟩
    · refine (pu_comp (n := x.cps.size) (G := fun i ys Z => Z = [] ∧ StrsAre ys (((tl x).take i).map fun c => mkS (writeL es c))) (Φ := VS x) (pu_localS (by rfl)) ?_ ⟨rfl, .nil⟩ (by show x.length ≤ _; omega)).mono ?_
      · intro v Y s₃ pv c₃
        obtain ⟨⟨t', rfl⟩, rfl⟩ := pv
        refine src_str rd.hd fun C I hC => turn_name ?_ (fun i v ys Z mC hi hP hg hk' => ?_) rfl rfl rfl
        · rintro i ys Z ⟨_, h⟩
          rw [StrsAre.len h, List.length_map]
          exact List.length_take_le _ _
        · obtain ⟨c, u, hc, rfl⟩ := hP
          obtain ⟨rfl, hys⟩ := hg
          refine ⟨true, pu_tests_nil, (fun hb => nomatch hb), fun _ => ⟨VS (mkS (writeL es c)), ?_, fun y V p => ?_⟩⟩
          · refine pu_Method (T := "dict") (id := "dict.get") (Φ := Is (.ref d)) (Ψ₀ := PCons (Is (.str ⟨#[c]⟩ u)) (PCons (VS (mkS (toldL c))) PNil)) rfl PySem.F.plainAttrs_dict PySem.F.slot_dict_get PySem.F.type_dict_get (pu_cell (by rfl) (.tail _ (.tail _ (.head _)))) (fun ov Y s p c => ?_)
              (pu_spl_cons (pu_local hk') (pu_spl_cons ?_ pu_spl_nil)) fun ov vs Y Z p q => ?_
            · obtain ⟨rfl, rfl⟩ := p
              obtain ⟨o, ho, n, rfl⟩ := c.facts (d, isD w es) (.tail _ (.tail _ (.tail _ (.head _))))
              exact ⟨⟨_, ho, rfl⟩, fun a e => by cases e; exact ⟨_, ho, rfl⟩⟩
            · refine pu_Method (T := "dict") (id := "dict.get") (Φ := Is (.ref D)) (Ψ₀ := PCons (Is (.str ⟨#[c]⟩ u)) (PCons (Is (.str ⟨#[c]⟩ u)) PNil)) rfl PySem.F.plainAttrs_dict PySem.F.slot_dict_get PySem.F.type_dict_get (pu_cell (by rfl) (.head _)) (fun ov Y s p c => ?_)
                (pu_spl_cons (pu_local hk') (pu_spl_cons (pu_local hk') pu_spl_nil)) fun ov vs Y Z p q => ?_
              · obtain ⟨rfl, rfl⟩ := p
                obtain ⟨o, ho, es', ep, hx, _⟩ := c.facts (D, isDk prog w (toldKv t1 t2 t3)) (.tail _ (.head _))
                exact ⟨⟨_, ho, hx.1⟩, fun a e => by cases e; exact ⟨_, ho, hx.2.1⟩⟩
              · obtain ⟨rfl, rfl⟩ := p
                obtain ⟨v, vs', Y₁, Y₂, rfl, rfl, ⟨rfl, rfl⟩, v', vs'', Y₃, Y₄, rfl, rfl, ⟨rfl, rfl⟩, rfl, rfl⟩ := q
                refine (op_get (kvs := toldKv t1 t2 t3) (fun s c => ?_) hDs).mono fun v V h => Of.new ?_
                · obtain ⟨o, ho, hd⟩ := c.facts (D, isDk prog w (toldKv t1 t2 t3)) (.tail _ (.head _))
                  exact of_dk ho hd
                · obtain ⟨rfl, rfl⟩ := h
                  exact ⟨told_get c t1 t2 t3 u, rfl⟩
            · obtain ⟨rfl, rfl⟩ := p
              obtain ⟨v, vs', Y₁, Y₂, rfl, rfl, ⟨rfl, rfl⟩, v', vs'', Y₃, Y₄, rfl, rfl, ⟨⟨u₂, rfl⟩, rfl⟩, rfl, rfl⟩ := q
              refine (op_get (kvs := es.map kvOf) (fun s c => ?_) hds).mono fun v V h => Of.new ?_
              · obtain ⟨o, ho, hd⟩ := c.facts (d, isD w es) (.tail _ (.tail _ (.tail _ (.head _))))
                exact dictOf_of ho hd hk
              · obtain ⟨rfl, rfl⟩ := h
                exact ⟨write_get es c u₂, rfl⟩
          · obtain ⟨⟨u', rfl⟩, rfl⟩ := p
            refine ⟨rfl, ?_⟩
            have hi' : (tl x)[i]? = some c := by unfold tl; rw [Array.getElem?_toList]; exact hc
            rw [List.take_add_one, hi', List.map_append]
            exact StrsAre.snoc hys _ u'
      · rintro v Y ⟨D, ys, Z, rfl, ⟨rfl, hys⟩, rfl⟩
        refine ⟨D, _, rfl, ?_, rfl⟩
        rw [List.take_of_length_le (by exact Nat.le_refl _)] at hys
        exact hys
    · obtain ⟨⟨u₁, rfl⟩, rfl⟩ := p
      obtain ⟨v, vs', Y₁, Y₂, rfl, rfl, ⟨D, zs, rfl, hzs, rfl⟩, rfl, rfl⟩ := q
      refine (op_join (.head _) hzs ?_).mono fun v V h => Of.new ?_
      · have h5 := sum_le_mul 10 ((tl x).map fun c => mkS (writeL es c)) (fun y hy => by
          obtain ⟨k, _, rfl⟩ := List.mem_map.mp hy
          rw [mkS_length]
          exact writeL_length hv k)
        rw [List.length_map] at h5
        have h6 : (tl x).length = x.length := rfl
        show _ + _ * 0 ≤ _
        omega
      · have : Txt.join (Str.ofString "") ((tl x).map fun c => mkS (writeL es c)) = writtenF x es := tl_inj (by
          rw [join_flat, List.map_map]
          show _ = (tl x).flatMap (writeL es)
          rw [List.flatMap_def]
          rfl)
        rw [this] at h
        exact h
  · obtain ⟨⟨u, rfl⟩, rfl⟩ := pv
    exact ⟨_, rfl, S₃.lex (Y := []) ⟨⟨u, rfl⟩, rfl⟩ (Facts.nil _) (Fresh.nil _)⟩
end

/-! ## dict(<list of pairs>) -/
theorem lk_list_keys : typeLookup (.type "list") "keys" = pure none := by rw [typeLookup_type, builtinLookup_eq_fast]; kernel_rfl

section
variable {prog : Program} {w : World} {A : Around} {E : Value → Shared → Prop} {s : Shared}
theorem keys_none {a : Addr} {xs : Array Value} {n : Nat} {Q : Option Value → Shared → Prop} (hx : s.heap.get? a = some { cls := .type "list", data := .seq xs n }) (hA : A.handled = none)
    (h : ∀ h' tk, Kp s.heap h' → Q none { s with heap := h', toks := tk }) : wpAny (model prog w) A (getAttr? (.ref a) "keys") Q E s := by
  obtain ⟨hp, g, d, tk, os⟩ := s
  have hT : ∀ tk', (⟨hp, g, d, tk', os⟩ : Shared).TypeIs (.ref a) "list" := fun _ => ⟨_, hx, rfl⟩
  have f3 := PySem.F.slot_list_getattribute.lookup
  have f4 := PySem.F.slot_list_getattribute.bind (.ref a)
  have f5 := am_list_getattr_none
  unfold getAttr? getAttrBy? getAttrBy
  refine wpAny_bind (wpAny_mkText (wpAny_bind (wpAny_attempt (wpAny_holding (wpAny_bind (wpAny_typeOf (hT _) ?_))))))
  refine wpAny_bind (wpAny_of_eq f3 ?_)
  show wpAny _ A (getAttrByItsOwn _ _ _ _ false false) _ _ _
  unfold getAttrByItsOwn
  refine wpAny_bind (wpAny_pure (wpAny_bind (wpAny_attempt (wpAny_holding ?_))))
  show wpAny _ A (boundAndCalled _ _ _) _ _ _
  unfold boundAndCalled
  refine wpAny_bind (wpAny_of_eq f4 ?_)
  refine call_meets PySem.F.slot_list_getattribute (hT _) am_entry_list_getattribute (PySem.F.args_list_getattribute_2 _ _) (meets_getattribute_miss_list a xs n _ "keys" _ lk_list_keys (by decide) (by decide)) ⟨hx, hA, fun h' tk' e he => ?_⟩
  obtain ⟨t, u, hobj⟩ := he.there
  show wpAny _ A (getattributeRaised _ _ _ _ _ false false) _ _ _
  unfold getattributeRaised
  refine wpAny_bind (wpAny_isInstance (T := "AttributeError") (b := true) ⟨_, hobj, rfl⟩ sub_AttributeError ?_)
  rw [if_pos rfl]
  unfold hookBehind
  refine wpAny_bind ?_
  show wpAny _ A (typeLookup (.type "list") "__getattr__") _ _ _
  refine wpAny_of_eq f5 ?_
  show wpAny _ A (attributeErrorLeaves _ _ _ false false) _ _ _
  unfold attributeErrorLeaves
  refine wpAny_bind (wpAny_throw ?_)
  refine wpAny_bind (wpAny_isInstance (T := "AttributeError") (b := true) ⟨_, hobj, rfl⟩ sub_AttributeError ?_)
  exact wpAny_pure (h h' tk' he.keeps)
end

abbrev pr (e : En) : Array Value := #[.str e.1.1 e.1.2, .str e.2.1 e.2.2]
inductive PairsAre (X : List Fact) : List Value → List En → Prop
  | nil : PairsAre X [] []
  | cons {T : Addr} {e : En} {vs : List Value} {es : List En} : (T, isT (pr e)) ∈ X → PairsAre X vs es → PairsAre X (.ref T :: vs) (e :: es)
theorem PairsAre.nth {X : List Fact} {vs : List Value} {es : List En} (h : PairsAre X vs es) : ∀ {i : Nat} {e : En}, es[i]? = some e → ∃ T, vs[i]? = some (.ref T) ∧ (T, isT (pr e)) ∈ X := by
  induction h with
  | nil => intro i e h; simp at h
  | cons hT _ ih =>
    intro i e h
    cases i with
    | zero => simp at h; subst h; exact ⟨_, rfl, hT⟩
    | succ i => simpa using ih (by simpa using h)
theorem PairsAre.len {X : List Fact} {vs : List Value} {es : List En} (h : PairsAre X vs es) : vs.length = es.length := by
  induction h with
  | nil => rfl
  | cons _ _ ih => rw [List.length_cons, List.length_cons, ih]
theorem PairsAre.mono {X Y : List Fact} {vs : List Value} {es : List En} (h : PairsAre X vs es) (hs : ∀ x ∈ X, x ∈ Y) : PairsAre Y vs es := by
  induction h with
  | nil => exact .nil
  | cons hT _ ih => exact .cons (hs _ hT) ih

section
variable {prog : Program} {w : World} {A : Around} {E : Value → Shared → Prop} {s : Shared}
theorem dictSet_new {D : Addr} {es : List En} {n : Nat} {e : En} {Q : Unit → Shared → Prop} (hD : s.heap.get? D = some { cls := .type "dict", data := .dict (es.map (ent w)).toArray n }) (hk : ((es ++ [e]).map (·.1.1)).Nodup) (hz : es.length ≤ 1000)
    (h : ∀ h' n', h'.get? D = some { cls := .type "dict", data := .dict ((es ++ [e]).map (ent w)).toArray n' } → Heap.SameBut D s.heap h' → Q () { s with heap := h', toks := s.toks + 1 }) :
    wpAny (model prog w) A (dictSet D (.str e.1.1 e.1.2) (.str e.2.1 e.2.2)) Q E s := by
  have hsl : (2000000 : Nat) ≤ sizeLine := by decide
  unfold dictSet
  refine wpAny_holding (wpAny_bind ((strKind prog w).pyHash (strKind_is prog w _ _) ?_))
  unfold dictSetHashed
  refine wpAny_holding (wpAny_bind (wpAny_dictFind_of (knd := strKind prog w) (s := { s with toks := s.toks + 1 }) (strKind_is prog w _ _) hD rfl (fun d hd => by
    obtain ⟨x, hx, rfl⟩ := List.mem_map.mp (List.mem_toArray.mp hd)
    exact ⟨x.1.1, strKind_is prog w _ _, rfl⟩) ?_))
  have hnone : ((es.map (ent w)).toArray.findIdx? fun x => (strKind prog w).is e.1.1 x.key) = none := by
    rw [Array.findIdx?_eq_none_iff]
    intro x hx
    obtain ⟨y, hy, rfl⟩ := List.mem_map.mp (List.mem_toArray.mp hx)
    cases hq : (strKind prog w).is e.1.1 (ent w y).key with
    | false => rfl
    | true =>
      have := (strKind prog w).inj _ _ _ hq (strKind_is prog w y.1.1 y.1.2)
      rw [List.map_append, List.nodup_append] at hk
      exact absurd this.symm (hk.2.2 y.1.1 (List.mem_map.mpr ⟨y, hy, rfl⟩) e.1.1 (by simp))
  rw [hnone]
  refine wpAny_bind (wpAny_rule ?_)
  refine wpAny_updateDictKeys (s := { s with toks := s.toks + 1 }) hD rfl ?_ (by simp; omega) (by simp)
  have h1 := Heap.get?_update_self (h := s.heap) (Obj.mapDictKeys (·.push ⟨(strKind prog w).hash e.1.1, .str e.1.1 e.1.2, .str e.2.1 e.2.2⟩)) hD rfl
  have h2 : Obj.mapDictKeys (·.push ⟨(strKind prog w).hash e.1.1, .str e.1.1 e.1.2, .str e.2.1 e.2.2⟩) ({ cls := .type "dict", data := .dict (es.map (ent w)).toArray n } : Obj) = { cls := .type "dict", data := .dict ((es ++ [e]).map (ent w)).toArray (n + 1) } := by
    simp [Obj.mapDictKeys, ent]
    rfl
  exact h _ _ (h1.trans (congrArg some h2)) (Heap.SameBut.update ..)

theorem entry_upd_loop : entryFor table "dict.update.loop" = some Builtin.«dict.update.loop» := entryFor_of_tree (by kernel_rfl)
theorem plain_upd_loop : plainId "dict.update.loop" = true := by decide +kernel

theorem upd_loop {D it ax : Addr} {xs : Array Value} {es : List En} {R : Result → Shared → Prop} (hh : A.handled = none) (hDi : D ≠ it) (hai : ax ≠ it) (haD : ax ≠ D) (hxz : xs.size = es.length) (hk : (es.map (·.1.1)).Nodup) (hz : es.length ≤ 1000) :
    ∀ (k i : Nat) (s : Shared) (n : Nat), es.length - i = k → i ≤ es.length → s.heap.IsListIter it ax i → s.heap.IsList ax xs → s.heap.get? D = some { cls := .type "dict", data := .dict ((es.take i).map (ent w)).toArray n } →
      (∀ (j : Nat) (e : En), es[j]? = some e → ∃ T : Addr, xs[j]? = some (Value.ref T) ∧ T ≠ D ∧ T ≠ it ∧ ∃ o, s.heap.get? T = some o ∧ isT (pr e) o) →
      (∀ h' tk n', h'.get? D = some { cls := .type "dict", data := .dict (es.map (ent w)).toArray n' } → (∀ b o, b ≠ D → b ≠ it → s.heap.get? b = some o → h'.get? b = some o) → s.toks ≤ tk → R (.ok (.ret .none)) { s with heap := h', toks := tk }) →
      codeAny (model prog w) A (.builtin "dict.update.loop" ⟨[.ref D, .ref it, rawInt i, .none], []⟩) R s := by
  intro k
  induction k with
  | zero =>
    intro i s n hki hi hit hl hD hT hR
    obtain rfl : i = es.length := by omega
    refine codeAny_builtin entry_upd_loop ?_
    rw [Around.under_plainId plain_upd_loop _]
    show wpAny _ A.in1 (pyNext (.ref it) >>= _) _ _ s
    refine wpAny_bind (wpAny_pyNext_list_end hh hit hl (by rw [Array.getElem?_eq_none]; omega) fun h' hx => ?_)
    refine wpAny_bind (wpAny_pure (wpAny_pure ?_))
    rw [List.take_length] at hD
    exact hR h' s.toks n (hx D _ hDi hD) (fun b o _ hb e => hx b o hb e) (Nat.le_refl _)
  | succ k ih =>
    intro i s n hki hi hit hl hD hT hR
    have hlt : i < es.length := by omega
    obtain ⟨e, he⟩ : ∃ e, es[i]? = some e := ⟨_, List.getElem?_eq_getElem hlt⟩
    obtain ⟨T, hxT, hTD, hTi, o, ho, hc, hdn, hsl, nT, hdat⟩ := hT i e he
    refine codeAny_builtin entry_upd_loop ?_
    rw [Around.under_plainId plain_upd_loop _]
    show wpAny _ A.in1 (pyNext (.ref it) >>= _) _ _ s
    refine wpAny_bind (wpAny_pyNext_list_item hit hl hxT fun h₁ hit₁ hs₁ => ?_)
    replace hs₁ : Heap.SameBut it s.heap h₁ := hs₁
    have ho₁ : h₁.get? T = some o := hs₁.extBut T o hTi ho
    have hD₁ := hs₁.extBut D _ hDi hD
    refine wpAny_bind (wpAny_holding ?_)
    refine wpAny_bind (wpAny_tryCatch ?_)
    unfold Builtin.Dict.pairItems
    refine wpAny_bind (wpAny_typeOf (T := "tuple") ⟨_, ho₁, hc⟩ ?_)
    refine wpAny_bind (wpAny_seqItems ho₁ hdat (wpAny_pure ?_))
    show wpAny _ A.in1 (holding _ (dictSet D (.str e.1.1 e.1.2) (.str e.2.1 e.2.2))) _ _ _
    have htk : es.take (i + 1) = es.take i ++ [e] := by rw [List.take_add_one, he]; rfl
    have hnd : ((es.take i ++ [e]).map (·.1.1)).Nodup := by
      rw [← htk, List.map_take]
      exact hk.sublist (List.take_sublist _ _)
    refine wpAny_holding (dictSet_new hD₁ hnd (by rw [List.length_take]; omega) fun h₂ n₂ hD₂ hs₂ => ?_)
    replace hs₂ : Heap.SameBut D h₁ h₂ := hs₂
    refine wpAny_pure ⟨plainId_quiet plain_upd_loop _, ?_⟩
    have hii : (rawInt ((i : Int) + 1)) = rawInt ((i + 1 : Nat) : Int) := rfl
    show codeAny _ A (.builtin "dict.update.loop" ⟨[.ref D, .ref it, rawInt ((i + 1 : Nat) : Int), .none], []⟩) R _
    refine ih (i + 1) _ n₂ (by omega) hlt (hit₁.extBut hs₂.extBut hDi.symm) ((hl.extBut hs₁.extBut hai).extBut hs₂.extBut haD) (by rw [htk]; exact hD₂) (fun j e' he' => ?_) fun h' tk n' h1 h2 h3 => ?_
    · obtain ⟨T', h1, h2, h3, o', h4, h5⟩ := hT j e' he'
      exact ⟨T', h1, h2, h3, o', hs₂.extBut T' o' h2 (hs₁.extBut T' o' h3 h4), h5⟩
    · exact hR h' tk n' h1 (fun b o hb1 hb2 e => h2 b o hb1 hb2 (hs₂.extBut b o hb1 (hs₁.extBut b o hb2 e))) (Nat.le_trans (Nat.le_succ _) h3)
end

section
variable {prog : Program} {w : World} {A : Around} {g : Bool} {hB : Heap} {L : Addr} {m : Str → Option Value} {X : List Fact} {s : Shared}
theorem op_dict_pairs {mg mb : Str → Option Value} {ax : Addr} {xs : Array Value} {es : List En} (hh : A.handled = none) (W : Wo mg mb hB) (hax : (ax, isL xs) ∈ X) (hp : PairsAre X xs.toList es) (hk : (es.map (·.1.1)).Nodup) (hz : es.length ≤ 1000) :
    Pu prog w A g hB L m X (call (.type "dict") [.ref ax]) (fun v Y => ∃ D, v = .ref D ∧ D ≠ sysModules ∧ Y = [(D, isD w es)]) := fun s c => by
  obtain ⟨oa, hoa, na, rfl⟩ := c.facts _ hax
  have hlow := (W.keep c.base).low
  refine callType_codes (Q₁ := fun obj s₁ => obj = .ref s.heap.objs.size ∧ s₁ = { s with heap := s.heap.push { cls := .type "dict", data := .dict #[] } }) PySem.F.kt_called_dict (PySem.F.kt_typeCall_dict_1 _) PySem.F.entry_dict_init (kt_code_dict_new _ ⟨rfl, rfl⟩) ?_
  rintro obj s₁ ⟨rfl, rfl⟩
  have hD : (s.heap.push { cls := .type "dict", data := .dict #[] }).get? s.heap.objs.size = some { cls := .type "dict", data := .dict #[] } := Heap.get?_push_size _ rfl
  have hnew : (s.heap.push { cls := .type "dict", data := .dict #[] }).DictOf (strKind prog w) s.heap.objs.size [] := Heap.DictOf.new s.heap
  refine ⟨hnew.typeIs, PySem.F.args_dict_init_2 _ _, ?_⟩
  unfold Builtin.«dict.__init__»
  refine wpAny_bind ?_
  unfold Builtin.Dict.selfAndRest
  refine wpAny_bind (wpAny_notOrdered_dict hnew.typeIs ?_)
  refine wpAny_pure ?_
  show wpAny _ _ (Builtin.Dict.updateFrom "dict.__init__" s.heap.objs.size (.ref ax) [] .none) _ _ _
  unfold Builtin.Dict.updateFrom
  have hoa₁ : (s.heap.push { cls := .type "dict", data := .dict #[] }).get? ax = some { cls := .type "list", data := .seq xs na } := Heap.get?_push_of_some _ hoa
  refine wpAny_bind (wpAny_typeOf (T := "list") ⟨_, hoa₁, rfl⟩ ?_)
  rw [if_pos (by decide)]
  refine wpAny_with_toks (Nat.le_refl _) (wpAny_bind (keys_none hoa₁ hh fun h₂ tk₂ hk₂ => ?_))
  rw [show (none : Option Value).isNone = true from rfl, if_pos rfl]
  refine wpAny_bind (wpAny_rule ?_)
  have hk2 : Kp s.heap h₂ := (Kp.push _ _).trans hk₂
  have hl₂ : h₂.IsList ax xs := ⟨_, hk₂ _ _ hoa₁, rfl, na, rfl⟩
  refine wpAny_bind (wpAny_pyIter_list hl₂ (wpAny_pure fun htk₂ => ⟨plainId_quiet plain_upd_loop _, ?_⟩))
  have hDs : s.heap.objs.size < h₂.objs.size := Heap.lt_size (hk₂ _ _ hD)
  have has : ax < s.heap.objs.size := Heap.lt_size hoa
  have hk3 : Kp h₂ (h₂.push { cls := .type "list_iterator", data := .fields #[.ref ax, .int 0 0] }) := Kp.push _ _
  have hl := PairsAre.len hp
  rw [Array.length_toList] at hl
  have := upd_loop (prog := prog) (w := w) (A := A.in1) (D := s.heap.objs.size) (it := h₂.objs.size) (ax := ax) (xs := xs) (es := es)
    (R := wants (fun r s₂ => r = Value.none ∧ ∃ Y, (∃ D, Value.ref s.heap.objs.size = .ref D ∧ D ≠ sysModules ∧ Y = [(D, isD w es)]) ∧ Facts Y s₂.heap ∧ Fresh Y s.heap ∧ Ex g s s₂) (fun _ _ => False)) hh (Nat.ne_of_lt hDs) (Nat.ne_of_lt (Nat.lt_trans has hDs)) (Nat.ne_of_lt has) hl hk hz es.length 0
    { s with heap := h₂.push { cls := .type "list_iterator", data := .fields #[.ref ax, .int 0 0] }, toks := tk₂ } 0 rfl (Nat.zero_le _) ⟨_, Heap.get?_push_size _ rfl, rfl, rfl⟩ (hl₂.push _) (hk3 _ _ (hk₂ _ _ hD)) (fun j e he => ?_) (fun h' tk n' h1 h2 h3 => ?_)
  · exact this
  · obtain ⟨T, hT, hTX⟩ := hp.nth he
    obtain ⟨o, ho, hd⟩ := c.facts _ hTX
    refine ⟨T, by rw [← Array.getElem?_toList]; exact hT, Nat.ne_of_lt (Heap.lt_size ho), Nat.ne_of_lt (Nat.lt_trans (Heap.lt_size ho) hDs), o, hk3 _ _ (hk2 _ _ ho), hd⟩
  · refine ⟨rfl, _, ⟨_, rfl, Nat.ne_of_gt hlow, rfl⟩, Facts.cons ⟨_, h1, n', rfl⟩ (Facts.nil _), Fresh.cons (size_none _) (Fresh.nil _), Ex.of (fun b o e => h2 b o (Nat.ne_of_lt (Heap.lt_size e)) (Nat.ne_of_lt (Nat.lt_trans (Heap.lt_size e) hDs)) (hk3 _ _ (hk2 _ _ e))) (Nat.le_trans htk₂ h3)⟩
end

/-! ## Comparing lists of texts and of pairs of texts -/
def RdD (h : Heap) (v : Value) (d : Dat) : Prop := ∃ as, Reads h v (kqdP d) as
def RdAll (h : Heap) (vs : List Value) (ds : List Dat) : Prop := ∃ as, ReadsAll h vs (kqdPs ds) as
theorem rd_str {h : Heap} (x : Str) (t : Tok) : RdD h (.str x t) (.str x) := ⟨_, Reads.str x t⟩
theorem rd_nil {h : Heap} : RdAll h [] [] := ⟨_, ReadsAll.nil⟩
theorem rd_cons {h : Heap} {v : Value} {d : Dat} {vs : List Value} {ds : List Dat} (a : RdD h v d) (b : RdAll h vs ds) : RdAll h (v :: vs) (d :: ds) := by
  obtain ⟨as, q⟩ := a
  obtain ⟨bs, p⟩ := b
  exact ⟨_, by rw [kqdPs]; exact ReadsAll.cons q p⟩
theorem rd_tuple {h : Heap} {T : Addr} {xs : Array Value} {ds : List Dat} {o : Obj} (ho : h.get? T = some o) (hd : isT xs o) (r : RdAll h xs.toList ds) : RdD h (.ref T) (.tuple ds) := by
  obtain ⟨as, q⟩ := r
  obtain ⟨hc, _, _, n, hdat⟩ := hd
  exact ⟨_, by rw [kqdP]; exact reads_tuple_at ho hc hdat q⟩
theorem rd_list {h : Heap} {T : Addr} {xs : Array Value} {ds : List Dat} {o : Obj} (ho : h.get? T = some o) (hd : isL xs o) (r : RdAll h xs.toList ds) : RdD h (.ref T) (.list ds) := by
  obtain ⟨as, q⟩ := r
  obtain ⟨n, rfl⟩ := hd
  exact ⟨_, by rw [kqdP]; exact reads_list_at ho rfl rfl q⟩
theorem rd_strs {h : Heap} {vs : List Value} {ss : List Str} (x : StrsAre vs ss) : RdAll h vs (ss.map Dat.str) := by
  induction x with
  | nil => exact rd_nil
  | cons y t _ ih => exact rd_cons (rd_str y t) ih

/-- pairs of texts, with any tokens -/
inductive TxtPairs (X : List Fact) : List Value → List (Str × Str) → Prop
  | nil : TxtPairs X [] []
  | cons {T : Addr} {p : Str × Str} {t u : Tok} {vs : List Value} {ps : List (Str × Str)} : (T, isT #[.str p.1 t, .str p.2 u]) ∈ X → TxtPairs X vs ps → TxtPairs X (.ref T :: vs) (p :: ps)
theorem PairsAre.txt {X : List Fact} {vs : List Value} {es : List En} (h : PairsAre X vs es) : TxtPairs X vs (es.map fun e => (e.1.1, e.2.1)) := by
  induction h with
  | nil => exact .nil
  | cons hT _ ih => exact .cons hT ih
theorem rd_pairs {h : Heap} {X : List Fact} (f : Facts X h) {vs : List Value} {ps : List (Str × Str)} (x : TxtPairs X vs ps) : RdAll h vs (ps.map fun p => Dat.tuple [.str p.1, .str p.2]) := by
  induction x with
  | nil => exact rd_nil
  | cons hT _ ih =>
    obtain ⟨o, ho, hd⟩ := f _ hT
    exact rd_cons (rd_tuple ho hd (rd_cons (rd_str _ _) (rd_cons (rd_str _ _) rd_nil))) ih
theorem TxtPairs.mono {X Y : List Fact} {vs : List Value} {ps : List (Str × Str)} (h : TxtPairs X vs ps) (hs : ∀ x ∈ X, x ∈ Y) : TxtPairs Y vs ps := by
  induction h with
  | nil => exact .nil
  | cons hT _ ih => exact .cons (hs _ hT) ih

theorem shaped_ok {d : Dat} (h : kqdOk 9 d = true) : SeqAt.shaped (kqdP d) = true := by
  have := kqd_lay 9 d h
  unfold SeqAt.shaped
  rw [this.1, Bool.true_and]
  exact decide_eq_true (Nat.le_trans this.2 (by decide))
theorem ok_strs {ss : List Str} (h : ∀ s ∈ ss, PyData.strOk s = true) : kqdOk 9 (.list (ss.map Dat.str)) = true := by
  simp only [kqdOk, List.all_eq_true]
  intro d hd
  obtain ⟨s, hs, rfl⟩ := List.mem_map.mp hd
  exact h s hs
theorem ok_pairs {ps : List (Str × Str)} (h : ∀ p ∈ ps, PyData.strOk p.1 = true ∧ PyData.strOk p.2 = true) : kqdOk 9 (.list (ps.map fun p => Dat.tuple [.str p.1, .str p.2])) = true := by
  simp only [kqdOk, List.all_eq_true]
  intro d hd
  obtain ⟨p, hp, rfl⟩ := List.mem_map.mp hd
  simp [kqdOk, h p hp]

section
variable {prog : Program} {w : World} {A : Around} {g : Bool} {hB : Heap} {L : Addr} {m : Str → Option Value} {X : List Fact} {s : Shared}
theorem op_eqD {a b : Value} {da db : Dat} {r : Bool} (ha : ∀ s, Cx hB L m X s → RdD s.heap a da) (hb : ∀ s, Cx hB L m X s → RdD s.heap b db) (oa : kqdOk 9 da = true) (ob : kqdOk 9 db = true) (hu : A.units + 64 < cLine) (hr : r = true ↔ da = db) :
    Pu prog w A g hB L m X (compareOp .Eq a b) (VB r) := fun s c => by
  obtain ⟨as, ra⟩ := ha s c
  obtain ⟨bs, rb⟩ := hb s c
  have e : PyData.eqv (kqdP da) (kqdP db) = r := by rw [Bool.eq_iff_iff, kqd_eqv 9 da db 9 oa ob, hr]
  exact eq_dataH ra rb (shaped_ok oa) (shaped_ok ob) hu (by rw [e]; exact done_same ⟨rfl, rfl⟩)
theorem op_neD {a b : Value} {da db : Dat} {r : Bool} (ha : ∀ s, Cx hB L m X s → RdD s.heap a da) (hb : ∀ s, Cx hB L m X s → RdD s.heap b db) (oa : kqdOk 9 da = true) (ob : kqdOk 9 db = true) (hu : A.units + 64 < cLine) (hr : r = true ↔ da = db) :
    Pu prog w A g hB L m X (compareOp .NotEq a b) (VB (!r)) := fun s c => by
  obtain ⟨as, ra⟩ := ha s c
  obtain ⟨bs, rb⟩ := hb s c
  have e : PyData.eqv (kqdP da) (kqdP db) = r := by rw [Bool.eq_iff_iff, kqd_eqv 9 da db 9 oa ob, hr]
  exact ne_dataH ra rb (shaped_ok oa) (shaped_ok ob) hu (by rw [e]; exact done_same ⟨rfl, rfl⟩)
/-- two lists of texts -/
theorem op_eq_strs {a b : Addr} {xs ys : Array Value} {ss ts : List Str} (ha : (a, isL xs) ∈ X) (hb : (b, isL ys) ∈ X) (sa : StrsAre xs.toList ss) (sb : StrsAre ys.toList ts) (oa : ∀ s ∈ ss, PyData.strOk s = true) (ob : ∀ s ∈ ts, PyData.strOk s = true)
    (hu : A.units + 64 < cLine) : Pu prog w A g hB L m X (compareOp .Eq (.ref a) (.ref b)) (VB (decide (ss = ts))) :=
  op_eqD (da := .list (ss.map Dat.str)) (db := .list (ts.map Dat.str)) (fun s c => by obtain ⟨o, ho, hd⟩ := c.facts _ ha; exact rd_list ho hd (rd_strs sa)) (fun s c => by obtain ⟨o, ho, hd⟩ := c.facts _ hb; exact rd_list ho hd (rd_strs sb))
    (ok_strs oa) (ok_strs ob) hu (by
      rw [decide_eq_true_iff, Dat.list.injEq]
      constructor
      · intro h; rw [h]
      · intro h
        exact (List.map_inj_right (fun x y e => by injection e)).mp h)
theorem op_ne_pairs {a b : Addr} {xs ys : Array Value} {ps qs : List (Str × Str)} (ha : (a, isL xs) ∈ X) (hb : (b, isL ys) ∈ X) (sa : TxtPairs X xs.toList ps) (sb : TxtPairs X ys.toList qs)
    (oa : ∀ p ∈ ps, PyData.strOk p.1 = true ∧ PyData.strOk p.2 = true) (ob : ∀ p ∈ qs, PyData.strOk p.1 = true ∧ PyData.strOk p.2 = true) (hu : A.units + 64 < cLine) :
    Pu prog w A g hB L m X (compareOp .NotEq (.ref a) (.ref b)) (VB (!decide (ps = qs))) :=
  op_neD (da := .list (ps.map fun p => Dat.tuple [.str p.1, .str p.2])) (db := .list (qs.map fun p => Dat.tuple [.str p.1, .str p.2])) (fun s c => by obtain ⟨o, ho, hd⟩ := c.facts _ ha; exact rd_list ho hd (rd_pairs c.facts sa))
    (fun s c => by obtain ⟨o, ho, hd⟩ := c.facts _ hb; exact rd_list ho hd (rd_pairs c.facts sb)) (ok_pairs oa) (ok_pairs ob) hu (by
      rw [decide_eq_true_iff, Dat.list.injEq]
      constructor
      · intro h; rw [h]
      · intro h
        exact (List.map_inj_right (fun x y e => by
          obtain ⟨x1, x2⟩ := x
          obtain ⟨y1, y2⟩ := y
          simp at e
          rw [e.1, e.2])).mp h)
theorem op_ne_ints {a b : Addr} {xs ys : Array Value} {ns ms : List Int} (ha : (a, isL xs) ∈ X) (hb : (b, isL ys) ∈ X) (sa : IntsAre xs.toList ns) (sb : IntsAre ys.toList ms) (hu : A.units + 64 < cLine) :
    Pu prog w A g hB L m X (compareOp .NotEq (.ref a) (.ref b)) (VB (!decide (ns = ms))) := fun s c => by
  obtain ⟨o, ho, n, rfl⟩ := c.facts _ ha
  obtain ⟨o', ho', n', rfl⟩ := c.facts _ hb
  exact ne_intsK (vs := xs.toList) (us := ys.toList) ⟨_, ho, rfl, n, by simp⟩ sa ⟨_, ho', rfl, n', by simp⟩ sb hu (done_same ⟨rfl, rfl⟩)

/-! list(<dict>.items()) -/
def isV (d : Addr) : Obj → Prop := fun o => o.cls = .type "dict_items" ∧ o.dict = none ∧ o.data = .fields #[.ref d]
theorem op_items {d : Addr} {es : List En} (hd : (d, isD w es) ∈ X) (hk : (es.map (·.1.1)).Nodup) (hs : d ≠ sysModules) : Pu prog w A g hB L m X (call (.builtin "dict.items") [.ref d]) (fun v Y => ∃ r, v = .ref r ∧ Y = [(r, isV d)]) := fun s c => by
  obtain ⟨o, ho, hdd⟩ := c.facts _ hd
  have hm := dictOf_of (prog := prog) ho hdd hk
  exact call_meetsIn PySem.F.slot_dict_items hm.typeIs PySem.F.entry_dict_items (PySem.F.args_dict_items_1 _) (meets_dict_items (strKind prog w) d (beq_eq_false_iff_ne.mpr hs)) ⟨⟨_, hm⟩,
    _, ⟨_, rfl, rfl⟩, Facts.cons ⟨_, Heap.get?_push_size _ rfl, rfl, rfl, rfl⟩ (Facts.nil _), Fresh.cons (size_none _) (Fresh.nil _), Ex.of (tk := s.toks) (Kp.push _ _) (Nat.le_refl _)⟩
theorem pairs_of_list {h' : Heap} : ∀ (as : List Addr) (es : List En), as.length = es.length →
    (∀ (j : Nat) (a : Addr), as[j]? = some a → ∃ t e, es[j]? = some e ∧ h'.get? a = some { cls := .type "tuple", data := .seq #[.str e.1.1 t, .str e.2.1 e.2.2] }) →
    ∃ Z, TxtPairs Z (as.map Value.ref) (es.map fun e => (e.1.1, e.2.1)) ∧ Facts Z h' ∧ ∀ z ∈ Z, z.1 ∈ as
  | [], [], _, _ => ⟨[], .nil, Facts.nil _, fun _ h => nomatch h⟩
  | [], _ :: _, h, _ => by cases h
  | _ :: _, [], h, _ => by cases h
  | a :: as, e :: es, hl, h => by
    obtain ⟨t, e', he, ho⟩ := h 0 a rfl
    obtain rfl : e = e' := Option.some.inj he
    obtain ⟨Z, h1, h2, h3⟩ := pairs_of_list as es (Nat.succ.inj hl) fun j b hb => h (j + 1) b hb
    refine ⟨(a, isT #[.str e.1.1 t, .str e.2.1 e.2.2]) :: Z, .cons (.head _) (h1.mono fun x hx => .tail _ hx), Facts.cons ⟨_, ho, rfl, rfl, rfl, 0, rfl⟩ h2, fun z hz => ?_⟩
    rcases List.mem_cons.mp hz with rfl | hz
    · exact .head _
    · exact .tail _ (h3 z hz)
theorem op_list_items {d r : Addr} {es : List En} (hh : A.handled = none) (hd : (d, isD w es) ∈ X) (hr : (r, isV d) ∈ X) (hk : (es.map (·.1.1)).Nodup) (hn : es.length ≤ 1000) :
    Pu prog w A g hB L m X (call (.type "list") [.ref r]) (fun v Y => ∃ D xs Z, v = .ref D ∧ Y = (D, isL xs) :: Z ∧ TxtPairs Z (xs : Array Value).toList (es.map fun e => (e.1.1, e.2.1))) := fun s c => by
  obtain ⟨o, ho, n, rfl⟩ := c.facts _ hd
  obtain ⟨ov, hov, hc, _, hdv⟩ := c.facts _ hr
  have hm := dictAt_of (prog := prog) (w := w) ho hk
  have hsl : (2000000 : Nat) ≤ sizeLine := by decide
  refine wpAny_with_toks (Nat.le_refl s.toks) (kdx_call (knd := strKind prog w) hh ⟨ov, hov, hc, hdv⟩ hm (by rw [List.length_map]; omega) fun h' tk acc c' as hkeep hS hl hG hacc htk => ?_)
  rw [List.length_map] at hl
  obtain ⟨Z, h1, h2, h3⟩ := pairs_of_list (h' := h') as es hl fun j a ha => by
    obtain ⟨key, k, x, hk1, hk2, hk3⟩ := hG.pairs j a ha
    rw [List.getElem?_map] at hk1
    obtain ⟨e, he, hee⟩ := Option.map_eq_some_iff.mp hk1
    obtain ⟨t, rfl⟩ := Value.isStrOf_shape hk2
    have h4 : k = e.1.1 := (Prod.mk.inj hee).1.symm
    have h5 : x = .str e.2.1 e.2.2 := (Prod.mk.inj hee).2.symm
    subst h4 h5
    exact ⟨t, e, he, hk3⟩
  refine ⟨_, ⟨_, acc, Z, rfl, rfl, by rw [hacc]; exact h1⟩, Facts.cons ⟨_, hS, c', rfl⟩ h2, Fresh.cons (size_none _) (fun z hz => ?_), Ex.of hkeep htk⟩
  exact Heap.get?_none_of_le (Nat.le_of_lt (hG.above _ (h3 z hz)))
end

/-! ## Plain law: escape and unescape -/
theorem repl_one (a : Nat) (z l : List Nat) : repl [a] z l = l.flatMap fun c => if c = a then z else [c] := by
  induction l with
  | nil => rfl
  | cons c r ih =>
    rw [List.flatMap_cons]
    by_cases h : c = a
    · subst h
      rw [repl_hit (by simp) (by simp [List.isPrefixOf]), if_pos rfl]
      show z ++ repl [c] z r = _
      rw [ih]
    · rw [repl_miss (by simp [List.isPrefixOf]; exact fun e => h e.symm), if_neg h, ih]; rfl

def keysL : List Nat := [34, 92, 40, 41]
def refL (c : Nat) : List Nat := if c = 34 then [38, 113, 117, 111, 116, 59] else if c = 92 then [38, 35, 57, 50, 59] else if c = 40 then [38, 35, 52, 48, 59] else [38, 35, 52, 49, 59]
/-- the table writes just the signs of cs -/
structure Tbl (es : List En) (cs : List Nat) : Prop where
  eq : es.map (fun e => (tl e.1.1, tl e.2.1)) = cs.map fun c => ([c], refL c)
  sub : ∀ c ∈ cs, c ∈ keysL
  nd : cs.Nodup
def subs (cs : List Nat) (c : Nat) : List Nat := if c ∈ cs then refL c else [c]

theorem flatMap_id {f : Nat → List Nat} {l : List Nat} (h : ∀ c ∈ l, f c = [c]) : l.flatMap f = l := by
  induction l with
  | nil => rfl
  | cons c r ih => rw [List.flatMap_cons, h c (.head _), ih fun d hd => h d (.tail _ hd)]; rfl
theorem refL_free {c : Nat} (hc : c ∈ keysL) : ∀ d ∈ refL c, d ∉ keysL := by
  have : ∀ c ∈ keysL, ∀ d ∈ refL c, d ∉ keysL := by decide
  exact this c hc
theorem toldL_free (c : Nat) (hc : c ∉ keysL) : ∀ d ∈ toldL c, d ∉ keysL := by
  unfold toldL
  split
  · decide
  split
  · decide
  split
  · decide
  · intro d hd; rw [List.mem_singleton.mp hd]; exact hc

theorem Tbl.tail {e : En} {es : List En} {c : Nat} {cs : List Nat} (t : Tbl (e :: es) (c :: cs)) : Tbl es cs :=
  ⟨(List.cons.inj t.eq).2, fun d hd => t.sub d (.tail _ hd), (List.nodup_cons.mp t.nd).2⟩
theorem Tbl.head {e : En} {es : List En} {c : Nat} {cs : List Nat} (t : Tbl (e :: es) (c :: cs)) : tl e.1.1 = [c] ∧ tl e.2.1 = refL c := by
  have := (List.cons.inj t.eq).1
  exact ⟨(Prod.mk.inj this).1, (Prod.mk.inj this).2⟩
theorem Tbl.take {es : List En} {cs : List Nat} (t : Tbl es cs) (i : Nat) : Tbl (es.take i) (cs.take i) :=
  ⟨by rw [List.map_take, List.map_take, t.eq], fun c hc => t.sub c (List.mem_of_mem_take hc), t.nd.sublist (List.take_sublist _ _)⟩
theorem Tbl.cases {es : List En} {cs : List Nat} (t : Tbl es cs) : (es = [] ∧ cs = []) ∨ ∃ e es' c cs', es = e :: es' ∧ cs = c :: cs' := by
  cases es with
  | nil =>
    cases cs with
    | nil => exact .inl ⟨rfl, rfl⟩
    | cons c r => have := t.eq; cases this
  | cons e r =>
    cases cs with
    | nil => have := t.eq; cases this
    | cons c q => exact .inr ⟨e, r, c, q, rfl, rfl⟩

theorem drepl_tbl : ∀ (es : List En) (cs : List Nat) (x : Str), Tbl es cs → tl (dreplF x es) = (tl x).flatMap (subs cs)
  | [], cs, x, t => by
    rcases t.cases with ⟨_, rfl⟩ | ⟨e, es', c, cs', h, _⟩
    · exact (flatMap_id fun c _ => by simp [subs]).symm
    · cases h
  | e :: es, cs, x, t => by
    rcases t.cases with ⟨h, _⟩ | ⟨e', es', c, cs', h, rfl⟩
    · cases h
    · obtain ⟨h1, h2⟩ := t.head
      show tl (dreplF (Txt.replace x e.1.1 e.2.1) es) = _
      have hy : 1 ≤ e.1.1.length := by
        have : (tl e.1.1).length = 1 := by rw [h1]; rfl
        exact Nat.le_of_eq this.symm
      rw [drepl_tbl es cs' _ t.tail, replace_eq _ _ _ hy, h1, h2, repl_one, List.flatMap_assoc]
      congr 1
      funext d
      have hc : c ∈ keysL := t.sub c (.head _)
      have hcn : c ∉ cs' := (List.nodup_cons.mp t.nd).1
      by_cases hd : d = c
      · subst hd
        rw [if_pos rfl, subs, if_pos (List.mem_cons_self ..)]
        exact flatMap_id fun u hu => by rw [subs, if_neg (show ¬ (u ∈ cs') from fun hm => refL_free hc u hu (t.sub u (.tail _ hm)))]
      · rw [if_neg hd]
        have : (d ∈ c :: cs') = (d ∈ cs') := propext ⟨fun h => (List.mem_cons.mp h).resolve_left hd, .tail _⟩
        simp only [List.flatMap_cons, List.flatMap_nil, List.append_nil, subs, this]

theorem look_tbl : ∀ (es : List En) (cs : List Nat) (c : Nat), Tbl es cs → (c ∈ cs → ∃ p, look es ⟨#[c]⟩ = some p ∧ tl p.1 = refL c) ∧ (c ∉ cs → look es ⟨#[c]⟩ = none)
  | [], cs, c, t => by
    rcases t.cases with ⟨_, rfl⟩ | ⟨e, es', d, cs', h, _⟩
    · exact ⟨fun h => by simp at h, fun _ => rfl⟩
    · cases h
  | e :: es, cs, c, t => by
    rcases t.cases with ⟨h, _⟩ | ⟨e', es', d, cs', h, rfl⟩
    · cases h
    · obtain ⟨h1, h2⟩ := t.head
      have ih := look_tbl es cs' c t.tail
      have hk : (e.1.1 = (⟨#[c]⟩ : Str)) = (d = c) := by
        apply propext
        constructor
        · intro h
          rw [h] at h1
          have : [c] = [d] := h1
          injection this with h; exact h.symm
        · intro h
          exact tl_inj (by rw [h1, h]; rfl)
      unfold look at ih ⊢
      rw [List.find?_cons]
      by_cases hdc : d = c
      · subst hdc
        rw [decide_eq_true (by rw [hk])]
        exact ⟨fun _ => ⟨e.2, rfl, h2⟩, fun h => absurd (List.mem_cons_self ..) h⟩
      · rw [decide_eq_false (by rw [hk]; exact hdc)]
        exact ⟨fun h => ih.1 ((List.mem_cons.mp h).resolve_left fun e => hdc e.symm), fun h => ih.2 fun hm => h (.tail _ hm)⟩
theorem write_tbl {es : List En} {cs : List Nat} (t : Tbl es cs) (c : Nat) : writeL es c = if c ∈ cs then refL c else toldL c := by
  unfold writeL
  have := look_tbl es cs c t
  by_cases h : c ∈ cs
  · obtain ⟨p, h1, h2⟩ := this.1 h
    rw [h1, if_pos h]; exact h2
  · rw [this.2 h, if_neg h]
theorem tb_tbl {es : List En} {cs : List Nat} (t : Tbl es cs) (c : Nat) : tbOf es c = decide (c ∈ cs) := by
  unfold tbOf
  have := look_tbl es cs c t
  by_cases h : c ∈ cs
  · obtain ⟨p, h1, h2⟩ := this.1 h
    rw [h1, decide_eq_true h]; rfl
  · rw [this.2 h, decide_eq_false h]; rfl

theorem esc0_eq (x : Str) : tl (esc0 x) = (tl x).flatMap toldL := by
  unfold esc0
  rw [replace_eq _ _ _ (by decide), replace_eq _ _ _ (by decide), replace_eq _ _ _ (by decide)]
  show repl [60] [38, 108, 116, 59] (repl [62] [38, 103, 116, 59] (repl [38] [38, 97, 109, 112, 59] (tl x))) = _
  rw [repl_one, repl_one, repl_one, List.flatMap_assoc, List.flatMap_assoc]
  congr 1
  funext c
  unfold toldL
  by_cases h1 : c = 38
  · subst h1; rfl
  by_cases h2 : c = 60
  · subst h2; rfl
  by_cases h3 : c = 62
  · subst h3; rfl
  simp [h1, h2, h3]
/-- escape by a table writes sign by sign -/
theorem esc_eq {es : List En} {cs : List Nat} (t : Tbl es cs) (x : Str) : tl (escF x es) = (tl x).flatMap (writeL es) := by
  unfold escF
  rw [drepl_tbl es cs _ t, esc0_eq, List.flatMap_assoc]
  congr 1
  funext c
  rw [write_tbl t c]
  by_cases h : c ∈ cs
  · have hk := t.sub c h
    have : toldL c = [c] := by
      have : ∀ c ∈ keysL, toldL c = [c] := by decide
      exact this c hk
    rw [this, if_pos h]
    simp [subs, h]
  · rw [if_neg h]
    by_cases hk : c ∈ keysL
    · have : toldL c = [c] := by
        have : ∀ c ∈ keysL, toldL c = [c] := by decide
        exact this c hk
      rw [this]
      simp [subs, h]
    · exact flatMap_id fun u hu => by rw [subs, if_neg (show ¬ (u ∈ cs) from fun hm => toldL_free c hk u hu (t.sub u hm))]

/-! ## Plain law: unescape reads back what was written -/
/-- & at the head alone, ; at the end alone -/
def isWord (w : List Nat) : Bool := w.head? == some 38 && (w.getLast? == some 59 && (w.tail.all (fun c => c != 38) && w.dropLast.all fun c => c != 59))
def isCode (w : List Nat) : Prop := (∃ c, c ≠ 38 ∧ w = [c]) ∨ isWord w = true

theorem word_shape {w : List Nat} (h : isWord w = true) : ∃ m, w = 38 :: (m ++ [59]) ∧ 38 ∉ m ++ [59] ∧ 59 ∉ 38 :: m := by
  unfold isWord at h
  rw [Bool.and_eq_true, Bool.and_eq_true, Bool.and_eq_true] at h
  obtain ⟨h1, h2, h3, h4⟩ := h
  cases w with
  | nil => simp at h1
  | cons a r =>
    have ha : a = 38 := by simpa using h1
    subst ha
    cases hr : r.reverse with
    | nil =>
      have : r = [] := by simpa using hr
      subst this
      simp at h2
    | cons b q =>
      have hq : r = q.reverse ++ [b] := by have := congrArg List.reverse hr; simpa using this
      subst hq
      have hb : b = 59 := by
        rw [← List.cons_append, List.getLast?_append] at h2
        simpa using h2
      subst hb
      refine ⟨q.reverse, rfl, ?_, ?_⟩
      · intro hm
        have := List.all_eq_true.mp h3 38 hm
        simp at this
      · intro hm
        have e : (38 :: (q.reverse ++ [59])).dropLast = 38 :: q.reverse := by rw [← List.cons_append, List.dropLast_concat]
        rw [e] at h4
        have := List.all_eq_true.mp h4 59 hm
        simp at this

theorem pre_end : ∀ (a b r : List Nat), 59 ∉ a → 59 ∉ b → (a ++ [59]) <+: ((b ++ [59]) ++ r) → a = b
  | [], [], _, _, _, _ => rfl
  | [], d :: b, r, _, hb, h => by
    have : (59 : Nat) = d := (List.cons_prefix_cons.mp h).1
    subst this
    exact absurd (List.mem_cons_self ..) hb
  | c :: a, [], r, ha, _, h => by
    have : c = 59 := (List.cons_prefix_cons.mp h).1
    subst this
    exact absurd (List.mem_cons_self ..) ha
  | c :: a, d :: b, r, ha, hb, h => by
    have h := List.cons_prefix_cons.mp h
    rw [h.1, pre_end a b r (fun m => ha (.tail _ m)) (fun m => hb (.tail _ m)) h.2]

theorem repl_code {y : List Nat} {d : Nat} (hy : isWord y = true) (g : Nat → List Nat) : ∀ l : List Nat, (∀ c ∈ l, isCode (g c)) → repl y [d] (l.flatMap g) = l.flatMap fun c => if g c = y then [d] else g c
  | [], _ => rfl
  | c :: l, h => by
    have ih := repl_code (d := d) hy g l fun c hc => h c (.tail _ hc)
    obtain ⟨m, rfl, hm1, hm2⟩ := word_shape hy
    rw [List.flatMap_cons, List.flatMap_cons]
    rcases h c (.head _) with ⟨a, ha, e⟩ | hw
    · rw [e, if_neg (fun e => by injection e with e1 e2; exact ha e1)]
      show repl _ _ (a :: l.flatMap g) = a :: _
      rw [repl_miss (Bool.eq_false_iff.mpr fun hp => ha (List.cons_prefix_cons.mp (List.isPrefixOf_iff_prefix.mp hp)).1.symm), ih]
      rfl
    · obtain ⟨q, e, hq1, hq2⟩ := word_shape hw
      by_cases hg : g c = 38 :: (m ++ [59])
      · rw [if_pos hg, hg]
        show repl _ _ (38 :: (m ++ [59] ++ l.flatMap g)) = _
        rw [repl_hit (by simp) (List.isPrefixOf_iff_prefix.mpr ⟨l.flatMap g, by simp⟩), ← ih]
        congr 2
        rw [List.length_cons, List.drop_succ_cons, List.drop_left]
      · rw [if_neg hg, ← ih]
        rw [repl_skip (g c).length, List.take_left, List.drop_left]
        intro k hk
        rw [Bool.eq_false_iff]
        intro hp
        have hp := List.isPrefixOf_iff_prefix.mp hp
        cases k with
        | zero =>
          rw [List.drop_zero, e] at hp
          have := pre_end (38 :: m) (38 :: q) (l.flatMap g) hm2 hq2 (by simpa using hp)
          exact hg (by rw [e]; injection this with _ h; rw [h])
        | succ k =>
          rw [e, List.cons_append, List.drop_succ_cons] at hp
          rw [e, List.length_cons] at hk
          rw [List.drop_append_of_le_length (by omega)] at hp
          cases hd : (q ++ [59]).drop k with
          | nil =>
            have := congrArg List.length hd
            rw [List.length_drop, List.length_nil] at this
            omega
          | cons u v =>
            rw [hd] at hp
            have : (38 : Nat) = u := (List.cons_prefix_cons.mp hp).1
            subst this
            exact hq1 (List.mem_of_mem_drop (i := k) (by rw [hd]; exact List.mem_cons_self ..))

/-- one sign read back -/
def readW (w : List Nat) (p : List Nat × Nat) : List Nat := if w = p.1 then [p.2] else w
theorem readW_code {w : List Nat} {p : List Nat × Nat} (h : isCode w) (hp : p.2 ≠ 38) : isCode (readW w p) := by
  unfold readW
  split
  · exact .inl ⟨p.2, hp, rfl⟩
  · exact h
theorem repl_chain : ∀ (rr : List (List Nat × Nat)) (g : Nat → List Nat) (l : List Nat), (∀ p ∈ rr, isWord p.1 = true ∧ p.2 ≠ 38) → (∀ c ∈ l, isCode (g c)) →
    rr.foldl (fun l p => repl p.1 [p.2] l) (l.flatMap g) = l.flatMap fun c => rr.foldl readW (g c)
  | [], g, l, _, _ => rfl
  | p :: rr, g, l, h, hc => by
    rw [List.foldl_cons, repl_code (h p (.head _)).1 g l hc]
    exact repl_chain rr (fun c => readW (g c) p) l (fun q hq => h q (.tail _ hq)) fun c hm => readW_code (hc c hm) (h p (.head _)).2

/-- the table read backwards -/
structure BTbl (es : List En) (ds : List Nat) : Prop where
  eq : es.map (fun e => (tl e.1.1, tl e.2.1)) = ds.map fun c => (refL c, [c])
  sub : ∀ c ∈ ds, c ∈ keysL
theorem BTbl.take {es : List En} {cs : List Nat} (t : BTbl es cs) (i : Nat) : BTbl (es.take i) (cs.take i) :=
  ⟨by rw [List.map_take, List.map_take, t.eq], fun c hc => t.sub c (List.mem_of_mem_take hc)⟩
theorem refL_word : ∀ c, isWord (refL c) = true := by
  intro c
  unfold refL
  split
  · rfl
  split
  · rfl
  split
  · rfl
  rfl
theorem drepl_btbl : ∀ (es : List En) (ds : List Nat) (x : Str), BTbl es ds → tl (dreplF x es) = (ds.map fun c => (refL c, c)).foldl (fun l p => repl p.1 [p.2] l) (tl x)
  | [], ds, x, t => by
    cases ds with
    | nil => rfl
    | cons c r => have := t.eq; cases this
  | e :: es, ds, x, t => by
    cases ds with
    | nil => have := t.eq; cases this
    | cons c ds =>
      have he := (List.cons.inj t.eq).1
      have h1 : tl e.1.1 = refL c := (Prod.mk.inj he).1
      have h2 : tl e.2.1 = [c] := (Prod.mk.inj he).2
      have hy : 1 ≤ e.1.1.length := by
        have e : (tl e.1.1).length = e.1.1.length := rfl
        rw [← e, h1]
        obtain ⟨m, hm, _⟩ := word_shape (refL_word c)
        rw [hm]; exact Nat.le_add_left _ _
      show tl (dreplF (Txt.replace x e.1.1 e.2.1) es) = _
      rw [drepl_btbl es ds _ ⟨(List.cons.inj t.eq).2, fun c hc => t.sub c (.tail _ hc)⟩, replace_eq _ _ _ hy, h1, h2]
      rfl

theorem toldL_code : ∀ c, isCode (toldL c) := by
  intro c
  unfold toldL
  split
  · exact .inr rfl
  split
  · exact .inr rfl
  split
  · exact .inr rfl
  · exact .inl ⟨c, ‹_›, rfl⟩
theorem write_code {es : List En} {cs : List Nat} (t : Tbl es cs) (c : Nat) : isCode (writeL es c) := by
  rw [write_tbl t c]
  split
  · exact .inr (refL_word c)
  · exact toldL_code c

theorem une_eq {es bk : List En} {cs ds : List Nat} (t : Tbl es cs) (b : BTbl bk ds) (hall : ∀ c ∈ keysL, c ∈ ds) (x : Str) (l : List Nat) (hx : tl x = l.flatMap (writeL es)) : tl (uneF x bk) = l := by
  unfold uneF une0
  rw [replace_eq _ _ _ (by decide), drepl_btbl bk ds _ b, replace_eq _ _ _ (by decide), replace_eq _ _ _ (by decide), hx]
  have key := repl_chain (([38, 108, 116, 59], 60) :: ([38, 103, 116, 59], 62) :: ds.map fun c => (refL c, c)) (writeL es) l (by
    intro p hp
    rcases List.mem_cons.mp hp with rfl | hp
    · exact ⟨rfl, by decide⟩
    rcases List.mem_cons.mp hp with rfl | hp
    · exact ⟨rfl, by decide⟩
    obtain ⟨c, hc, rfl⟩ := List.mem_map.mp hp
    refine ⟨refL_word c, ?_⟩
    have : ∀ c ∈ keysL, c ≠ 38 := by decide
    exact this c (b.sub c hc)) fun c _ => write_code t c
  show repl [38, 97, 109, 112, 59] [38] (List.foldl _ (repl [38, 103, 116, 59] [62] (repl [38, 108, 116, 59] [60] (l.flatMap (writeL es)))) (ds.map fun c => (refL c, c))) = l
  rw [List.foldl_cons, List.foldl_cons] at key
  rw [key]
  -- each sign: all but & has its own place again
  have each : ∀ c, (([38, 108, 116, 59], 60) :: ([38, 103, 116, 59], 62) :: ds.map fun c => (refL c, c)).foldl readW (writeL es c) = if c = 38 then [38, 97, 109, 112, 59] else [c] := by
    intro c
    have stay : ∀ (w : List Nat), (∀ d ∈ keysL, w ≠ refL d) → (ds.map fun c => (refL c, c)).foldl readW w = w := by
      intro w hw
      have : ∀ (ds : List Nat), (∀ d ∈ ds, d ∈ keysL) → (ds.map fun c => (refL c, c)).foldl readW w = w := by
        intro ds
        induction ds with
        | nil => intro _; rfl
        | cons d r ih =>
          intro h
          rw [List.map_cons, List.foldl_cons]
          have e : readW w (refL d, d) = w := if_neg (hw d (h d (.head _)))
          rw [e]
          exact ih fun d hd => h d (.tail _ hd)
      exact this ds b.sub
    have one : ∀ c, (ds.map fun c => (refL c, c)).foldl readW [c] = [c] := fun c => stay [c] fun d _ e => by
      obtain ⟨m, hm, _⟩ := word_shape (refL_word d)
      rw [hm] at e
      injection e with _ e
      cases m <;> cases e
    have inj : ∀ c ∈ keysL, ∀ d ∈ keysL, refL c = refL d → c = d := by decide
    have back : ∀ c ∈ keysL, (ds.map fun c => (refL c, c)).foldl readW (refL c) = [c] := by
      intro c hc
      have : ∀ (qs : List Nat), (∀ d ∈ qs, d ∈ keysL) → c ∈ qs → (∀ d, d ∈ qs → d ∈ ds) → (qs.map fun c => (refL c, c)).foldl readW (refL c) = [c] := by
        intro qs
        induction qs with
        | nil => intro _ h; cases h
        | cons d r ih =>
          intro hk hm hds
          rw [List.map_cons, List.foldl_cons]
          by_cases hdc : d = c
          · subst hdc
            have e : readW (refL d) (refL d, d) = [d] := if_pos rfl
            rw [e]
            have : ∀ (r : List Nat), (r.map fun c => (refL c, c)).foldl readW [d] = [d] := by
              intro r
              induction r with
              | nil => rfl
              | cons u r ih =>
                rw [List.map_cons, List.foldl_cons]
                have e : readW [d] (refL u, u) = [d] := if_neg fun e => by
                  obtain ⟨m, hm, _⟩ := word_shape (refL_word u)
                  have e : [d] = refL u := e
                  rw [hm] at e
                  injection e with _ e
                  cases m <;> cases e
                rw [e]; exact ih
            exact this r
          · have e : readW (refL c) (refL d, d) = refL c := if_neg fun e => hdc (inj c hc d (hk d (.head _)) e).symm
            rw [e]
            exact ih (fun d hd => hk d (.tail _ hd)) ((List.mem_cons.mp hm).resolve_left fun e => hdc e.symm) fun d hd => hds d (.tail _ hd)
      exact this ds b.sub (hall c hc) fun _ h => h
    rw [List.foldl_cons, List.foldl_cons, write_tbl t c]
    by_cases hc : c ∈ cs
    · have hk := t.sub c hc
      rw [if_pos hc]
      have e1 : readW (readW (refL c) ([38, 108, 116, 59], 60)) ([38, 103, 116, 59], 62) = refL c := by
        have : ∀ c ∈ keysL, readW (readW (refL c) ([38, 108, 116, 59], 60)) ([38, 103, 116, 59], 62) = refL c := by decide
        exact this c hk
      rw [e1, back c hk, if_neg]
      have : ∀ c ∈ keysL, c ≠ 38 := by decide
      exact this c hk
    · rw [if_neg hc]
      unfold toldL
      by_cases h1 : c = 38
      · subst h1
        rw [if_pos rfl, if_pos rfl]
        exact stay _ (by decide)
      rw [if_neg h1, if_neg h1]
      by_cases h2 : c = 60
      · subst h2; exact one 60
      rw [if_neg h2]
      by_cases h3 : c = 62
      · subst h3; exact one 62
      rw [if_neg h3]
      have e : readW (readW [c] ([38, 108, 116, 59], 60)) ([38, 103, 116, 59], 62) = [c] := by simp [readW]
      rw [e]; exact one c
  have e3 : ∀ c, (ds.map fun c => (refL c, c)).foldl readW (readW (readW (writeL es c) ([38, 108, 116, 59], 60)) ([38, 103, 116, 59], 62)) = if c = 38 then [38, 97, 109, 112, 59] else [c] := each
  show repl _ _ (l.flatMap fun c => (ds.map fun c => (refL c, c)).foldl readW (readW (readW (writeL es c) ([38, 108, 116, 59], 60)) ([38, 103, 116, 59], 62))) = l
  rw [show (fun c => (ds.map fun c => (refL c, c)).foldl readW (readW (readW (writeL es c) ([38, 108, 116, 59], 60)) ([38, 103, 116, 59], 62))) = fun c => if c = 38 then [38, 97, 109, 112, 59] else [c] from funext e3]
  rw [repl_code rfl _ l fun c _ => by
    by_cases h : c = 38
    · rw [if_pos h]; exact .inr rfl
    · rw [if_neg h]; exact .inl ⟨c, h, rfl⟩]
  refine flatMap_id fun c _ => ?_
  by_cases h : c = 38
  · subst h; rfl
  · rw [if_neg h]
    exact if_neg (by simp)

/-! ### lengths -/
theorem repl_shrink {y z : List Nat} (h : z.length ≤ y.length) : ∀ (k : Nat) (l : List Nat), (replGo y z k l).length ≤ l.length - k
  | k, [] => by simp [replGo]
  | k + 1, c :: r => by
    have := repl_shrink h k r
    simp only [replGo, List.length_cons]
    omega
  | 0, c :: r => by
    have h0 := repl_shrink h 0 r
    have h1 := repl_shrink h (y.length - 1) r
    simp only [replGo]
    split
    · rename_i hp
      have hl := (List.isPrefixOf_iff_prefix.mp hp).length_le
      simp only [List.length_append, List.length_cons] at *
      omega
    · simp only [List.length_cons] at *; omega
theorem repl_le {y z : List Nat} (h : z.length ≤ y.length) (l : List Nat) : (repl y z l).length ≤ l.length := repl_shrink h 0 l
theorem flatMap_le {f : Nat → List Nat} {b : Nat} (h : ∀ c, (f c).length ≤ b) : ∀ l : List Nat, (l.flatMap f).length ≤ b * l.length
  | [] => by simp
  | c :: l => by
    have := flatMap_le h l
    have := h c
    rw [List.flatMap_cons, List.length_append, List.length_cons, Nat.mul_succ]
    omega
theorem refL_len (c : Nat) : (refL c).length ≤ 6 := by
  unfold refL
  split <;> try split
  all_goals try split
  all_goals simp
theorem toldL_len (c : Nat) : (toldL c).length ≤ 5 := by
  unfold toldL
  split <;> try split
  all_goals try split
  all_goals simp
theorem subs_len (cs : List Nat) (c : Nat) : (subs cs c).length ≤ 6 := by
  unfold subs
  split
  · exact refL_len c
  · simp
theorem write_len {es : List En} {cs : List Nat} (t : Tbl es cs) (c : Nat) : (writeL es c).length ≤ 6 := by
  rw [write_tbl t c]
  split
  · exact refL_len c
  · exact Nat.le_trans (toldL_len c) (by decide)

theorem esc_ok {es : List En} {cs : List Nat} (t : Tbl es cs) {x : Str} (hx : x.length ≤ 1000) : EscOk x es := by
  have e0 : (tl x).length = x.length := rfl
  have f1 : (Txt.replace x "&" "&amp;").length ≤ 5 * x.length := by
    show (tl _).length ≤ _
    rw [replace_eq _ _ _ (by decide)]
    show (repl [38] [38, 97, 109, 112, 59] (tl x)).length ≤ _
    rw [repl_one]
    exact flatMap_le (fun c => by split <;> simp) _
  have f2 : (Txt.replace (Txt.replace x "&" "&amp;") ">" "&gt;").length ≤ 4 * (5 * x.length) := by
    show (tl _).length ≤ _
    rw [replace_eq _ _ _ (by decide)]
    show (repl [62] [38, 103, 116, 59] (tl _)).length ≤ _
    rw [repl_one]
    exact Nat.le_trans (flatMap_le (b := 4) (fun c => by split <;> simp) _) (Nat.mul_le_mul_left _ f1)
  have f0 : (tl (esc0 x)).length ≤ 5 * x.length := by
    rw [esc0_eq]
    exact flatMap_le toldL_len _
  refine ⟨by omega, by omega, by omega, fun i => ?_⟩
  show (tl _).length ≤ _
  rw [drepl_tbl _ _ _ (t.take i)]
  have := flatMap_le (subs_len (cs.take i)) (tl (esc0 x))
  omega
theorem une_ok {bk : List En} {ds : List Nat} (b : BTbl bk ds) {x : Str} (hx : x.length ≤ 100000) : UneOk x bk := by
  have g : ∀ (x y z : Str), 1 ≤ y.length → z.length ≤ y.length → (Txt.replace x y z).length ≤ x.length := fun x y z h1 h2 => by
    show (tl _).length ≤ _
    rw [replace_eq _ _ _ h1]
    exact repl_le h2 _
  have g1 := g x "&lt;" "<" (by decide) (by decide)
  have g2 := g (Txt.replace x "&lt;" "<") "&gt;" ">" (by decide) (by decide)
  refine ⟨hx, by omega, fun i => ?_⟩
  have : ∀ (es : List En) (ds : List Nat) (x : Str), BTbl es ds → (dreplF x es).length ≤ x.length := by
    intro es
    induction es with
    | nil => intro ds x _; exact Nat.le_refl _
    | cons e es ih =>
      intro ds x t
      cases ds with
      | nil => have := t.eq; cases this
      | cons c ds =>
        have he := (List.cons.inj t.eq).1
        have h1 : tl e.1.1 = refL c := (Prod.mk.inj he).1
        have h2 : tl e.2.1 = [c] := (Prod.mk.inj he).2
        obtain ⟨m, hm, _⟩ := word_shape (refL_word c)
        have hy : 1 ≤ e.1.1.length := by
          show 1 ≤ (tl e.1.1).length
          rw [h1, hm]; exact Nat.le_add_left _ _
        have hz : e.2.1.length ≤ e.1.1.length := by
          show (tl e.2.1).length ≤ _
          rw [h2]; exact hy
        exact Nat.le_trans (ih ds _ ⟨(List.cons.inj t.eq).2, fun c hc => t.sub c (.tail _ hc)⟩) (g x _ _ hy hz)
  have h3 := this (bk.take i) (ds.take i) (une0 x) (b.take i)
  have h4 : (une0 x).length ≤ (Txt.replace x "&lt;" "<").length := g2
  omega

/-! ## Plain law: the text without its quoted stretches -/
def stepH (tb : Nat → Bool) (h : Bool) (c : Nat) : Bool := (!h) && ((c == 92) && (!tb c))
def hidL (tb : Nat → Bool) (h : Bool) (l : List Nat) : Bool := l.foldl (stepH tb) h
def bareL (tb : Nat → Bool) : Bool → List Nat → List Bool
  | _, [] => []
  | h, c :: r => ((!h) && (!tb c)) :: bareL tb (stepH tb h c) r
theorem bare_go (tb : Nat → Bool) : ∀ (l : List Nat) (h : Bool) (bs : List Bool), (l.foldl (bareStep tb) (h, bs)).2 = bs ++ bareL tb h l
  | [], h, bs => (List.append_nil _).symm
  | c :: r, h, bs => by
    rw [List.foldl_cons]
    show (r.foldl (bareStep tb) (stepH tb h c, bs ++ [(!h) && (!tb c)])).2 = _
    rw [bare_go tb r, List.append_assoc]
    rfl
theorem bareF_eq (tb : Nat → Bool) (l : List Nat) : bareF tb l = bareL tb false l := bare_go tb l false []

/-- the stretches between pairs of marks are left out -/
def cutGo {α : Type} (L : List α) : List Nat → Nat → List α
  | m0 :: m1 :: r, s => (L.drop s).take (m0 - s) ++ cutGo L r (m1 + 1)
  | _, s => L.drop s
def Inc (hi : Nat) : List Nat → Nat → Prop
  | [], lo => lo ≤ hi
  | m :: r, lo => lo ≤ m ∧ m < hi ∧ Inc hi r (m + 1)
theorem Inc.lo {hi : Nat} : ∀ {ms : List Nat} {lo : Nat}, Inc hi ms lo → lo ≤ hi
  | [], _, h => h
  | _ :: _, _, h => Nat.le_of_lt (Nat.lt_of_le_of_lt h.1 h.2.1)
theorem Inc.less {hi : Nat} : ∀ {ms : List Nat} {lo lo' : Nat}, Inc hi ms lo → lo' ≤ lo → Inc hi ms lo'
  | [], _, _, h, h' => Nat.le_trans h' h
  | _ :: _, _, _, h, h' => ⟨Nat.le_trans h' h.1, h.2⟩
theorem Inc.mem {hi : Nat} : ∀ {ms : List Nat} {lo : Nat}, Inc hi ms lo → ∀ m ∈ ms, m < hi
  | [], _, _, _, hm => nomatch hm
  | _ :: _, _, h, m, hm => (List.mem_cons.mp hm).elim (fun e => e ▸ h.2.1) fun hm => h.2.2.mem m hm

def marksOf (its : List (Nat × List Nat)) : List Nat := (its.filter fun it => it.2 == [34]).map (·.1)
theorem marksOf_cons (it : Nat × List Nat) (r : List (Nat × List Nat)) : marksOf (it :: r) = if it.2 = [34] then it.1 :: marksOf r else marksOf r := by
  unfold marksOf
  rw [List.filter_cons]
  by_cases h : it.2 = [34]
  · rw [if_pos (beq_iff_eq.mpr h), if_pos h]; rfl
  · rw [if_neg (fun e => h (beq_iff_eq.mp e)), if_neg h]
theorem marks_inc : ∀ (l : List Nat) (h : Bool) (p : Nat), Inc (p + l.length) (marksOf (itF h p l)) p
  | [], true, p => by unfold itF; rw [marksOf_cons, if_neg (by simp)]; exact Nat.le_refl _
  | [], false, p => Nat.le_refl _
  | c :: r, true, p => by
    have ih := marks_inc r false (p + 1)
    rw [show p + 1 + r.length = p + (c :: r).length by rw [List.length_cons]; omega] at ih
    unfold itF
    rw [marksOf_cons, if_neg (by simp)]
    exact ih.less (Nat.le_succ _)
  | c :: r, false, p => by
    have ih := fun h => marks_inc r h (p + 1)
    rw [show p + 1 + r.length = p + (c :: r).length by rw [List.length_cons]; omega] at ih
    unfold itF
    split
    · exact (ih true).less (Nat.le_succ _)
    · rw [marksOf_cons]
      split
      · exact ⟨Nat.le_refl _, by rw [List.length_cons]; show p < _; omega, ih false⟩
      · exact (ih false).less (Nat.le_succ _)

theorem slice_tl {x : Str} {a b : Nat} (h1 : a ≤ b) (h2 : b ≤ x.length) : tl (Txt.slice x (some (a : Int)) (some (b : Int))) = ((tl x).drop a).take (b - a) := by
  have := slice_closes (x := x) (i := a) (j := b) ⟨by omega, by omega, by show (b : Int) ≤ ((x.length : Nat) : Int); omega⟩
  rw [eq_of_beq this]
  show ((tl x).drop (a : Int).toNat).take ((b : Int) - a).toNat = _
  rw [Int.toNat_natCast, show ((b : Int) - a).toNat = b - a by omega]
theorem slice_tl_from {x : Str} {a : Nat} (h1 : a ≤ x.length) : tl (Txt.slice x (some (a : Int)) none) = (tl x).drop a := by
  rw [slice_from_eq (b := x.length) (by omega) (by omega) rfl]
  show ((tl x).drop (a : Int).toNat).take ((x.length : Int) - a).toNat = _
  rw [Int.toNat_natCast, List.take_of_length_le]
  rw [List.length_drop, tl_len]; omega

def finS (x : Str) (st : SSt) : List Nat := (st.2.2.map tl).flatten ++ (if st.1 < x.length then tl (Txt.slice x (some (st.1 : Int)) none) else [])
theorem finS_eq {x : Str} {a : Nat} {o : Option Nat} {ps : List Str} (h : a ≤ x.length) : finS x (a, o, ps) = (ps.map tl).flatten ++ (tl x).drop a := by
  unfold finS
  split
  · rw [slice_tl_from h]
  · have : a = x.length := by rename_i h'; have : ¬ a < x.length := h'; omega
    subst this
    rw [List.drop_eq_nil_of_le (Nat.le_of_eq (tl_len x))]
theorem strip_fold (x : Str) : ∀ (its : List (Nat × List Nat)) (a : Nat) (ps : List Str),
    (Inc x.length (marksOf its) a → finS x (its.foldl (stripStep x) (a, none, ps)) = (ps.map tl).flatten ++ cutGo (tl x) (marksOf its) a) ∧
    (∀ q, a ≤ q → q < x.length → Inc x.length (marksOf its) (q + 1) → finS x (its.foldl (stripStep x) (a, some q, ps)) = (ps.map tl).flatten ++ cutGo (tl x) (q :: marksOf its) a)
  | [], a, ps => ⟨fun h => finS_eq h, fun q h1 h2 h3 => finS_eq (Nat.le_of_lt (Nat.lt_of_le_of_lt h1 h2))⟩
  | it :: r, a, ps => by
    by_cases hm : it.2 = [34]
    · rw [marksOf_cons, if_pos hm]
      constructor
      · intro h
        rw [List.foldl_cons, stripStep, if_pos hm]
        exact (strip_fold x r a ps).2 it.1 h.1 h.2.1 h.2.2
      · intro q h1 h2 h3
        rw [List.foldl_cons, stripStep, if_pos hm]
        show finS x (r.foldl (stripStep x) (it.1 + 1, none, if a = q then ps else ps ++ [Txt.slice x (some (a : Int)) (some (q : Int))])) = _
        rw [(strip_fold x r (it.1 + 1) _).1 h3.2.2, cutGo]
        by_cases e : a = q
        · subst e
          rw [if_pos rfl, Nat.sub_self, List.take_zero, List.nil_append]
        · rw [if_neg e, List.map_append, List.flatten_append, List.append_assoc]
          show _ ++ (tl (Txt.slice x (some (a : Int)) (some (q : Int))) ++ [] ++ _) = _
          rw [slice_tl h1 (Nat.le_of_lt h2), List.append_nil]
    · have e : ∀ st, stripStep x st it = st := fun st => if_neg hm
      rw [marksOf_cons, if_neg hm]
      constructor
      · intro h
        rw [List.foldl_cons, e]
        exact (strip_fold x r a ps).1 h
      · intro q h1 h2 h3
        rw [List.foldl_cons, e]
        exact (strip_fold x r a ps).2 q h1 h2 h3

theorem itF_mem : ∀ (l : List Nat) (h : Bool) (p : Nat) (it : Nat × List Nat), it ∈ itF h p l → ∀ c, it.2 = [c] → c ≠ 92 → c ∈ l
  | [], true, p, it, hm, c, hc, h92 => by
    unfold itF at hm
    rw [List.mem_singleton.mp hm] at hc
    injection hc with hc; exact absurd hc.symm h92
  | [], false, p, it, hm, c, hc, h92 => by unfold itF at hm; cases hm
  | d :: r, true, p, it, hm, c, hc, h92 => by
    unfold itF at hm
    rcases List.mem_cons.mp hm with rfl | hm
    · injection hc with _ hc; cases hc
    · exact .tail _ (itF_mem r false (p + 1) it hm c hc h92)
  | d :: r, false, p, it, hm, c, hc, h92 => by
    unfold itF at hm
    split at hm
    · exact .tail _ (itF_mem r true (p + 1) it hm c hc h92)
    · rcases List.mem_cons.mp hm with rfl | hm
      · injection hc with hc; subst hc; exact .head _
      · exact .tail _ (itF_mem r false (p + 1) it hm c hc h92)
/-- what _strip_quoted_realnames leaves -/
theorem strip_cut (x : Str) : tl (stripF x) = cutGo (tl x) (marksOf (itF false 0 (tl x))) 0 := by
  have hinc := marks_inc (tl x) false 0
  rw [Nat.zero_add] at hinc
  unfold stripF
  have hh := occ_has x "\"" (by decide)
  cases ho : (Builtin.Str.occurrences x "\"" 0 x.length 1).isEmpty with
  | true =>
    rw [if_pos rfl]
    rw [ho] at hh
    have hno : marksOf (itF false 0 (tl x)) = [] := by
      unfold marksOf
      rw [List.map_eq_nil_iff, List.filter_eq_nil_iff]
      intro it hit he
      have h34 := itF_mem (tl x) false 0 it hit 34 (eq_of_beq he) (by decide)
      obtain ⟨k, hk, hk'⟩ := List.getElem_of_mem h34
      have hs : hasSub [34] (tl x) = true := by
        unfold hasSub
        refine List.any_eq_true.mpr ⟨k, List.mem_range.mpr (by omega), List.isPrefixOf_iff_prefix.mpr ?_⟩
        rw [List.drop_eq_getElem_cons hk, hk']
        exact ⟨_, rfl⟩
      have hh : (!true) = hasSub [34] (tl x) := hh
      rw [hs] at hh
      cases hh
    rw [hno]
    exact List.drop_zero.symm
  | false =>
    rw [if_neg Bool.false_ne_true, join_flat, List.map_append, List.flatten_append]
    have key := (strip_fold x (itF false 0 (tl x)) 0 []).1 hinc
    have e : finS x (stripSt x) = cutGo (tl x) (marksOf (itF false 0 (tl x))) 0 := key
    rw [← e]
    unfold finS
    congr 1
    split
    · show tl _ ++ [] = _; rw [List.append_nil]
    · rfl

/-! ### places -/
theorem range'_map {α : Type} (X : List α) (d : α) : ∀ (k s : Nat), s + k ≤ X.length → (List.range' s k).map (fun i => X.getD i d) = (X.drop s).take k
  | 0, s, _ => by rw [List.take_zero]; rfl
  | k + 1, s, h => by
    rw [List.range'_succ, List.map_cons, range'_map X d k (s + 1) (by omega), List.drop_eq_getElem_cons (by omega : s < X.length), List.take_succ_cons]
    congr 1
    rw [List.getD_eq_getElem?_getD, List.getElem?_eq_getElem (by omega : s < X.length)]; rfl
theorem places_cut {α : Type} (X : List α) (d : α) : ∀ (ms : List Nat) (s : Nat), Inc X.length ms s → (placesGo X.length ms s).map (fun i => X.getD i d) = cutGo X ms s
  | [], s, h => by
    have h : s ≤ X.length := h
    show (List.range' s (X.length - s)).map _ = X.drop s
    rw [range'_map X d _ _ (by omega), List.take_of_length_le (by rw [List.length_drop]; exact Nat.le_refl _)]
  | [m], s, h => by
    have h : s ≤ X.length := h.lo
    show (List.range' s (X.length - s)).map _ = X.drop s
    rw [range'_map X d _ _ (by omega), List.take_of_length_le (by rw [List.length_drop]; exact Nat.le_refl _)]
  | m0 :: m1 :: r, s, h => by
    obtain ⟨h1, h2, h3, h4, h5⟩ := h
    rw [placesGo, cutGo, List.map_append, range'_map X d _ _ (by omega), places_cut X d r _ h5]
theorem places_lt (n : Nat) : ∀ (ms : List Nat) (s : Nat), Inc n ms s → ∀ k ∈ placesGo n ms s, k < n
  | [], s, h, k, hk => by
    have h : s ≤ n := h
    have := List.mem_range'_1.mp (show k ∈ List.range' s (n - s) from hk); omega
  | [m], s, h, k, hk => by
    have h : s ≤ n := h.lo
    have := List.mem_range'_1.mp (show k ∈ List.range' s (n - s) from hk); omega
  | m0 :: m1 :: r, s, h, k, hk => by
    obtain ⟨h1, h2, h3, h4, h5⟩ := h
    rw [placesGo] at hk
    rcases List.mem_append.mp hk with hk | hk
    · have := List.mem_range'_1.mp hk; omega
    · exact places_lt n r _ h5 k hk

/-! ## Plain law: marks and brackets of what was written -/
/-- each sign of the marks, brackets and backslash stays or is written without any of them -/
def Wr (tb : Nat → Bool) (f : Nat → List Nat) : Prop := ∀ c, (c ∈ keysL ∧ tb c = false ∧ f c = [c]) ∨ ((c ∈ keysL → tb c = true) ∧ f c ≠ [] ∧ ∀ d ∈ f c, d ∉ keysL)
def isK (it : Nat × List Nat) : Bool := it.2 == [34] || (it.2 == [40] || it.2 == [41])
def bIs (tb : Nat → Bool) (f : Nat → List Nat) : Bool → Nat → List Nat → List (Nat × List Nat)
  | _, _, [] => []
  | h, p, c :: r => if ((!h) && (!tb c)) && (c == 34 || (c == 40 || c == 41)) then (p, [c]) :: bIs tb f (stepH tb h c) (p + (f c).length) r else bIs tb f (stepH tb h c) (p + (f c).length) r

theorem isK_two (p a b : Nat) : isK (p, [a, b]) = false := by
  unfold isK; simp
theorem isK_free {p d : Nat} (h : d ∉ keysL) : isK (p, [d]) = false := by
  unfold isK keysL at *
  simp at h
  simp [h]
theorem itF_free : ∀ (w r : List Nat) (p : Nat), (∀ d ∈ w, d ∉ keysL) → (itF false p (w ++ r)).filter isK = (itF false (p + w.length) r).filter isK
  | [], r, p, _ => rfl
  | d :: w, r, p, h => by
    have hd := h d (.head _)
    have h92 : d ≠ 92 := fun e => by subst e; exact hd (by decide)
    rw [List.cons_append, itF, if_neg h92, List.filter_cons_of_neg (by rw [isK_free hd]; exact Bool.false_ne_true), itF_free w r (p + 1) fun d hd => h d (.tail _ hd), List.length_cons]
    congr 2; omega
theorem items_key {tb : Nat → Bool} {f : Nat → List Nat} (wr : Wr tb f) : ∀ (L : List Nat) (h : Bool) (p : Nat), (itF h p (L.flatMap f)).filter isK = bIs tb f h p L
  | [], true, p => by
    show (itF true p []).filter isK = _
    unfold itF
    rw [List.filter_cons_of_neg (by unfold isK; simp)]; rfl
  | [], false, p => rfl
  | c :: r, true, p => by
    have ih := items_key wr r
    rw [List.flatMap_cons, bIs, if_neg (by simp)]
    have hst : stepH tb true c = false := rfl
    rw [hst]
    obtain ⟨d, w, hf, hw⟩ : ∃ d w, f c = d :: w ∧ ∀ u ∈ w, u ∉ keysL := by
      rcases wr c with ⟨_, _, e⟩ | ⟨_, hne, hfree⟩
      · exact ⟨c, [], e, fun _ h => nomatch h⟩
      · cases hfc : f c with
        | nil => exact absurd hfc hne
        | cons d w => rw [hfc] at hfree; exact ⟨d, w, rfl, fun u hu => hfree u (.tail _ hu)⟩
    rw [hf, List.cons_append, itF, List.filter_cons_of_neg (by rw [isK_two]; exact Bool.false_ne_true), itF_free w _ _ hw, ih, List.length_cons]
    congr 1; omega
  | c :: r, false, p => by
    have ih := items_key wr r
    rw [List.flatMap_cons, bIs]
    rcases wr c with ⟨hk, ht, e⟩ | ⟨hk, hne, hfree⟩
    · rw [e]
      show (itF false p (c :: r.flatMap f)).filter isK = _
      rw [itF]
      by_cases h92 : c = 92
      · subst h92
        rw [if_pos rfl, ih, if_neg (by simp)]
        have : stepH tb false 92 = true := by unfold stepH; rw [ht]; rfl
        rw [this]; rfl
      · rw [if_neg h92]
        have hc : (c == 34 || (c == 40 || c == 41)) = true := by
          have : ∀ c ∈ keysL, c ≠ 92 → (c == 34 || (c == 40 || c == 41)) = true := by decide
          exact this c hk h92
        have hst : stepH tb false c = false := by unfold stepH; rw [beq_false_of_ne h92]; rfl
        rw [if_pos (by rw [ht, hc]; rfl), hst, ← ih false]
        refine List.filter_cons_of_pos ?_
        have : ∀ c ∈ keysL, c ≠ 92 → isK (0, [c]) = true := by decide
        exact this c hk h92
    · rw [itF_free _ _ _ hfree, ih]
      have hst : stepH tb false c = false := by
        unfold stepH
        by_cases h92 : c = 92
        · rw [hk (by subst h92; decide)]; simp
        · rw [beq_false_of_ne h92]; rfl
      rw [hst, if_neg]
      intro hh
      rw [Bool.and_eq_true, Bool.and_eq_true] at hh
      have hkk : c ∈ keysL := by
        unfold keysL
        have := hh.2
        simp at this ⊢
        omega
      rw [hk hkk] at hh
      exact absurd hh.1.2 (by decide)

/-! ### marks -/
def mkL (tb : Nat → Bool) : Bool → Nat → List Nat → List Nat
  | _, _, [] => []
  | h, i, c :: r => if ((!h) && (!tb c)) && c == 34 then i :: mkL tb (stepH tb h c) (i + 1) r else mkL tb (stepH tb h c) (i + 1) r
theorem marks_key (its : List (Nat × List Nat)) : marksOf its = marksOf (its.filter isK) := by
  unfold marksOf
  rw [List.filter_filter]
  congr 1
  apply List.filter_congr
  intro it _
  unfold isK
  cases it.2 == [34] <;> simp
def phi (f : Nat → List Nat) (T : List Nat) (i : Nat) : Nat := ((T.take i).flatMap f).length
theorem marks_phi {tb : Nat → Bool} {f : Nat → List Nat} : ∀ (L pre : List Nat) (h : Bool), marksOf (bIs tb f h (pre.flatMap f).length L) = (mkL tb h pre.length L).map (phi f (pre ++ L))
  | [], pre, h => rfl
  | c :: r, pre, h => by
    have ih := marks_phi (tb := tb) (f := f) r (pre ++ [c]) (stepH tb h c)
    have e1 : ((pre ++ [c]).flatMap f).length = (pre.flatMap f).length + (f c).length := by
      rw [List.flatMap_append, List.length_append, List.flatMap_cons, List.flatMap_nil, List.append_nil]
    have e2 : (pre ++ [c]).length = pre.length + 1 := by rw [List.length_append]; rfl
    have e3 : pre ++ [c] ++ r = pre ++ c :: r := by rw [List.append_assoc]; rfl
    rw [e1, e2, e3] at ih
    rw [bIs, mkL]
    have e4 : phi f (pre ++ c :: r) pre.length = (pre.flatMap f).length := by unfold phi; rw [List.take_left]
    cases hb : ((!h) && (!tb c)) with
    | false => rw [Bool.false_and, Bool.false_and, if_neg Bool.false_ne_true, if_neg Bool.false_ne_true, ih]
    | true =>
      rw [Bool.true_and, Bool.true_and]
      by_cases h34 : c = 34
      · subst h34
        rw [if_pos (by rfl), if_pos (by rfl), marksOf_cons, if_pos rfl, ih, List.map_cons, e4]
      · rw [if_neg (c := (c == 34) = true) (by simpa using h34)]
        split
        · rw [marksOf_cons, if_neg (by simpa using h34), ih]
        · rw [ih]
theorem marks_bare (tb : Nat → Bool) : ∀ (L pre : List Nat) (h : Bool) (bp : List Bool), bp.length = pre.length →
    (List.range' pre.length L.length).filter (fun k => (pre ++ L)[k]? == some 34 && (bp ++ bareL tb h L)[k]? == some true) = mkL tb h pre.length L
  | [], pre, h, bp, _ => rfl
  | c :: r, pre, h, bp, hl => by
    have ih := marks_bare tb r (pre ++ [c]) (stepH tb h c) (bp ++ [(!h) && (!tb c)]) (by rw [List.length_append, List.length_append, hl]; rfl)
    have e2 : (pre ++ [c]).length = pre.length + 1 := by rw [List.length_append]; rfl
    rw [e2, List.append_assoc, List.append_assoc] at ih
    rw [List.length_cons, List.range'_succ, List.filter_cons, mkL]
    have f1 : (pre ++ c :: r)[pre.length]? = some c := by rw [List.getElem?_append_right (Nat.le_refl _), Nat.sub_self]; rfl
    have f2 : (bp ++ bareL tb h (c :: r))[pre.length]? = some ((!h) && (!tb c)) := by rw [← hl, List.getElem?_append_right (Nat.le_refl _), Nat.sub_self]; rfl
    rw [f1, f2]
    have hc : ((some c == some 34) && (some ((!h) && (!tb c)) == some true)) = (((!h) && (!tb c)) && c == 34) := by
      cases hb : ((!h) && (!tb c)) <;> simp
    rw [hc]
    show (if _ then pre.length :: (List.range' (pre.length + 1) r.length).filter _ else (List.range' (pre.length + 1) r.length).filter _) = _
    have ih' : (List.range' (pre.length + 1) r.length).filter (fun k => (pre ++ c :: r)[k]? == some 34 && (bp ++ bareL tb h (c :: r))[k]? == some true) = mkL tb (stepH tb h c) (pre.length + 1) r := ih
    rw [ih']
theorem marksF_eq (tb : Nat → Bool) (x : Str) : marksF x (bareF tb (tl x)) = mkL tb false 0 (tl x) := by
  have := marks_bare tb (tl x) [] false [] rfl
  refine Eq.trans ?_ this
  unfold marksF
  rw [List.range_eq_range', bareF_eq]
  show (List.range' 0 (tl x).length).filter _ = _
  apply List.filter_congr
  intro k _
  unfold markAt
  rw [← Array.getElem?_toList]
  rfl

/-- a mark is bare, and nothing is hidden before or behind it -/
theorem mkL_inc (tb : Nat → Bool) : ∀ (L : List Nat) (h : Bool) (i : Nat), Inc (i + L.length) (mkL tb h i L) i
  | [], h, i => Nat.le_refl _
  | c :: r, h, i => by
    have ih := mkL_inc tb r (stepH tb h c) (i + 1)
    rw [show i + 1 + r.length = i + (c :: r).length by rw [List.length_cons]; omega] at ih
    unfold mkL
    split
    · exact ⟨Nat.le_refl _, by rw [List.length_cons]; omega, ih⟩
    · exact ih.less (Nat.le_succ _)
theorem mkL_at (tb : Nat → Bool) : ∀ (L pre : List Nat) (h : Bool), hidL tb false pre = h → ∀ m ∈ mkL tb h pre.length L,
    (pre ++ L)[m]? = some 34 ∧ tb 34 = false ∧ hidL tb false ((pre ++ L).take m) = false
  | [], pre, h, _, m, hm => nomatch hm
  | c :: r, pre, h, hh, m, hm => by
    have ih := mkL_at tb r (pre ++ [c]) (stepH tb h c) (by unfold hidL at *; rw [List.foldl_append, hh]; rfl)
    have e2 : (pre ++ [c]).length = pre.length + 1 := by rw [List.length_append]; rfl
    have e3 : pre ++ [c] ++ r = pre ++ c :: r := by rw [List.append_assoc]; rfl
    rw [e2, e3] at ih
    unfold mkL at hm
    split at hm
    · rename_i hb
      rcases List.mem_cons.mp hm with rfl | hm
      · rw [Bool.and_eq_true, Bool.and_eq_true] at hb
        have h34 : c = 34 := eq_of_beq hb.2
        subst h34
        refine ⟨by rw [List.getElem?_append_right (Nat.le_refl _), Nat.sub_self]; rfl, by simpa using hb.1.2, ?_⟩
        rw [List.take_left, hh]; simpa using hb.1.1
      · exact ih m hm
    · exact ih m hm

/-! ### cutting what was written -/
theorem phi_sub {f : Nat → List Nat} {T : List Nat} {s m : Nat} (h : s ≤ m) : phi f T m = phi f T s + (((T.drop s).take (m - s)).flatMap f).length := by
  unfold phi
  have : T.take m = T.take s ++ (T.drop s).take (m - s) := by
    rw [show m = s + (m - s) by omega, List.take_add, show s + (m - s) - s = m - s by omega]
  rw [this, List.flatMap_append, List.length_append]
theorem drop_phi (f : Nat → List Nat) (T : List Nat) (s : Nat) : (T.flatMap f).drop (phi f T s) = (T.drop s).flatMap f := by
  unfold phi
  conv => lhs; rw [← List.take_append_drop s T]
  rw [List.flatMap_append, List.take_append_drop, List.drop_left]
theorem cut_phi {f : Nat → List Nat} {T : List Nat} : ∀ (ms : List Nat) (s : Nat), Inc T.length ms s → (∀ m ∈ ms, phi f T (m + 1) = phi f T m + 1) →
    cutGo (T.flatMap f) (ms.map (phi f T)) (phi f T s) = (cutGo T ms s).flatMap f
  | [], s, _, _ => drop_phi f T s
  | [m], s, _, _ => drop_phi f T s
  | m0 :: m1 :: r, s, h, h1 => by
    obtain ⟨h2, h3, h4, h5, h6⟩ := h
    rw [List.map_cons, List.map_cons, cutGo, cutGo, List.flatMap_append, ← h1 m1 (.tail _ (.head _)), cut_phi r (m1 + 1) h6 fun m hm => h1 m (.tail _ (.tail _ hm)), drop_phi]
    congr 1
    have e : T.drop s = (T.drop s).take (m0 - s) ++ (T.drop s).drop (m0 - s) := (List.take_append_drop _ _).symm
    have := phi_sub (f := f) (T := T) h2
    conv => lhs; rw [e]
    rw [List.flatMap_append, this, Nat.add_sub_cancel_left, List.take_left]

/-! ### flags after the cut -/
def zB (tb : Nat → Bool) : Bool → List Nat → List (Nat × Bool)
  | _, [] => []
  | h, c :: r => (c, (!h) && (!tb c)) :: zB tb (stepH tb h c) r
theorem zB_zip (tb : Nat → Bool) : ∀ (L : List Nat) (h : Bool), zB tb h L = L.zip (bareL tb h L)
  | [], h => rfl
  | c :: r, h => by
    show _ :: _ = _ :: _
    rw [zB_zip tb r]; rfl
theorem zB_length (tb : Nat → Bool) : ∀ (L : List Nat) (h : Bool), (zB tb h L).length = L.length
  | [], h => rfl
  | c :: r, h => by
    show (zB tb _ r).length + 1 = r.length + 1
    rw [zB_length tb r]
theorem zB_append (tb : Nat → Bool) : ∀ (a b : List Nat) (h : Bool), zB tb h (a ++ b) = zB tb h a ++ zB tb (hidL tb h a) b
  | [], b, h => rfl
  | c :: a, b, h => by
    show _ :: zB tb _ (a ++ b) = _
    rw [zB_append tb a b]; rfl
theorem zB_drop (tb : Nat → Bool) : ∀ (s : Nat) (L : List Nat) (h : Bool), (zB tb h L).drop s = zB tb (hidL tb h (L.take s)) (L.drop s)
  | 0, L, h => rfl
  | s + 1, [], h => rfl
  | s + 1, c :: r, h => by
    show (zB tb _ r).drop s = _
    rw [zB_drop tb s r]; rfl
theorem zB_take (tb : Nat → Bool) : ∀ (s : Nat) (L : List Nat) (h : Bool), (zB tb h L).take s = zB tb h (L.take s)
  | 0, L, h => rfl
  | s + 1, [], h => rfl
  | s + 1, c :: r, h => by
    show _ :: (zB tb _ r).take s = _ :: _
    rw [zB_take tb s r]
theorem zB_cut (tb : Nat → Bool) {T : List Nat} : ∀ (ms : List Nat) (s : Nat), Inc T.length ms s → hidL tb false (T.take s) = false →
    (∀ m ∈ ms, hidL tb false (T.take m) = false ∧ hidL tb false (T.take (m + 1)) = false) → zB tb false (cutGo T ms s) = cutGo (zB tb false T) ms s
  | [], s, _, hs, _ => by
    show zB tb false (T.drop s) = (zB tb false T).drop s
    rw [zB_drop, hs]
  | [m], s, _, hs, _ => by
    show zB tb false (T.drop s) = (zB tb false T).drop s
    rw [zB_drop, hs]
  | m0 :: m1 :: r, s, h, hs, hm => by
    obtain ⟨h2, h3, h4, h5, h6⟩ := h
    rw [cutGo, cutGo, zB_append, zB_drop, hs, zB_take]
    congr 1
    have e : hidL tb false ((T.drop s).take (m0 - s)) = hidL tb false (T.take m0) := by
      have e : T.take m0 = T.take s ++ (T.drop s).take (m0 - s) := by
        rw [show m0 = s + (m0 - s) by omega, List.take_add, show s + (m0 - s) - s = m0 - s by omega]
      rw [e]
      unfold hidL at *
      rw [List.foldl_append, hs]
    rw [e, (hm m0 (.head _)).1]
    exact zB_cut tb r (m1 + 1) h6 (hm m1 (.tail _ (.head _))).2 fun m hm' => hm m (.tail _ (.tail _ hm'))

/-! ### brackets -/
def bal : Int → List Nat → Bool
  | o, [] => o == 0
  | o, c :: r => if c = 40 then bal (o + 1) r else if c = 41 then (if o - 1 < 0 then false else bal (o - 1) r) else bal o r
def isBr (q : Nat × Bool) : Bool := q.2 && (q.1 == 40 || q.1 == 41)
def browZ (z : List (Nat × Bool)) : List Nat := (z.filter isBr).map (·.1)
theorem check_key : ∀ (its : List (Nat × List Nat)) (o : Int), checkGo o its = checkGo o (its.filter isK)
  | [], o => rfl
  | it :: r, o => by
    have ih := check_key r
    rw [checkGo]
    by_cases h40 : it.2 = [40]
    · rw [if_pos h40, List.filter_cons_of_pos (by unfold isK; rw [h40]; rfl), checkGo, if_pos h40, ih]
    · rw [if_neg h40]
      by_cases h41 : it.2 = [41]
      · rw [if_pos h41, List.filter_cons_of_pos (by unfold isK; rw [h41]; rfl), checkGo, if_neg h40, if_pos h41, ih]
      · rw [if_neg h41, List.filter_cons]
        split
        · rw [checkGo, if_neg h40, if_neg h41, ih]
        · rw [ih]
theorem check_bal (tb : Nat → Bool) (f : Nat → List Nat) : ∀ (L : List Nat) (h : Bool) (p : Nat) (o : Int), checkGo o (bIs tb f h p L) = bal o (browZ (zB tb h L))
  | [], h, p, o => rfl
  | c :: r, h, p, o => by
    have ih := check_bal tb f r
    rw [bIs]
    show _ = bal o (browZ ((c, (!h) && (!tb c)) :: zB tb (stepH tb h c) r))
    unfold browZ at ih ⊢
    rw [List.filter_cons]
    show _ = bal o ((if (((!h) && (!tb c)) && (c == 40 || c == 41)) = true then _ else _ : List (Nat × Bool)).map _)
    cases hb : ((!h) && (!tb c)) with
    | false => rw [Bool.false_and, Bool.false_and, if_neg Bool.false_ne_true, if_neg Bool.false_ne_true, ih]
    | true =>
      rw [Bool.true_and, Bool.true_and]
      by_cases h40 : c = 40
      · subst h40
        rw [if_pos (by rfl), if_pos (by rfl), checkGo, if_pos rfl, ih, List.map_cons]
        show _ = bal o (40 :: _)
        rw [bal, if_pos rfl]
      by_cases h41 : c = 41
      · subst h41
        rw [if_pos (by rfl), if_pos (by rfl), checkGo, if_neg (by simp), if_pos rfl, ih, List.map_cons]
        show _ = bal o (41 :: _)
        rw [bal, if_neg (show ¬ ((41 : Nat) = 40) by decide), if_pos rfl]
      rw [if_neg (c := (c == 40 || c == 41) = true) (by simp [h40, h41])]
      split
      · rw [checkGo, if_neg (by simpa using h40), if_neg (by simpa using h41), ih]
      · rw [ih]

theorem bal_repl : ∀ (k : Nat) (l : List Nat) (o : Int), 0 ≤ o → k = 0 → bal o (replGo [40, 41] [] k l) = bal o l := by
  intro k l
  induction hn : l.length using Nat.strongRecOn generalizing l with
  | ind n ih =>
    intro o ho hk
    subst hk
    cases l with
    | nil => rfl
    | cons c r =>
      cases hp : [40, 41].isPrefixOf (c :: r) with
      | true =>
        have e : replGo [40, 41] [] 0 (c :: r) = repl [40, 41] [] ((c :: r).drop 2) := repl_hit (y := [40, 41]) (z := []) (by simp) hp
        obtain ⟨q, hq⟩ := List.isPrefixOf_iff_prefix.mp hp
        rw [e, ← hq]
        show bal o (replGo [40, 41] [] 0 q) = bal o (40 :: 41 :: q)
        rw [ih q.length (by rw [← hn, ← hq]; simp; omega) q rfl o ho rfl, bal, if_pos rfl, bal, if_neg (by decide), if_pos rfl, if_neg (by omega)]
        congr 1; omega
      | false =>
        have e : replGo [40, 41] [] 0 (c :: r) = c :: repl [40, 41] [] r := repl_miss hp
        rw [e, bal, bal]
        have ihr := fun o ho => ih r.length (by rw [← hn]; simp) r rfl o ho rfl
        by_cases h40 : c = 40
        · rw [if_pos h40, if_pos h40]; exact ihr _ (by omega)
        rw [if_neg h40, if_neg h40]
        by_cases h41 : c = 41
        · rw [if_pos h41, if_pos h41]
          by_cases h0 : o - 1 < 0
          · rw [if_pos h0, if_pos h0]
          · rw [if_neg h0, if_neg h0]; exact ihr _ (by omega)
        rw [if_neg h41, if_neg h41]; exact ihr _ ho
theorem bal_opens : ∀ (l : List Nat) (o : Int), 0 < o → (∀ c ∈ l, c = 40) → bal o l = false
  | [], o, ho, _ => by unfold bal; simp; omega
  | c :: r, o, ho, h => by
    rw [bal, if_pos (h c (.head _))]
    exact bal_opens r (o + 1) (by omega) fun d hd => h d (.tail _ hd)
theorem opens_only : ∀ (l : List Nat), (∀ c ∈ l, c = 40 ∨ c = 41) → hasSub [40, 41] (40 :: l) = false → ∀ c ∈ l, c = 40
  | [], _, _ => fun _ h => nomatch h
  | c :: r, h, hs => by
    have sub : ∀ k, k ≤ (40 :: c :: r).length → [40, 41].isPrefixOf ((40 :: c :: r).drop k) = false := fun k hk => by
      unfold hasSub at hs
      rw [List.any_eq_false] at hs
      exact Bool.eq_false_iff.mpr (hs k (List.mem_range.mpr (by omega)))
    have hc : c = 40 := by
      rcases h c (.head _) with h | h
      · exact h
      · subst h
        have := sub 0 (Nat.zero_le _)
        simp [List.isPrefixOf] at this
    subst hc
    have := opens_only r (fun d hd => h d (.tail _ hd)) (by
      unfold hasSub
      rw [List.any_eq_false]
      intro k hk
      have := sub (k + 1) (by have := List.mem_range.mp hk; simp at this ⊢; omega)
      rw [List.drop_succ_cons] at this
      rw [this]; exact Bool.false_ne_true)
    intro d hd
    rcases List.mem_cons.mp hd with h | h
    · exact h
    · exact this d h
theorem bal_none : ∀ (l : List Nat), (∀ c ∈ l, c = 40 ∨ c = 41) → hasSub [40, 41] l = false → bal 0 l = (l == [])
  | [], _, _ => rfl
  | c :: r, h, hs => by
    show _ = false
    rcases h c (.head _) with h1 | h1
    · subst h1
      rw [bal, if_pos rfl]
      exact bal_opens r _ (by omega) (opens_only r (fun d hd => h d (.tail _ hd)) hs)
    · subst h1
      rw [bal, if_neg (by decide), if_pos rfl, if_pos (by omega)]
theorem repl_sub : ∀ (k : Nat) (l : List Nat) (y : List Nat), ∀ c ∈ replGo y [] k l, c ∈ l
  | k, [], y, c, h => by unfold replGo at h; cases k <;> simp at h
  | k + 1, d :: r, y, c, h => .tail _ (repl_sub k r y c h)
  | 0, d :: r, y, c, h => by
    have h : c ∈ (if y.isPrefixOf (d :: r) then [] ++ replGo y [] (y.length - 1) r else d :: replGo y [] 0 r) := h
    split at h
    · exact .tail _ (repl_sub (y.length - 1) r y c h)
    · rcases List.mem_cons.mp h with h | h
      · rw [h]; exact .head _
      · exact .tail _ (repl_sub 0 r y c h)
theorem taken_bal : ∀ (n : Nat) (l : List Nat), l.length ≤ n → (∀ c ∈ l, c = 40 ∨ c = 41) → (takenGo n l == []) = bal 0 l
  | 0, l, hl, h => by
    have : l = [] := List.length_eq_zero_iff.mp (by omega)
    subst this; rfl
  | n + 1, l, hl, h => by
    rw [takenGo]
    cases hs : hasSub [40, 41] l with
    | true =>
      have := repl_lt (y := [40, 41]) (by simp) l hs
      rw [if_pos rfl, taken_bal n (repl [40, 41] [] l) (by omega) fun c hc => h c (repl_sub 0 l _ c hc)]
      exact bal_repl 0 l 0 (by omega) rfl
    | false => rw [if_neg Bool.false_ne_true, bal_none l h hs]

theorem row_brow (tb : Nat → Bool) (x : Str) (ns : List Nat) (hn : ∀ k ∈ ns, k < x.length) :
    rowF x (bareF tb (tl x)) ns = browZ (ns.map fun k => (zB tb false (tl x)).getD k (0, false)) := by
  unfold rowF browZ
  rw [List.filter_map, List.map_map]
  have each : ∀ k ∈ ns, (zB tb false (tl x)).getD k (0, false) = (x.cps.getD k 0, (bareF tb (tl x)).getD k false) := fun k hk => by
    have hk := hn k hk
    have h1 : (tl x)[k]? = some (x.cps.getD k 0) := by
      rw [List.getElem?_eq_getElem (by rw [tl_len]; exact hk), Array.getD_eq_getD_getElem?, Array.getElem?_eq_getElem (by exact hk)]; rfl
    have h2 : (bareL tb false (tl x))[k]? = some ((bareL tb false (tl x)).getD k false) := by
      have : k < (bareL tb false (tl x)).length := by
        rw [← bareF_eq]
        unfold bareF
        rw [bareF_length]
        simp [tl_len]; exact hk
      rw [List.getD_eq_getElem?_getD, List.getElem?_eq_getElem this]; rfl
    rw [zB_zip, bareF_eq, List.getD_eq_getElem?_getD, (List.getElem?_zip_eq_some (z := (x.cps.getD k 0, (bareL tb false (tl x)).getD k false))).mpr ⟨h1, h2⟩]
    rfl
  have e1 : ns.filter (rowAt x (bareF tb (tl x))) = ns.filter (isBr ∘ fun k => (zB tb false (tl x)).getD k (0, false)) := by
    apply List.filter_congr
    intro k hk
    show _ = isBr ((zB tb false (tl x)).getD k (0, false))
    rw [each k hk]
    unfold rowAt isBr
    congr 1
    rw [List.getD_eq_getElem?_getD]
    cases (bareF tb (tl x))[k]? with
    | none => rfl
    | some b => cases b <;> rfl
  rw [e1]
  apply List.map_congr_left
  intro k hk
  show _ = ((zB tb false (tl x)).getD k (0, false)).1
  rw [each k (List.mem_filter.mp hk).1]

/-- the law of the strip and of the brackets -/
theorem strip_law {tb : Nat → Bool} {f : Nat → List Nat} (wr : Wr tb f) {x W : Str} (hW : tl W = (tl x).flatMap f) :
    tl (stripF W) = ((placesF x (bareF tb (tl x))).map fun k => x.cps.getD k 0).flatMap f ∧ checkF W = takenF (rowF x (bareF tb (tl x)) (placesF x (bareF tb (tl x)))) := by
  have hm := marksF_eq tb x
  have hinc : Inc (tl x).length (mkL tb false 0 (tl x)) 0 := by have := mkL_inc tb (tl x) false 0; rwa [Nat.zero_add] at this
  have hat := mkL_at tb (tl x) [] false rfl
  have hpl : ∀ {α : Type} (X : List α) (d : α), X.length = (tl x).length → (placesF x (bareF tb (tl x))).map (fun k => X.getD k d) = cutGo X (mkL tb false 0 (tl x)) 0 := fun X d h => by
    unfold placesF
    rw [hm]
    have : x.length = X.length := h.symm
    rw [this]
    exact places_cut X d _ 0 (by rw [h]; exact hinc)
  have hleft : (placesF x (bareF tb (tl x))).map (fun k => x.cps.getD k 0) = cutGo (tl x) (mkL tb false 0 (tl x)) 0 := by
    rw [← hpl (tl x) 0 rfl]
    apply List.map_congr_left
    intro k _
    show _ = x.cps.toList.getD k 0
    rw [List.getD_eq_getElem?_getD, Array.getD_eq_getD_getElem?, Array.getElem?_toList]
  have hphi : ∀ m ∈ mkL tb false 0 (tl x), phi f (tl x) (m + 1) = phi f (tl x) m + 1 := fun m hmm => by
    obtain ⟨h34, ht, _⟩ := hat m hmm
    have h34 : (tl x)[m]? = some 34 := h34
    obtain ⟨hlt, hg⟩ := List.getElem?_eq_some_iff.mp h34
    rw [phi_sub (Nat.le_succ m), show m.succ - m = 1 by omega, List.drop_eq_getElem_cons hlt, hg]
    rcases wr 34 with ⟨_, _, e⟩ | ⟨hk, _⟩
    · show _ + ([34].flatMap f).length = _
      rw [List.flatMap_cons, List.flatMap_nil, e]; rfl
    · rw [hk (by decide)] at ht; cases ht
  have hstrip : tl (stripF W) = ((placesF x (bareF tb (tl x))).map fun k => x.cps.getD k 0).flatMap f := by
    rw [strip_cut, marks_key, hW, items_key wr, hleft]
    have e1 := marks_phi (tb := tb) (f := f) (tl x) [] false
    have e1 : marksOf (bIs tb f false 0 (tl x)) = (mkL tb false 0 (tl x)).map (phi f (tl x)) := e1
    rw [e1]
    exact cut_phi (f := f) _ 0 hinc hphi
  refine ⟨hstrip, ?_⟩
  unfold checkF
  show checkGo 0 (itF false 0 (tl (stripF W))) = _
  rw [check_key, hstrip, items_key wr, check_bal, hleft, zB_cut tb _ 0 hinc rfl ?_]
  · have hr : rowF x (bareF tb (tl x)) (placesF x (bareF tb (tl x))) = browZ (cutGo (zB tb false (tl x)) (mkL tb false 0 (tl x)) 0) := by
      rw [row_brow, hpl _ _ (zB_length tb _ _)]
      unfold placesF
      rw [hm]
      exact places_lt _ _ 0 hinc
    rw [← hr]
    unfold takenF
    rw [taken_bal _ _ (Nat.le_refl _)]
    intro c hc
    unfold rowF at hc
    obtain ⟨k, hk, rfl⟩ := List.mem_map.mp hc
    have := (List.mem_filter.mp hk).2
    unfold rowAt at this
    rw [Bool.and_eq_true, Bool.or_eq_true] at this
    exact this.2.imp eq_of_beq eq_of_beq
  · intro m hmm
    obtain ⟨h34, ht, hh⟩ := hat m hmm
    refine ⟨hh, ?_⟩
    have h34 : (tl x)[m]? = some 34 := h34
    have hh : hidL tb false ((tl x).take m) = false := hh
    rw [List.take_add_one, h34]
    unfold hidL at *
    rw [List.foldl_append, hh]; rfl

/-! ## Rules that the law's own body wants -/
section
variable {prog : Program} {w : World} {A : Around} {g : Bool} {s₀ : Shared} {hB : Heap} {L : Addr} {m : Str → Option Value} {X Y : List Fact} {s s' : Shared} {env : Env}

theorem op_floordiv {a b : Int} {t u : Tok} (hb : b ≠ 0) (ha : a.natAbs < 1000001) (hb' : b.natAbs < 1000001) : Pu prog w A g hB L m X (binaryOp .FloorDiv (.int a t) (.int b u)) (VI (a.fdiv b)) := fun s c =>
  floordiv_int hb (done_tok ⟨⟨_, rfl⟩, rfl⟩ (Nat.le_succ _)) (.inl (PyProof.noPylong_small (by omega)))
theorem op_pow {a : Int} {n : Nat} {t u : Tok} (ha : a.natAbs < 2 ^ 64) (hn : n ≤ 1000) : Pu prog w A g hB L m X (binaryOp .Pow (.int a t) (.int (n : Nat) u)) (VI (a ^ n)) := fun s c =>
  pow_int_small (by omega) (by omega) ha (done_tok ⟨⟨_, by rw [Int.toNat_natCast]⟩, rfl⟩ (Nat.le_succ _))
theorem op_chr {n : Nat} {i : Int} {t : Tok} (hi : i = (n : Nat)) (hn : n ≤ 1000) : Pu prog w A g hB L m X (call (.builtin "chr") [.int i t]) (VS ⟨#[n]⟩) := fun s c => by
  subst hi
  refine P.chr_of_int (by simp; omega) (done_tok ⟨⟨_, by rw [Int.toNat_natCast]⟩, rfl⟩ (Nat.le_succ _))

theorem pu_item_tuple {value slice : PySem.Expr} {pos : Pos} {T : Addr} {xs : Array Value} {k : Nat} {v : Value} (hv : Pu prog w A g hB L m X (eval value env) (Is (.ref T))) (hT : (T, isT xs) ∈ X) (hi : Pu prog w A g hB L m X (eval slice env) (VI (k : Nat)))
    (hx : xs[k]? = some v) (hz : k ≤ 1000000) (hs : ∀ o i, subscripted slice false o i = operate [o, i] (getItem o i) := by intro _ _; with_unfolding_all rfl) (ht : ∀ o r, letTemporaryGo value o r = pure () := by intro _ _; with_unfolding_all rfl) :
    Pu prog w A g hB L m X (eval (.Subscript value slice pos) env) (Is v) := fun s c =>
  Subscript_ (hv.run c fun a Y s₁ pv f r x₁ c₁ => by
    obtain ⟨rfl, rfl⟩ := pv
    refine hi.run c₁ fun b Z s₂ pb f₂ r₂ x₂ c₂ => ?_
    obtain ⟨⟨t, rfl⟩, rfl⟩ := pb
    obtain ⟨o, ho, hc, _, _, n, hd⟩ := c₂.facts _ hT
    have hk := (Array.getElem?_eq_some_iff.mp hx).1
    have hsi : seqIndex? (k : Int) xs.size = some k := by
      unfold seqIndex?
      have h1 : ¬ ((k : Int) < 0) := by omega
      have h2 : (k : Int) < (xs.size : Int) := by omega
      simp [h1, h2]
    exact subscriptTail_builtin (T := "tuple") ⟨_, ho, hc⟩ PySem.F.slot_tuple_getitem.lookup (PyProof.Rows.getItem_tuple ⟨o, ho, hc, n, hd⟩ (by omega) (by omega) hsi hx ⟨[], ⟨rfl, rfl⟩, Facts.nil _, Fresh.nil _, x₁.trans x₂⟩) (hs _ _) (ht _))

/-- x op= e where x is a cell -/
theorem x_augC {x : Str} {p pos : Pos} {op : Operator} {e : PySem.Expr} {ca : Addr} {v0 : Value} {E : Value → Shared → Prop} {Q : Flow → Shared → Prop} {Φ Ψ : VPost} (S : Sx g s₀ hB L m ((ca, isC v0) :: X) s) (hca : hB.get? ca = none) (hX : ∀ y ∈ X, y.1 ≠ ca)
    (he : Pu prog w A g hB L m ((ca, isC v0) :: X) (eval e env) Φ)
    (hop : ∀ b Y, Φ b Y → Pu prog w A g hB L m (Y ++ ((ca, isC v0) :: X)) (inplaceOp op v0 b) Ψ) (hΨ : ∀ v Z, Ψ v Z → Z = []) (k : ∀ v s', Ψ v [] → Sx g s₀ hB L m ((ca, isC v) :: X) s' → Q .next s') (hc : env.cells.lookup x = some ca) (hk : env.scope.kind = .function := by rfl)
    (hl : env.kindOf x = some .cell := by rfl) : wpAny (model prog w) A (exec (.AugAssign (.Name x p) op e pos) env) Q E s := by
  refine wpAny_AugAssign_Name (wpAny_loadName_cell hk hl hc (S.cx.facts _ (.head _)) ?_)
  refine he.run S.cx fun b Y s₁ pb f r x₁ c₁ => ?_
  have S₁ := S.grow x₁ f r
  refine (hop b Y pb).run c₁ fun v Z s₂ pv f₂ r₂ x₂ c₂ => ?_
  have S₂ := S₁.up x₂
  have hz := hΨ v Z pv
  subst hz
  exact sx_storeC (v0 := some v0) (p := isC v0) (S₂.less (Y := (ca, isC v0) :: X) fun y hy => List.mem_append_right _ hy) hca hX (fun s' S' => k v s' pv S') hc hk hl

/-- <list>[::-1] -/
theorem pu_rev_list {value st : PySem.Expr} {p pos : Pos} {l : Addr} {xs : Array Value} (hv : Pu prog w A g hB L m X (eval value env) (Is (.ref l))) (hl : (l, isL xs) ∈ X) (h1 : Pu prog w A g hB L m X (eval st env) (VI (-1)))
    (hz : xs.size ≤ sizeLine) (ht : ∀ o r, letTemporaryGo value o r = pure () := by intro _ _; rfl) :
    Pu prog w A g hB L m X (eval (.Subscript value (.Slice none none (some st) p) pos) env) (VL xs.toList.reverse.toArray) := fun s c => by
  refine wpAny_Subscript_Slice_step (T := "list") PySem.F.slot_list_getitem.lookup (hv.run c fun v Y s₁ pv f r x₁ c₁ => ?_) ht
  obtain ⟨rfl, rfl⟩ := pv
  refine wpAny_Slice ?_
  rw [evalPart_none]
  refine wpAny_pure (wpAny_pure ?_)
  rw [evalPart_some]
  refine h1.run c₁ fun v' Y' s₃ pv' f' r' x₃ c₃ => ?_
  obtain ⟨⟨u, rfl⟩, rfl⟩ := pv'
  obtain ⟨o, ho, n, rfl⟩ := c₃.facts _ hl
  have hll : s₃.heap.IsList l xs := ⟨_, ho, rfl, n, rfl⟩
  refine ⟨⟨_, Heap.get?_push_of_some _ ho, rfl⟩, wpAny_getItem_list_slice (hll.push _) (Heap.IsSliceOf.new ..) .none .none (.int _ _) (by simp) ?_ hz⟩
  rw [krv_pick]
  refine ⟨_, ⟨_, rfl, rfl⟩, Facts.cons ⟨_, Heap.get?_push_size _ rfl, 0, rfl⟩ (Facts.nil _), Fresh.cons ((x₁.trans x₃).keep.none ((Kp.push _ _).none (size_none _))) (Fresh.nil _), (x₁.trans x₃).trans ?_⟩
  exact Ex.of (tk := s₃.toks) ((Kp.push _ _).trans (Kp.push _ _)) (Nat.le_refl _)

/-- o.name() for a plain type -/
theorem pu_Method0 {o : PySem.Expr} {name : Str} {apos pos : Pos} {T id : String} {Φ : VPost} {Ψ : VPost}
    (pa : PlainAttrs T) (slot : Slot T name id) (hty : typeOf (.builtin id) = pure (.type "method_descriptor")) (ho : Pu prog w A g hB L m X (eval o env) Φ)
    (hT : ∀ ov Y s, Φ ov Y → Cx hB L m (Y ++ X) s → s.TypeIs ov T ∧ (∀ a, ov = .ref a → ∃ ob, s.heap.get? a = some ob ∧ ob.dict = none))
    (hc : ∀ ov Y, Φ ov Y → Pu prog w A g hB L m (Y ++ X) (call (.builtin id) [ov]) (Of Y Ψ))
    (ht : backTo pos (starEach [] env) = [] := by rfl)
    (hbase : attributeBase o name env (eval o env) = eval o env := by rfl) (hline : (apos.endLine == pos.line) = true := by rfl)
    (hfew : ((backTo pos (starEach [] env)).all (fun x => !x.1) && (backToKw pos (keywordEach [] env)).all (fun x => x.1.isSome)
      && decide (([] : List PySem.Expr).length + ([] : List Keyword).length + (if ([] : List Keyword).isEmpty then 0 else 1) < 30)) = true := by rfl) :
    Pu prog w A g hB L m X (eval (.Call (.Attribute o name apos) [] [] pos) env) Ψ := fun s c =>
  wpAny_Call_method hbase hfew hline pa slot hty (ho.run c fun ov Y s₁ pf f r x₁ c₁ => by
    obtain ⟨h1, h2⟩ := hT ov Y s₁ pf c₁
    refine ⟨h1, h2, ?_⟩
    rw [ht]
    exact callWith_builtin rfl (PyProof.Rows.evalArgs_none (then_call (fv := .none) (vs := []) (hc ov Y pf) c₁ f r x₁)))

/-- ('..', '..') -/
theorem pu_Pair {x y : Str} {k1 k2 k : Nat} {p1 p2 pos : Pos} (hne : (x == y) = false)
    (ht : backTo pos (starEach [.Constant (.str x) k1 p1, .Constant (.str y) k2 p2] env) = [(false, eval (.Constant (.str x) k1 p1) env), (false, eval (.Constant (.str y) k2 p2) env)] := by rfl) :
    Pu prog w A g hB L m X (eval (.Tuple [.Constant (.str x) k1 p1, .Constant (.str y) k2 p2] k pos) env)
      (fun v Z => ∃ (T : Addr) (e : En), v = .ref T ∧ e.1.1 = x ∧ e.2.1 = y ∧ (e.1.2 ≠ 0 ∧ e.2.2 ≠ 0 ∧ e.1.2 ≠ e.2.2) ∧ Z = [(T, isT (pr e))]) := by
  refine (pu_Tuple (Ψ := fun vs Y => (∃ t u, vs = [.str x t, .str y u] ∧ t ≠ 0 ∧ u ≠ 0 ∧ t ≠ u) ∧ Y = []) (by rw [ht]; exact pu_two_str) ?_).mono ?_
  · rintro vs Y ⟨⟨t, u, rfl, _⟩, rfl⟩
    show (2 : Nat) ≤ sizeLine
    decide
  · rintro v Y ⟨T, vs, Y', rfl, ⟨⟨t, u, rfl, h1, h2, h3⟩, rfl⟩, rfl⟩
    exact ⟨T, ((x, t), (y, u)), rfl, rfl, rfl, ⟨h1, h2, h3⟩, rfl⟩

/-- for x in range(..) -/
theorem x_for_range {x : Str} {px pos : Pos} {iter : PySem.Expr} {body : List Stmt} {mu : List Addr} {b : Nat} {E : Value → Shared → Prop} {Q : Flow → Shared → Prop} (hh : A.handled = none)
    (S : Sx g s₀ hB L m X s) (he : Pu prog w A g hB L m X (eval iter env) (VR 0 b)) (hb : b ≤ 1000000) (hmut : ∀ a ∈ mu, hB.get? a = none ∧ s.heap.get? a ≠ none)
    (J : Nat → (Str → Option Value) → List Fact → Prop) (h0 : J 0 m X) (hJ : ∀ i m' X', J i m' X' → ∀ y ∈ X', ∃ z ∈ X, y.1 = z.1)
    (turn : ∀ i t m' X' hB' s', i < b → J i m' X' → Kp hB hB' → (∀ a ∈ mu, hB'.get? a = none) → Sx g s₀ hB' L (upd m' x (.int (i : Nat) t)) X' s' →
      wpAny (model prog w) A (execs body env) (fun f s'' => f = .next ∧ ∃ m'' X'', J (i + 1) m'' X'' ∧ Sx g s₀ hB' L m'' X'' s'') (fun _ _ => False) s')
    (k : ∀ m' X' s', J b m' X' → Sx g s₀ hB L m' X' s' → Q .next s') (hL : env.locals = L := by rfl)
    (hl : env.kindOf x = some .local := by rfl) (hp : (env.scope.kind == .class || (env.scope.kind == .module && env.locals != env.globals)) = false := by rfl)
    (hs : ∀ x, foldedSetIterable iter env x = pure x := by intro _; rfl) :
    wpAny (model prog w) A (exec (.For (.Name x px) iter body [] pos) env) Q E s := by
  refine wpAny_For (he.run S.cx fun v Y s₁ hv hf hr hx c₁ => ?_) hs
  obtain ⟨r, rfl, rfl⟩ := hv
  have S₁ : Sx g s₀ hB L m X s₁ := (S.grow hx hf hr).less fun y hy => List.mem_append_right _ hy
  obtain ⟨oa, hoa, t, u, v, rfl⟩ := hf _ (.head _)
  refine wpAny_pyIter_range hoa (small_nat (by omega) hb) ?_
  have hne : ∀ a, s₁.heap.get? a ≠ none → a ≠ s₁.heap.objs.size := fun a ha e => ha (e ▸ size_none _)
  have hXn : ∀ z ∈ X, s₁.heap.get? z.1 ≠ none := fun z hz => by
    obtain ⟨o, ho, _⟩ := S₁.cx.facts z hz
    rw [ho]; nofun
  have W := Walks.range (prog := prog) (w := w) (A := A) hh s₁.heap.objs.size ((0 : Nat) : Int) 1 b
  have S₂ : Sx g s₀ hB L m X { s₁ with heap := s₁.heap.push { cls := .type "range_iterator", data := .fields #[rawInt ((0 : Nat) : Int), rawInt (Builtin.Range.rangeSize ((0 : Nat) : Int) b 1), rawInt 1] } } := S₁.up (Ex.of (tk := s₁.toks) (Kp.push _ _) (Nat.le_refl _))
  refine codeAny_mono (R := fun r s' => match r with | .ok f => Q f s' | .error _ => False) (loop_name W S₂ ?_ (mu := mu) ?_ (fun a ha => (hmut a ha).1) ?_ J h0 hJ ?_ (fun m' X' s' hj S' => k m' X' s' hj S') hL hl hp) fun r s' hr => ?_
  · have e := @size_nat 0 b
    rw [Nat.sub_zero] at e
    have : IsRangeIter (s₁.heap.push { cls := .type "range_iterator", data := .fields #[rawInt ((0 : Nat) : Int), rawInt (Builtin.Range.rangeSize ((0 : Nat) : Int) b 1), rawInt 1] }) s₁.heap.objs.size ((0 : Nat) : Int) (b : Int) 1 := by
      rw [e]; exact Heap.get?_push_size _ rfl
    simpa using this
  · intro b hb
    rw [List.mem_singleton.mp hb]
    exact ⟨(hne L (S₁.cx.hasL)).symm, fun hm => (hne _ (by
        cases q : s.heap.get? s₁.heap.objs.size with
        | none => exact absurd q (hmut _ hm).2
        | some o => rw [hx.keep _ _ q]; nofun)) rfl⟩
  · intro b hb
    rw [List.mem_singleton.mp hb]
    exact ⟨S₁.cx.base.none (size_none _), fun z hz => hne _ (hXn z hz)⟩
  · rintro i v m' X' hB' s' hi ⟨t, rfl⟩ hj hk hm S'
    have e : (((0 : Nat) : Int) + (i : Nat) * 1) = (i : Nat) := by simp
    rw [e] at S'
    exact turn i t m' X' hB' s' hi hj hk hm S'
  · cases r with
    | ok f => exact hr
    | error e => exact hr.elim
end

/-! comprehensions with a pair as target -/
section
variable {prog : Program} {w : World} {A : Around} {K0 : Heap} {C I : Addr} {X : List Fact} {n : Nat} {G : Nat → List Value → List Fact → Prop} {cenv : Env}
theorem turn_pair {x1 x2 : Str} {p1 p2 pt : Pos} {kt : Nat} {ifs : List PySem.Expr} {elt : PySem.Expr} {xs : Array Value} {es : List En} (hh : A.handled = none) (hp : PairsAre X xs.toList es) (hsm : ∀ i ys Z, G i ys Z → ys.length ≤ i)
    (h : ∀ i e ys Z mC, es[i]? = some e → G i ys Z → mC x1 = some (.str e.1.1 e.1.2) → mC x2 = some (.str e.2.1 e.2.2) → ∃ b : Bool, Pu prog w A false K0 C mC (Z ++ X) (testsOf ifs cenv) (BB b) ∧ (b = false → G (i + 1) ys Z) ∧
      (b = true → ∃ Φ, Pu prog w A false K0 C mC (Z ++ X) (eval elt cenv) Φ ∧ ∀ y V, Φ y V → G (i + 1) (ys ++ [y]) (V ++ Z)))
    (hx : x2 ≠ x1) (hC : cenv.locals = C) (hl1 : cenv.kindOf x1 = some .local) (hl2 : cenv.kindOf x2 = some .local) (hpk : (cenv.scope.kind == .class || (cenv.scope.kind == .module && cenv.locals != cenv.globals)) = false) :
    CompTurn prog w A (.Tuple [.Name x1 p1, .Name x2 p2] kt pt) ifs elt cenv K0 C I X xs.size (fun i v => xs[i]? = some v) G where
  small := hsm
  turn := fun i v ys Z mC s₀ s D hi hP hpl hg S Q k => by
    have hle := PairsAre.len hp
    rw [Array.length_toList] at hle
    obtain ⟨e, he⟩ : ∃ e, es[i]? = some e := ⟨_, List.getElem?_eq_getElem (by omega)⟩
    obtain ⟨T, hT, hTX⟩ := hp.nth he
    rw [Array.getElem?_toList, hP] at hT
    injection hT with hT
    subst hT
    refine go_plain hpl ?_
    obtain ⟨o, ho, hc, h1, h2, n', hd⟩ := S.cx.facts (T, isT (pr e)) (.tail _ (List.mem_append_right _ hTX))
    refine sx_assign2 hh S ⟨o, ho, hc, n', hd⟩ (fun s₁ S₁ hk => ?_) hC hl1 hl2 hpk
    obtain ⟨b, h1, h2, h3⟩ := h i e ys Z (upd (upd mC x1 (.str e.1.1 e.1.2)) x2 (.str e.2.1 e.2.2)) he hg (by show (if x1 = x2 then _ else _) = _; rw [if_neg (fun q => hx q.symm)]; exact if_pos rfl) (if_pos rfl)
    exact k _ s₁ b S₁ hk h1 h2 h3
end

/-! ## Plain law, put together -/
theorem keys_or (c : Nat) : c ∈ keysL ∨ c ∉ keysL := Decidable.em _
theorem wr_write {es : List En} {cs : List Nat} (t : Tbl es cs) : Wr (tbOf es) (writeL es) := fun c => by
  rw [write_tbl t, tb_tbl t]
  by_cases hc : c ∈ cs
  · rw [if_pos hc, decide_eq_true hc]
    refine .inr ⟨fun _ => rfl, ?_, refL_free (t.sub c hc)⟩
    obtain ⟨m, hm, _⟩ := word_shape (refL_word c)
    rw [hm]; nofun
  · rw [if_neg hc, decide_eq_false hc]
    rcases keys_or c with hk | hk
    · refine .inl ⟨hk, rfl, ?_⟩
      have : ∀ c ∈ keysL, toldL c = [c] := by decide
      exact this c hk
    · refine .inr ⟨fun h => absurd h hk, ?_, toldL_free c hk⟩
      rcases toldL_code c with ⟨a, _, e⟩ | h
      · rw [e]; nofun
      · obtain ⟨m, hm, _⟩ := word_shape h
        rw [hm]; nofun
theorem tbl_nil : Tbl [] [] := ⟨rfl, (fun _ h => nomatch h), .nil⟩
theorem wr_one : Wr (tbOf []) (fun c => [c]) := fun c => by
  rcases keys_or c with hk | hk
  · exact .inl ⟨hk, by rw [tb_tbl tbl_nil]; rfl, rfl⟩
  · exact .inr ⟨fun h => absurd h hk, nofun, fun d hd => by rw [List.mem_singleton.mp hd]; exact hk⟩

def bsF (x : Str) (T : List En) : List Bool := bareF (tbOf T) (tl x)
def psF (x : Str) (T : List En) : List Nat := placesF x (bsF x T)
def leftF (x : Str) (T : List En) : Str := mkS ((psF x T).map fun k => x.cps.getD k 0)
def tkF (x : Str) (T : List En) : Bool := takenF (rowF x (bsF x T) (psF x T))

theorem plain0 (x : Str) : stripF x = leftF x [] ∧ checkF x = tkF x [] := by
  obtain ⟨h1, h2⟩ := strip_law wr_one (x := x) (W := x) (flatMap_id fun _ _ => rfl).symm
  refine ⟨tl_inj ?_, h2⟩
  rw [h1]
  exact flatMap_id fun _ _ => rfl
theorem plain1 {x : Str} {T : List En} {cs : List Nat} (t : Tbl T cs) : stripF (writtenF x T) = writtenF (leftF x T) T ∧ checkF (writtenF x T) = tkF x T := by
  obtain ⟨h1, h2⟩ := strip_law (wr_write t) (x := x) (W := writtenF x T) rfl
  exact ⟨tl_inj h1, h2⟩
theorem plain2 {y : Str} {T bk : List En} {cs ds : List Nat} (t : Tbl T cs) (b : BTbl bk ds) (hall : ∀ c ∈ keysL, c ∈ ds) : uneF (writtenF y T) bk = y := tl_inj (une_eq t b hall _ _ rfl)
theorem esc_written0 (x : Str) : esc0 x = writtenF x [] := tl_inj (by
  rw [esc0_eq]
  exact congrArg (fun f => (tl x).flatMap f) (funext fun c => (write_tbl tbl_nil c).symm))
theorem esc_written {T : List En} {cs : List Nat} (t : Tbl T cs) (x : Str) : escF x T = writtenF x T := tl_inj (esc_eq t x)

theorem bsF_length (x : Str) (T : List En) : (bsF x T).length = x.length := by
  unfold bsF bareF
  rw [bareF_length]
  show 0 + (tl x).length = _
  rw [Nat.zero_add]; rfl
theorem psF_lt (x : Str) (T : List En) : ∀ k ∈ psF x T, k < x.length := by
  unfold psF bsF placesF
  rw [marksF_eq]
  have := mkL_inc (tbOf T) (tl x) false 0
  rw [Nat.zero_add] at this
  exact places_lt _ _ 0 this
theorem psF_length {x : Str} (T : List En) (hx : x.length ≤ 50) : (psF x T).length ≤ 2550 := by
  unfold psF placesF
  have hml : (marksF x (bsF x T)).length ≤ x.length := Nat.le_trans (List.length_filter_le _ _) (by rw [List.length_range]; exact Nat.le_refl _)
  have h1 := placesGo_length x.length (marksF x (bsF x T)) 0 fun m hm => Nat.le_of_lt (List.mem_range.mp (List.mem_filter.mp hm).1)
  have h2 : x.length * ((marksF x (bsF x T)).length + 1) ≤ 50 * 51 := Nat.mul_le_mul hx (by omega)
  omega
theorem leftF_length {x : Str} (T : List En) (hx : x.length ≤ 50) : (leftF x T).length ≤ 2550 := by
  unfold leftF
  rw [mkS_length, List.length_map]
  exact psF_length T hx
theorem written_length {y : Str} {T : List En} {cs : List Nat} (t : Tbl T cs) : (writtenF y T).length ≤ 6 * y.length := by
  unfold writtenF
  rw [mkS_length]
  exact flatMap_le (write_len t) _
theorem Tbl.vals {T : List En} {cs : List Nat} (t : Tbl T cs) : ∀ e ∈ T, e.2.1.length ≤ 10 := by
  intro e he
  have : (tl e.1.1, tl e.2.1) ∈ T.map (fun e => (tl e.1.1, tl e.2.1)) := List.mem_map.mpr ⟨e, he, rfl⟩
  rw [t.eq] at this
  obtain ⟨c, _, hc⟩ := List.mem_map.mp this
  have h : refL c = tl e.2.1 := (Prod.mk.inj hc).2
  have := refL_len c
  rw [h] at this
  show (tl e.2.1).length ≤ 10
  omega
theorem BTbl.vals {T : List En} {cs : List Nat} (t : BTbl T cs) : ∀ e ∈ T, e.2.1.length ≤ 10 := by
  intro e he
  have : (tl e.1.1, tl e.2.1) ∈ T.map (fun e => (tl e.1.1, tl e.2.1)) := List.mem_map.mpr ⟨e, he, rfl⟩
  rw [t.eq] at this
  obtain ⟨c, _, hc⟩ := List.mem_map.mp this
  have h : [c] = tl e.2.1 := (Prod.mk.inj hc).2
  show (tl e.2.1).length ≤ 10
  rw [← h]
  exact Nat.le_add_left 1 9

/-! ## One turn of the law's last loop -/
section
variable {prog : Program} {w : World} {A : Around} {g : Bool} {s₀ : Shared} {hB : Heap} {L : Addr} {m : Str → Option Value} {X Y : List Fact} {s s' : Shared} {env : Env}
/-- ''.join([text[place] for place in places]) -/
theorem left_comp {e : Addr} {xs : Array Value} {ns : List Nat} {x : Str} {t : Tok} {ca : Addr} {scope : Scope} {cl : List (Str × Addr)} {pos p1 p2 p3 p4 p5 : Pos} (hh : A.handled = none)
    (hit : Pu prog w A g hB L m X (eval (.Name "places" p1) env) (Is (.ref e))) (he : (e, isL xs) ∈ X) (hxs : IntsAre xs.toList (ns.map Int.ofNat)) (hns : ∀ k ∈ ns, k < x.length) (hx : x.length ≤ 1000) (hnl : ns.length ≤ 100000)
    (hca : (ca, isC (.str x t)) ∈ X) (hclos : closureFor scope env = pure cl)
    (hcl : ∀ C, (compEnvC scope cl C env).cells.lookup ("text" : Str) = some ca) (hk1 : ∀ C, (compEnvC scope cl C env).kindOf "text" = some .cell) (hk2 : ∀ C, (compEnvC scope cl C env).kindOf "place" = some .local)
    (hcell : ∀ y ∈ scope.names, y.2 ≠ .cell := by decide) (hkind : scope.kind = .function := by rfl)
    (hnames : ∀ x ∈ scope.names, x.2 = .local → scope.names.lookup x.1 = some .local := by decide) (hs : ∀ x, foldedSetIterable (.Name "places" p1) env x = pure x := by intro _; rfl)
    (hfk : ∀ C, (compEnvC scope cl C env).scope.kind = .function := by intro _; rfl) (hlC : ∀ C, (compEnvC scope cl C env).locals = C := by intro _; rfl) :
    Pu prog w A g hB L m X (eval (.ListComp (.Subscript (.Name "text" p2) (.Name "place" p3) p4) [⟨.Name "place" p5, .Name "places" p1, [], 0⟩] scope pos) env) (VSL (ns.map fun k => (⟨#[x.cps.getD k 0]⟩ : Str))) := by
  have hls : (2000000 : Nat) ≤ sizeLine := by decide
  have hxz : xs.size = ns.length := by have := IntsAre.lenN hxs; simpa using this
  refine (pu_comp (n := xs.size) (G := fun i ys Z => Z = [] ∧ StrsAre ys ((ns.take i).map fun k => (⟨#[x.cps.getD k 0]⟩ : Str))) (Φ := Is (.ref e)) hit ?_ ⟨rfl, .nil⟩ (by omega) hclos hcell hkind hnames hs).mono ?_
  · intro v Y s₂ pv c₂
    obtain ⟨rfl, rfl⟩ := pv
    refine src_list hh c₂.facts he fun C I hC hI => turn_name ?_ (fun i v ys Z mC hi hP hg hk => ?_) (hlC C) (hk2 C) (by rw [hfk C]; rfl)
    · rintro i ys Z ⟨_, h⟩
      rw [StrsAre.len h, List.length_map]
      exact List.length_take_le _ _
    · obtain ⟨k, hk'⟩ : ∃ k, ns[i]? = some k := ⟨_, List.getElem?_eq_getElem (by omega)⟩
      obtain ⟨u, hu⟩ := IntsAre.nthN hxs hk'
      rw [Array.getElem?_toList, hP] at hu
      obtain rfl := Option.some.inj hu
      obtain ⟨rfl, hys⟩ := hg
      have hkx : k < x.length := hns k (List.mem_of_getElem? hk')
      obtain ⟨c, hc⟩ : ∃ c, x.cps[k]? = some c := ⟨_, Array.getElem?_eq_getElem hkx⟩
      have hcd : x.cps.getD k 0 = c := by rw [Array.getD_eq_getD_getElem?, hc]; rfl
      refine ⟨true, pu_tests_nil, (fun hb => nomatch hb), fun _ => ⟨VS ⟨#[c]⟩, pu_item_str (c := c) ((pu_cell (hcl C) hca (hfk C) (hk1 C)).mono fun _ _ => Is.toS) (pu_localI hk (hlC C) (hfk C) (hk2 C)) hc (by omega), fun y V p => ?_⟩⟩
      obtain ⟨⟨u', rfl⟩, rfl⟩ := p
      refine ⟨rfl, ?_⟩
      rw [List.take_add_one, hk', List.map_append]
      have := StrsAre.snoc hys ⟨#[c]⟩ u'
      rw [← hcd] at this ⊢
      exact this
  · rintro v Y ⟨D, ys, Z, rfl, ⟨rfl, hys⟩, rfl⟩
    refine ⟨D, _, rfl, ?_, rfl⟩
    rw [hxz, List.take_length] at hys
    exact hys
end
abbrev lawEnv (L a : Addr) (cd : Value) : Env := envC (stAt 14) L a cd
abbrev lawTurn : List Stmt := forB (nth (bdOf (stAt 14)) 15)
/-- what the frame holds in the last loop -/
structure LM (m : Str → Option Value) (Dt Db bk Dc : Addr) : Prop where
  mt : m "texts" = some (.ref Dt)
  mb : m "tables" = some (.ref Db)
  mbk : m "back" = some (.ref bk)
  mc : m "checked" = some (.ref Dc)

section
variable {prog : Program} {w : World} {A : Around} {s₀ : Shared} {hB : Heap} {m : Str → Option Value} {X : List Fact} {s : Shared}
theorem law_turn {ad : Ad} {mg mb : Str → Option Value} {x Xk : Str} {t tx tk : Tok} {k : Nat} {Dt Db bk d Dc : Addr} {xt xb zs : Array Value} {T back : List En} {cs ds : List Nat} {L a : Addr} {cd : Value}
    (M : Md ad mg mb hB) (r : Rm A 6) (S : Sx true s₀ hB L m ((Dc, isL zs) :: X) s) (hDc : hB.get? Dc = none) (hXc : ∀ y ∈ X, y.1 ≠ Dc) (hzs : zs.size ≤ 1000)
    (hx : (L + 1 + 1, isC (.str x t)) ∈ X) (hxl : x.length ≤ 50) (ht : (Dt, isL xt) ∈ X) (hxt : xt[k]? = some (.str Xk tx)) (hb : (Db, isL xb) ∈ X) (hxb : xb[k]? = some (.ref d)) (hd : (d, isD w T) ∈ X) (hds : d ≠ sysModules)
    (okT : EsOk T) (tT : Tbl T cs) (hTl : T.length ≤ 4) (hbk : (bk, isD w back) ∈ X) (hbs : bk ≠ sysModules) (okB : EsOk back) (tB : BTbl back ds) (hall : ∀ c ∈ keysL, c ∈ ds) (hBl : back.length ≤ 4)
    (hk : k < 4) (h0 : k = 0 → Xk = x ∧ T = []) (h1 : k ≠ 0 → Xk = writtenF x T) (hm : LM m Dt Db bk Dc) (mk : m "k" = some (.int (k : Nat) tk)) :
    wpAny (model prog w) A (execs lawTurn (lawEnv L a cd)) (fun f s' => f = .next ∧ ∃ u m', LM m' Dt Db bk Dc ∧ Sx true s₀ hB L m' ((Dc, isL (zs.push (.str (prepF Xk) u))) :: X) s') NoE s := by
  have hls : (2000000 : Nat) ≤ sizeLine := by decide
  have hXkl : Xk.length ≤ 300 := by
    by_cases h : k = 0
    · rw [(h0 h).1]; omega
    · rw [h1 h]
      have := written_length (y := x) tT
      omega
  have hstrip : stripF Xk = if k = 0 then leftF x T else writtenF (leftF x T) T := by
    by_cases h : k = 0
    · obtain ⟨e1, e2⟩ := h0 h
      rw [if_pos h, e1, e2]; exact (plain0 x).1
    · rw [if_neg h, h1 h]; exact (plain1 tT).1
  have hcheck : checkF Xk = tkF x T := by
    by_cases h : k = 0
    · obtain ⟨e1, e2⟩ := h0 h
      rw [e1, e2]; exact (plain0 x).2
    · rw [h1 h]; exact (plain1 tT).2
  have hleft := leftF_length T hxl
  have hstl : (stripF Xk).length ≤ 100000 := by
    rw [hstrip]
    split
    · omega
    · have := written_length (y := leftF x T) tT
      omega
  have gt0 : ∀ {m' : Str → Option Value} {Y : List Fact} {p1 p2 p3 : Pos} {c : Nat}, m' "k" = some (.int (k : Nat) tk) → Pu prog w A true hB L m' Y (isTrue (.Compare (.Name "k" p1) [.Gt] [.Constant (.int 0) c p2] p3) (lawEnv L a cd) (eval (.Compare (.Name "k" p1) [.Gt] [.Constant (.int 0) c p2] p3) (lawEnv L a cd))) (BB (decide (k > 0))) := fun {m' Y p1 p2 p3 c} hk' => by
    refine pu_isTrue_Compare (pu_local hk') pu_int fun u v Y Z p q => ?_
    obtain ⟨rfl, rfl⟩ := p
    obtain ⟨⟨t', rfl⟩, rfl⟩ := q
    refine op_gt_int.mono fun v Y h => ?_
    obtain ⟨rfl, rfl⟩ := h
    refine ⟨?_, rfl⟩
    congr 1
    rw [decide_eq_decide]
    omega
  have item : ∀ {m' : Str → Option Value} {Y : List Fact} {nm : Str} {p1 p2 p3 : Pos} {l : Addr} {xs : Array Value} {v : Value}, m' nm = some (.ref l) → (lawEnv L a cd).kindOf nm = some .local → (nm == ("__debug__" : Str)) = false → (l, isL xs) ∈ Y → xs[k]? = some v → m' "k" = some (.int (k : Nat) tk) →
      (∀ o i, subscripted (.Name "k" p2) false o i = operate [o, i] (getItem o i)) → (∀ o r, letTemporaryGo (.Name nm p1) o r = pure ()) → Pu prog w A true hB L m' Y (eval (.Subscript (.Name nm p1) (.Name "k" p2) p3) (lawEnv L a cd)) (Is v) := fun h1 h2 h3 h4 h5 h6 h7 h8 =>
    pu_item_list (pu_local h1 rfl rfl h2 h3) h4 (pu_localI h6) h5 (by omega) h7 h8
  -- the table writes the text
  refine wpAny_execs_cons (x_if (b := false) S ?_ (fun s₁ hq _ => nomatch hq) fun s₁ _ S₁ => wpAny_execs_nil ?_)
  · have e : (decide (k > 0) && false) = false := Bool.and_false _
    rw [← e]
    refine pu_isTrue_And (gt0 mk) fun hpos => ?_
    have hk0 : k ≠ 0 := by have := of_decide_eq_true hpos; omega
    refine pu_isTrue_Compare (Φ₁ := Is (.str Xk tx)) (Φ₂ := VS (writtenF x T)) (item hm.mt rfl (by decide) (.tail _ ht) hxt mk (by intro _ _; with_unfolding_all rfl) (by intro _ _; with_unfolding_all rfl)) ?_ fun u v Y Z p q => ?_
    · refine pu_Call_fun rfl (pu_global M.W M.nwr) M.fwr.func (pu_spl_cons (Φ := Is (.str x t)) (pu_cell (by rfl) (.tail _ hx)) (pu_spl_cons (item hm.mb rfl (by decide) (.tail _ hb) hxb mk (by intro _ _; with_unfolding_all rfl) (by intro _ _; with_unfolding_all rfl)) pu_spl_nil)) fun vs Y s₂ p c => ?_
      obtain ⟨v, vs', Y₁, Y₂, rfl, rfl, ⟨rfl, rfl⟩, v', vs'', Y₃, Y₄, rfl, rfl, ⟨rfl, rfl⟩, rfl, rfl⟩ := p
      exact (spec_written (M.keep c.base) (r.le (by omega)) c.tok (c.facts.sub fun y hy => by rw [List.mem_singleton.mp hy]; exact .tail _ hd) okT.keys hds tT.vals (by omega)).mono fun _ _ h => Of.new h
    · obtain ⟨rfl, rfl⟩ := p
      obtain ⟨⟨t', rfl⟩, rfl⟩ := q
      have : (!decide (Xk = writtenF x T)) = false := by rw [decide_eq_true (h1 hk0)]; rfl
      rw [← this]
      exact op_ne_str
  -- bare
  refine wpAny_execs_cons (x_assign (Φ := VL (boolsA (bsF x T))) S₁ ?_ fun v Y s₂ pv hn₂ S₂ => ?_)
  · refine pu_Call_fun rfl (pu_global M.W M.nba) M.fba.func (pu_spl_cons (Φ := Is (.str x t)) (pu_cell (by rfl) (.tail _ hx)) (pu_spl_cons (item hm.mb rfl (by decide) (.tail _ hb) hxb mk (by intro _ _; with_unfolding_all rfl) (by intro _ _; with_unfolding_all rfl)) pu_spl_nil)) fun vs Y s₂ p c => ?_
    obtain ⟨v, vs', Y₁, Y₂, rfl, rfl, ⟨rfl, rfl⟩, v', vs'', Y₃, Y₄, rfl, rfl, ⟨rfl, rfl⟩, rfl, rfl⟩ := p
    exact (spec_bare (M.keep c.base).fba (M.keep c.base).W (r.le (by omega)) c.tok (c.facts.sub fun y hy => by rw [List.mem_singleton.mp hy]; exact .tail _ hd) okT.keys hds (by show x.length ≤ _; omega)).mono fun _ _ h => Of.new h
  obtain ⟨Bd, rfl, rfl⟩ := pv
  have hBd := hn₂ _ (.head _)
  -- places
  refine wpAny_execs_cons (x_assign (Φ := VNL (psF x T)) S₂ ?_ fun v Y s₃ pv hn₃ S₃ => ?_)
  · refine pu_Call_fun rfl (pu_global M.W M.npl) M.fpl.func (pu_spl_cons (Φ := Is (.str x t)) (pu_cell (by rfl) (.tail _ (.tail _ hx))) (pu_spl_cons (Φ := Is (.ref Bd)) (pu_local (by rfl)) pu_spl_nil)) fun vs Y s₂ p c => ?_
    obtain ⟨v, vs', Y₁, Y₂, rfl, rfl, ⟨rfl, rfl⟩, v', vs'', Y₃, Y₄, rfl, rfl, ⟨rfl, rfl⟩, rfl, rfl⟩ := p
    exact (spec_places (bs := bsF x T) (M.keep c.base) (r.le (by omega)) c.tok (c.facts.sub fun y hy => by rw [List.mem_singleton.mp hy]; exact .head _) (bsF_length x T) (by omega)).mono fun _ _ h => Of.new h
  obtain ⟨Pd, xp, rfl, hxp, rfl⟩ := pv
  have hPd := hn₃ _ (.head _)
  have hpl := psF_length T hxl
  have hps := psF_lt x T
  -- left
  refine wpAny_execs_cons (x_assign (Φ := VS (leftF x T)) S₃ ?_ fun v Y s₄ pv hn₄ S₄ => ?_)
  · refine pu_Method (T := "str") (id := "str.join") (Ψ₀ := PCons (VSL ((psF x T).map fun k => (⟨#[x.cps.getD k 0]⟩ : Str))) PNil) rfl F.plainAttrs_str F.slot_str_join F.type_str_join pu_str (fun ov Y s p c => ?_) (pu_spl_cons ?_ pu_spl_nil) fun ov vs Y Z p q => ?_
    · obtain ⟨⟨t, rfl⟩, rfl⟩ := p
      exact ⟨typeIs_str _ _ _, fun a h => nomatch h⟩
    · exact left_comp (ca := L + 1 + 1) r.hd (pu_local (by rfl)) (.head _) hxp hps (by omega) (by omega) (.tail _ (.tail _ (.tail _ hx))) (by rfl) (by intro _; rfl) (by intro _; rfl) (by intro _; rfl)
    · obtain ⟨⟨u₁, rfl⟩, rfl⟩ := p
      obtain ⟨v, vs', Y₁, Y₂, rfl, rfl, ⟨D, zs, rfl, hzs, rfl⟩, rfl, rfl⟩ := q
      refine (op_join (.head _) hzs ?_).mono fun v V h => Of.new (by rw [join_ones] at h; exact h)
      have h5 := sum_le_mul 1 ((psF x T).map fun k => (⟨#[x.cps.getD k 0]⟩ : Str)) (fun y hy => by
        obtain ⟨k, _, rfl⟩ := List.mem_map.mp hy
        exact Nat.le_refl _)
      rw [List.length_map] at h5
      show _ + _ * 0 ≤ _
      omega
  obtain ⟨⟨t₄, rfl⟩, rfl⟩ := pv
  -- told
  refine wpAny_execs_cons (x_assign (Φ := VS (stripF Xk)) S₄ ?_ fun v Y s₅ pv hn₅ S₅ => ?_)
  · refine pu_Call_fun rfl (pu_global M.W M.nst) M.fst.func (pu_spl_cons (item (show upd _ _ _ _ = some (.ref Dt) from hm.mt) rfl (by decide) (.tail _ (.tail _ (.tail _ ht))) hxt (show upd _ _ _ _ = _ from mk) (by intro _ _; with_unfolding_all rfl) (by intro _ _; with_unfolding_all rfl)) pu_spl_nil) fun vs Y s₂ p c => ?_
    obtain ⟨v, vs', Y₁, Y₂, rfl, rfl, ⟨rfl, rfl⟩, rfl, rfl⟩ := p
    exact (spec_strip (M.keep c.base) (r.le (by omega)) c.tok (by omega)).mono fun _ _ h => Of.new h
  obtain ⟨⟨t₅, rfl⟩, rfl⟩ := pv
  -- told is as it shall be
  refine wpAny_execs_cons (x_if (b := false) S₅ ?_ (fun s₁ hq _ => nomatch hq) fun s₆ _ S₆ => wpAny_execs_nil ?_)
  · refine pu_isTrue_Compare (Φ₂ := VS (if k = 0 then leftF x T else writtenF (leftF x T) T)) (pu_local (by rfl)) (pu_IfExp (gt0 (show upd _ _ _ _ = _ from mk)) (fun hpos => ?_) fun hneg => ?_) fun u v Y Z p q => ?_
    · have hk0 : k ≠ 0 := by have := of_decide_eq_true hpos; omega
      rw [if_neg hk0]
      refine pu_Call_fun rfl (pu_global M.W M.nwr) M.fwr.func (pu_spl_cons (Φ := Is (.str (leftF x T) t₄)) (pu_local (by rfl)) (pu_spl_cons (item (show upd _ _ _ _ = some (.ref Db) from hm.mb) rfl (by decide) (.tail _ (.tail _ (.tail _ hb))) hxb (show upd _ _ _ _ = _ from mk) (by intro _ _; with_unfolding_all rfl) (by intro _ _; with_unfolding_all rfl)) pu_spl_nil)) fun vs Y s₂ p c => ?_
      obtain ⟨v, vs', Y₁, Y₂, rfl, rfl, ⟨rfl, rfl⟩, v', vs'', Y₃, Y₄, rfl, rfl, ⟨rfl, rfl⟩, rfl, rfl⟩ := p
      exact (spec_written (M.keep c.base) (r.le (by omega)) c.tok (c.facts.sub fun y hy => by rw [List.mem_singleton.mp hy]; exact .tail _ (.tail _ (.tail _ hd))) okT.keys hds tT.vals (by omega)).mono fun _ _ h => Of.new h
    · have hk0 : k = 0 := by have := of_decide_eq_false hneg; omega
      rw [if_pos hk0]
      exact pu_localS (by rfl)
    · obtain ⟨rfl, rfl⟩ := p
      obtain ⟨⟨t', rfl⟩, rfl⟩ := q
      have : (!decide (stripF Xk = if k = 0 then leftF x T else writtenF (leftF x T) T)) = false := by rw [decide_eq_true hstrip]; rfl
      rw [← this]
      exact op_ne_str
  -- unescape reads it back
  refine wpAny_execs_cons (x_if (b := false) S₆ ?_ (fun s₁ hq _ => nomatch hq) fun s₇ _ S₇ => wpAny_execs_nil ?_)
  · have e : (decide (k > 0) && false) = false := Bool.and_false _
    rw [← e]
    refine pu_isTrue_And (gt0 (show upd _ _ _ _ = _ from mk)) fun hpos => ?_
    have hk0 : k ≠ 0 := by have := of_decide_eq_true hpos; omega
    refine pu_isTrue_Compare (Φ₁ := VS (uneF (stripF Xk) back)) (Φ₂ := VS (leftF x T)) ?_ (pu_localS (by rfl)) fun u v Y Z p q => ?_
    · refine pu_Call_fun rfl (pu_global M.W M.nun) M.fun'.func (pu_spl_cons (Φ := Is (.str (stripF Xk) t₅)) (pu_local (by rfl)) (pu_spl_cons (Φ := Is (.ref bk)) (pu_local (show upd _ _ _ _ = _ from hm.mbk)) pu_spl_nil)) fun vs Y s₂ p c => ?_
      obtain ⟨v, vs', Y₁, Y₂, rfl, rfl, ⟨rfl, rfl⟩, v', vs'', Y₃, Y₄, rfl, rfl, ⟨rfl, rfl⟩, rfl, rfl⟩ := p
      exact (spec_unescape (M.keep c.base) (r.le (by omega)) c.tok (c.facts.sub fun y hy => by rw [List.mem_singleton.mp hy]; exact .tail _ (.tail _ (.tail _ hbk))) okB hbs tB.vals (by omega) (une_ok tB hstl)).mono fun _ _ h => Of.new h
    · obtain ⟨⟨t', rfl⟩, rfl⟩ := p
      obtain ⟨⟨t'', rfl⟩, rfl⟩ := q
      have he : uneF (stripF Xk) back = leftF x T := by rw [hstrip, if_neg hk0]; exact plain2 tT tB hall
      have : (!decide (uneF (stripF Xk) back = leftF x T)) = false := by rw [decide_eq_true he]; rfl
      rw [← this]
      exact op_ne_str
  -- checked
  have S₈ : Sx true s₀ hB L _ ((Dc, isL zs) :: ((Pd, isL xp) :: (Bd, isL (boolsA (bsF x T))) :: X)) s₇ := S₇.less fun y hy => by
    rcases List.mem_cons.mp hy with rfl | hy
    · exact .tail _ (.tail _ (.head _))
    rcases List.mem_cons.mp hy with rfl | hy
    · exact .head _
    rcases List.mem_cons.mp hy with rfl | hy
    · exact .tail _ (.head _)
    · exact .tail _ (.tail _ (.tail _ hy))
  refine wpAny_execs_cons (x_append (Φ := VS (prepF Xk)) S₈ hDc (fun y hy => ?_) (by omega) (pu_local (show upd _ _ _ _ = _ from hm.mc)) (pu_IfExp (b := tkF x T) (pu_isTrue_bool ?_) (fun htk => ?_) fun htk => ?_) fun v Y s₉ pv hn₉ S₉ => wpAny_execs_nil ?_)
  · rcases List.mem_cons.mp hy with rfl | hy
    · exact fun e => hPd.2 (Dc, isL zs) (.tail _ (.head _)) e.symm
    rcases List.mem_cons.mp hy with rfl | hy
    · exact fun e => hBd.2 (Dc, isL zs) (.head _) e.symm
    · exact hXc y hy
  · refine pu_Call_fun rfl (pu_global M.W M.nta) M.fta.func (pu_spl_cons (Φ := Is (.str x t)) (pu_cell (by rfl) (.tail _ (.tail _ (.tail _ hx)))) (pu_spl_cons (Φ := Is (.ref Bd)) (pu_local (by rfl)) (pu_spl_cons (Φ := Is (.ref Pd)) (pu_local (by rfl)) pu_spl_nil))) fun vs Y s₂ p c => ?_
    obtain ⟨v, vs', Y₁, Y₂, rfl, rfl, ⟨rfl, rfl⟩, v', vs'', Y₃, Y₄, rfl, rfl, ⟨rfl, rfl⟩, v'', vs''', Y₅, Y₆, rfl, rfl, ⟨rfl, rfl⟩, rfl, rfl⟩ := p
    refine (spec_taken (bs := bsF x T) (ns := psF x T) (xs := xp) (M.keep c.base) (r.le (by omega)) c.tok (c.facts.sub fun y hy => ?_) (bsF_length x T) (by omega) hxp hps (by omega)).mono fun _ _ h => Of.new h
    rcases List.mem_cons.mp hy with rfl | hy
    · exact .tail _ (.tail _ (.head _))
    · rw [List.mem_singleton.mp hy]; exact .tail _ (.head _)
  · rw [prepF, if_pos (by rw [hcheck]; exact htk)]
    refine Pu.mono (Φ := Is (.str Xk tx)) (item (l := Dt) (xs := xt) ?_ rfl (by decide) (.tail _ (.tail _ (.tail _ ht))) hxt ?_ (by intro _ _; with_unfolding_all rfl) (by intro _ _; with_unfolding_all rfl)) fun _ _ => Is.toS
    · exact hm.mt
    · exact mk
  · rw [prepF, if_neg (by rw [hcheck, htk]; exact Bool.false_ne_true)]
    exact pu_str
  · obtain ⟨⟨u, rfl⟩, rfl⟩ := pv
    refine ⟨rfl, u, _, ⟨?_, ?_, ?_, ?_⟩, S₉.less fun y hy => ?_⟩
    · exact hm.mt
    · exact hm.mb
    · exact hm.mbk
    · exact hm.mc
    · rcases List.mem_cons.mp hy with rfl | hy
      · exact .head _
      · exact .tail _ (.tail _ (.tail _ hy))
end

/-! ## Plain data of the law -/
/-- those whose place is chosen -/
def selA {α : Type} (p : Nat → Bool) : Nat → List α → List α
  | _, [] => []
  | i, a :: l => if p i then a :: selA p (i + 1) l else selA p (i + 1) l
theorem selA_snoc {α : Type} (p : Nat → Bool) (a : α) : ∀ (l : List α) (i : Nat), selA p i (l ++ [a]) = selA p i l ++ (if p (i + l.length) then [a] else [])
  | [], i => by
    show (if p i then [a] else []) = [] ++ _
    rw [List.nil_append]; rfl
  | b :: l, i => by
    have ih := selA_snoc p a l (i + 1)
    rw [List.cons_append, selA, selA, ih, List.length_cons, show i + 1 + l.length = i + (l.length + 1) by omega]
    split <;> rfl
theorem selA_map {α β : Type} (p : Nat → Bool) (f : α → β) : ∀ (l : List α) (i : Nat), (selA p i l).map f = selA p i (l.map f)
  | [], i => rfl
  | b :: l, i => by
    have ih := selA_map p f l (i + 1)
    rw [List.map_cons, selA, selA, ← ih]
    split <;> rfl
theorem selA_sub {α : Type} (p : Nat → Bool) : ∀ (l : List α) (i : Nat), (selA p i l).Sublist l
  | [], i => .slnil
  | b :: l, i => by
    have ih := selA_sub p l (i + 1)
    rw [selA]
    split
    · exact ih.cons₂ b
    · exact ih.cons b

def baseP : List (Str × Str) := [("\"", "&quot;"), ("\\", "&#92;"), ("(", "&#40;"), (")", "&#41;")]
/-- the entries, in order or from the back -/
structure EsB (es : List En) (bs : List (Str × Str)) : Prop where
  toks : ∀ e ∈ es, e.1.2 ≠ 0 ∧ e.2.2 ≠ 0 ∧ e.1.2 ≠ e.2.2
  eq : es.map (fun e => (e.1.1, e.2.1)) = bs
theorem EsB.reverse {es : List En} {bs : List (Str × Str)} (h : EsB es bs) : EsB es.reverse bs.reverse :=
  ⟨fun e he => h.toks e (List.mem_reverse.mp he), by rw [List.map_reverse, h.eq]⟩

/-- what the law asks of a table -/
structure Good (es : List En) (cs : List Nat) : Prop where
  ok : EsOk es
  t : Tbl es cs
  len : es.length ≤ 4
  str : ∀ p ∈ es.map (fun e => (e.1.1, e.2.1)), PyData.strOk p.1 = true ∧ PyData.strOk p.2 = true
structure GoodB (es : List En) (cs : List Nat) : Prop where
  ok : EsOk es
  t : BTbl es cs
  len : es.length ≤ 4
  all : ∀ c ∈ keysL, c ∈ cs
theorem good_base {es : List En} (h : EsB es baseP) : Good es keysL where
  ok := ⟨h.toks, by
      have : es.map (·.1.1) = baseP.map (·.1) := by rw [← h.eq, List.map_map]; rfl
      rw [this]; decide, fun e he => by
      have hm : (e.1.1, e.2.1) ∈ baseP := by rw [← h.eq]; exact List.mem_map.mpr ⟨e, he, rfl⟩
      have : ∀ q ∈ baseP, (q.1 == q.2) = false := by decide
      exact this _ hm⟩
  t := ⟨by
      have : es.map (fun e => (tl e.1.1, tl e.2.1)) = baseP.map fun q => (tl q.1, tl q.2) := by rw [← h.eq, List.map_map]; rfl
      rw [this]; decide, fun c hc => hc, by decide⟩
  len := by have := congrArg List.length h.eq; rw [List.length_map] at this; rw [this]; decide
  str := by rw [h.eq]; decide +kernel
theorem Good.reverse {es : List En} {cs : List Nat} (h : Good es cs) : Good es.reverse cs.reverse where
  ok := ⟨fun e he => h.ok.toks e (List.mem_reverse.mp he), by rw [List.map_reverse]; exact (List.reverse_perm _).nodup_iff.mpr h.ok.keys, fun e he => h.ok.ne e (List.mem_reverse.mp he)⟩
  t := ⟨by rw [List.map_reverse, List.map_reverse, h.t.eq], fun c hc => h.t.sub c (List.mem_reverse.mp hc), (List.reverse_perm _).nodup_iff.mpr h.t.nd⟩
  len := by rw [List.length_reverse]; exact h.len
  str := fun p hp => h.str p (by rw [List.map_reverse] at hp; exact List.mem_reverse.mp hp)
theorem Good.sel {es : List En} {cs : List Nat} (h : Good es cs) (p : Nat → Bool) : Good (selA p 0 es) (selA p 0 cs) where
  ok := ⟨fun e he => h.ok.toks e ((selA_sub p es 0).subset he), by rw [selA_map]; exact h.ok.keys.sublist (selA_sub p _ 0), fun e he => h.ok.ne e ((selA_sub p es 0).subset he)⟩
  t := ⟨by rw [selA_map, selA_map, h.t.eq], fun c hc => h.t.sub c ((selA_sub p cs 0).subset hc), h.t.nd.sublist (selA_sub p cs 0)⟩
  len := Nat.le_trans (selA_sub p es 0).length_le h.len
  str := fun q hq => h.str q (by rw [selA_map] at hq; exact (selA_sub p _ 0).subset hq)
theorem good_nil : Good [] [] := ⟨⟨(fun _ h => nomatch h), .nil, (fun _ h => nomatch h)⟩, tbl_nil, Nat.zero_le _, fun _ h => nomatch h⟩
def swapE (e : En) : En := (e.2, e.1)
theorem Good.swap {es : List En} {cs : List Nat} (h : Good es cs) (hall : ∀ c ∈ keysL, c ∈ cs) : GoodB (es.map swapE) cs where
  ok := ⟨fun e he => by
      obtain ⟨e₀, he₀, rfl⟩ := List.mem_map.mp he
      obtain ⟨h1, h2, h3⟩ := h.ok.toks e₀ he₀
      exact ⟨h2, h1, h3.symm⟩, by
      have e1 : (es.map swapE).map (·.1.1) = es.map fun e => e.2.1 := by rw [List.map_map]; rfl
      have e2 : (es.map fun e => e.2.1).map tl = cs.map refL := by
        have := congrArg (List.map Prod.snd) h.t.eq
        rw [List.map_map, List.map_map] at this
        rw [List.map_map]; exact this
      rw [e1]
      have inj : ∀ c ∈ keysL, ∀ d ∈ keysL, refL c = refL d → c = d := by decide
      have hn : (cs.map refL).Nodup := by
        have : ∀ (cs : List Nat), (∀ c ∈ cs, c ∈ keysL) → cs.Nodup → (cs.map refL).Nodup := by
          intro cs
          induction cs with
          | nil => intro _ _; exact .nil
          | cons c r ih =>
            intro hs hn
            rw [List.nodup_cons] at hn
            rw [List.map_cons, List.nodup_cons]
            refine ⟨fun hm => ?_, ih (fun c hc => hs c (.tail _ hc)) hn.2⟩
            obtain ⟨d, hd, e⟩ := List.mem_map.mp hm
            exact hn.1 (inj d (hs d (.tail _ hd)) c (hs c (.head _)) e ▸ hd)
        exact this cs h.t.sub h.t.nd
      rw [← e2] at hn
      exact List.Pairwise.of_map tl (fun a b hab e => hab (congrArg tl e)) hn, fun e he => by
      obtain ⟨e₀, he₀, rfl⟩ := List.mem_map.mp he
      have := h.ok.ne e₀ he₀
      show (e₀.2.1 == e₀.1.1) = false
      rw [BEq.comm]; exact this⟩
  t := ⟨by
      rw [List.map_map]
      have := congrArg (List.map Prod.swap) h.t.eq
      rw [List.map_map, List.map_map] at this
      exact this, h.t.sub⟩
  len := by rw [List.length_map]; exact h.len
  all := hall

/-! seeds, pieces -/
def seedsN (ns : List Int) : List Nat := (ns.take 8).map fun n => (n.fmod 1000000).toNat
theorem fmod_nat (n : Int) : n.fmod 1000000 = Int.ofNat (n.fmod 1000000).toNat := (Int.toNat_of_nonneg (Int.fmod_nonneg_of_pos n (by decide))).symm
theorem seedsN_lt (ns : List Int) : ∀ n ∈ seedsN ns, n < 1000000 := by
  intro n hn
  obtain ⟨k, _, rfl⟩ := List.mem_map.mp hn
  have h1 := Int.fmod_lt_of_pos k (show (0 : Int) < 1000000 by decide)
  have h2 := Int.fmod_nonneg_of_pos k (show (0 : Int) < 1000000 by decide)
  omega
theorem seedsN_length (ns : List Int) : (seedsN ns).length ≤ 8 := by
  unfold seedsN
  rw [List.length_map]
  exact List.length_take_le ..
theorem nat_fmod (n k : Nat) : (n : Int).fmod (k : Nat) = ((n % k : Nat) : Int) := by
  rw [Int.fmod_eq_emod_of_nonneg _ (by omega)]
  exact (Int.natCast_emod n k).symm
theorem nat_fdiv (n k : Nat) : (n : Int).fdiv (k : Nat) = ((n / k : Nat) : Int) := by
  rw [Int.fdiv_eq_ediv_of_nonneg _ (by omega)]
  exact (Int.natCast_ediv n k).symm
def piecesL : List Str := ["\"", "(", ")", "\\", "\\\"", "&lt;", "<", "a", ">", "'"]
def pieceF (n : Nat) : Str := if n % 11 < 10 then piecesL.getD (n % 11) Str.empty else ⟨#[32 + n / 11 % 300]⟩
theorem piece_ok (n : Nat) : (pieceF n).length ≤ 4 ∧ PyData.strOk (pieceF n) = true := by
  unfold pieceF
  split
  · rename_i h
    have : ∀ k < 10, (piecesL.getD k Str.empty).length ≤ 4 ∧ PyData.strOk (piecesL.getD k Str.empty) = true := by decide +kernel
    exact this _ h
  · refine ⟨by show (1 : Nat) ≤ 4; decide, ?_⟩
    unfold PyData.strOk
    have : 32 + n / 11 % 300 < 0x110000 := by have := Nat.mod_lt (n / 11) (show 0 < 300 by decide); omega
    simp [this]
theorem strOk_app {x y : Str} (hx : PyData.strOk x = true) (hy : PyData.strOk y = true) : PyData.strOk (x ++ y) = true := by
  unfold PyData.strOk at *
  rw [Str.cps_append, Array.all_append, hx, hy]; rfl
theorem strOk_written {x : Str} {T : List En} {cs : List Nat} (t : Tbl T cs) (hx : PyData.strOk x = true) : PyData.strOk (writtenF x T) = true := by
  unfold PyData.strOk writtenF at *
  show ((tl x).flatMap (writeL T)).toArray.all (fun c => decide (c < 0x110000)) = true
  rw [Array.all_eq_true'] at *
  intro c hc
  have hc := List.mem_toArray.mp hc
  obtain ⟨d, hd, hcd⟩ := List.mem_flatMap.mp hc
  have hxd : decide (d < 0x110000) = true := hx d (Array.mem_toList_iff.mp hd)
  rw [write_tbl t] at hcd
  split at hcd
  · rename_i hm
    have : ∀ c ∈ keysL, ∀ e ∈ refL c, decide (e < 0x110000) = true := by decide
    exact this d (t.sub d hm) c hcd
  · unfold toldL at hcd
    split at hcd
    · have : ∀ e ∈ [38, 97, 109, 112, 59], decide (e < 0x110000) = true := by decide
      exact this c hcd
    split at hcd
    · have : ∀ e ∈ [38, 108, 116, 59], decide (e < 0x110000) = true := by decide
      exact this c hcd
    split at hcd
    · have : ∀ e ∈ [38, 103, 116, 59], decide (e < 0x110000) = true := by decide
      exact this c hcd
    · rw [List.mem_singleton.mp hcd]; exact hxd
theorem prep_ok {x : Str} (hx : PyData.strOk x = true) : PyData.strOk (prepF x) = true := by
  unfold prepF
  split
  · exact hx
  · decide +kernel

/-! ## The law's last loop and its answer -/
theorem LM.k {m : Str → Option Value} {Dt Db bk Dc : Addr} {v : Value} (h : LM m Dt Db bk Dc) : LM (upd m "k" v) Dt Db bk Dc := ⟨h.mt, h.mb, h.mbk, h.mc⟩
section
variable {prog : Program} {w : World} {A : Around} {s₀ : Shared} {m : Str → Option Value} {X : List Fact} {s : Shared}
theorem law_end {ad : Ad} {mg mb : Str → Option Value} {x : Str} {t : Tok} {Dt Db bk Dc d0 d1 d2 d3 : Addr} {xt : Array Value} {ch al back : List En} {cs ks ds : List Nat} {L a : Addr} {cd : Value}
    (M : Md ad mg mb s₀.heap) (r : Rm A 6) (S : Sx true s₀ s₀.heap L m ((Dc, isL #[]) :: X) s) (hDc : s₀.heap.get? Dc = none) (hXc : ∀ y ∈ X, y.1 ≠ Dc)
    (hx : (L + 1 + 1, isC (.str x t)) ∈ X) (hxl : x.length ≤ 50) (hxo : PyData.strOk x = true) (ht : (Dt, isL xt) ∈ X) (hxt : StrsAre xt.toList [x, writtenF x [], writtenF x ch, writtenF x al])
    (hb : (Db, isL #[.ref d0, .ref d1, .ref d2, .ref d3]) ∈ X) (h0 : (d0, isD w []) ∈ X ∧ d0 ≠ sysModules) (h1 : (d1, isD w []) ∈ X ∧ d1 ≠ sysModules) (h2 : (d2, isD w ch) ∈ X ∧ d2 ≠ sysModules) (h3 : (d3, isD w al) ∈ X ∧ d3 ≠ sysModules)
    (gc : Good ch cs) (ga : Good al ks) (hbk : (bk, isD w back) ∈ X ∧ bk ≠ sysModules) (gB : GoodB back ds) (hm : LM m Dt Db bk Dc) :
    wpAny (model prog w) A (execs ((bdOf (stAt 14)).drop 15) (lawEnv L a cd)) (Ends true s₀ (VB true)) NoE s := by
  have hls : (2000000 : Nat) ≤ sizeLine := by decide
  have hDs : s.heap.get? Dc ≠ none := by
    obtain ⟨o, ho, _⟩ := S.cx.facts (Dc, isL #[]) (.head _)
    rw [ho]; nofun
  have pick : ∀ i < 4, ∃ Xi d T us, [x, writtenF x [], writtenF x ch, writtenF x al][i]? = some Xi ∧ (#[.ref d0, .ref d1, .ref d2, .ref d3] : Array Value)[i]? = some (.ref d) ∧ (d, isD w T) ∈ X ∧ d ≠ sysModules ∧ Good T us ∧ (i = 0 → Xi = x ∧ T = []) ∧ (i ≠ 0 → Xi = writtenF x T) := by
    intro i hi
    match i, hi with
    | 0, _ => exact ⟨x, d0, [], [], rfl, rfl, h0.1, h0.2, good_nil, fun _ => ⟨rfl, rfl⟩, fun h => absurd rfl h⟩
    | 1, _ => exact ⟨_, d1, [], [], rfl, rfl, h1.1, h1.2, good_nil, (fun h => nomatch h), fun _ => rfl⟩
    | 2, _ => exact ⟨_, d2, ch, cs, rfl, rfl, h2.1, h2.2, gc, (fun h => nomatch h), fun _ => rfl⟩
    | 3, _ => exact ⟨_, d3, al, ks, rfl, rfl, h3.1, h3.2, ga, (fun h => nomatch h), fun _ => rfl⟩
  have hlen : ∀ y ∈ [x, writtenF x [], writtenF x ch, writtenF x al], y.length ≤ 300 ∧ (stripF y).length ≤ 100000 ∧ PyData.strOk y = true := by
    intro y hy
    have wr : ∀ (T : List En) (us : List Nat), Good T us → (writtenF x T).length ≤ 300 ∧ (stripF (writtenF x T)).length ≤ 100000 ∧ PyData.strOk (writtenF x T) = true := fun T us g => by
      have e1 := written_length (y := x) g.t
      have e2 := written_length (y := leftF x T) g.t
      have e3 := leftF_length T hxl
      refine ⟨by omega, ?_, strOk_written g.t hxo⟩
      rw [(plain1 g.t).1]
      omega
    rcases List.mem_cons.mp hy with rfl | hy
    · have e3 := leftF_length [] hxl
      exact ⟨by omega, by rw [(plain0 y).1]; omega, hxo⟩
    rcases List.mem_cons.mp hy with rfl | hy
    · exact wr _ _ good_nil
    rcases List.mem_cons.mp hy with rfl | hy
    · exact wr _ _ gc
    · rw [List.mem_singleton.mp hy]; exact wr _ _ ga
  generalize hTs : [x, writtenF x [], writtenF x ch, writtenF x al] = Ts at hxt pick hlen
  have hTl : Ts.length = 4 := by rw [← hTs]; rfl
  refine wpAny_execs_cons (x_for_range (mu := [Dc]) (b := 4) r.hd S ?_ (by omega) (fun b hb => by rw [List.mem_singleton.mp hb]; exact ⟨hDc, hDs⟩)
    (fun i m' X' => ∃ zs : Array Value, StrsAre zs.toList ((Ts.take i).map prepF) ∧ LM m' Dt Db bk Dc ∧ X' = (Dc, isL zs) :: X) ⟨#[], .nil, hm, rfl⟩ ?_ ?_ ?_)
  · refine pu_Call_type rfl (pu_builtin M.W M.g_range M.b_range) (pu_spl_cons (Φ := VI ((4 : Nat) : Int)) ?_ pu_spl_nil) fun vs Y p => ?_
    · exact pu_int (k := 0) (pos := default)
    obtain ⟨v, vs', Y₁, Y₂, rfl, rfl, ⟨⟨u, rfl⟩, rfl⟩, rfl, rfl⟩ := p
    exact (op_range1 (b := 4)).mono fun _ _ h => Of.new h
  · rintro i m' X' ⟨zs, _, _, rfl⟩ y hy
    rcases List.mem_cons.mp hy with rfl | hy
    · exact ⟨_, .head _, rfl⟩
    · exact ⟨y, .tail _ hy, rfl⟩
  · rintro i u m' X' hB' s₁ hi ⟨zs, hzs, hm', rfl⟩ hkB hmu S₁
    obtain ⟨Xi, d, T, us, e1, e2, e3, e4, gT, e5, e6⟩ := pick i hi
    obtain ⟨tx, hxi⟩ : ∃ tx, xt[i]? = some (.str Xi tx) := by
      have hl := StrsAre.len hxt
      rw [Array.length_toList, hTl] at hl
      obtain ⟨y, tx, e7, e8⟩ := StrsAre.nthS hxt (i := i) (v := xt[i]'(by omega)) (by rw [Array.getElem?_toList]; exact Array.getElem?_eq_getElem (by omega))
      rw [e1] at e8
      injection e8 with e8
      subst e8
      exact ⟨tx, by rw [Array.getElem?_eq_getElem (by omega), e7]⟩
    have hzl : zs.size ≤ 1000 := by
      have h1 := StrsAre.len hzs
      have h3 : (Ts.take i).length ≤ i := List.length_take_le ..
      simp at h1 h3
      omega
    refine wpAny_mono (law_turn (Xk := Xi) (tx := tx) (T := T) (M.keep hkB) r S₁ (hmu Dc (.head _)) hXc hzl hx hxl ht hxi hb e2 e3 e4 gT.ok gT.t gT.len hbk.1 hbk.2 gB.ok gB.t gB.all gB.len hi e5 e6 hm'.k (by rfl)) (fun f s₂ h => ?_) fun _ _ e => e
    obtain ⟨rfl, u', m'', hm'', S₂⟩ := h
    refine ⟨rfl, m'', _, ⟨_, ?_, hm'', rfl⟩, S₂⟩
    rw [List.take_add_one, e1, List.map_append, Array.toList_push]
    exact StrsAre.snoc hzs _ _
  · rintro m' X' s₁ ⟨zs, hzs, hm', rfl⟩ S₁
    rw [← hTl, List.take_length] at hzs
    refine wpAny_execs_cons (x_return (Φ := VB true) S₁ (pu_Compare (Φ₁ := VSL (Ts.map prepF)) (Φ₂ := Is (.ref Dc)) ?_ (pu_local hm'.mc) fun u v Y Z p q => ?_) fun v Y s₂ pv _ S₂ => ?_)
    · refine pu_Call_fun rfl (pu_global M.W M.npp) M.fpp.func (pu_spl_cons (Φ := Is (.ref Dt)) (pu_local hm'.mt) pu_spl_nil) fun vs Y s₂ p c => ?_
      obtain ⟨v, vs', Y₁, Y₂, rfl, rfl, ⟨rfl, rfl⟩, rfl, rfl⟩ := p
      refine (spec_prep (xs := xt) (M.keep c.base) r c.tok (c.facts.sub fun y hy => by rw [List.mem_singleton.mp hy]; exact .tail _ ht) hxt (fun y hy => ?_) (by omega)).mono fun _ _ h => Of.new h
      have := hlen y hy
      exact ⟨by omega, this.2.1⟩
    · obtain ⟨D, zs', rfl, hzs', rfl⟩ := p
      obtain ⟨rfl, rfl⟩ := q
      have hun : A.units + 64 < cLine := by have := r.un; omega
      have := op_eq_strs (prog := prog) (w := w) (g := true) (hB := s₀.heap) (L := L) (m := m') (X := [] ++ ([(D, isL zs')] ++ (Dc, isL zs) :: X)) (.head _) (.tail _ (.head _)) hzs' hzs (fun y hy => ?_) (fun y hy => ?_) hun
      · rw [decide_eq_true rfl] at this; exact this
      · obtain ⟨y', hy', rfl⟩ := List.mem_map.mp hy
        exact prep_ok (hlen y' hy').2.2
      · obtain ⟨y', hy', rfl⟩ := List.mem_map.mp hy
        exact prep_ok (hlen y' hy').2.2
    · obtain ⟨rfl, rfl⟩ := pv
      exact ⟨_, rfl, S₂.lex (Y := []) ⟨rfl, rfl⟩ (Facts.nil _) (Fresh.nil _)⟩
end

/-! ## The law's middle: the tables and the texts -/
theorem PairsAre.snoc {X : List Fact} {vs : List Value} {es : List En} (h : PairsAre X vs es) {T : Addr} {e : En} (hT : (T, isT (pr e)) ∈ X) : PairsAre X (vs ++ [.ref T]) (es ++ [e]) := by
  induction h with
  | nil => exact .cons hT .nil
  | cons hT' _ ih => exact .cons hT' ih
section
variable {prog : Program} {w : World} {A : Around} {s₀ : Shared} {m : Str → Option Value} {X : List Fact} {s : Shared}
theorem law_mid {ad : Ad} {mg mb : Str → Option Value} {x : Str} {t tf : Tok} {first : Nat} {E : Addr} {xe : Array Value} {es : List En} {ks : List Nat} {L a : Addr} {cd : Value}
    (M : Md ad mg mb s₀.heap) (r : Rm A 6) (S : Sx true s₀ s₀.heap L m X s) (hf : (L + 1, isC (.int (first : Nat) tf)) ∈ X) (hfl : first < 1000000) (hx : (L + 1 + 1, isC (.str x t)) ∈ X) (hxl : x.length ≤ 50) (hxo : PyData.strOk x = true)
    (hE : (L + 1 + 1 + 1, isC (.ref E)) ∈ X) (he : (E, isL xe) ∈ X) (hp : PairsAre X xe.toList es) (ge : Good es ks) (hall : ∀ c ∈ keysL, c ∈ ks) (h4 : es.length = 4) :
    wpAny (model prog w) A (execs ((bdOf (stAt 14)).drop 8) (lawEnv L a cd)) (Ends true s₀ (VB true)) NoE s := by
  have hls : (2000000 : Nat) ≤ sizeLine := by decide
  have hxz : xe.size = 4 := by
    have := PairsAre.len hp
    rw [Array.length_toList] at this
    omega
  have hun : A.units + 64 < cLine := by have := r.un; omega
  -- chosen
  refine wpAny_execs_cons (x_assign_comp (n := 4) (G := fun i ys Z => Z = [] ∧ PairsAre X ys (selA (fun k => decide (first / 2 ^ k % 2 = 1)) 0 (es.take i))) (Φ := VR 0 4) S ?_ ?_ ⟨rfl, .nil⟩ (by omega) fun Ch ys Z s₁ hg hn₁ S₁ => ?_)
  · refine pu_Call_type rfl (pu_builtin M.W M.g_range M.b_range) (pu_spl_cons (Φ := VI ((4 : Nat) : Int)) ?_ pu_spl_nil) fun vs Y p => ?_
    · exact pu_int (k := 0) (pos := default)
    obtain ⟨v, vs', Y₁, Y₂, rfl, rfl, ⟨⟨u, rfl⟩, rfl⟩, rfl, rfl⟩ := p
    exact (op_range1 (b := 4)).mono fun _ _ h => Of.new h
  · intro v Y s₂ pv c₂
    obtain ⟨r', rfl, rfl⟩ := pv
    refine src_range r.hd c₂.facts (.head _) (by omega) fun C I hC => turn_name ?_ (fun i v ys Z mC hi hP hg hk => ?_) rfl rfl rfl
    · rintro i ys Z ⟨_, h⟩
      rw [PairsAre.len h]
      exact Nat.le_trans (selA_sub _ _ 0).length_le (List.length_take_le _ _)
    · obtain ⟨u, rfl⟩ := hP
      obtain ⟨rfl, hys⟩ := hg
      obtain ⟨e, hei⟩ : ∃ e, es[i]? = some e := ⟨_, List.getElem?_eq_getElem (by omega)⟩
      obtain ⟨T, hT, hTX⟩ := hp.nth hei
      have hsn : selA (fun k => decide (first / 2 ^ k % 2 = 1)) 0 (es.take (i + 1)) = selA (fun k => decide (first / 2 ^ k % 2 = 1)) 0 (es.take i) ++ if decide (first / 2 ^ i % 2 = 1) then [e] else [] := by
        rw [List.take_add_one, hei]
        show selA _ 0 (es.take i ++ [e]) = _
        rw [selA_snoc, List.length_take, Nat.min_eq_left (by omega), Nat.zero_add]
      refine ⟨decide (first / 2 ^ i % 2 = 1), ?_, fun hb => ⟨rfl, by rw [hsn, hb]; simpa using hys⟩, fun hb => ⟨Is (.ref T), pu_item_list (l := E) (xs := xe) (k := i) (pu_cell (by rfl) (.tail _ hE)) (.tail _ he) (pu_localI hk) (by rw [← Array.getElem?_toList]; exact hT) (by omega), fun y V p => ?_⟩⟩
      · refine pu_tests_one (pu_isTrue_Compare (Φ₁ := VI ((first / 2 ^ i % 2 : Nat) : Int)) (Φ₂ := VI 1) (pu_BinOp (Φ₁ := VI ((first / 2 ^ i : Nat) : Int)) (Φ₂ := VI 2) (pu_BinOp (Φ₁ := VI (first : Nat)) (Φ₂ := VI ((2 ^ i : Nat) : Int)) ((pu_cell (by rfl) (.tail _ hf)).mono fun _ _ => Is.toI)
          (pu_BinOp (Φ₁ := VI 2) (Φ₂ := VI (i : Nat)) pu_int (pu_localI hk) fun a b Y Z p q => ?_) fun a b Y Z p q => ?_) pu_int fun a b Y Z p q => ?_) pu_int fun a b Y Z p q => ?_)
        · obtain ⟨⟨t1, rfl⟩, rfl⟩ := p
          obtain ⟨⟨t2, rfl⟩, rfl⟩ := q
          refine (op_pow (by decide) (by omega)).mono fun v Y h => ?_
          rw [Int.natCast_pow]; exact h
        · obtain ⟨⟨t1, rfl⟩, rfl⟩ := p
          obtain ⟨⟨t2, rfl⟩, rfl⟩ := q
          have h2 : 2 ^ i < 1000001 := Nat.lt_of_lt_of_le (Nat.pow_lt_pow_right (by decide) hi) (by decide)
          have h3 : 2 ^ i ≠ 0 := Nat.ne_of_gt (Nat.pow_pos (by decide))
          rw [← nat_fdiv]
          exact op_floordiv (by omega) (by omega) (by rw [Int.natAbs_natCast]; exact h2)
        · obtain ⟨⟨t1, rfl⟩, rfl⟩ := p
          obtain ⟨⟨t2, rfl⟩, rfl⟩ := q
          rw [← nat_fmod]
          exact op_mod_int (by decide)
        · obtain ⟨⟨t1, rfl⟩, rfl⟩ := p
          obtain ⟨⟨t2, rfl⟩, rfl⟩ := q
          refine op_eq_int.mono fun v Y h => ?_
          obtain ⟨rfl, rfl⟩ := h
          refine ⟨?_, rfl⟩
          congr 1
          rw [Bool.eq_iff_iff, beq_iff_eq, decide_eq_true_iff]
          omega
      · obtain ⟨rfl, rfl⟩ := p
        refine ⟨rfl, ?_⟩
        rw [hsn, hb, if_pos rfl]
        exact hys.snoc hTX
  obtain ⟨rfl, hys⟩ := hg
  have hCh := hn₁ _ (.head _)
  rw [← h4, List.take_length] at hys
  generalize hch : selA (fun k => decide (first / 2 ^ k % 2 = 1)) 0 es = ch at hys
  have gc : Good ch (selA (fun k => decide (first / 2 ^ k % 2 = 1)) 0 ks) := by rw [← hch]; exact ge.sel _
  have hysl : ys.toArray.toList = ys := rfl
  -- a dict of chosen
  have dictC : ∀ {m' : Str → Option Value} {X' : List Fact} {p1 p2 : Pos}, m' "chosen" = some (.ref Ch) → (Ch, isL ys.toArray) ∈ X' → (∀ y ∈ X, y ∈ X') → backTo p2 (starEach [.Name "chosen" p1] (lawEnv L a cd)) = [(false, eval (.Name "chosen" p1) (lawEnv L a cd))] → ∀ p3, Pu prog w A true s₀.heap L m' X' (eval (.Call (.Name "dict" p3) [.Name "chosen" p1] [] p2) (lawEnv L a cd)) (fun v Y => ∃ D, v = .ref D ∧ D ≠ sysModules ∧ Y = [(D, isD w ch)]) := fun h1 h2 h3 h4 p3 => by
    refine pu_Call_type h4 (pu_builtin M.W M.g_dict M.b_dict) (pu_spl_cons (Φ := Is (.ref Ch)) (pu_local h1) pu_spl_nil) fun vs Y p => ?_
    obtain ⟨v, vs', Y₁, Y₂, rfl, rfl, ⟨rfl, rfl⟩, rfl, rfl⟩ := p
    exact (op_dict_pairs (xs := ys.toArray) r.hd M.W h2 (hys.mono h3) gc.ok.keys (by have := gc.len; omega)).mono fun _ _ h => Of.new h
  have dictE : ∀ {m' : Str → Option Value} {X' : List Fact} {p1 p2 : Pos}, (∀ y ∈ X, y ∈ X') → backTo p2 (starEach [.Name "entries" p1] (lawEnv L a cd)) = [(false, eval (.Name "entries" p1) (lawEnv L a cd))] → ∀ p3, Pu prog w A true s₀.heap L m' X' (eval (.Call (.Name "dict" p3) [.Name "entries" p1] [] p2) (lawEnv L a cd)) (fun v Y => ∃ D, v = .ref D ∧ D ≠ sysModules ∧ Y = [(D, isD w es)]) := fun h3 h4 p3 => by
    refine pu_Call_type h4 (pu_builtin M.W M.g_dict M.b_dict) (pu_spl_cons (Φ := Is (.ref E)) (pu_cell (by rfl) (h3 _ hE)) pu_spl_nil) fun vs Y p => ?_
    obtain ⟨v, vs', Y₁, Y₂, rfl, rfl, ⟨rfl, rfl⟩, rfl, rfl⟩ := p
    exact (op_dict_pairs (xs := xe) r.hd M.W (h3 _ he) (hp.mono h3) ge.ok.keys (by have := ge.len; omega)).mono fun _ _ h => Of.new h
  -- table
  refine wpAny_execs_cons (x_assign S₁ (dictC (by rfl) (.head _) (fun y hy => .tail _ hy) rfl _) fun v Y s₂ pv hn₂ S₂ => ?_)
  obtain ⟨Tb, rfl, hTbs, rfl⟩ := pv
  -- back
  refine wpAny_execs_cons (x_assign (Φ := fun v Y => ∃ D, v = .ref D ∧ D ≠ sysModules ∧ Y = [(D, isD w (es.map swapE))]) S₂ ?_ fun v Y s₃ pv hn₃ S₃ => ?_)
  · refine pu_Call_type rfl (pu_builtin M.W M.g_dict M.b_dict) (pu_spl_cons (Φ := fun v W => ∃ D ys Z, v = .ref D ∧ PairsAre Z ys (es.map swapE) ∧ W = (D, isL ys.toArray) :: Z) ?_ pu_spl_nil) fun vs Y p => ?_
    · refine (pu_comp (n := xe.size) (G := fun i ys Z => PairsAre Z ys ((es.take i).map swapE)) (Φ := Is (.ref E)) (pu_cell (by rfl) (.tail _ (.tail _ hE))) ?_ .nil (by omega)).mono ?_
      · intro v Y s₂ pv c₂
        obtain ⟨rfl, rfl⟩ := pv
        refine src_list r.hd c₂.facts (.tail _ (.tail _ he)) fun C I hC hI => turn_pair r.hd (hp.mono fun y hy => .tail _ (.tail _ hy)) ?_ (fun i e ys Z mC hei hg hk1 hk2 => ?_) (by decide) rfl rfl rfl rfl
        · intro i ys Z h
          rw [PairsAre.len h, List.length_map]
          exact List.length_take_le _ _
        · refine ⟨true, pu_tests_nil, (fun hb => nomatch hb), fun _ => ⟨_, pu_Tuple2 (pu_local hk2) (pu_local hk1), fun y V p => ?_⟩⟩
          obtain ⟨T, v1, v2, Y1, Y2, rfl, ⟨rfl, rfl⟩, ⟨rfl, rfl⟩, rfl⟩ := p
          rw [List.take_add_one, hei, List.map_append]
          exact (hg.mono fun y hy => .tail _ hy).snoc (e := swapE e) (.head _)
      · rintro v Y ⟨D, ys, Z, rfl, hys, rfl⟩
        refine ⟨D, ys, Z, rfl, ?_, rfl⟩
        rw [hxz, ← h4, List.take_length] at hys
        exact hys
    · obtain ⟨v, vs', Y₁, Y₂, rfl, rfl, ⟨D, ys', Z, rfl, hys', rfl⟩, rfl, rfl⟩ := p
      exact (op_dict_pairs (xs := ys'.toArray) r.hd M.W (.head _) (hys'.mono fun y hy => List.mem_append_left _ (List.mem_append_left _ (.tail _ hy))) (ge.swap hall).ok.keys (by have := (ge.swap hall).len; omega)).mono fun _ _ h => Of.new h
  obtain ⟨Bk, rfl, hBks, rfl⟩ := pv
  -- texts
  have escN : ∀ {m' : Str → Option Value} {X' : List Fact} {p : Pos}, Pu prog w A true s₀.heap L m' X' (eval (.Name "escape" p) (lawEnv L a cd)) (Is (.ref ad.es)) := pu_global M.W M.nes
  have hX3 : ∀ y ∈ X, y ∈ [(Bk, isD w (es.map swapE))] ++ ([(Tb, isD w ch)] ++ ((Ch, isL ys.toArray) :: [] ++ X)) := fun y hy => .tail _ (.tail _ (.tail _ hy))
  refine wpAny_execs_cons (x_assign (Φ := VSL [x, writtenF x [], writtenF x ch, writtenF x es]) S₃ ((pu_List (Ψ := PCons (VS x) (PCons (VS (writtenF x [])) (PCons (VS (writtenF x ch)) (PCons (VS (writtenF x es)) PNil))))
    (pu_spl_cons ((pu_cell (by rfl) (hX3 _ hx)).mono fun _ _ => Is.toS) (pu_spl_cons ?_ (pu_spl_cons ?_ (pu_spl_cons ?_ pu_spl_nil)))) ?_).mono ?_) fun v Y s₄ pv hn₄ S₄ => ?_)
  · refine pu_Call_fun rfl escN M.fes.func (pu_spl_cons (Φ := Is (.str x t)) (pu_cell (by rfl) (hX3 _ hx)) pu_spl_nil) fun vs Y s₂ p c => ?_
    obtain ⟨v, vs', Y₁, Y₂, rfl, rfl, ⟨rfl, rfl⟩, rfl, rfl⟩ := p
    rw [← esc_written0]
    exact (spec_escape1 (M.keep c.base) (r.le (by omega)) c.tok (esc_ok tbl_nil (by omega))).mono fun _ _ h => Of.new h
  · refine pu_Call_fun rfl escN M.fes.func (pu_spl_cons (Φ := Is (.str x t)) (pu_cell (by rfl) (hX3 _ hx)) (pu_spl_cons (Φ := Is (.ref Tb)) (pu_local (by rfl)) pu_spl_nil)) fun vs Y s₂ p c => ?_
    obtain ⟨v, vs', Y₁, Y₂, rfl, rfl, ⟨rfl, rfl⟩, v', vs'', Y₃, Y₄, rfl, rfl, ⟨rfl, rfl⟩, rfl, rfl⟩ := p
    rw [← esc_written gc.t]
    exact (spec_escape2 (M.keep c.base) (r.le (by omega)) c.tok (c.facts.sub fun y hy => by rw [List.mem_singleton.mp hy]; exact .tail _ (.head _)) gc.ok hTbs gc.t.vals (by have := gc.len; omega) (esc_ok gc.t (by omega))).mono fun _ _ h => Of.new h
  · refine pu_Call_fun rfl escN M.fes.func (pu_spl_cons (Φ := Is (.str x t)) (pu_cell (by rfl) (hX3 _ hx)) (pu_spl_cons (dictE hX3 rfl _) pu_spl_nil)) fun vs Y s₂ p c => ?_
    obtain ⟨v, vs', Y₁, Y₂, rfl, rfl, ⟨rfl, rfl⟩, v', vs'', Y₃, Y₄, rfl, rfl, ⟨D, rfl, hDs, rfl⟩, rfl, rfl⟩ := p
    rw [← esc_written ge.t]
    exact (spec_escape2 (M.keep c.base) (r.le (by omega)) c.tok (c.facts.sub fun y hy => by rw [List.mem_singleton.mp hy]; exact .head _) ge.ok hDs ge.t.vals (by have := ge.len; omega) (esc_ok ge.t (by omega))).mono fun _ _ h => Of.new h
  · rintro vs Y ⟨v1, vs1, _, _, rfl, rfl, _, v2, vs2, _, _, rfl, rfl, _, v3, vs3, _, _, rfl, rfl, _, v4, vs4, _, _, rfl, rfl, _, rfl, rfl⟩
    show (4 : Nat) ≤ sizeLine
    decide
  · rintro v Y ⟨T, vs, Y', rfl, ⟨v1, vs1, _, _, rfl, rfl, ⟨⟨t1, rfl⟩, rfl⟩, v2, vs2, _, _, rfl, rfl, ⟨⟨t2, rfl⟩, rfl⟩, v3, vs3, _, _, rfl, rfl, ⟨⟨t3, rfl⟩, rfl⟩, v4, vs4, _, _, rfl, rfl, ⟨⟨t4, rfl⟩, rfl⟩, rfl, rfl⟩, rfl⟩
    exact ⟨T, _, rfl, .cons _ _ (.cons _ _ (.cons _ _ (.cons _ _ .nil))), rfl⟩
  obtain ⟨Dt, xt, rfl, hxt, rfl⟩ := pv
  -- the table stays
  refine wpAny_execs_cons (x_if (b := false) S₄ ?_ (fun s₁ hq _ => nomatch hq) fun s₅ _ S₅ => wpAny_execs_nil ?_)
  · refine pu_isTrue_Compare (Φ₁ := fun v Y => ∃ D xs Z, v = .ref D ∧ Y = (D, isL xs) :: Z ∧ TxtPairs Z (xs : Array Value).toList (ch.map fun e => (e.1.1, e.2.1))) (Φ₂ := Is (.ref Ch)) ?_ (pu_local (by rfl)) fun u v Y Z p q => ?_
    · refine pu_Call_type rfl (pu_builtin M.W M.g_list M.b_list) (pu_spl_cons (Φ := fun v Y => ∃ r, v = .ref r ∧ Y = [(r, isV Tb)]) ?_ pu_spl_nil) fun vs Y p => ?_
      · refine pu_Method0 (T := "dict") (id := "dict.items") (Φ := Is (.ref Tb)) PySem.F.plainAttrs_dict PySem.F.slot_dict_items PySem.F.type_dict_items (pu_local (by rfl)) (fun ov Y s p c => ?_) fun ov Y p => ?_
        · obtain ⟨rfl, rfl⟩ := p
          obtain ⟨o, ho, n, rfl⟩ := c.facts (Tb, isD w ch) (.tail _ (.tail _ (.head _)))
          exact ⟨⟨_, ho, rfl⟩, fun a e => by cases e; exact ⟨_, ho, rfl⟩⟩
        · obtain ⟨rfl, rfl⟩ := p
          exact (op_items (es := ch) (.tail _ (.tail _ (.head _))) gc.ok.keys hTbs).mono fun _ _ h => Of.new h
      · obtain ⟨v, vs', Y₁, Y₂, rfl, rfl, ⟨r', rfl, rfl⟩, rfl, rfl⟩ := p
        exact (op_list_items (es := ch) r.hd (.tail _ (.tail _ (.tail _ (.head _)))) (.head _) gc.ok.keys (by have := gc.len; omega)).mono fun _ _ h => Of.new h
    · obtain ⟨D, xs, Z', rfl, rfl, hxs⟩ := p
      obtain ⟨rfl, rfl⟩ := q
      have hmem : ∀ y ∈ X, y ∈ [] ++ ((D, isL xs) :: Z' ++ ((Dt, isL xt) :: ([(Bk, isD w (es.map swapE))] ++ ([(Tb, isD w ch)] ++ ((Ch, isL ys.toArray) :: [] ++ X))))) := fun y hy => .tail _ (List.mem_append_right _ (.tail _ (.tail _ (.tail _ (.tail _ hy)))))
      have := op_ne_pairs (prog := prog) (w := w) (A := A) (g := true) (hB := s₀.heap) (L := L) (m := upd (upd (upd (upd m "chosen" (.ref Ch)) "table" (.ref Tb)) "back" (.ref Bk)) "texts" (.ref Dt)) (X := [] ++ ((D, isL xs) :: Z' ++ ((Dt, isL xt) :: ([(Bk, isD w (es.map swapE))] ++ ([(Tb, isD w ch)] ++ ((Ch, isL ys.toArray) :: [] ++ X))))))
        (a := D) (b := Ch) (xs := xs) (ys := ys.toArray) (.head _) (.tail _ (List.mem_append_right _ (.tail _ (.tail _ (.tail _ (.head _)))))) (hxs.mono fun y hy => .tail _ (List.mem_append_left _ hy)) (hys.mono hmem).txt gc.str gc.str hun
      rw [decide_eq_true rfl] at this
      exact this
  -- tables
  refine wpAny_execs_cons (x_assign (Φ := fun v Y => ∃ D d0 d1 d2 d3, v = .ref D ∧ (d0 ≠ sysModules ∧ d1 ≠ sysModules ∧ d2 ≠ sysModules ∧ d3 ≠ sysModules) ∧ Y = [(D, isL #[.ref d0, .ref d1, .ref d2, .ref d3]), (d0, isD w []), (d1, isD w []), (d2, isD w ch), (d3, isD w es)]) S₅
    ((pu_List (Ψ := PCons (fun v Y => ∃ D, v = .ref D ∧ D ≠ sysModules ∧ Y = [(D, isD w [])]) (PCons (fun v Y => ∃ D, v = .ref D ∧ D ≠ sysModules ∧ Y = [(D, isD w [])]) (PCons (fun v Y => ∃ D, v = .ref D ∧ D ≠ sysModules ∧ Y = [(D, isD w ch)]) (PCons (fun v Y => ∃ D, v = .ref D ∧ D ≠ sysModules ∧ Y = [(D, isD w es)]) PNil))))
    (pu_spl_cons (pu_Dict_nil M.W) (pu_spl_cons (pu_Dict_nil M.W) (pu_spl_cons (dictC (by rfl) (.tail _ (.tail _ (.tail _ (.head _)))) (fun y hy => .tail _ (hX3 y hy)) rfl _) (pu_spl_cons (dictE (fun y hy => .tail _ (hX3 y hy)) rfl _) pu_spl_nil)))) ?_).mono ?_) fun v Y s₆ pv hn₆ S₆ => ?_)
  · rintro vs Y ⟨v1, vs1, _, _, rfl, rfl, _, v2, vs2, _, _, rfl, rfl, _, v3, vs3, _, _, rfl, rfl, _, v4, vs4, _, _, rfl, rfl, _, rfl, rfl⟩
    show (4 : Nat) ≤ sizeLine
    decide
  · rintro v Y ⟨T, vs, Y', rfl, ⟨v1, vs1, _, _, rfl, rfl, ⟨d0, rfl, e0, rfl⟩, v2, vs2, _, _, rfl, rfl, ⟨d1, rfl, e1, rfl⟩, v3, vs3, _, _, rfl, rfl, ⟨d2, rfl, e2, rfl⟩, v4, vs4, _, _, rfl, rfl, ⟨d3, rfl, e3, rfl⟩, rfl, rfl⟩, rfl⟩
    exact ⟨T, d0, d1, d2, d3, rfl, ⟨e0, e1, e2, e3⟩, rfl⟩
  obtain ⟨Db, d0, d1, d2, d3, rfl, ⟨e0, e1, e2, e3⟩, rfl⟩ := pv
  -- checked
  refine wpAny_execs_cons (x_assign S₆ pu_List_nil fun v Y s₇ pv hn₇ S₇ => ?_)
  obtain ⟨Dc, rfl, rfl⟩ := pv
  have hDc := hn₇ _ (.head _)
  exact law_end (x := x) (t := t) (Dt := Dt) (Db := Db) (bk := Bk) (d0 := d0) (d1 := d1) (d2 := d2) (d3 := d3) M r S₇ hDc.1 hDc.2 (.tail _ (.tail _ (.tail _ (.tail _ (.tail _ (.tail _ (hX3 _ hx))))))) hxl hxo
    (.tail _ (.tail _ (.tail _ (.tail _ (.tail _ (.head _)))))) hxt (.head _) ⟨.tail _ (.head _), e0⟩ ⟨.tail _ (.tail _ (.head _)), e1⟩ ⟨.tail _ (.tail _ (.tail _ (.head _))), e2⟩ ⟨.tail _ (.tail _ (.tail _ (.tail _ (.head _)))), e3⟩
    gc ge ⟨.tail _ (.tail _ (.tail _ (.tail _ (.tail _ (.tail _ (.head _)))))), hBks⟩ (ge.swap hall) ⟨rfl, rfl, rfl, rfl⟩
end

/-! ## The law's entries -/
theorem PairsAre.reverse {X : List Fact} {vs : List Value} {es : List En} (h : PairsAre X vs es) : PairsAre X vs.reverse es.reverse := by
  induction h with
  | nil => exact .nil
  | cons hT _ ih => rw [List.reverse_cons, List.reverse_cons]; exact ih.snoc hT
section
variable {prog : Program} {w : World} {A : Around} {s₀ : Shared} {m : Str → Option Value} {X : List Fact} {s : Shared} {env : Env} {g : Bool} {hB : Heap} {L : Addr}
theorem pu_neg {i : Int} {k : Nat} {p pos : Pos} : Pu prog w A g hB L m X (eval (.UnaryOp .USub (.Constant (.int i) k p) pos) env) (VI (-i)) := fun s c =>
  wpAny_UnaryOp ((pu_int (i := i) (k := k) (pos := p)).run c fun v Y s₁ pv f r x c₁ => by
    obtain ⟨⟨t, rfl⟩, rfl⟩ := pv
    exact PyProof.Rows.neg_int ⟨[], ⟨⟨_, rfl⟩, rfl⟩, Facts.nil _, Fresh.nil _, x.trans (Ex.of (h := s₁.heap) (Kp.refl _) (Nat.le_succ _))⟩)
end
section
variable {prog : Program} {w : World} {A : Around} {s₀ : Shared} {m : Str → Option Value} {X : List Fact} {s : Shared}
/-- the parts of an assignment -/
def asE : Stmt → PySem.Expr | .Assign _ e _ => e | _ => .Constant .none 0 default
abbrev PsP (x y : Str) : VPost := fun v Z => ∃ (T : Addr) (e : En), v = .ref T ∧ e.1.1 = x ∧ e.2.1 = y ∧ (e.1.2 ≠ 0 ∧ e.2.2 ≠ 0 ∧ e.1.2 ≠ e.2.2) ∧ Z = [(T, isT (pr e))]
theorem pu_list4 {g : Bool} {hB : Heap} {L : Addr} {env : Env} {e1 e2 e3 e4 : PySem.Expr} {pos : Pos} {Φ₁ Φ₂ Φ₃ Φ₄ : VPost} (h1 : Pu prog w A g hB L m X (eval e1 env) Φ₁) (h2 : Pu prog w A g hB L m X (eval e2 env) Φ₂)
    (h3 : Pu prog w A g hB L m X (eval e3 env) Φ₃) (h4 : Pu prog w A g hB L m X (eval e4 env) Φ₄)
    (ht : backTo pos (starEach [e1, e2, e3, e4] env) = [(false, eval e1 env), (false, eval e2 env), (false, eval e3 env), (false, eval e4 env)]) :
    Pu prog w A g hB L m X (eval (.List [e1, e2, e3, e4] pos) env) (fun v Z => ∃ T vs Y, v = .ref T ∧ PCons Φ₁ (PCons Φ₂ (PCons Φ₃ (PCons Φ₄ PNil))) vs Y ∧ Z = (T, isL vs.toArray) :: Y) := by
  refine pu_List (by rw [ht]; exact pu_spl_cons h1 (pu_spl_cons h2 (pu_spl_cons h3 (pu_spl_cons h4 pu_spl_nil)))) ?_
  rintro vs Y ⟨v1, vs1, _, _, rfl, rfl, _, v2, vs2, _, _, rfl, rfl, _, v3, vs3, _, _, rfl, rfl, _, v4, vs4, _, _, rfl, rfl, _, rfl, rfl⟩
  show (4 : Nat) ≤ sizeLine
  decide
theorem law_odd {ad : Ad} {mg mb : Str → Option Value} {x : Str} {t tf : Tok} {first : Nat} {E la : Addr} {xe xs : Array Value} {es : List En} {L a : Addr} {cd : Value}
    (M : Md ad mg mb s₀.heap) (r : Rm A 6) (S : Sx true s₀ s₀.heap L m ((L + 1 + 1 + 1, isC (.ref E)) :: X) s) (hLe : s₀.heap.get? (L + 1 + 1 + 1) = none) (hXe : ∀ y ∈ X, y.1 ≠ L + 1 + 1 + 1)
    (hm : m "script" = some (.ref la)) (hla : (la, isL xs) ∈ X) (hxz : xs.size ≤ 1000)
    (hf : (L + 1, isC (.int (first : Nat) tf)) ∈ X) (hfl : first < 1000000) (hx : (L + 1 + 1, isC (.str x t)) ∈ X) (hxl : x.length ≤ 50) (hxo : PyData.strOk x = true)
    (he : (E, isL xe) ∈ X) (hp : PairsAre X xe.toList es) (eb : EsB es baseP) :
    wpAny (model prog w) A (execs ((bdOf (stAt 14)).drop 7) (lawEnv L a cd)) (Ends true s₀ (VB true)) NoE s := by
  have hls : (2000000 : Nat) ≤ sizeLine := by decide
  have h4 : es.length = 4 := by
    have := congrArg List.length eb.eq
    rw [List.length_map] at this
    rw [this]; rfl
  have hxe : xe.size = 4 := by
    have := hp.len
    rw [Array.length_toList] at this
    omega
  have go : ∀ (E' : Addr) (xe' : Array Value) (es' : List En) (ks : List Nat) (Z : List Fact) (s' : Shared), Sx true s₀ s₀.heap L m ((L + 1 + 1 + 1, isC (.ref E')) :: (Z ++ X)) s' → (E', isL xe') ∈ Z ++ X → PairsAre X xe'.toList es' →
      Good es' ks → (∀ c ∈ keysL, c ∈ ks) → es'.length = 4 → wpAny (model prog w) A (execs ((bdOf (stAt 14)).drop 8) (lawEnv L a cd)) (Ends true s₀ (VB true)) NoE s' := fun E' xe' es' ks Z s' S' he' hp' ge hall h4' =>
    law_mid (x := x) (t := t) (tf := tf) (first := first) (E := E') (xe := xe') (es := es') (ks := ks) M r S' (.tail _ (List.mem_append_right _ hf)) hfl (.tail _ (List.mem_append_right _ hx)) hxl hxo (.head _) (.tail _ he')
      (hp'.mono fun y hy => .tail _ (List.mem_append_right _ hy)) ge hall h4'
  refine wpAny_execs_cons (x_if (b := decide (xs.size % 2 = 1)) S ?_ (fun s₁ _ S₁ => ?_) fun s₁ _ S₁ => wpAny_execs_nil ?_)
  · refine pu_isTrue_Compare (Φ₁ := VI ((xs.size % 2 : Nat) : Int)) (Φ₂ := VI 1) (pu_BinOp (Φ₁ := VI (xs.size : Nat)) (Φ₂ := VI 2) ?_ pu_int fun a b Y Z p q => ?_) pu_int fun a b Y Z p q => ?_
    · refine pu_Call_builtin rfl (pu_builtin M.W M.g_len M.b_len) (pu_spl_cons (Φ := Is (.ref la)) (pu_local hm) pu_spl_nil) fun vs Y p => ?_
      obtain ⟨v, vs', Y₁, Y₂, rfl, rfl, ⟨rfl, rfl⟩, rfl, rfl⟩ := p
      exact (op_len_list (.tail _ hla) (by omega)).mono fun _ _ h => Of.new h
    · obtain ⟨⟨t1, rfl⟩, rfl⟩ := p
      obtain ⟨⟨t2, rfl⟩, rfl⟩ := q
      rw [← nat_fmod]
      exact op_mod_int (by decide)
    · obtain ⟨⟨t1, rfl⟩, rfl⟩ := p
      obtain ⟨⟨t2, rfl⟩, rfl⟩ := q
      refine op_eq_int.mono fun v Y h => ?_
      obtain ⟨rfl, rfl⟩ := h
      refine ⟨?_, rfl⟩
      congr 1
      rw [Bool.eq_iff_iff, beq_iff_eq, decide_eq_true_iff]
      omega
  · refine wpAny_execs_cons (x_assignC (v0 := some (.ref E)) (Φ := VL xe.toList.reverse.toArray) S₁ hLe hXe (pu_rev_list (l := E) (xs := xe) (pu_cell (by rfl) (.head _)) (.tail _ he) pu_neg (by omega)) (fun v Y s₂ pv hn S₂ => wpAny_execs_nil ?_) rfl)
    obtain ⟨D, rfl, rfl⟩ := pv
    exact go D _ es.reverse keysL.reverse [(D, isL xe.toList.reverse.toArray)] s₂ S₂ (.head _) hp.reverse (good_base eb).reverse (fun c hc => List.mem_reverse.mpr hc) (by rw [List.length_reverse]; exact h4)
  · exact go E xe es keysL [] s₁ S₁ he hp (good_base eb) (fun _ h => h) h4

theorem law_entries {ad : Ad} {mg mb : Str → Option Value} {x : Str} {t tf : Tok} {first : Nat} {la : Addr} {xs : Array Value} {L a : Addr} {cd : Value}
    (M : Md ad mg mb s₀.heap) (r : Rm A 6) (S : Sx true s₀ s₀.heap L m ((L + 1 + 1 + 1, isCo none) :: X) s) (hLe : s₀.heap.get? (L + 1 + 1 + 1) = none) (hXe : ∀ y ∈ X, y.1 ≠ L + 1 + 1 + 1)
    (hm : m "script" = some (.ref la)) (hla : (la, isL xs) ∈ X) (hxz : xs.size ≤ 1000)
    (hf : (L + 1, isC (.int (first : Nat) tf)) ∈ X) (hfl : first < 1000000) (hx : (L + 1 + 1, isC (.str x t)) ∈ X) (hxl : x.length ≤ 50) (hxo : PyData.strOk x = true) :
    wpAny (model prog w) A (execs ((bdOf (stAt 14)).drop 6) (lawEnv L a cd)) (Ends true s₀ (VB true)) NoE s := by
  obtain ⟨e1, e2, e3, e4, p, p', pos, hst, ht, ⟨p1, p2, p3, q1⟩, ⟨p4, p5, p6, q2⟩, ⟨p7, p8, p9, q3⟩, ⟨p10, p11, p12, q4⟩⟩ : ∃ e1 e2 e3 e4 p p' pos, (bdOf (stAt 14)).drop 6 = .Assign [.Name "entries" p] (.List [e1, e2, e3, e4] p') pos :: (bdOf (stAt 14)).drop 7 ∧
      backTo p' (starEach [e1, e2, e3, e4] (lawEnv L a cd)) = [(false, eval e1 (lawEnv L a cd)), (false, eval e2 (lawEnv L a cd)), (false, eval e3 (lawEnv L a cd)), (false, eval e4 (lawEnv L a cd))] ∧
      (∃ p1 p2 p3, e1 = .Tuple [.Constant (.str "\"") 0 p1, .Constant (.str "&quot;") 0 p2] 0 p3) ∧ (∃ p1 p2 p3, e2 = .Tuple [.Constant (.str "\\") 0 p1, .Constant (.str "&#92;") 0 p2] 0 p3) ∧
      (∃ p1 p2 p3, e3 = .Tuple [.Constant (.str "(") 0 p1, .Constant (.str "&#40;") 0 p2] 0 p3) ∧ (∃ p1 p2 p3, e4 = .Tuple [.Constant (.str ")") 0 p1, .Constant (.str "&#41;") 0 p2] 0 p3) :=
    ⟨_, _, _, _, _, _, _, rfl, rfl, ⟨_, _, _, rfl⟩, ⟨_, _, _, rfl⟩, ⟨_, _, _, rfl⟩, ⟨_, _, _, rfl⟩⟩
  have h1 : Pu prog w A true s₀.heap L m ((L + 1 + 1 + 1, isCo none) :: X) (eval e1 (lawEnv L a cd)) (PsP "\"" "&quot;") := by rw [q1]; exact pu_Pair (by decide)
  have h2 : Pu prog w A true s₀.heap L m ((L + 1 + 1 + 1, isCo none) :: X) (eval e2 (lawEnv L a cd)) (PsP "\\" "&#92;") := by rw [q2]; exact pu_Pair (by decide)
  have h3 : Pu prog w A true s₀.heap L m ((L + 1 + 1 + 1, isCo none) :: X) (eval e3 (lawEnv L a cd)) (PsP "(" "&#40;") := by rw [q3]; exact pu_Pair (by decide)
  have h4 : Pu prog w A true s₀.heap L m ((L + 1 + 1 + 1, isCo none) :: X) (eval e4 (lawEnv L a cd)) (PsP ")" "&#41;") := by rw [q4]; exact pu_Pair (by decide)
  clear q1 q2 q3 q4
  rw [hst]
  refine wpAny_execs_cons (x_assignC (v0 := none) (Φ := fun v Y => ∃ E vs es Z, v = .ref E ∧ Y = (E, isL (vs : List Value).toArray) :: Z ∧ PairsAre Z vs es ∧ EsB es baseP) S hLe hXe ((pu_list4 h1 h2 h3 h4 ht).mono ?_) (fun v Y s₁ pv hn S₁ => ?_) rfl)
  · rintro v Y ⟨T, vs, Y', rfl, ⟨v1, vs1, _, _, rfl, rfl, ⟨T1, e1, rfl, a1, b1, c1, rfl⟩, v2, vs2, _, _, rfl, rfl, ⟨T2, e2, rfl, a2, b2, c2, rfl⟩, v3, vs3, _, _, rfl, rfl, ⟨T3, e3, rfl, a3, b3, c3, rfl⟩, v4, vs4, _, _, rfl, rfl, ⟨T4, e4, rfl, a4, b4, c4, rfl⟩, rfl, rfl⟩, rfl⟩
    refine ⟨T, _, [e1, e2, e3, e4], _, rfl, rfl, .cons (.head _) (.cons (.tail _ (.head _)) (.cons (.tail _ (.tail _ (.head _))) (.cons (.tail _ (.tail _ (.tail _ (.head _)))) .nil))), ⟨?_, ?_⟩⟩
    · intro e he
      simp only [List.mem_cons, List.not_mem_nil, or_false] at he
      rcases he with rfl | rfl | rfl | rfl
      · exact c1
      · exact c2
      · exact c3
      · exact c4
    · show [(e1.1.1, e1.2.1), (e2.1.1, e2.2.1), (e3.1.1, e3.2.1), (e4.1.1, e4.2.1)] = baseP
      rw [a1, b1, a2, b2, a3, b3, a4, b4]; rfl
  · obtain ⟨E, vs, es, Z, rfl, rfl, hp, eb⟩ := pv
    refine law_odd (x := x) (t := t) (tf := tf) (first := first) (E := E) (la := la) (xe := vs.toArray) (xs := xs) (es := es) M r S₁ hLe ?_ hm (List.mem_append_right _ hla) hxz (List.mem_append_right _ hf) hfl (List.mem_append_right _ hx) hxl hxo
      (.head _) (hp.mono fun y hy => List.mem_append_left _ (.tail _ hy)) eb
    intro y hy
    rcases List.mem_append.mp hy with hy | hy
    · exact (hn y hy).2.1
    · exact hXe y hy
end

/-! ## The law's text -/
section
variable {prog : Program} {w : World} {A : Around} {g : Bool} {s₀ : Shared} {hB : Heap} {L : Addr} {m : Str → Option Value} {X Y : List Fact} {s s' : Shared} {env : Env}
/-- for x in a new list -/
theorem x_for_listV {x : Str} {px pos : Pos} {iter : PySem.Expr} {body : List Stmt} {mu : List Addr} {xs : Array Value} {E : Value → Shared → Prop} {Q : Flow → Shared → Prop} (hh : A.handled = none)
    (S : Sx g s₀ hB L m X s) (he : Pu prog w A g hB L m X (eval iter env) (VL xs)) (hmut : ∀ a ∈ mu, hB.get? a = none ∧ s.heap.get? a ≠ none)
    (J : Nat → (Str → Option Value) → List Fact → Prop) (h0 : J 0 m X) (hJ : ∀ i m' X', J i m' X' → ∀ y ∈ X', ∃ z ∈ X, y.1 = z.1)
    (turn : ∀ i v m' X' hB' s', xs[i]? = some v → J i m' X' → Kp hB hB' → (∀ a ∈ mu, hB'.get? a = none) → Sx g s₀ hB' L (upd m' x v) X' s' →
      wpAny (model prog w) A (execs body env) (fun f s'' => f = .next ∧ ∃ m'' X'', J (i + 1) m'' X'' ∧ Sx g s₀ hB' L m'' X'' s'') (fun _ _ => False) s')
    (k : ∀ m' X' s', J xs.size m' X' → Sx g s₀ hB L m' X' s' → Q .next s') (hL : env.locals = L := by rfl)
    (hl : env.kindOf x = some .local := by rfl) (hp : (env.scope.kind == .class || (env.scope.kind == .module && env.locals != env.globals)) = false := by rfl)
    (hs : ∀ x, foldedSetIterable iter env x = pure x := by intro _; rfl) :
    wpAny (model prog w) A (exec (.For (.Name x px) iter body [] pos) env) Q E s := by
  refine wpAny_For (he.run S.cx fun v Y s₁ hv hf hr hx c₁ => ?_) hs
  obtain ⟨ax, rfl, rfl⟩ := hv
  have hfr : s.heap.get? ax = none := hr _ (.head _)
  have hoff : ax ≠ L := S.cx.newOff hr _ (.head _)
  have S₁ : Sx g s₀ hB L m X s₁ := (S.grow hx hf hr).less fun y hy => List.mem_append_right _ hy
  obtain ⟨oa, hoa, n, rfl⟩ := hf _ (.head _)
  have hla : s₁.heap.IsList ax xs := ⟨_, hoa, rfl, n, rfl⟩
  refine wpAny_pyIter_list hla ?_
  have hne : ∀ a, s₁.heap.get? a ≠ none → a ≠ s₁.heap.objs.size := fun a ha e => ha (e ▸ size_none _)
  have hXn : ∀ z ∈ X, s₁.heap.get? z.1 ≠ none := fun z hz => by
    obtain ⟨o, ho, _⟩ := S₁.cx.facts z hz
    rw [ho]; nofun
  have S₂ : Sx g s₀ hB L m X { s₁ with heap := s₁.heap.push { cls := .type "list_iterator", data := .fields #[.ref ax, .int 0 0] } } := S₁.up (Ex.of (tk := s₁.toks) (Kp.push _ _) (Nat.le_refl _))
  refine codeAny_mono (R := fun r s' => match r with | .ok f => Q f s' | .error _ => False) (loop_name (Walks.list hh s₁.heap.objs.size ax (hne _ (by show s₁.heap.get? ax ≠ none; rw [hoa]; nofun)) xs) S₂
    ⟨⟨_, Heap.get?_push_size _ rfl, rfl, rfl⟩, hla.push _⟩ (mu := mu) ?_ (fun a ha => (hmut a ha).1) ?_ J h0 hJ ?_ (fun m' X' s' hj S' => k m' X' s' hj S') hL hl hp) fun r s' hr => ?_
  · intro b hb
    rcases List.mem_cons.mp hb with rfl | hb
    · exact ⟨(hne L (S₁.cx.hasL)).symm, fun hm => (hne _ (by
        cases q : s.heap.get? s₁.heap.objs.size with
        | none => exact absurd q (hmut _ hm).2
        | some o => rw [hx.keep _ _ q]; nofun)) rfl⟩
    · rw [List.mem_singleton.mp hb]
      exact ⟨hoff, fun hm => (hmut _ hm).2 hfr⟩
  · intro b hb
    rw [List.mem_singleton.mp hb]
    exact ⟨S₁.cx.base.none (size_none _), fun z hz => hne _ (hXn z hz)⟩
  · intro i v m' X' hB' s' _ hi hj hk hm S'
    exact turn i v m' X' hB' s' hi hj hk hm S'
  · cases r with
    | ok f => exact hr
    | error e => exact hr.elim
end
abbrev lastP : Str := "(\")\\\"&lt;\")a"
theorem lastP_ok : lastP.length = 12 ∧ PyData.strOk lastP = true := by decide +kernel
section
variable {prog : Program} {w : World} {A : Around} {s₀ : Shared} {m : Str → Option Value} {X : List Fact} {s : Shared}
/-- one piece -/
theorem law_piece {ad : Ad} {mg mb : Str → Option Value} {g : Bool} {hB : Heap} {ps : Array Value} {n : Nat} {tn : Tok} {P L a : Addr} {cd : Value} (M : Md ad mg mb hB) (hp : m "pieces" = some (.ref P)) (hP : (P, isT ps) ∈ X) (hps : StrsAre ps.toList piecesL)
    (hx : m "x" = some (.int (n : Nat) tn)) (hn : n < 1000000) {p1 p2 p3 p4 p5 p6 p7 p8 p9 q1 q2 q3 q4 q5 q6 q7 q8 q9 q10 : Pos} :
    Pu prog w A g hB L m X (eval (.IfExp (.Compare (.BinOp (.Name "x" p1) .Mod (.Constant (.int 11) 0 p2) p3) [.Lt] [.Constant (.int 10) 0 p4] p5)
      (.Subscript (.Name "pieces" p6) (.BinOp (.Name "x" p7) .Mod (.Constant (.int 11) 0 p8) p9) q1)
      (.Call (.Name "chr" q2) [.BinOp (.Constant (.int 32) 0 q3) .Add (.BinOp (.BinOp (.Name "x" q4) .FloorDiv (.Constant (.int 11) 0 q5) q6) .Mod (.Constant (.int 300) 0 q7) q8) q9] [] q10) q1) (lawEnv L a cd)) (VS (pieceF n)) := by
  have hmod : ∀ {k1 k2 k3 : Pos}, Pu prog w A g hB L m X (eval (.BinOp (.Name "x" k1) .Mod (.Constant (.int 11) 0 k2) k3) (lawEnv L a cd)) (VI ((n % 11 : Nat) : Int)) := fun {k1 k2 k3} => by
    refine pu_BinOp (Φ₁ := VI (n : Nat)) (Φ₂ := VI 11) (pu_localI hx) pu_int fun a b Y Z p q => ?_
    obtain ⟨⟨t1, rfl⟩, rfl⟩ := p
    obtain ⟨⟨t2, rfl⟩, rfl⟩ := q
    rw [← nat_fmod]
    exact op_mod_int (by decide)
  refine pu_IfExp (b := decide (n % 11 < 10)) (pu_isTrue_Compare (Φ₁ := VI ((n % 11 : Nat) : Int)) (Φ₂ := VI 10) hmod pu_int fun a b Y Z p q => ?_) (fun h => ?_) fun h => ?_
  · obtain ⟨⟨t1, rfl⟩, rfl⟩ := p
    obtain ⟨⟨t2, rfl⟩, rfl⟩ := q
    refine op_lt_int.mono fun v Y h => ?_
    obtain ⟨rfl, rfl⟩ := h
    refine ⟨?_, rfl⟩
    congr 1
    rw [decide_eq_decide]
    omega
  · have h := of_decide_eq_true h
    have hl := StrsAre.len hps
    rw [Array.length_toList] at hl
    have hl : ps.size = 10 := hl
    obtain ⟨y, t, e1, e2⟩ := StrsAre.nthS hps (i := n % 11) (v := ps[n % 11]'(by omega)) (by rw [Array.getElem?_toList]; exact Array.getElem?_eq_getElem (by omega))
    have e3 : pieceF n = y := by
      rw [pieceF, if_pos h, List.getD_eq_getElem?_getD, e2]; rfl
    rw [e3]
    refine Pu.mono (Φ := Is (.str y t)) (pu_item_tuple (T := P) (xs := ps) (k := n % 11) (pu_local hp) hP hmod (by rw [Array.getElem?_eq_getElem (by omega), e1]) (by omega)) fun _ _ => Is.toS
  · have h := of_decide_eq_false h
    have e3 : pieceF n = ⟨#[32 + n / 11 % 300]⟩ := by rw [pieceF, if_neg h]
    rw [e3]
    refine pu_Call_builtin rfl (pu_builtin M.W M.g_chr M.b_chr) (pu_spl_cons (Φ := VI ((32 + n / 11 % 300 : Nat) : Int)) (pu_BinOp (Φ₁ := VI 32) (Φ₂ := VI ((n / 11 % 300 : Nat) : Int)) pu_int (pu_BinOp (Φ₁ := VI ((n / 11 : Nat) : Int)) (Φ₂ := VI 300)
      (pu_BinOp (Φ₁ := VI (n : Nat)) (Φ₂ := VI 11) (pu_localI hx) pu_int fun a b Y Z p q => ?_) pu_int fun a b Y Z p q => ?_) fun a b Y Z p q => ?_) pu_spl_nil) fun vs Y p => ?_
    · obtain ⟨⟨t1, rfl⟩, rfl⟩ := p
      obtain ⟨⟨t2, rfl⟩, rfl⟩ := q
      rw [← nat_fdiv]
      exact op_floordiv (by decide) (by rw [Int.natAbs_natCast]; omega) (by decide)
    · obtain ⟨⟨t1, rfl⟩, rfl⟩ := p
      obtain ⟨⟨t2, rfl⟩, rfl⟩ := q
      rw [← nat_fmod]
      exact op_mod_int (by decide)
    · obtain ⟨⟨t1, rfl⟩, rfl⟩ := p
      obtain ⟨⟨t2, rfl⟩, rfl⟩ := q
      rw [Int.natCast_add]
      exact op_add_int
    · obtain ⟨v, vs', Y₁, Y₂, rfl, rfl, ⟨⟨t1, rfl⟩, rfl⟩, rfl, rfl⟩ := p
      exact (op_chr (n := 32 + n / 11 % 300) rfl (by have := Nat.mod_lt (n / 11) (show 0 < 300 by decide); omega)).mono fun _ _ h => Of.new h
end

section
variable {prog : Program} {w : World} {A : Around} {s₀ : Shared} {m : Str → Option Value} {X : List Fact} {s : Shared}
theorem law_text {ad : Ad} {mg mb : Str → Option Value} {ys ps xs : Array Value} {sn : List Nat} {t tf : Tok} {first : Nat} {D P la L a : Addr} {cd : Value}
    (M : Md ad mg mb s₀.heap) (r : Rm A 6) (S : Sx true s₀ s₀.heap L m ((L + 1 + 1, isC (.str Str.empty t)) :: (L + 1 + 1 + 1, isCo none) :: X) s)
    (hLt : s₀.heap.get? (L + 1 + 1) = none) (hLe : s₀.heap.get? (L + 1 + 1 + 1) = none) (hXt : ∀ y ∈ X, y.1 ≠ L + 1 + 1) (hXe : ∀ y ∈ X, y.1 ≠ L + 1 + 1 + 1)
    (hs : m "seeds" = some (.ref D)) (hD : (D, isL ys) ∈ X) (hys : IntsAre ys.toList (sn.map Int.ofNat)) (hsl : sn.length ≤ 8) (hsn : ∀ n ∈ sn, n < 1000000)
    (hp : m "pieces" = some (.ref P)) (hP : (P, isT ps) ∈ X) (hps : StrsAre ps.toList piecesL)
    (hm : m "script" = some (.ref la)) (hla : (la, isL xs) ∈ X) (hxz : xs.size ≤ 1000) (hf : (L + 1, isC (.int (first : Nat) tf)) ∈ X) (hfl : first < 1000000) :
    wpAny (model prog w) A (execs ((bdOf (stAt 14)).drop 4) (lawEnv L a cd)) (Ends true s₀ (VB true)) NoE s := by
  have hls : (2000000 : Nat) ≤ sizeLine := by decide
  have hne : L + 1 + 1 + 1 ≠ L + 1 + 1 := Nat.succ_ne_self _
  have hyz : ys.size = sn.length := by
    have := IntsAre.lenN hys
    rw [Array.length_toList] at this
    exact this
  have hXt' : ∀ y ∈ ((L + 1 + 1 + 1, isCo none) : Fact) :: X, y.1 ≠ L + 1 + 1 := fun y hy => by
    rcases List.mem_cons.mp hy with rfl | hy
    · exact hne
    · exact hXt y hy
  refine wpAny_execs_cons (x_for_listV (mu := [L + 1 + 1]) (xs := (ys.toList.drop 1).toArray) r.hd S ?_ (fun b hb => ?_)
    (fun i m' X' => ∃ x t', x.length ≤ 4 * i ∧ PyData.strOk x = true ∧ m' "pieces" = some (.ref P) ∧ m' "script" = some (.ref la) ∧ X' = (L + 1 + 1, isC (.str x t')) :: (L + 1 + 1 + 1, isCo none) :: X)
    ⟨Str.empty, t, Nat.le_refl _, by decide +kernel, hp, hm, rfl⟩ ?_ ?_ ?_)
  · rw [← pick_from]
    exact pu_slice_list (l := D) (pu_local hs) (.tail _ (.tail _ hD)) (pu_part_some (i := ((1 : Nat) : Int)) pu_int) pu_part_none (by omega)
  · rw [List.mem_singleton.mp hb]
    refine ⟨hLt, ?_⟩
    obtain ⟨o, ho, _⟩ := S.cx.facts _ (.head _)
    rw [ho]; nofun
  · rintro i m' X' ⟨x, t', _, _, _, _, rfl⟩ y hy
    rcases List.mem_cons.mp hy with rfl | hy
    · exact ⟨_, .head _, rfl⟩
    · exact ⟨y, .tail _ hy, rfl⟩
  · rintro i v m' X' hB' s₁ hi ⟨x, t', hxl, hxo, hp', hm', rfl⟩ hkB hmu S₁
    have hi' : ys.toList[1 + i]? = some v := by
      rw [List.getElem?_toArray, List.getElem?_drop] at hi
      exact hi
    obtain ⟨n, hn⟩ : ∃ n, sn[1 + i]? = some n := by
      have : 1 + i < ys.toList.length := (List.getElem?_eq_some_iff.mp hi').1
      rw [Array.length_toList] at this
      exact ⟨_, List.getElem?_eq_getElem (by omega)⟩
    obtain ⟨u, hu⟩ := IntsAre.nthN hys hn
    rw [hi'] at hu
    obtain rfl := Option.some.inj hu
    have hnl := hsn n (List.mem_of_getElem? hn)
    have hi8 : i < 8 := by
      have := (List.getElem?_eq_some_iff.mp hn).1
      omega
    have hpo := piece_ok n
    refine wpAny_execs_cons (x_augC (v0 := .str x t') (Φ := VS (pieceF n)) (Ψ := VS (x ++ pieceF n)) S₁ (hmu _ (.head _)) hXt' (law_piece (P := P) (ps := ps) (n := n) (tn := u) (M.keep hkB) ?_ (.tail _ (.tail _ hP)) hps ?_ hnl)
      (fun b Y p => ?_) (fun v Z h => h.2) (fun v s₂ pv S₂ => wpAny_execs_nil ?_) rfl)
    · exact hp'
    · exact if_pos rfl
    · obtain ⟨⟨t2, rfl⟩, rfl⟩ := p
      exact op_iadd_str (by omega)
    · obtain ⟨⟨t2, rfl⟩, _⟩ := pv
      exact ⟨rfl, upd m' "x" (.int (Int.ofNat n) u), _, ⟨x ++ pieceF n, t2, by rw [Str.length_append]; omega, strOk_app hxo hpo.2, hp', hm', rfl⟩, S₂⟩
  · rintro m' X' s₁ ⟨x, t', hxl, hxo, hp', hm', rfl⟩ S₁
    have hsz : (ys.toList.drop 1).toArray.size ≤ 7 := by
      rw [List.size_toArray, List.length_drop, Array.length_toList]
      omega
    have hlp := lastP_ok
    obtain ⟨e, p, p', pos, hst, he⟩ : ∃ e p p' pos, (bdOf (stAt 14)).drop 5 = .AugAssign (.Name "text" p) .Add e pos :: (bdOf (stAt 14)).drop 6 ∧ e = .Constant (.str lastP) 0 p' := ⟨_, _, _, _, rfl, rfl⟩
    have hpu : Pu prog w A true s₀.heap L m' ((L + 1 + 1, isC (.str x t')) :: (L + 1 + 1 + 1, isCo none) :: X) (eval e (lawEnv L a cd)) (VS lastP) := by rw [he]; exact pu_str
    clear he
    show wpAny (model prog w) A (execs ((bdOf (stAt 14)).drop 5) (lawEnv L a cd)) _ _ _
    rw [hst]
    generalize lastP = lp at hpu hlp
    refine wpAny_execs_cons (x_augC (v0 := .str x t') (Φ := VS lp) (Ψ := VS (x ++ lp)) S₁ hLt hXt' hpu (fun b Y p => ?_) (fun v Z h => h.2) (fun v s₂ pv S₂ => ?_) rfl)
    · obtain ⟨⟨t2, rfl⟩, rfl⟩ := p
      exact op_iadd_str (by omega)
    · obtain ⟨⟨t2, rfl⟩, _⟩ := pv
      have hl : (x ++ lp).length ≤ 50 := by rw [Str.length_append]; omega
      have ho := strOk_app hxo hlp.2
      generalize x ++ lp = z at S₂ hl ho
      have hX' : ∀ y ∈ ((L + 1 + 1, isC (.str z t2)) : Fact) :: X, y.1 ≠ L + 1 + 1 + 1 := fun y hy => by
        rcases List.mem_cons.mp hy with rfl | hy
        · exact hne.symm
        · exact hXe y hy
      have S₃ : Sx true s₀ s₀.heap L m' ((L + 1 + 1 + 1, isCo none) :: (L + 1 + 1, isC (.str z t2)) :: X) s₂ := S₂.less fun y hy => by
        rcases List.mem_cons.mp hy with rfl | hy
        · exact .tail _ (.head _)
        rcases List.mem_cons.mp hy with rfl | hy
        · exact .head _
        · exact .tail _ (.tail _ hy)
      exact @law_entries prog w A s₀ m' ((L + 1 + 1, isC (.str z t2)) :: X) s₂ ad mg mb z t2 tf first la xs L a cd M r S₃ hLe hX' hm' (.tail _ hla) hxz (.tail _ hf) hfl (.head _) hl ho
end

/-- constants, one by one -/
inductive ConstsAre : List PySem.Expr → List Str → Prop
  | nil : ConstsAre [] []
  | cons (x : Str) (p : Pos) {es xs} : ConstsAre es xs → ConstsAre (.Constant (.str x) 0 p :: es) (x :: xs)
theorem IntsAre.nthV {vs : List Value} {ns : List Int} (h : IntsAre vs ns) : ∀ {i : Nat} {v : Value}, vs[i]? = some v → ∃ n t, v = .int n t ∧ ns[i]? = some n := by
  induction h with
  | nil => intro i v h; simp at h
  | cons n t _ ih =>
    intro i v h
    cases i with
    | zero => simp at h; exact ⟨n, t, h.symm, by simp⟩
    | succ i => simpa using ih (by simpa using h)
section
variable {prog : Program} {w : World} {A : Around} {s₀ : Shared} {m : Str → Option Value} {X : List Fact} {s : Shared}
theorem pu_strs {g : Bool} {hB : Heap} {L : Addr} {env : Env} {es : List PySem.Expr} {xs : List Str} (h : ConstsAre es xs) : Pu prog w A g hB L m X (spliced (es.map fun e => (false, eval e env))) (fun vs Y => StrsAre vs xs ∧ Y = []) := by
  induction h with
  | nil => exact pu_spl_nil.mono fun vs Y ⟨h1, h2⟩ => by subst h1 h2; exact ⟨.nil, rfl⟩
  | cons x p _ ih =>
    refine (pu_spl_cons pu_str ih).mono ?_
    rintro vs Y ⟨v, vs', Y₁, Y₂, rfl, rfl, ⟨⟨t, rfl⟩, rfl⟩, h, rfl⟩
    exact ⟨.cons _ _ h, rfl⟩

theorem law_pieces {ad : Ad} {mg mb : Str → Option Value} {ys xs : Array Value} {sn : List Nat} {tf : Tok} {first : Nat} {D la L a : Addr} {cd : Value}
    (M : Md ad mg mb s₀.heap) (r : Rm A 6) (S : Sx true s₀ s₀.heap L m ((L + 1 + 1, isCo none) :: (L + 1 + 1 + 1, isCo none) :: X) s)
    (hLt : s₀.heap.get? (L + 1 + 1) = none) (hLe : s₀.heap.get? (L + 1 + 1 + 1) = none) (hXt : ∀ y ∈ X, y.1 ≠ L + 1 + 1) (hXe : ∀ y ∈ X, y.1 ≠ L + 1 + 1 + 1)
    (hs : m "seeds" = some (.ref D)) (hD : (D, isL ys) ∈ X) (hys : IntsAre ys.toList (sn.map Int.ofNat)) (hsl : sn.length ≤ 8) (hsn : ∀ n ∈ sn, n < 1000000)
    (hm : m "script" = some (.ref la)) (hla : (la, isL xs) ∈ X) (hxz : xs.size ≤ 1000) (hf : (L + 1, isC (.int (first : Nat) tf)) ∈ X) (hfl : first < 1000000) :
    wpAny (model prog w) A (execs ((bdOf (stAt 14)).drop 2) (lawEnv L a cd)) (Ends true s₀ (VB true)) NoE s := by
  have hls : (2000000 : Nat) ≤ sizeLine := by decide
  have hne : L + 1 + 1 + 1 ≠ L + 1 + 1 := Nat.succ_ne_self _
  obtain ⟨es, p, k, p', pos, hst, ht, hc⟩ : ∃ es p k p' pos, (bdOf (stAt 14)).drop 2 = .Assign [.Name "pieces" p] (.Tuple es k p') pos :: (bdOf (stAt 14)).drop 3 ∧ backTo p' (starEach es (lawEnv L a cd)) = es.map (fun e => (false, eval e (lawEnv L a cd))) ∧ ConstsAre es piecesL :=
    ⟨_, _, _, _, _, rfl, rfl, .cons _ _ (.cons _ _ (.cons _ _ (.cons _ _ (.cons _ _ (.cons _ _ (.cons _ _ (.cons _ _ (.cons _ _ (.cons _ _ .nil)))))))))⟩
  have hpl : piecesL.length = 10 := rfl
  rw [hst]
  refine wpAny_execs_cons (x_assign S (pu_Tuple (Ψ := fun vs Y => StrsAre vs piecesL ∧ Y = []) (by rw [ht]; exact pu_strs hc) ?_) fun v Y s₁ pv hn S₁ => ?_)
  · rintro vs Y ⟨h, _⟩
    have := StrsAre.len h
    omega
  clear hst ht hc
  obtain ⟨P, vs, Y', rfl, ⟨hvs, rfl⟩, rfl⟩ := pv
  have hP := hn _ (.head _)
  obtain ⟨e, p, p', pos, hst, he⟩ : ∃ e p p' pos, (bdOf (stAt 14)).drop 3 = .Assign [.Name "text" p] e pos :: (bdOf (stAt 14)).drop 4 ∧ e = .Constant (.str Str.empty) 0 p' := ⟨_, _, _, _, rfl, rfl⟩
  have S₂ : Sx true s₀ s₀.heap L (upd m "pieces" (.ref P)) ((L + 1 + 1, isCo none) :: (L + 1 + 1 + 1, isCo none) :: (P, isT vs.toArray) :: X) s₁ := S₁.less fun y hy => by
    rcases List.mem_cons.mp hy with rfl | hy
    · exact .tail _ (.head _)
    rcases List.mem_cons.mp hy with rfl | hy
    · exact .tail _ (.tail _ (.head _))
    rcases List.mem_cons.mp hy with rfl | hy
    · exact .head _
    · exact .tail _ (.tail _ (.tail _ hy))
  have hpu : Pu prog w A true s₀.heap L (upd m "pieces" (.ref P)) ((L + 1 + 1, isCo none) :: (L + 1 + 1 + 1, isCo none) :: (P, isT vs.toArray) :: X) (eval e (lawEnv L a cd)) (VS Str.empty) := by rw [he]; exact pu_str
  have hsw : swapsWith e (some (.Name "text" p)) pos.line (lawEnv L a cd) = pure false := by rw [he]; rfl
  clear he
  have hPt : P ≠ L + 1 + 1 := fun e => hP.2 _ (.head _) e.symm
  have hPe : P ≠ L + 1 + 1 + 1 := fun e => hP.2 _ (.tail _ (.head _)) e.symm
  show wpAny (model prog w) A (execs ((bdOf (stAt 14)).drop 3) (lawEnv L a cd)) _ _ _
  rw [hst]
  refine wpAny_execs_cons (x_assignC (v0 := none) (Φ := VS Str.empty) S₂ hLt (fun y hy => ?_) hpu (fun v Y s₂ pv hn₂ S₃ => ?_) rfl rfl rfl hsw)
  · rcases List.mem_cons.mp hy with rfl | hy
    · exact hne
    rcases List.mem_cons.mp hy with rfl | hy
    · exact hPt
    · exact hXt y hy
  · obtain ⟨⟨t, rfl⟩, rfl⟩ := pv
    exact @law_text prog w A s₀ (upd m "pieces" (.ref P)) ((P, isT vs.toArray) :: X) s₂ ad mg mb ys vs.toArray xs sn t tf first D P la L a cd M r S₃ hLt hLe
      (fun y hy => by
        rcases List.mem_cons.mp hy with rfl | hy
        · exact hPt
        · exact hXt y hy)
      (fun y hy => by
        rcases List.mem_cons.mp hy with rfl | hy
        · exact hPe
        · exact hXe y hy) hs (.tail _ hD) hys hsl hsn (if_pos rfl) (.head _) hvs hm (.tail _ hla) hxz (.tail _ hf) hfl
end

/-! ## The way into the law -/
theorem env_one {scope : Scope} {globals builtins : Addr} {n qual : Str} {v code : Value} {func : Option Addr} :
    newFunctionEnv scope globals [] [(n, v)] qual func code none builtins = (newFunctionEnv scope globals [] [] qual func code none builtins >>= fun env => storeName env n v >>= fun _ => pure env) := by
  simp only [newFunctionEnv, bind_assoc, List.forIn_cons, List.forIn_nil, pure_bind]
section
variable {prog : Program} {w : World} {A : Around} {g : Bool} {X : List Fact} {s : Shared}
theorem wp_eq {α : Type} {M : Model} {t t' : Sem α} {Q : α → Shared → Prop} {E : Value → Shared → Prop} (e : t = t') (h : wpAny M A t' Q E s) : wpAny M A t Q E s := e ▸ h
/-- the entry binds the only name, so tokens have grown -/
theorem enter_one {mg mb : Str → Option Value} {st : Stmt} {a : Addr} {nm : Str} {v : Value} {Φ : Value → List Fact → Prop} {n : Nat}
    (hf : FnAt s.heap st a) (W : Wo mg mb s.heap) (r : Rm A (n + 1)) (hX : Facts X s.heap)
    (hbind : ∀ pm cd doc, bindArgs (docDef (nmOf st) (psOf st) (bdOf st) (scOf st) pm cd doc) ⟨[v], []⟩ = pure [(nm, v)])
    (hl : (scOf st).names.lookup nm = some .local) (hnd : ∀ L, ((cellsOf st L).map (·.1)).Nodup)
    (h : ∀ cd s', (∀ p ∈ cellsOf st s.heap.objs.size, s.heap.get? p.2 = none) → (∀ p ∈ cellsOf st s.heap.objs.size, ∀ y ∈ X, y.1 ≠ p.2) →
      Sx g s s.heap s.heap.objs.size (upd (fun _ => none) nm v) (((cellsOf st s.heap.objs.size).map fun p => (p.2, isCo none)) ++ X) s' →
      wpAny (model prog w) (A.deeper (envC st s.heap.objs.size a cd)) (execs (bdOf st) (envC st s.heap.objs.size a cd)) (Ends g s Φ) NoE s')
    (hco : (scOf st).isCoroutine = false := by rfl) (hgen : (scOf st).isGenerator = false := by rfl) (hk : (scOf st).kind = .function := by rfl) : Ret prog w A g (.ref a) [v] Φ s := by
  obtain ⟨o, pm, cd, doc, ho, hd, hc⟩ := hf
  refine wpAny_call (codeAny_call_function (by have := r.dp; omega) ho hd hco hgen rfl hc ?_)
  rw [hbind]
  refine wpAny_pure (wp_eq env_one ?_)
  refine wpAny_bind (wpAny_with_toks (Nat.le_refl s.toks) (wpAny_newFunctionEnv_cells (binds := []) hk (fun _ hx => nomatch hx) fun env he s₁ X₁ htk => ?_))
  obtain ⟨h₁, tk, rfl⟩ := X₁.toInCall.same
  subst he
  refine wpAny_bind (wpAny_storeName_local hl X₁.toInCall.ns (fun h' hn' hs' => wpAny_pure ?_) (by show ((scOf st).kind == .class || ((scOf st).kind == .module && _)) = false; rw [hk]; rfl))
  have hkeep : Kp s.heap h' := fun b o e => hs'.extBut b o (Nat.ne_of_lt (Heap.lt_size e)) (X₁.toInCall.keep b o e)
  refine ⟨W.lim.keeps hkeep, ?_⟩
  show codeAny _ _ (.func (bdOf st) (envC st s.heap.objs.size a cd)) _ _
  have hcf : ∀ p ∈ cellsOf st s.heap.objs.size, s.heap.get? p.2 = none := fun p hp => by
    have := X₁.above p.1 p.2 hp
    cases q : s.heap.get? p.2 with
    | none => rfl
    | some o => exact absurd (Heap.lt_size q) (Nat.not_lt.mpr (Nat.le_of_lt this))
  have hlook : ∀ p ∈ cellsOf st s.heap.objs.size, (cellsOf st s.heap.objs.size).lookup p.1 = some p.2 := fun p hp => by
    have key : ∀ (l : List (Str × Addr)), (l.map (·.1)).Nodup → p ∈ l → l.lookup p.1 = some p.2 := by
      intro l
      induction l with
      | nil => intro _ h; cases h
      | cons q r ih =>
        intro hn hm
        rw [List.map_cons, List.nodup_cons] at hn
        rcases List.mem_cons.mp hm with rfl | hm'
        · obtain ⟨a, b⟩ := p
          simp [List.lookup]
        · have : (p.1 == q.1) = false := beq_eq_false_iff_ne.mpr fun e => hn.1 (by rw [← e]; exact List.mem_map.mpr ⟨p, hm', rfl⟩)
          have hq : q = (q.1, q.2) := rfl
          rw [hq, List.lookup_cons, this]
          exact ih hn.2 hm'
    exact key _ (hnd _) hp
  have hLc : ∀ p ∈ cellsOf st s.heap.objs.size, p.2 ≠ s.heap.objs.size := fun p hp e => absurd (X₁.above p.1 p.2 hp) (by rw [e]; exact Nat.lt_irrefl _)
  refine codeAny_func (wpAny_mono (h cd _ hcf (fun p hp y hy e => ?_) ⟨⟨hn', hkeep, Facts.append ?_ (hX.keep hkeep), Nat.le_add_left 1 tk⟩, .of (Nat.le_succ_of_le htk), size_none _, fun x hx e => ?_⟩) (fun f s' h' => ?_) fun _ _ e => e.elim)
  · obtain ⟨o', ho', _⟩ := hX y hy
    rw [e, hcf p hp] at ho'; cases ho'
  · intro x hx
    obtain ⟨p, hp, rfl⟩ := List.mem_map.mp hx
    obtain ⟨o', ho', hd'⟩ := X₁.cell p.1 p.2 (hlook p hp)
    exact ⟨o', hs'.extBut _ _ (hLc p hp) ho', hd'⟩
  · rcases List.mem_append.mp hx with hx | hx
    · obtain ⟨p, hp, rfl⟩ := List.mem_map.mp hx
      exact hLc p hp e
    · obtain ⟨o', ho', _⟩ := hX x hx
      rw [e, size_none] at ho'; cases ho'
  · obtain ⟨v, rfl, q⟩ := h'
    exact q
end

section
variable {prog : Program} {w : World} {A : Around} {s₀ : Shared} {m : Str → Option Value} {X : List Fact} {s : Shared}
theorem law_first {ad : Ad} {mg mb : Str → Option Value} {ys xs : Array Value} {sn : List Nat} {D la L a : Addr} {cd : Value}
    (M : Md ad mg mb s₀.heap) (r : Rm A 6) (S : Sx true s₀ s₀.heap L m ((L + 1, isCo none) :: (L + 1 + 1, isCo none) :: (L + 1 + 1 + 1, isCo none) :: X) s)
    (hLf : s₀.heap.get? (L + 1) = none) (hLt : s₀.heap.get? (L + 1 + 1) = none) (hLe : s₀.heap.get? (L + 1 + 1 + 1) = none) (hXf : ∀ y ∈ X, y.1 ≠ L + 1) (hXt : ∀ y ∈ X, y.1 ≠ L + 1 + 1) (hXe : ∀ y ∈ X, y.1 ≠ L + 1 + 1 + 1)
    (hs : m "seeds" = some (.ref D)) (hD : (D, isL ys) ∈ X) (hys : IntsAre ys.toList (sn.map Int.ofNat)) (hsl : sn.length ≤ 8) (hsn : ∀ n ∈ sn, n < 1000000)
    (hm : m "script" = some (.ref la)) (hla : (la, isL xs) ∈ X) (hxz : xs.size ≤ 1000) :
    wpAny (model prog w) A (execs ((bdOf (stAt 14)).drop 1) (lawEnv L a cd)) (Ends true s₀ (VB true)) NoE s := by
  have hls : (2000000 : Nat) ≤ sizeLine := by decide
  have hun : A.units + 64 < cLine := by have := r.un; omega
  obtain ⟨n, hn, hnl⟩ : ∃ n : Nat, n = sn.headD 2 ∧ n < 1000000 := ⟨_, rfl, by
    cases sn with
    | nil => show (2 : Nat) < 1000000; decide
    | cons c r => exact hsn c (.head _)⟩
  have hy0 : sn ≠ [] → ∃ t, ys[0]? = some (.int (n : Nat) t) := fun h => by
    cases sn with
    | nil => exact absurd rfl h
    | cons c r =>
      obtain ⟨t, ht⟩ := IntsAre.nthN hys (i := 0) (n := c) rfl
      rw [Array.getElem?_toList] at ht
      exact ⟨t, by rw [ht, hn]; rfl⟩
  have hn2 : sn = [] → n = 2 := fun h => by rw [hn, h]; rfl
  clear hn
  refine wpAny_execs_cons (x_assignC (v0 := none) (Φ := VI (n : Nat)) S hLf (fun y hy => ?_) (pu_IfExp (b := !decide (sn.map Int.ofNat = [])) (pu_isTrue_Compare (Φ₁ := Is (.ref D)) (Φ₂ := VL #[]) (pu_local hs) pu_List_nil fun a b Y Z p q => ?_) (fun h => ?_) fun h => ?_) (fun v Y s₁ pv hn₁ S₁ => ?_) rfl)
  · rcases List.mem_cons.mp hy with rfl | hy
    · exact Nat.succ_ne_self _
    rcases List.mem_cons.mp hy with rfl | hy
    · exact Nat.ne_of_gt (Nat.lt_succ_of_lt (Nat.lt_succ_self _))
    · exact hXf y hy
  · obtain ⟨rfl, rfl⟩ := p
    obtain ⟨D', rfl, rfl⟩ := q
    exact op_ne_ints (.tail _ (.tail _ (.tail _ (.tail _ hD)))) (.head _) hys .nil hun
  · have hne : sn ≠ [] := fun e => by subst e; simp at h
    obtain ⟨t, ht⟩ := hy0 hne
    exact Pu.mono (Φ := Is (.int (n : Nat) t)) (pu_item_list (l := D) (xs := ys) (k := 0) (pu_local hs) (.tail _ (.tail _ (.tail _ hD))) pu_int ht (by omega)) fun _ _ => Is.toI
  · have he : sn = [] := by simpa using h
    have h2 := hn2 he
    subst h2
    exact pu_int
  · obtain ⟨⟨t, rfl⟩, rfl⟩ := pv
    have S₂ : Sx true s₀ s₀.heap L m ((L + 1 + 1, isCo none) :: (L + 1 + 1 + 1, isCo none) :: (L + 1, isC (.int (n : Nat) t)) :: X) s₁ := S₁.less fun y hy => by
      rcases List.mem_cons.mp hy with rfl | hy
      · exact .tail _ (.head _)
      rcases List.mem_cons.mp hy with rfl | hy
      · exact .tail _ (.tail _ (.head _))
      rcases List.mem_cons.mp hy with rfl | hy
      · exact .head _
      · exact .tail _ (.tail _ (.tail _ hy))
    exact @law_pieces prog w A s₀ m ((L + 1, isC (.int (n : Nat) t)) :: X) s₁ ad mg mb ys xs sn t n D la L a cd M r S₂ hLt hLe
      (fun y hy => by
        rcases List.mem_cons.mp hy with rfl | hy
        · exact Nat.ne_of_lt (Nat.lt_succ_self _)
        · exact hXt y hy)
      (fun y hy => by
        rcases List.mem_cons.mp hy with rfl | hy
        · exact Nat.ne_of_lt (Nat.lt_succ_of_lt (Nat.lt_succ_self _))
        · exact hXe y hy) hs (.tail _ hD) hys hsl hsn hm (.tail _ hla) hxz (.head _) hnl

theorem spec_law {ad : Ad} {mg mb : Str → Option Value} {la a : Addr} {xs : Array Value} {ns : List Int} (hf : FnAt s.heap (stAt 14) a) (M : Md ad mg mb s.heap) (r : Rm A 7)
    (hd : Facts [(la, isL xs)] s.heap) (hxs : IntsAre xs.toList ns) (hn : ns.length ≤ 63) : Ret prog w A true (.ref a) [.ref la] (VB true) s := by
  refine enter_one (X := [(la, isL xs)]) (nm := "script") hf M.W r hd (fun _ _ _ => rfl) rfl (fun L => by show [("entries" : Str), "text", "first"].Nodup; decide) fun cd s₁ hc hcX S₁ => ?_
  generalize hLe : s.heap.objs.size = L at hc hcX S₁ ⊢
  have rd : Rm (A.deeper (lawEnv L a cd)) 6 := r.deeper
  obtain ⟨m, hm, S₁⟩ : ∃ m : Str → Option Value, m "script" = some (.ref la) ∧ Sx true s s.heap L m [(L + 1 + 1 + 1, isCo none), (L + 1 + 1, isCo none), (L + 1, isCo none), (la, isL xs)] s₁ := ⟨_, if_pos rfl, S₁⟩
  have hls : (2000000 : Nat) ≤ sizeLine := by decide
  have hxz : xs.size = ns.length := by
    have := hxs.length
    rw [Array.length_toList] at this
    exact this
  have cX : ∀ c, (∃ x, (x, c) ∈ cellsOf (stAt 14) L) → la ≠ c := fun c ⟨x, hx⟩ => hcX _ hx (la, isL xs) (.head _)
  have c1 : s.heap.get? (L + 1) = none := hc ("first", L + 1) (.tail _ (.tail _ (.head _)))
  have c2 : s.heap.get? (L + 1 + 1) = none := hc ("text", L + 1 + 1) (.tail _ (.head _))
  have c3 : s.heap.get? (L + 1 + 1 + 1) = none := hc ("entries", L + 1 + 1 + 1) (.head _)
  have d1 : la ≠ L + 1 := cX _ ⟨"first", .tail _ (.tail _ (.head _))⟩
  have d2 : la ≠ L + 1 + 1 := cX _ ⟨"text", .tail _ (.head _)⟩
  have d3 : la ≠ L + 1 + 1 + 1 := cX _ ⟨"entries", .head _⟩
  clear hc hcX cX
  generalize hA : A.deeper (lawEnv L a cd) = A' at rd
  have hsl := seedsN_length ns
  have hsz : (xs.toList.take 8).toArray.size = (seedsN ns).length := by
    unfold seedsN
    rw [List.size_toArray, List.length_map, List.length_take, List.length_take, Array.length_toList, hxz]
  refine wpAny_execs_cons (x_assign_comp (n := (xs.toList.take 8).toArray.size) (G := fun i ys Z => Z = [] ∧ IntsAre ys (((seedsN ns).take i).map Int.ofNat)) (Φ := VL (xs.toList.take 8).toArray) S₁ ?_ ?_ ⟨rfl, .nil⟩ (by omega) fun D ys Z s₂ hg hn₂ S₂ => ?_)
  · rw [← pick_upto]
    exact pu_slice_list (l := la) (pu_local hm) (.tail _ (.tail _ (.tail _ (.head _)))) pu_part_none (pu_part_some (i := ((8 : Nat) : Int)) pu_int) (by omega)
  · intro v Y s₂ pv c₂
    obtain ⟨D8, rfl, rfl⟩ := pv
    refine src_list rd.hd c₂.facts (.head _) fun C I hC hI => turn_name ?_ (fun i v ys Z mC hi hP hg hk => ?_) rfl rfl rfl
    · rintro i ys Z ⟨_, h⟩
      have := h.length
      rw [List.length_map] at this
      rw [this]
      exact List.length_take_le ..
    · obtain ⟨rfl, hys⟩ := hg
      rw [List.getElem?_toArray, List.getElem?_take] at hP
      split at hP
      · rename_i h8
        obtain ⟨n, t, rfl, hni⟩ := IntsAre.nthV hxs hP
        have hsi : (seedsN ns)[i]? = some (n.fmod 1000000).toNat := by
          unfold seedsN
          rw [List.getElem?_map, List.getElem?_take, if_pos h8, hni]; rfl
        refine ⟨true, pu_tests_nil, (fun hb => nomatch hb), fun _ => ⟨VI (n.fmod 1000000), pu_BinOp (Φ₁ := VI n) (Φ₂ := VI 1000000) (pu_localI hk) pu_int fun a b Y Z p q => ?_, fun y V p => ?_⟩⟩
        · obtain ⟨⟨t1, rfl⟩, rfl⟩ := p
          obtain ⟨⟨t2, rfl⟩, rfl⟩ := q
          exact op_mod_int (by decide)
        · obtain ⟨⟨t1, rfl⟩, rfl⟩ := p
          refine ⟨rfl, ?_⟩
          rw [List.take_add_one, hsi, fmod_nat]
          exact IntsAre.snocN hys _ _
      · cases hP
  obtain ⟨rfl, hys⟩ := hg
  have hD := hn₂ _ (.head _)
  rw [hsz, List.take_length] at hys
  have S₃ : Sx true s s.heap L (upd m "seeds" (.ref D)) ((L + 1, isCo none) :: (L + 1 + 1, isCo none) :: (L + 1 + 1 + 1, isCo none) :: [(D, isL ys.toArray), (la, isL xs)]) s₂ := S₂.less fun y hy => by
    rcases List.mem_cons.mp hy with rfl | hy
    · exact .tail _ (.tail _ (.tail _ (.head _)))
    rcases List.mem_cons.mp hy with rfl | hy
    · exact .tail _ (.tail _ (.head _))
    rcases List.mem_cons.mp hy with rfl | hy
    · exact .tail _ (.head _)
    rcases List.mem_cons.mp hy with rfl | hy
    · exact .head _
    · rw [List.mem_singleton.mp hy]
      exact .tail _ (.tail _ (.tail _ (.tail _ (.head _))))
  have off : ∀ c, D ≠ c → la ≠ c → ∀ y ∈ [((D, isL ys.toArray) : Fact), (la, isL xs)], y.1 ≠ c := fun c h1 h2 y hy => by
    rcases List.mem_cons.mp hy with rfl | hy
    · exact h1
    · rw [List.mem_singleton.mp hy]; exact h2
  exact @law_first prog w A' s (upd m "seeds" (.ref D)) [(D, isL ys.toArray), (la, isL xs)] s₂ ad mg mb ys.toArray xs (seedsN ns) D la L a cd M rd S₃ c1 c2 c3
    (off _ (fun e => hD.2 _ (.tail _ (.tail _ (.head _))) e.symm) d1) (off _ (fun e => hD.2 _ (.tail _ (.head _)) e.symm) d2) (off _ (fun e => hD.2 _ (.head _) e.symm) d3) (if_pos rfl) (.head _) hys hsl (seedsN_lt ns) hm (.tail _ (.head _)) (by omega)
end

open_top hd for PySem.Challenge.rw_ij0157_01

/-! ## The way from the law's opening to its walk -/
theorem well_list {P : Params} {h : Heap} {l : Addr} {xs : List WData} (w : Well P h (.ref l) (.list xs)) : ∃ vs, h.get? l = some { cls := .type "list", data := .seq vs } := by
  cases w
  exact ⟨_, by assumption⟩
end Mine

theorem PySem.Challenge.cw_ij0157_01_holds : PySem.Challenge.rw_ij0157_01.Holds := by
  refine Mine.hd ?_
  k_fill
  intro w s₀ s₁ mg mb G Y fa o pm cd doc dV kV ho hd hcd hD hmg hg args vals as hpre hlay hrd hwl hlo
  have KX := kIn_of Y
  wrow_args hpre hlay hrd hwl hlo
  clear ho hd hcd hD
  rename_i ns _ _ _ _ _ _ _ l xs _ hL _ w1 _ hI _ hn _
  have e94 : mg "law" = some (.ref 94) := mg_of KX G.T.g (by k_is)
  have efa : fa = 94 := by
    have e := (show mg "law" = some (.ref fa) from hmg).symm.trans e94
    injection e with e
    injection e
  subst efa
  clear hmg
  have a1 := KX 21 _ (by k_is)
  have c1 := KX 20 _ (by k_is)
  have a2 := KX 28 _ (by k_is)
  have c2 := KX 27 _ (by k_is)
  have a3 := KX 35 _ (by k_is)
  have c3 := KX 34 _ (by k_is)
  have a4 := KX 42 _ (by k_is)
  have c4 := KX 41 _ (by k_is)
  have a6 := KX 49 _ (by k_is)
  have c6 := KX 48 _ (by k_is)
  have a7 := KX 58 _ (by k_is)
  have c7 := KX 57 _ (by k_is)
  have t7 := KX 51 _ (by k_is)
  have d7 := KX 50 _ (by k_is)
  have a8 := KX 67 _ (by k_is)
  have c8 := KX 66 _ (by k_is)
  have t8 := KX 60 _ (by k_is)
  have d8 := KX 59 _ (by k_is)
  have a10 := KX 74 _ (by k_is)
  have c10 := KX 73 _ (by k_is)
  have a11 := KX 79 _ (by k_is)
  have c11 := KX 78 _ (by k_is)
  have a12 := KX 84 _ (by k_is)
  have c12 := KX 83 _ (by k_is)
  have a13 := KX 89 _ (by k_is)
  have c13 := KX 88 _ (by k_is)
  have a14 := KX 94 _ (by k_is)
  have c14 := KX 93 _ (by k_is)
  have M : Mine.Md ⟨21, 28, 35, 42, 49, 58, 67, 74, 79, 84, 89⟩ mg mb s₁.heap := {
    W := ⟨G.T.g, G.T.b, G.T.nolimit⟩
    fit := ⟨_, _, _, _, a1, rfl, 20, _, _, _, rfl, c1, rfl, rfl⟩
    fst := ⟨_, _, _, _, a2, rfl, 27, _, _, _, rfl, c2, rfl, rfl⟩
    fck := ⟨_, _, _, _, a3, rfl, 34, _, _, _, rfl, c3, rfl, rfl⟩
    fpp := ⟨_, _, _, _, a4, rfl, 41, _, _, _, rfl, c4, rfl, rfl⟩
    frp := ⟨_, _, _, _, a6, rfl, 48, _, _, _, rfl, c6, rfl, rfl⟩
    fes := ⟨_, _, _, _, 51, 50, _, _, _, a7, rfl, ⟨57, _, _, _, rfl, c7, rfl, rfl⟩, t7, rfl, d7, by decide⟩
    fun' := ⟨_, _, _, _, 60, 59, _, _, _, a8, rfl, ⟨66, _, _, _, rfl, c8, rfl, rfl⟩, t8, rfl, d8, by decide⟩
    fba := ⟨_, _, _, _, a10, rfl, 73, _, _, _, rfl, c10, rfl, rfl⟩
    fpl := ⟨_, _, _, _, a11, rfl, 78, _, _, _, rfl, c11, rfl, rfl⟩
    fta := ⟨_, _, _, _, a12, rfl, 83, _, _, _, rfl, c12, rfl, rfl⟩
    fwr := ⟨_, _, _, _, a13, rfl, 88, _, _, _, rfl, c13, rfl, rfl⟩
    nit := mg_of KX G.T.g (by k_is)
    nst := mg_of KX G.T.g (by k_is)
    nck := mg_of KX G.T.g (by k_is)
    npp := mg_of KX G.T.g (by k_is)
    nrp := mg_of KX G.T.g (by k_is)
    nes := mg_of KX G.T.g (by k_is)
    nun := mg_of KX G.T.g (by k_is)
    nba := mg_of KX G.T.g (by k_is)
    npl := mg_of KX G.T.g (by k_is)
    nta := mg_of KX G.T.g (by k_is)
    nwr := mg_of KX G.T.g (by k_is)
    g_enumerate := mg_none_of KX G.T.g (by k_is)
    g_len := mg_none_of KX G.T.g (by k_is)
    g_range := mg_none_of KX G.T.g (by k_is)
    g_list := mg_none_of KX G.T.g (by k_is)
    g_dict := mg_none_of KX G.T.g (by k_is)
    g_chr := mg_none_of KX G.T.g (by k_is)
    b_enumerate := (G.T.builtins _ (by decide)).trans (by decide +kernel)
    b_len := (G.T.builtins _ (by decide)).trans (by decide +kernel)
    b_range := (G.T.builtins _ (by decide)).trans (by decide +kernel)
    b_list := (G.T.builtins _ (by decide)).trans (by decide +kernel)
    b_dict := (G.T.builtins _ (by decide)).trans (by decide +kernel)
    b_chr := (G.T.builtins _ (by decide)).trans (by decide +kernel) }
  have hf : Mine.FnAt s₁.heap (Mine.stAt 14) 94 := ⟨_, _, _, _, a14, rfl, 93, _, _, _, rfl, c14, rfl, rfl⟩
  clear a1 a2 a3 a4 a6 a7 a8 a10 a11 a12 a13 a14 c1 c2 c3 c4 c6 c7 c8 c10 c11 c12 c13 c14 t7 t8 d7 d8 e94
  have hfa : Mine.Facts [(l, Mine.isL xs.toArray)] s₁.heap := by
    obtain ⟨vs, hvs⟩ := Mine.well_list w1
    obtain ⟨o', ho', _, n, hd'⟩ := hL
    rw [hvs] at ho'
    cases ho'
    injection hd' with hd1 hd2
    subst hd1
    exact Mine.Facts.cons ⟨_, hvs, _, rfl⟩ (Mine.Facts.nil _)
  have r : Mine.Rm callerA 7 := ⟨rfl, by decide, by decide⟩
  have key := @Mine.spec_law (PySem.Challenge.rw_ij0157_01.row.prog) w callerA s₁ ⟨21, 28, 35, 42, 49, 58, 67, 74, 79, 84, 89⟩ mg mb l 94 xs.toArray ns hf M r hfa (by exact hI) (by omega)
  refine wpAny_mono key (fun v s' h => ?_) fun _ _ e => e.elim
  obtain ⟨Y, ⟨rfl, rfl⟩, _, _, X⟩ := h
  exact ⟨.inl ⟨.bool true, .bool true, [], rfl, raisesW_false (by wrow_none_raised), .bool true, by wrow_post, fun _ => ⟨List.nodup_nil, fun a h => nomatch h⟩⟩, .of_keep X.keep, X.os, X.gens.2 (AllBare.of_eq hg)⟩
