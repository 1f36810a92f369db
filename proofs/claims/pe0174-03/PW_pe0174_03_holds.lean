import PyProof.Rows.All
import Wide.All
import OpenK.AllK
import Wide.FinOn
import Lean
import PySem.Challenge.RW_pe0174_03
set_option Elab.async false
section
open PySem PySem.W PyProof.Rows
set_option Elab.async false
namespace Mine

/-- what a value stands for -/
inductive AV where
  | none
  | bool (b : Bool)
  | int (i : Int)
  | str (s : Str)
  | tup (xs : List AV)
  | lst (xs : List AV)
  | rng (a b c : Int)
  | any
  | at (a : Addr) (x : AV)
  | inst (C : Addr) (ks : List Str) (xs : List AV)

/-- the part of the heap that changes no more -/
noncomputable abbrev Fz := Addr → Option Obj

noncomputable def tupObj (vs : List Value) (n : Nat) : Obj := { cls := .type "tuple", data := .seq vs.toArray n }
noncomputable def lstObj (vs : List Value) (n : Nat) : Obj := { cls := .type "list", data := .seq vs.toArray n }

mutual
noncomputable def Rep (F : Fz) : AV → Value → Prop
  | .none, v => v = .none
  | .bool b, v => v = .bool b
  | .int i, v => ∃ t, v = .int i t
  | .str x, v => ∃ t, v = .str x t
  | .tup xs, v => ∃ a vs n, v = .ref a ∧ F a = some (tupObj vs n) ∧ RepL F xs vs
  | .lst xs, v => ∃ a vs n, v = .ref a ∧ F a = some (lstObj vs n) ∧ RepL F xs vs
  | .rng a b c, v => ∃ r t u q, v = .ref r ∧ F r = some { cls := .type "range", data := .fields #[.int a t, .int b u, .int c q] }
  | .any, _ => True
  | .at a x, v => v = .ref a ∧ Rep F x v
  | .inst C ks xs, v => ∃ x dx od es ep vs, v = .ref x ∧ F x = some { cls := .ref C, dict := some dx, data := .plain } ∧ dx ≠ x ∧ F dx = some od ∧ od.data = .dict es ep ∧ StrKeys es ∧ UniqKeys es ∧ (∀ y, nsFind es y = (ks.zip vs).lookup y) ∧ RepL F xs vs
noncomputable def RepL (F : Fz) : List AV → List Value → Prop
  | [], vs => vs = []
  | x :: xs, vs => ∃ v r, vs = v :: r ∧ Rep F x v ∧ RepL F xs r
end

mutual
theorem Rep.mono {F F' : Fz} (h : ∀ a o, F a = some o → F' a = some o) : ∀ {x : AV} {v : Value}, Rep F x v → Rep F' x v
  | .none, _, r => by unfold Rep at r ⊢; exact r
  | .bool _, _, r => by unfold Rep at r ⊢; exact r
  | .int _, _, r => by unfold Rep at r ⊢; exact r
  | .str _, _, r => by unfold Rep at r ⊢; exact r
  | .tup _, _, r => by
    unfold Rep at r ⊢
    obtain ⟨a, vs, n, e, ha, hl⟩ := r
    exact ⟨a, vs, n, e, h _ _ ha, RepL.mono h hl⟩
  | .lst _, _, r => by
    unfold Rep at r ⊢
    obtain ⟨a, vs, n, e, ha, hl⟩ := r
    exact ⟨a, vs, n, e, h _ _ ha, RepL.mono h hl⟩
  | .rng _ _ _, _, r => by
    unfold Rep at r ⊢
    obtain ⟨a, t, u, q, e, ha⟩ := r
    exact ⟨a, t, u, q, e, h _ _ ha⟩
  | .any, _, r => by unfold Rep; trivial
  | .at _ _, _, r => by
    unfold Rep at r ⊢
    exact ⟨r.1, Rep.mono h r.2⟩
  | .inst _ _ _, _, r => by
    unfold Rep at r ⊢
    obtain ⟨x, dx, od, es, ep, vs, e, h1, h2, h3, h4, h5, h6, h7, h8⟩ := r
    exact ⟨x, dx, od, es, ep, vs, e, h _ _ h1, h2, h _ _ h3, h4, h5, h6, h7, RepL.mono h h8⟩
theorem RepL.mono {F F' : Fz} (h : ∀ a o, F a = some o → F' a = some o) : ∀ {xs : List AV} {vs : List Value}, RepL F xs vs → RepL F' xs vs
  | [], _, r => by unfold RepL at r ⊢; exact r
  | _ :: _, _, r => by
    unfold RepL at r ⊢
    obtain ⟨v, q, e, h1, h2⟩ := r
    exact ⟨v, q, e, Rep.mono h h1, RepL.mono h h2⟩
end

theorem RepL.length {F : Fz} : ∀ {xs : List AV} {vs : List Value}, RepL F xs vs → vs.length = xs.length
  | [], _, r => by unfold RepL at r; subst r; rfl
  | _ :: xs, _, r => by
    unfold RepL at r
    obtain ⟨v, q, rfl, _, h2⟩ := r
    rw [List.length_cons, List.length_cons, RepL.length h2]
theorem RepL.nil {F : Fz} : RepL F [] [] := by unfold RepL; rfl
theorem RepL.cons {F : Fz} {x : AV} {v : Value} {xs : List AV} {vs : List Value} (h : Rep F x v) (r : RepL F xs vs) : RepL F (x :: xs) (v :: vs) := by
  unfold RepL; exact ⟨v, vs, rfl, h, r⟩
theorem RepL.append {F : Fz} : ∀ {xs ys : List AV} {vs us : List Value}, RepL F xs vs → RepL F ys us → RepL F (xs ++ ys) (vs ++ us)
  | [], _, _, _, r, r' => by unfold RepL at r; subst r; exact r'
  | _ :: xs, _, _, _, r, r' => by
    unfold RepL at r
    obtain ⟨v, q, rfl, h1, h2⟩ := r
    exact RepL.cons h1 (RepL.append h2 r')
theorem RepL.get {F : Fz} : ∀ {xs : List AV} {vs : List Value}, RepL F xs vs → ∀ {i : Nat} {x : AV}, xs[i]? = some x → ∃ v, vs[i]? = some v ∧ Rep F x v
  | [], _, _, _, _, e => by simp at e
  | x :: xs, _, r, i, y, e => by
    unfold RepL at r
    obtain ⟨v, q, rfl, h1, h2⟩ := r
    cases i with
    | zero => simp at e; subst e; exact ⟨v, rfl, h1⟩
    | succ i => simpa using RepL.get h2 (by simpa using e)
theorem RepL.set {F : Fz} : ∀ {xs : List AV} {vs : List Value}, RepL F xs vs → ∀ (i : Nat) {x : AV} {v : Value}, Rep F x v → RepL F (xs.set i x) (vs.set i v)
  | [], _, r, _, _, _, _ => by unfold RepL at r; subst r; exact RepL.nil
  | x :: xs, _, r, i, y, w, h => by
    unfold RepL at r
    obtain ⟨v, q, rfl, h1, h2⟩ := r
    cases i with
    | zero => exact RepL.cons h h2
    | succ i => exact RepL.cons h1 (RepL.set h2 i h)

/-- a local: a value, or a list that this frame alone holds and may change -/
inductive Cell where
  | val (x : AV)
  | own (xs : List AV)

noncomputable abbrev Sig := List (Str × Cell)
noncomputable def put : Sig → Str → Cell → Sig
  | [], x, c => [(x, c)]
  | (y, e) :: r, x, c => if y == x then (x, c) :: r else (y, e) :: put r x c
theorem lookup_put (x : Str) (c : Cell) (y : Str) : ∀ σ : Sig, (put σ x c).lookup y = if y = x then some c else σ.lookup y
  | [] => by
    unfold put
    by_cases h : y = x
    · subst h; simp
    · rw [List.lookup_cons, if_neg h, beq_eq_false_iff_ne.mpr h]
  | (z, e) :: r => by
    unfold put
    by_cases hz : z = x
    · subst hz
      rw [if_pos (beq_self_eq_true z)]
      by_cases h : y = z
      · subst h; simp
      · rw [List.lookup_cons, List.lookup_cons, if_neg h, beq_eq_false_iff_ne.mpr h]
    · rw [if_neg (by simpa using hz), List.lookup_cons, List.lookup_cons, lookup_put x c y r]
      by_cases h : y = x
      · subst h
        rw [beq_eq_false_iff_ne.mpr (Ne.symm hz)]
      · simp only [if_neg h]
/-- the locals of the first are among the second's -/
noncomputable def Sub (τ σ : Sig) : Prop := ∀ p ∈ τ, τ.lookup p.1 = some p.2 → σ.lookup p.1 = some p.2
noncomputable def upd {α : Type} (σ : Str → Option α) (x : Str) (c : α) : Str → Option α := fun y => if y = x then some c else σ y

noncomputable def RepC (F : Fz) (h : Heap) : Cell → Value → Prop
  | .val x, v => Rep F x v
  | .own xs, v => ∃ a vs n, v = .ref a ∧ F a = none ∧ h.get? a = some (lstObj vs n) ∧ RepL F xs vs

/-- where a local lies -/
noncomputable def locOf (env : Env) (x : Str) : Addr := if env.kindOf x = some .cell then (env.cells.lookup x).getD 0 else env.locals

structure Vars (env : Env) (m : Str → Option Value) (h : Heap) : Prop where
  ns : ∃ mL, h.Ns env.locals mL ∧ ∀ x, env.kindOf x = some .local → mL x = m x
  cell : ∀ x c, env.kindOf x = some .cell → env.cells.lookup x = some c → h.IsCell c (m x)
  apart : env.cells.Pairwise fun x y => x.2 ≠ y.2

theorem Vars.keeps {env : Env} {m : Str → Option Value} {h h' : Heap} (V : Vars env m h) (k : ∀ b o, h.get? b = some o → h'.get? b = some o) : Vars env m h' := by
  obtain ⟨⟨mL, h1, h2⟩, h3, h4⟩ := V
  exact ⟨⟨mL, h1.keeps k, h2⟩, fun x c e e' => (h3 x c e e').keeps k, h4⟩

/-- growing: the frozen part from one heap to a later one -/
structure Ext (F : Fz) (h : Heap) (F' : Fz) (h' : Heap) : Prop where
  le : ∀ a o, F a = some o → F' a = some o
  old : ∀ a o, h.get? a = some o → F' a = F a
  inn : ∀ a o, F' a = some o → h'.get? a = some o
theorem Ext.refl {F : Fz} {h : Heap} (i : ∀ a o, F a = some o → h.get? a = some o) : Ext F h F h := ⟨fun _ _ e => e, fun _ _ _ => rfl, i⟩
theorem Ext.trans {F F1 F2 : Fz} {h h1 h2 : Heap} (x : Ext F h F1 h1) (y : Ext F1 h1 F2 h2) (k : ∀ b o, h.get? b = some o → h1.get? b = some o) : Ext F h F2 h2 :=
  ⟨fun _ _ e => y.le _ _ (x.le _ _ e), fun a o e => (y.old a o (k _ _ e)).trans (x.old a o e), y.inn⟩
theorem Ext.keep {F F' : Fz} {h h1 h2 : Heap} (x : Ext F h F' h1) (k : ∀ b o, h1.get? b = some o → h2.get? b = some o) : Ext F h F' h2 := ⟨x.le, x.old, fun a o e => k _ _ (x.inn a o e)⟩
/-- one new frozen object -/
noncomputable def Fz.put (F : Fz) (a : Addr) (o : Obj) : Fz := fun b => if b = a then some o else F b
theorem Fz.put_self (F : Fz) (a : Addr) (o : Obj) : F.put a o a = some o := if_pos rfl
theorem Ext.push {F : Fz} {h : Heap} (i : ∀ a o, F a = some o → h.get? a = some o) (o : Obj) (hf : o.isFreed = false) : Ext F h (F.put h.objs.size o) (h.push o) := by
  have hn : ∀ b o', h.get? b = some o' → b ≠ h.objs.size := fun b o' e => Nat.ne_of_lt (Heap.lt_size e)
  refine ⟨fun a o' e => ?_, fun a o' e => ?_, fun a o' e => ?_⟩
  · unfold Fz.put; rw [if_neg (hn a o' (i _ _ e))]; exact e
  · unfold Fz.put; rw [if_neg (hn a o' e)]
  · unfold Fz.put at e
    by_cases q : a = h.objs.size
    · rw [if_pos q] at e; cases e; subst q; exact Heap.get?_push_size _ hf
    · rw [if_neg q] at e; exact Heap.get?_push_of_some _ (i _ _ e)

/-- the state of a frame -/
structure St (hT : Heap) (env : Env) (W : Str → Bool) (σ : Sig) (m : Str → Option Value) (F : Fz) (h : Heap) : Prop where
  base : ∀ a o, hT.get? a = some o → F a = some o
  inn : ∀ a o, F a = some o → h.get? a = some o
  vars : Vars env m h
  kind : ∀ x, W x = true → env.kindOf x = some .local ∨ (env.kindOf x = some .cell ∧ (env.cells.lookup x).isSome = true)
  free : ∀ x, W x = true → F (locOf env x) = none
  loc : ∀ x c, σ.lookup x = some c → ∃ v, m x = some v ∧ RepC F h c v
  sep : ∀ x y xs ys a, σ.lookup x = some (.own xs) → σ.lookup y = some (.own ys) → m x = some (.ref a) → m y = some (.ref a) → x = y

/-- what every step keeps -/
structure Kp (s s' : Shared) : Prop where
  heap : ∀ b o, s.heap.get? b = some o → s'.heap.get? b = some o
  gens : ∀ (g : Nat) x, s.gens[g]? = some x → s'.gens[g]? = some x
  bare : AllBare s.gens → AllBare s'.gens
  os : s'.os = s.os
theorem Kp.refl (s : Shared) : Kp s s := ⟨fun _ _ e => e, fun _ _ e => e, fun e => e, rfl⟩
theorem Kp.trans {s s1 s2 : Shared} (x : Kp s s1) (y : Kp s1 s2) : Kp s s2 :=
  ⟨fun b o e => y.heap _ _ (x.heap b o e), fun g z e => y.gens _ _ (x.gens g z e), fun e => y.bare (x.bare e), y.os.trans x.os⟩
theorem Kp.of {s : Shared} {h' : Heap} {t : Nat} (k : ∀ b o, s.heap.get? b = some o → h'.get? b = some o) : Kp s { s with heap := h', toks := t } := ⟨k, fun _ _ e => e, fun e => e, rfl⟩
theorem Kp.tok {s s1 : Shared} (x : Kp s s1) (t : Nat) : Kp s { s1 with toks := t } := ⟨x.heap, x.gens, x.bare, x.os⟩

structure OkA (d : Nat) (A : Around) : Prop where
  hh : A.handled = none
  depth : A.depth + d < recursionLimit
  units : A.units + 100 * d + 50 < cLine

section
variable {hT : Heap} {env : Env} {W : Str → Bool} {σ : Sig} {m : Str → Option Value} {F F' : Fz} {h h' : Heap}
theorem RepC.keeps {c : Cell} {v : Value} (r : RepC F h c v) (k : ∀ b o, h.get? b = some o → h'.get? b = some o) (x : Ext F h F' h') : RepC F' h' c v := by
  cases c with
  | val y => exact Rep.mono x.le r
  | own xs =>
    obtain ⟨a, vs, n, e, h1, h2, h3⟩ := r
    exact ⟨a, vs, n, e, (x.old _ _ h2).trans h1, k _ _ h2, RepL.mono x.le h3⟩

theorem locOf_there (V : Vars env m h) {x : Str} (hx : env.kindOf x = some .local ∨ (env.kindOf x = some .cell ∧ (env.cells.lookup x).isSome = true)) : ∃ o, h.get? (locOf env x) = some o := by
  unfold locOf
  rcases hx with hl | ⟨hc, hs⟩
  · rw [if_neg (by rw [hl]; decide)]
    obtain ⟨⟨mL, ⟨o, es, ep, e, _⟩, _⟩, _⟩ := V
    exact ⟨o, e⟩
  · rw [if_pos hc]
    obtain ⟨c, hc'⟩ := Option.isSome_iff_exists.mp hs
    rw [hc']
    obtain ⟨o, e, _⟩ := V.cell x c hc hc'
    exact ⟨o, e⟩

theorem St.keeps (S : St hT env W σ m F h) (k : ∀ b o, h.get? b = some o → h'.get? b = some o) (x : Ext F h F' h') : St hT env W σ m F' h' where
  base := fun a o e => x.le _ _ (S.base a o e)
  inn := x.inn
  vars := S.vars.keeps k
  kind := S.kind
  free := fun y hy => by
    obtain ⟨o, ho⟩ := locOf_there S.vars (S.kind y hy)
    rw [x.old _ _ ho]; exact S.free y hy
  loc := fun y c e => let ⟨v, h1, h2⟩ := S.loc y c e; ⟨v, h1, h2.keeps k x⟩
  sep := S.sep

/-- what must stay as it is while a frame runs -/
structure Prot (env : Env) (W : Str → Bool) (σ : Sig) (m : Str → Option Value) (H : Fz) (h : Heap) : Prop where
  inn : ∀ a o, H a = some o → h.get? a = some o
  free : ∀ x, W x = true → H (locOf env x) = none
  own : ∀ x xs a, σ.lookup x = some (.own xs) → m x = some (.ref a) → H a = none
theorem Prot.keeps {H : Fz} (P : Prot env W σ m H h) (k : ∀ b o, h.get? b = some o → h'.get? b = some o) : Prot env W σ m H h' := ⟨fun a o e => k _ _ (P.inn a o e), P.free, P.own⟩
end

theorem nsL_ne_cell {h : Heap} {a c : Addr} {m : Str → Option Value} {v : Option Value} (n : h.Ns a m) (q : h.IsCell c v) : a ≠ c := by
  rintro rfl
  obtain ⟨o, es, ep, e, hd, _⟩ := n
  obtain ⟨o', e', hd'⟩ := q
  rw [e] at e'; cases e'
  rw [hd] at hd'; cases hd'

section
variable {M : Model} {A : Around} {E : Value → Shared → Prop} {s : Shared} {env : Env} {m : Str → Option Value}

theorem load_any {x : Str} {v : Value} {Q : Value → Shared → Prop} (V : Vars env m s.heap) (hk : env.scope.kind = .function) (hx : env.kindOf x = some .local ∨ (env.kindOf x = some .cell ∧ (env.cells.lookup x).isSome = true))
    (hv : m x = some v) (h : Q v s) : wpAny M A (loadName env x) Q E s := by
  rcases hx with hl | ⟨hc, hs⟩
  · obtain ⟨⟨mL, h1, h2⟩, _⟩ := V
    exact wpAny_loadName_local hk hl h1 ((h2 x hl).trans hv) h
  · obtain ⟨c, hc'⟩ := Option.isSome_iff_exists.mp hs
    exact wpAny_loadName_cell hk hc hc' (hv ▸ V.cell x c hc hc') h

theorem store_any {x : Str} {v : Value} {Q : Unit → Shared → Prop} (V : Vars env m s.heap) (hk : env.scope.kind = .function) (hx : env.kindOf x = some .local ∨ (env.kindOf x = some .cell ∧ (env.cells.lookup x).isSome = true))
    (h : ∀ h' t, Vars env (upd m x v) h' → (∀ b, b ≠ locOf env x → h'.get? b = s.heap.get? b) → Q () { s with heap := h', toks := t }) : wpAny M A (storeName env x v) Q E s := by
  rcases hx with hl | ⟨hc, hs⟩
  · obtain ⟨⟨mL, h1, h2⟩, h3, h4⟩ := V
    have hL : locOf env x = env.locals := by unfold locOf; rw [if_neg (by rw [hl]; decide)]
    refine wpAny_storeName_local hl h1 (fun h' hn hs => h h' _ ⟨⟨_, hn, fun y hy => ?_⟩, fun y c ek e => ?_, h4⟩ fun b hb => hs.2 b (by rw [hL] at hb; exact hb)) (by rw [hk]; rfl)
    · unfold upd
      by_cases q : y = x
      · rw [if_pos q, if_pos q]
      · rw [if_neg q, if_neg q]; exact h2 y hy
    · have hy : y ≠ x := fun q => by rw [q, hl] at ek; cases ek
      have : upd m x v y = m y := if_neg hy
      rw [this]
      exact (h3 y c ek e).sameBut hs (Ne.symm (nsL_ne_cell h1 (h3 y c ek e)))
  · obtain ⟨c, hc'⟩ := Option.isSome_iff_exists.mp hs
    obtain ⟨⟨mL, h1, h2⟩, h3, h4⟩ := V
    have hL : locOf env x = c := by unfold locOf; rw [if_pos hc, hc']; rfl
    refine wpAny_storeName_cell hk hc hc' (h3 x c hc hc') fun h' hq hs => h h' s.toks ⟨⟨mL, h1.sameBut hs (nsL_ne_cell h1 (h3 x c hc hc')), fun y hy => ?_⟩, fun y c' ek e => ?_, h4⟩ fun b hb => hs.2 b (by rw [hL] at hb; exact hb)
    · have hne : y ≠ x := fun q => by rw [q, hc] at hy; cases hy
      exact (h2 y hy).trans (if_neg hne).symm
    · by_cases q : y = x
      · subst q
        rw [hc'] at e; cases e
        have : upd m y v y = some v := if_pos rfl
        rw [this]; exact hq
      · have : upd m x v y = m y := if_neg q
        rw [this]
        exact (h3 y c' ek e).sameBut hs fun e' => q (name_of_addr h4 (mem_of_lookup e) (e' ▸ mem_of_lookup hc'))
end
end Mine
end
section
open PySem PySem.W PyProof.Rows
set_option Elab.async false
namespace Mine

section
variable (prog : Program) (w : World) (hT : Heap) (d : Nat) (env : Env) (W : Str → Bool) (σ : Sig)
/-- an expression that changes nothing -/
noncomputable def Ev (e : Expr) (x : AV) : Prop := ∀ (A : Around) (m : Str → Option Value) (F : Fz) (s : Shared), OkA d A → St hT env W σ m F s.heap →
  wpAny (model prog w) A (eval e env) (fun v s' => Kp s s' ∧ ∃ F', Ext F s.heap F' s'.heap ∧ Rep F' x v) (fun _ _ => False) s
/-- an expression that makes a new list -/
noncomputable def EvO (e : Expr) (xs : List AV) : Prop := ∀ (A : Around) (m : Str → Option Value) (F : Fz) (s : Shared), OkA d A → St hT env W σ m F s.heap →
  wpAny (model prog w) A (eval e env) (fun v s' => Kp s s' ∧ ∃ F' a vs n, Ext F s.heap F' s'.heap ∧ v = .ref a ∧ s.heap.get? a = none ∧ F' a = none ∧ s'.heap.get? a = some (lstObj vs n) ∧ RepL F' xs vs) (fun _ _ => False) s
/-- a test -/
noncomputable def Ts (e : Expr) (b : Bool) : Prop := ∀ (A : Around) (m : Str → Option Value) (F : Fz) (s : Shared), OkA d A → St hT env W σ m F s.heap →
  wpAny (model prog w) A (isTrue e env (eval e env)) (fun c s' => c = b ∧ Kp s s' ∧ ∃ F', Ext F s.heap F' s'.heap) (fun _ _ => False) s
noncomputable def Op2 (f : Value → Value → Sem Value) (x y : AV) (r : AV) : Prop := ∀ (A : Around) (F : Fz) (s : Shared) (v u : Value), OkA d A → (∀ a o, hT.get? a = some o → F a = some o) → (∀ a o, F a = some o → s.heap.get? a = some o) → Rep F x v → Rep F y u →
  wpAny (model prog w) A (f v u) (fun v s' => Kp s s' ∧ ∃ F', Ext F s.heap F' s'.heap ∧ Rep F' r v) (fun _ _ => False) s
end

section
variable {prog : Program} {w : World} {hT : Heap} {d : Nat} {env : Env} {W : Str → Bool} {σ : Sig}

theorem Ev.use {e : Expr} {x : AV} (h : Ev prog w hT d env W σ e x) {A : Around} {m : Str → Option Value} {F : Fz} {s : Shared} {Q : Value → Shared → Prop} {E : Value → Shared → Prop} (ok : OkA d A) (S : St hT env W σ m F s.heap)
    (k : ∀ v s' F', Kp s s' → Ext F s.heap F' s'.heap → St hT env W σ m F' s'.heap → Rep F' x v → Q v s') : wpAny (model prog w) A (eval e env) Q E s :=
  wpAny_mono (h A m F s ok S) (fun v s' hpat => by obtain ⟨kp, F', ex, r⟩ := hpat; exact k v s' F' kp ex (S.keeps kp.heap ex) r) fun _ _ x => x.elim
theorem EvO.use {e : Expr} {xs : List AV} (h : EvO prog w hT d env W σ e xs) {A : Around} {m : Str → Option Value} {F : Fz} {s : Shared} {Q : Value → Shared → Prop} {E : Value → Shared → Prop} (ok : OkA d A) (S : St hT env W σ m F s.heap)
    (k : ∀ a s' F' vs n, Kp s s' → Ext F s.heap F' s'.heap → St hT env W σ m F' s'.heap → s.heap.get? a = none → F' a = none → s'.heap.get? a = some (lstObj vs n) → RepL F' xs vs → Q (.ref a) s') : wpAny (model prog w) A (eval e env) Q E s :=
  wpAny_mono (h A m F s ok S) (fun v s' hpat => by obtain ⟨kp, F', a, vs, n, ex, e, h1, h2, h3, h4⟩ := hpat; subst e; exact k a s' F' vs n kp ex (S.keeps kp.heap ex) h1 h2 h3 h4) fun _ _ x => x.elim
theorem Ts.use {e : Expr} {b : Bool} (h : Ts prog w hT d env W σ e b) {A : Around} {m : Str → Option Value} {F : Fz} {s : Shared} {Q : Bool → Shared → Prop} {E : Value → Shared → Prop} (ok : OkA d A) (S : St hT env W σ m F s.heap)
    (k : ∀ s' F', Kp s s' → Ext F s.heap F' s'.heap → St hT env W σ m F' s'.heap → Q b s') : wpAny (model prog w) A (isTrue e env (eval e env)) Q E s :=
  wpAny_mono (h A m F s ok S) (fun v s' hpat => by obtain ⟨e, kp, F', ex⟩ := hpat; subst e; exact k s' F' kp ex (S.keeps kp.heap ex)) fun _ _ x => x.elim

/-- a fresh list may be frozen at once -/
theorem EvO.val {e : Expr} {xs : List AV} (h : EvO prog w hT d env W σ e xs) : Ev prog w hT d env W σ e (.lst xs) := fun A m F s ok S => by
  refine wpAny_mono (h A m F s ok S) (fun v s' ⟨kp, F', a, vs, n, ex, e, h1, h2, h3, h4⟩ => ⟨kp, F'.put a (lstObj vs n), ⟨fun b o q => ?_, fun b o q => ?_, fun b o q => ?_⟩, ?_⟩) fun _ _ x => x
  · have := ex.le _ _ q
    unfold Fz.put
    by_cases c : b = a
    · subst c; rw [h2] at this; cases this
    · rw [if_neg c]; exact this
  · unfold Fz.put
    by_cases c : b = a
    · subst c; rw [h1] at q; cases q
    · rw [if_neg c]; exact ex.old b o q
  · unfold Fz.put at q
    by_cases c : b = a
    · rw [if_pos c] at q; cases q; subst c; exact h3
    · rw [if_neg c] at q; exact ex.inn _ _ q
  · unfold Rep
    refine ⟨a, vs, n, e, Fz.put_self .., RepL.mono (fun b o q => ?_) h4⟩
    unfold Fz.put
    by_cases c : b = a
    · subst c; rw [h2] at q; cases q
    · rw [if_neg c]; exact q

/-- the end of a step that makes no object -/
theorem fin0 {s s0 : Shared} {F F0 : Fz} {x : AV} {v : Value} {t : Nat} (k : Kp s0 s) (ex : Ext F0 s0.heap F s.heap) (r : Rep F x v) : Kp s0 { s with toks := t } ∧ ∃ F', Ext F0 s0.heap F' ({ s with toks := t } : Shared).heap ∧ Rep F' x v :=
  ⟨k.tok t, F, ex, r⟩

theorem ev_name {x : Str} {pos : Pos} {y : AV} (hσ : σ.lookup x = some (.val y)) (hk : env.scope.kind = .function := by rfl)
    (hx : env.kindOf x = some .local ∨ (env.kindOf x = some .cell ∧ (env.cells.lookup x).isSome = true) := by first | exact Or.inl rfl | exact Or.inr ⟨rfl, rfl⟩) (hd : (x == ("__debug__" : Str)) = false := by rfl) :
    Ev prog w hT d env W σ (.Name x pos) y := fun A m F s ok S => by
  obtain ⟨v, hv, r⟩ := S.loc x _ hσ
  exact wpAny_Name (load_any S.vars hk hx hv ⟨.refl s, F, .refl S.inn, r⟩) hd

theorem ev_int {i : Int} {k : Nat} {pos : Pos} : Ev prog w hT d env W σ (.Constant (.int i) k pos) (.int i) := fun A m F s ok S =>
  wpAny_Constant_int ⟨(Kp.refl s).tok _, F, .refl S.inn, by unfold Rep; exact ⟨_, rfl⟩⟩
theorem ev_str {x : Str} {k : Nat} {pos : Pos} : Ev prog w hT d env W σ (.Constant (.str x) k pos) (.str x) := fun A m F s ok S =>
  Calls.Constant_str ⟨(Kp.refl s).tok _, F, .refl S.inn, by unfold Rep; exact ⟨_, rfl⟩⟩
theorem ev_bool {b : Bool} {k : Nat} {pos : Pos} : Ev prog w hT d env W σ (.Constant (.bool b) k pos) (.bool b) := fun A m F s ok S =>
  Constant_bool ⟨.refl s, F, .refl S.inn, by unfold Rep; rfl⟩
theorem ev_none {k : Nat} {pos : Pos} : Ev prog w hT d env W σ (.Constant .none k pos) .none := fun A m F s ok S =>
  Constant_none ⟨.refl s, F, .refl S.inn, by unfold Rep; rfl⟩

theorem ev_binop {l r : Expr} {op : Operator} {pos : Pos} {x y z : AV} (hl : Ev prog w hT d env W σ l x) (hr : Ev prog w hT d env W σ r y) (ho : Op2 prog w hT d (binaryOp op) x y z) : Ev prog w hT d env W σ (.BinOp l op r pos) z := fun A m F s ok S =>
  wpAny_BinOp (hl.use ok S fun v1 s1 F1 k1 x1 S1 r1 => hr.use ok S1 fun v2 s2 F2 k2 x2 S2 r2 =>
    wpAny_mono (ho A F2 s2 v1 v2 ok S2.base S2.inn (r1.mono x2.le) r2) (fun v s' hpat => by obtain ⟨k3, F3, x3, r3⟩ := hpat; exact ⟨(k1.trans k2).trans k3, F3, (x1.trans x2 k1.heap).trans x3 (k1.trans k2).heap, r3⟩) fun _ _ q => q)
theorem ev_cmp {l r : Expr} {op : CmpOp} {pos : Pos} {x y z : AV} (hl : Ev prog w hT d env W σ l x) (hr : Ev prog w hT d env W σ r y) (ho : Op2 prog w hT d (compareOp op) x y z)
    (hm : behindInMarks op r = false := by with_unfolding_all rfl) : Ev prog w hT d env W σ (.Compare l [op] [r] pos) z := fun A m F s ok S =>
  wpAny_Compare1 (hl.use ok S fun v1 s1 F1 k1 x1 S1 r1 => hr.use ok S1 fun v2 s2 F2 k2 x2 S2 r2 =>
    wpAny_mono (ho A F2 s2 v1 v2 ok S2.base S2.inn (r1.mono x2.le) r2) (fun v s' hpat => by obtain ⟨k3, F3, x3, r3⟩ := hpat; exact ⟨(k1.trans k2).trans k3, F3, (x1.trans x2 k1.heap).trans x3 (k1.trans k2).heap, r3⟩) fun _ _ q => q) hm
theorem ts_cmp {l r : Expr} {op : CmpOp} {pos : Pos} {x y : AV} {b : Bool} (hl : Ev prog w hT d env W σ l x) (hr : Ev prog w hT d env W σ r y) (ho : Op2 prog w hT d (compareOp op) x y (.bool b))
    (hm : behindInMarks op r = false := by with_unfolding_all rfl) : Ts prog w hT d env W σ (.Compare l [op] [r] pos) b := fun A m F s ok S =>
  wpAny_isTrue_Compare1 (hl.use ok S fun v1 s1 F1 k1 x1 S1 r1 => hr.use ok S1 fun v2 s2 F2 k2 x2 S2 r2 =>
    wpAny_mono (ho A F2 s2 v1 v2 ok S2.base S2.inn (r1.mono x2.le) r2) (fun v s' hpat => by
      obtain ⟨k3, F3, x3, r3⟩ := hpat
      unfold Rep at r3; subst r3
      exact wpAny_truthy_bool ⟨rfl, (k1.trans k2).trans k3, F3, (x1.trans x2 k1.heap).trans x3 (k1.trans k2).heap⟩) fun _ _ q => q) hm

section
variable {a b : Int} {x y : Str}
theorem op_add : Op2 prog w hT d (binaryOp .Add) (.int a) (.int b) (.int (a + b)) := fun A F s v u ok B I r1 r2 => by
  unfold Rep at r1 r2; obtain ⟨t, rfl⟩ := r1; obtain ⟨t', rfl⟩ := r2
  exact P.add_int (fin0 (.refl s) (.refl I) (by unfold Rep; exact ⟨_, rfl⟩))
theorem op_sub : Op2 prog w hT d (binaryOp .Sub) (.int a) (.int b) (.int (a - b)) := fun A F s v u ok B I r1 r2 => by
  unfold Rep at r1 r2; obtain ⟨t, rfl⟩ := r1; obtain ⟨t', rfl⟩ := r2
  exact P.sub_int (fin0 (.refl s) (.refl I) (by unfold Rep; exact ⟨_, rfl⟩))
theorem op_mul (hm : IntMulOk a b) : Op2 prog w hT d (binaryOp .Mult) (.int a) (.int b) (.int (a * b)) := fun A F s v u ok B I r1 r2 => by
  unfold Rep at r1 r2; obtain ⟨t, rfl⟩ := r1; obtain ⟨t', rfl⟩ := r2
  exact P.mul_int (fin0 (.refl s) (.refl I) (by unfold Rep; exact ⟨_, rfl⟩)) hm
theorem op_mod (hb : b ≠ 0) : Op2 prog w hT d (binaryOp .Mod) (.int a) (.int b) (.int (a.fmod b)) := fun A F s v u ok B I r1 r2 => by
  unfold Rep at r1 r2; obtain ⟨t, rfl⟩ := r1; obtain ⟨t', rfl⟩ := r2
  exact mod_int' hb (fin0 (.refl s) (.refl I) (by unfold Rep; exact ⟨_, rfl⟩))
theorem op_div (hb : b ≠ 0) (hp : Builtin.divisionGoesByPylong a b = false) : Op2 prog w hT d (binaryOp .FloorDiv) (.int a) (.int b) (.int (a.fdiv b)) := fun A F s v u ok B I r1 r2 => by
  unfold Rep at r1 r2; obtain ⟨t, rfl⟩ := r1; obtain ⟨t', rfl⟩ := r2
  exact floordiv_int hb (fin0 (.refl s) (.refl I) (by unfold Rep; exact ⟨_, rfl⟩)) (.inl hp)
theorem op_eqI : Op2 prog w hT d (compareOp .Eq) (.int a) (.int b) (.bool (a == b)) := fun A F s v u ok B I r1 r2 => by
  unfold Rep at r1 r2; obtain ⟨t, rfl⟩ := r1; obtain ⟨t', rfl⟩ := r2
  exact P.eq_int ⟨.refl s, F, .refl I, by unfold Rep; rfl⟩
theorem op_neI : Op2 prog w hT d (compareOp .NotEq) (.int a) (.int b) (.bool (a != b)) := fun A F s v u ok B I r1 r2 => by
  unfold Rep at r1 r2; obtain ⟨t, rfl⟩ := r1; obtain ⟨t', rfl⟩ := r2
  exact P.ne_int ⟨.refl s, F, .refl I, by unfold Rep; rfl⟩
theorem op_ltI : Op2 prog w hT d (compareOp .Lt) (.int a) (.int b) (.bool (decide (a < b))) := fun A F s v u ok B I r1 r2 => by
  unfold Rep at r1 r2; obtain ⟨t, rfl⟩ := r1; obtain ⟨t', rfl⟩ := r2
  exact P.lt_int ⟨.refl s, F, .refl I, by unfold Rep; rfl⟩
theorem op_leI : Op2 prog w hT d (compareOp .LtE) (.int a) (.int b) (.bool (decide (a ≤ b))) := fun A F s v u ok B I r1 r2 => by
  unfold Rep at r1 r2; obtain ⟨t, rfl⟩ := r1; obtain ⟨t', rfl⟩ := r2
  exact P.le_int ⟨.refl s, F, .refl I, by unfold Rep; rfl⟩
theorem op_gtI : Op2 prog w hT d (compareOp .Gt) (.int a) (.int b) (.bool (decide (a > b))) := fun A F s v u ok B I r1 r2 => by
  unfold Rep at r1 r2; obtain ⟨t, rfl⟩ := r1; obtain ⟨t', rfl⟩ := r2
  exact P.gt_int ⟨.refl s, F, .refl I, by unfold Rep; rfl⟩
theorem op_geI : Op2 prog w hT d (compareOp .GtE) (.int a) (.int b) (.bool (decide (a ≥ b))) := fun A F s v u ok B I r1 r2 => by
  unfold Rep at r1 r2; obtain ⟨t, rfl⟩ := r1; obtain ⟨t', rfl⟩ := r2
  exact P.ge_int ⟨.refl s, F, .refl I, by unfold Rep; rfl⟩
theorem op_eqS : Op2 prog w hT d (compareOp .Eq) (.str x) (.str y) (.bool (decide (x = y))) := fun A F s v u ok B I r1 r2 => by
  unfold Rep at r1 r2; obtain ⟨t, rfl⟩ := r1; obtain ⟨t', rfl⟩ := r2
  refine P.eq_str ⟨.refl s, F, .refl I, ?_⟩
  unfold Rep
  congr 1
  obtain ⟨⟨x⟩⟩ := x
  obtain ⟨⟨y⟩⟩ := y
  rw [Bool.eq_iff_iff]
  simp
end
end
end Mine
end
section
open PySem PySem.W PyProof.Rows
set_option Elab.async false
namespace Mine

inductive AFlow where
  | next | brk | cont
  | ret (x : AV)
noncomputable def FlowIs (F : Fz) : AFlow → Flow → Prop
  | .next, f => f = .next
  | .brk, f => f = .brk
  | .cont, f => f = .cont
  | .ret x, f => ∃ v, f = .ret v ∧ Rep F x v

structure KpG (s s' : Shared) : Prop where
  gens : ∀ (g : Nat) x, s.gens[g]? = some x → s'.gens[g]? = some x
  bare : AllBare s.gens → AllBare s'.gens
  os : s'.os = s.os
theorem Kp.g {s s' : Shared} (k : Kp s s') : KpG s s' := ⟨k.gens, k.bare, k.os⟩
theorem KpG.refl (s : Shared) : KpG s s := (Kp.refl s).g
theorem KpG.trans {s s1 s2 : Shared} (x : KpG s s1) (y : KpG s1 s2) : KpG s s2 := ⟨fun g z e => y.gens _ _ (x.gens g z e), fun e => y.bare (x.bare e), y.os.trans x.os⟩
theorem KpG.of {s s1 : Shared} {h : Heap} {t : Nat} (x : KpG s s1) : KpG s { s1 with heap := h, toks := t } := ⟨x.gens, x.bare, x.os⟩

section
variable (prog : Program) (w : World) (hT : Heap) (d : Nat) (env : Env) (W : Str → Bool)
noncomputable def PostX (H F : Fz) (s : Shared) (Q : AFlow → Sig → Prop) (f : Flow) (s' : Shared) : Prop :=
  ∃ fl σ' m' F', Q fl σ' ∧ FlowIs F' fl f ∧ (∀ a o, F a = some o → F' a = some o) ∧ (∀ a o, H a = some o → F' a = F a) ∧ St hT env W σ' m' F' s'.heap ∧ Prot env W σ' m' H s'.heap ∧ KpG s s'
/-- one statement -/
noncomputable def Ex1 (σ : Sig) (st : Stmt) (Q : AFlow → Sig → Prop) : Prop := ∀ (A : Around) (H : Fz) (m : Str → Option Value) (F : Fz) (s : Shared), OkA d A → St hT env W σ m F s.heap → Prot env W σ m H s.heap →
  wpAny (model prog w) A (exec st env) (PostX hT env W H F s Q) (fun _ _ => False) s
/-- statements -/
noncomputable def Ex (σ : Sig) (ss : List Stmt) (Q : AFlow → Sig → Prop) : Prop := ∀ (A : Around) (H : Fz) (m : Str → Option Value) (F : Fz) (s : Shared), OkA d A → St hT env W σ m F s.heap → Prot env W σ m H s.heap →
  wpAny (model prog w) A (execs ss env) (PostX hT env W H F s Q) (fun _ _ => False) s
end

section
variable {prog : Program} {w : World} {hT : Heap} {d : Nat} {env : Env} {W : Str → Bool} {σ τ : Sig} {Q : AFlow → Sig → Prop}

theorem Sub.lookup {τ σ : Sig} (h : Sub τ σ) {x : Str} {c : Cell} (e : τ.lookup x = some c) : σ.lookup x = some c := h (x, c) (mem_of_lookup e) e
theorem St.sub {m : Str → Option Value} {F : Fz} {h : Heap} (S : St hT env W σ m F h) (u : Sub τ σ) : St hT env W τ m F h :=
  ⟨S.base, S.inn, S.vars, S.kind, S.free, fun x c e => S.loc x c (u.lookup e), fun x y xs ys a h1 h2 => S.sep x y xs ys a (u.lookup h1) (u.lookup h2)⟩
theorem Prot.sub {m : Str → Option Value} {H : Fz} {h : Heap} (P : Prot env W σ m H h) (u : Sub τ σ) : Prot env W τ m H h := ⟨P.inn, P.free, fun x xs a e => P.own x xs a (u.lookup e)⟩
theorem Ex.sub {ss : List Stmt} (h : Ex prog w hT d env W τ ss Q) (u : Sub τ σ) : Ex prog w hT d env W σ ss Q := fun A H m F s ok S P => h A H m F s ok (S.sub u) (P.sub u)
theorem Ex.mono {ss : List Stmt} {Q' : AFlow → Sig → Prop} (h : Ex prog w hT d env W σ ss Q) (q : ∀ fl σ', Q fl σ' → Q' fl σ') : Ex prog w hT d env W σ ss Q' := fun A H m F s ok S P =>
  wpAny_mono (h A H m F s ok S P) (fun _ _ hpat => by obtain ⟨fl, σ', m', F', h1, r⟩ := hpat; exact ⟨fl, σ', m', F', q _ _ h1, r⟩) fun _ _ x => x

/-- a frozen own list -/
theorem St.freeze {m : Str → Option Value} {F H : Fz} {h : Heap} {x : Str} {xs : List AV} (S : St hT env W σ m F h) (P : Prot env W σ m H h) (e : σ.lookup x = some (.own xs)) :
    ∃ F', (∀ a o, F a = some o → F' a = some o) ∧ (∀ a o, H a = some o → F' a = F a) ∧ St hT env W (put σ x (.val (.lst xs))) m F' h ∧ Prot env W (put σ x (.val (.lst xs))) m H h := by
  obtain ⟨v, hv, a, vs, n, rfl, h1, h2, h3⟩ := S.loc x _ e
  have le : ∀ b o, F b = some o → F.put a (lstObj vs n) b = some o := fun b o q => by
    unfold Fz.put
    by_cases c : b = a
    · subst c; rw [h1] at q; cases q
    · rw [if_neg c]; exact q
  have ne : ∀ b, b ≠ a → F.put a (lstObj vs n) b = F b := fun b c => by unfold Fz.put; rw [if_neg c]
  refine ⟨F.put a (lstObj vs n), le, fun b o q => ne b fun c => ?_, ⟨fun b o q => le _ _ (S.base b o q), fun b o q => ?_, S.vars, S.kind, fun y hy => ?_, fun y c q => ?_, fun y z ys zs b q1 q2 => ?_⟩, P.inn, P.free, fun y ys b q => ?_⟩
  · subst c; rw [P.own x xs b e hv] at q; cases q
  · unfold Fz.put at q
    by_cases c : b = a
    · rw [if_pos c] at q; cases q; subst c; exact h2
    · rw [if_neg c] at q; exact S.inn _ _ q
  · rw [ne]
    · exact S.free y hy
    · intro c
      obtain ⟨o, ho⟩ := locOf_there S.vars (S.kind y hy)
      rw [c, h2] at ho
      cases ho
      rcases S.kind y hy with hl | ⟨hc, hs⟩
      · have : locOf env y = env.locals := by unfold locOf; rw [if_neg (by rw [hl]; decide)]
        obtain ⟨⟨mL, ⟨o, es, ep, e1, e2, _⟩, _⟩, _⟩ := S.vars
        rw [this] at c; rw [c, h2] at e1; cases e1; cases e2
      · obtain ⟨c', hc'⟩ := Option.isSome_iff_exists.mp hs
        have : locOf env y = c' := by unfold locOf; rw [if_pos hc, hc']; rfl
        obtain ⟨o, e1, e2⟩ := S.vars.cell y c' hc hc'
        rw [this] at c; rw [c, h2] at e1; cases e1; cases e2
  · rw [lookup_put] at q
    by_cases hy : y = x
    · subst hy
      rw [if_pos rfl] at q
      cases q
      refine ⟨_, hv, ?_⟩
      show Rep _ _ _
      unfold Rep
      exact ⟨a, vs, n, rfl, Fz.put_self .., h3.mono le⟩
    · rw [if_neg hy] at q
      obtain ⟨u, hu, r⟩ := S.loc y c q
      refine ⟨u, hu, ?_⟩
      cases c with
      | val z => exact Rep.mono le r
      | own zs =>
        obtain ⟨b, us, k, rfl, g1, g2, g3⟩ := r
        refine ⟨b, us, k, rfl, ?_, g2, g3.mono le⟩
        rw [ne]
        · exact g1
        · intro c; subst c
          exact hy (S.sep y x zs xs _ q e hu hv)
  · rw [lookup_put] at q1 q2
    by_cases hy : y = x
    · rw [if_pos hy] at q1; cases q1
    · by_cases hz : z = x
      · rw [if_pos hz] at q2; cases q2
      · rw [if_neg hy] at q1; rw [if_neg hz] at q2
        exact S.sep y z ys zs b q1 q2
  · rw [lookup_put] at q
    by_cases hy : y = x
    · rw [if_pos hy] at q; cases q
    · rw [if_neg hy] at q; exact P.own y ys b q
theorem ex_freeze {ss : List Stmt} (x : Str) {xs : List AV} (e : σ.lookup x = some (.own xs)) (h : Ex prog w hT d env W (put σ x (.val (.lst xs))) ss Q) : Ex prog w hT d env W σ ss Q := fun A H m F s ok S P => by
  obtain ⟨F', h1, h2, S', P'⟩ := S.freeze P e
  refine wpAny_mono (h A H m F' s ok S' P') (fun _ _ hpat => by obtain ⟨fl, σ', m', F2, q1, q2, q3, q4, q5, q6, q7⟩ := hpat; exact ⟨fl, σ', m', F2, q1, q2, fun a o z => q3 _ _ (h1 a o z), fun a o z => (q4 a o z).trans (h2 a o z), q5, q6, q7⟩) fun _ _ x => x

theorem ex_nil (h : Q .next σ) : Ex prog w hT d env W σ [] Q := fun A H m F s ok S P => wpAny_execs_nil ⟨.next, σ, m, F, h, rfl, fun _ _ e => e, fun _ _ _ => rfl, S, P, .refl s⟩
theorem ex_cons {st : Stmt} {ss : List Stmt} (h : Ex1 prog w hT d env W σ st fun fl σ' => match fl with | .next => Ex prog w hT d env W σ' ss Q | fl => Q fl σ') : Ex prog w hT d env W σ (st :: ss) Q := fun A H m F s ok S P => by
  refine wpAny_execs_cons (wpAny_mono (h A H m F s ok S P) (fun f s' hpat => ?_) fun _ _ x => x)
  obtain ⟨fl, σ', m', F', q1, q2, q3, q4, q5, q6, q7⟩ := hpat
  cases fl with
  | next =>
    cases q2
    refine wpAny_mono (q1 A H m' F' s' ok q5 q6) (fun f s2 hpat => by obtain ⟨fl, σ2, m2, F2, p1, p2, p3, p4, p5, p6, p7⟩ := hpat; exact ⟨fl, σ2, m2, F2, p1, p2, fun a o e => p3 _ _ (q3 a o e), fun a o e => (p4 a o e).trans (q4 a o e), p5, p6, q7.trans p7⟩) fun _ _ x => x
  | brk => cases q2; exact ⟨.brk, σ', m', F', q1, rfl, q3, q4, q5, q6, q7⟩
  | cont => cases q2; exact ⟨.cont, σ', m', F', q1, rfl, q3, q4, q5, q6, q7⟩
  | ret x => obtain ⟨v, rfl, r⟩ := q2; exact ⟨.ret x, σ', m', F', q1, ⟨v, rfl, r⟩, q3, q4, q5, q6, q7⟩

/-- the place of a local holds no list -/
theorem loc_no_list {m : Str → Option Value} {h : Heap} {x : Str} (V : Vars env m h) (hx : env.kindOf x = some .local ∨ (env.kindOf x = some .cell ∧ (env.cells.lookup x).isSome = true)) {a : Addr} {vs : List Value} {n : Nat} (e : h.get? a = some (lstObj vs n)) : a ≠ locOf env x := by
  rintro rfl
  rcases hx with hl | ⟨hc, hs⟩
  · have : locOf env x = env.locals := by unfold locOf; rw [if_neg (by rw [hl]; decide)]
    obtain ⟨⟨mL, ⟨o, es, ep, e1, e2, _⟩, _⟩, _⟩ := V
    rw [this, e1] at e; cases e; cases e2
  · obtain ⟨c', hc'⟩ := Option.isSome_iff_exists.mp hs
    have : locOf env x = c' := by unfold locOf; rw [if_pos hc, hc']; rfl
    obtain ⟨o, e1, e2⟩ := V.cell x c' hc hc'
    rw [this, e1] at e; cases e; cases e2

/-- a local stored -/
theorem St.store {m : Str → Option Value} {F H : Fz} {h h' : Heap} {x : Str} {c : Cell} {v : Value} (S : St hT env W σ m F h) (P : Prot env W σ m H h) (hx : W x = true) (V' : Vars env (upd m x v) h') (hb : ∀ b, b ≠ locOf env x → h'.get? b = h.get? b)
    (r : RepC F h c v) (hsep : ∀ xs a, c = .own xs → v = .ref a → H a = none ∧ ∀ y ys, y ≠ x → σ.lookup y = some (.own ys) → m y ≠ some (.ref a)) :
    St hT env W (put σ x c) (upd m x v) F h' ∧ Prot env W (put σ x c) (upd m x v) H h' := by
  have inn : ∀ a o, F a = some o → h'.get? a = some o := fun a o e => (hb a fun q => by rw [q, S.free x hx] at e; cases e).trans (S.inn a o e)
  have lst : ∀ a vs n, h.get? a = some (lstObj vs n) → h'.get? a = some (lstObj vs n) := fun a vs n e => (hb a (loc_no_list S.vars (S.kind x hx) e)).trans e
  refine ⟨⟨S.base, inn, V', S.kind, S.free, fun y c' q => ?_, fun y z ys zs a q1 q2 e1 e2 => ?_⟩, fun a o e => (hb a fun q => by rw [q, P.free x hx] at e; cases e).trans (P.inn a o e), P.free, fun y ys a q e => ?_⟩
  · rw [lookup_put] at q
    by_cases hy : y = x
    · subst hy
      rw [if_pos rfl] at q; cases q
      refine ⟨v, if_pos rfl, ?_⟩
      cases c with
      | val z => exact r
      | own zs => obtain ⟨a, vs, n, e, h1, h2, h3⟩ := r; exact ⟨a, vs, n, e, h1, lst _ _ _ h2, h3⟩
    · rw [if_neg hy] at q
      obtain ⟨u, hu, r'⟩ := S.loc y c' q
      refine ⟨u, (if_neg hy).trans hu, ?_⟩
      cases c' with
      | val z => exact r'
      | own zs => obtain ⟨a, vs, n, e, h1, h2, h3⟩ := r'; exact ⟨a, vs, n, e, h1, lst _ _ _ h2, h3⟩
  · rw [lookup_put] at q1 q2
    unfold upd at e1 e2
    by_cases hy : y = x
    · by_cases hz : z = x
      · rw [hy, hz]
      · exfalso
        rw [if_pos hy] at q1 e1
        rw [if_neg hz] at q2 e2
        cases q1; cases e1
        exact (hsep ys a rfl rfl).2 z zs hz q2 e2
    · by_cases hz : z = x
      · exfalso
        rw [if_neg hy] at q1 e1
        rw [if_pos hz] at q2 e2
        cases q2; cases e2
        exact (hsep zs a rfl rfl).2 y ys hy q1 e1
      · rw [if_neg hy] at q1 e1
        rw [if_neg hz] at q2 e2
        exact S.sep y z ys zs a q1 q2 e1 e2
  · rw [lookup_put] at q
    unfold upd at e
    by_cases hy : y = x
    · rw [if_pos hy] at q e
      cases q; cases e
      exact (hsep ys a rfl rfl).1
    · rw [if_neg hy] at q e
      exact P.own y ys a q e

theorem st_assign {x : Str} {p1 p2 : Pos} {e : Expr} {y : AV} (hW : W x = true) (he : Ev prog w hT d env W σ e y) (h : Q .next (put σ x (.val y))) (hk : env.scope.kind = .function := by rfl)
    (hs : swapsWith e (some (.Name x p1)) p2.line env = pure false := by rfl) : Ex1 prog w hT d env W σ (.Assign [.Name x p1] e p2) Q := fun A H m F s ok S P =>
  wpAny_Assign_Name (he.use ok S fun v s1 F1 k1 x1 S1 r1 => store_any S1.vars hk (S1.kind x hW) fun h' t V' hb => by
    obtain ⟨S2, P2⟩ := S1.store (P.keeps k1.heap) hW V' hb (c := .val y) r1 (fun _ _ q => nomatch q)
    exact ⟨.next, _, _, F1, h, rfl, x1.le, fun a o q => x1.old a o (P.inn a o q), S2, P2, k1.g.of⟩) hs
theorem st_assignO {x : Str} {p1 p2 : Pos} {e : Expr} {ys : List AV} (hW : W x = true) (he : EvO prog w hT d env W σ e ys) (h : Q .next (put σ x (.own ys))) (hk : env.scope.kind = .function := by rfl)
    (hs : swapsWith e (some (.Name x p1)) p2.line env = pure false := by rfl) : Ex1 prog w hT d env W σ (.Assign [.Name x p1] e p2) Q := fun A H m F s ok S P =>
  wpAny_Assign_Name (he.use ok S fun a s1 F1 vs n k1 x1 S1 g1 g2 g3 g4 => store_any S1.vars hk (S1.kind x hW) fun h' t V' hb => by
    obtain ⟨S2, P2⟩ := S1.store (P.keeps k1.heap) hW V' hb (c := .own ys) (v := .ref a) ⟨a, vs, n, rfl, g2, g3, g4⟩ (fun xs b e1 e2 => by
      cases e2
      refine ⟨?_, fun z zs hz q e => ?_⟩
      · cases q : H a with
        | none => rfl
        | some o => have := P.inn a o q; rw [g1] at this; cases this
      · obtain ⟨u, hu, b, us, k, rfl, _, q2, _⟩ := S.loc z _ q
        rw [hu] at e; cases e
        rw [g1] at q2; cases q2)
    exact ⟨.next, _, _, F1, h, rfl, x1.le, fun a o q => x1.old a o (P.inn a o q), S2, P2, k1.g.of⟩) hs
theorem st_return {e : Expr} {y : AV} {p : Pos} (he : Ev prog w hT d env W σ e y) (h : Q (.ret y) σ) : Ex1 prog w hT d env W σ (.Return (some e) p) Q := fun A H m F s ok S P =>
  wpAny_Return_some (he.use ok S fun v s1 F1 k1 x1 S1 r1 => ⟨.ret y, σ, m, F1, h, ⟨v, rfl, r1⟩, x1.le, fun a o q => x1.old a o (P.inn a o q), S1, P.keeps k1.heap, k1.g⟩)
theorem st_if {t : Expr} {body orelse : List Stmt} {p : Pos} {b : Bool} (ht : Ts prog w hT d env W σ t b) (h : if b then Ex prog w hT d env W σ body Q else Ex prog w hT d env W σ orelse Q) : Ex1 prog w hT d env W σ (.If t body orelse p) Q := fun A H m F s ok S P =>
  wpAny_If (ht.use ok S fun s1 F1 k1 x1 S1 => by
    cases b with
    | true => exact wpAny_mono (h A H m F1 s1 ok S1 (P.keeps k1.heap)) (fun f s2 hpat => by obtain ⟨fl, σ2, m2, F2, p1, p2, p3, p4, p5, p6, p7⟩ := hpat; exact ⟨fl, σ2, m2, F2, p1, p2, fun a o e => p3 _ _ (x1.le a o e), fun a o e => (p4 a o e).trans (x1.old a o (P.inn a o e)), p5, p6, k1.g.trans p7⟩) fun _ _ x => x
    | false => exact wpAny_mono (h A H m F1 s1 ok S1 (P.keeps k1.heap)) (fun f s2 hpat => by obtain ⟨fl, σ2, m2, F2, p1, p2, p3, p4, p5, p6, p7⟩ := hpat; exact ⟨fl, σ2, m2, F2, p1, p2, fun a o e => p3 _ _ (x1.le a o e), fun a o e => (p4 a o e).trans (x1.old a o (P.inn a o e)), p5, p6, k1.g.trans p7⟩) fun _ _ x => x)
end
end Mine
end
section
open PySem PySem.W PyProof.Rows
set_option Elab.async false
namespace Mine

/-- what a step keeps that may change an iterator's own objects -/
structure KpB (fp : Fz) (gp : Nat → Option GenState) (s s' : Shared) : Prop where
  heap : ∀ b o, fp b = none → s.heap.get? b = some o → s'.heap.get? b = some o
  gens : ∀ (g : Nat) x, gp g = none → s.gens[g]? = some x → s'.gens[g]? = some x
  bare : AllBare s.gens → AllBare s'.gens
  os : s'.os = s.os

/-- growing while an iterator's own objects may change -/
structure ExtB (fp F : Fz) (h : Heap) (F' : Fz) (h' : Heap) : Prop where
  le : ∀ a o, F a = some o → F' a = some o
  old : ∀ a o, fp a = none → h.get? a = some o → F' a = F a
  inn : ∀ a o, F' a = some o → h'.get? a = some o
section
variable (prog : Program) (w : World) (hT : Heap) (d : Nat) (tg : Expr) (it : Value)
/-- what is known where an iterator is asked -/
structure ItPre (F₀ fp : Fz) (gp : Nat → Option GenState) (A : Around) (F : Fz) (s : Shared) : Prop where
  ok : OkA d A
  le : ∀ a o, F₀ a = some o → F a = some o
  base : ∀ a o, hT.get? a = some o → F a = some o
  inn : ∀ a o, F a = some o → s.heap.get? a = some o
  at_ : ∀ a o, fp a = some o → s.heap.get? a = some o
  gat : ∀ (g : Nat) x, gp g = some x → s.gens[g]? = some x
  off : ∀ a o, fp a = some o → F a = none
/-- an iterator that gives these items -/
noncomputable def Itr : List AV → Fz → Fz → (Nat → Option GenState) → Prop
  | [], F₀, fp, gp => ∀ A F s, ItPre hT d F₀ fp gp A F s → wpAny (model prog w) A (pyNext it) (fun r s' => r = none ∧ KpB fp gp s s') (fun _ _ => False) s
  | x :: xs, F₀, fp, gp => ∀ A F s, ItPre hT d F₀ fp gp A F s → wpAny (model prog w) A (pyNext it) (fun r s1 => ∃ v, r = some v ∧ wpAny (model prog w) A (letOwnedTupleGo tg it v) (fun _ s' => KpB fp gp s s' ∧
      ∃ F' fp' gp', ExtB fp F s.heap F' s'.heap ∧ Rep F' x v ∧ (∀ a o, fp' a = some o → s'.heap.get? a = some o ∧ F' a = none ∧ ((∃ o', fp a = some o') ∨ s.heap.get? a = none)) ∧
        (∀ (g : Nat) y, gp' g = some y → s'.gens[g]? = some y ∧ ((∃ y', gp g = some y') ∨ s.gens[g]? = none)) ∧ ((∀ g, gp g = none) → ∀ g, gp' g = none) ∧ Itr xs F₀ fp' gp') (fun _ _ => False) s1) (fun _ _ => False) s
end

/-- a loop's name, or two names -/
inductive BindT (W : Str → Bool) (σ : Sig) : Expr → AV → Sig → Prop
  | name {n : Str} {p : Pos} {x : AV} : W n = true → BindT W σ (.Name n p) x (put σ n (.val x))
  | pair {a b : Str} {p q r : Pos} {k : Nat} {x y : AV} : W a = true → W b = true → BindT W σ (.Tuple [.Name a p, .Name b q] k r) (.tup [x, y]) (put (put σ a (.val x)) b (.val y))

section
variable (prog : Program) (w : World) (hT : Heap) (d : Nat) (env : Env) (W : Str → Bool) (σ : Sig)
noncomputable def EvI (iter tg : Expr) (xs : List AV) : Prop := ∀ (A : Around) (m : Str → Option Value) (F : Fz) (s : Shared), OkA d A → St hT env W σ m F s.heap →
  wpAny (model prog w) A (eval iter env) (fun x s1 => wpAny (model prog w) A (pyIter x) (fun it s2 => Kp s s2 ∧ ∃ F' fp gp, Ext F s.heap F' s2.heap ∧
    (∀ a o, fp a = some o → s2.heap.get? a = some o ∧ F' a = none ∧ s.heap.get? a = none) ∧ (∀ (g : Nat) x, gp g = some x → s2.gens[g]? = some x ∧ s.gens[g]? = none) ∧ Itr prog w hT d tg it xs F' fp gp) (fun _ _ => False) s1) (fun _ _ => False) s
variable (tg : Expr) (body : List Stmt)
noncomputable def Loop : List AV → Sig → (AFlow → Sig → Prop) → Prop
  | [], σ, Q => Q .next σ
  | x :: xs, σ, Q => ∃ σ1, BindT W σ tg x σ1 ∧ Ex prog w hT d env W σ1 body fun fl σ2 => match fl with
    | .next => Loop xs σ2 Q
    | .cont => Loop xs σ2 Q
    | .brk => Q .next σ2
    | .ret y => Q (.ret y) σ2
end

section
variable {prog : Program} {w : World} {hT : Heap} {d : Nat} {env : Env} {W : Str → Bool} {σ : Sig} {Q : AFlow → Sig → Prop}

noncomputable def HU (H fp : Fz) : Fz := fun a => match fp a with | some o => some o | none => H a

theorem assign_Tm {tg : Expr} {x : AV} {σ1 : Sig} (hb : BindT W σ tg x σ1) {A : Around} {m : Str → Option Value} {F H : Fz} {s : Shared} {v : Value} {R : Unit → Shared → Prop} {E : Value → Shared → Prop} (ok : OkA d A) (hk : env.scope.kind = .function)
    (S : St hT env W σ m F s.heap) (P : Prot env W σ m H s.heap) (r : Rep F x v)
    (k : ∀ s' m', (∀ y, W y = false → m' y = m y) → St hT env W σ1 m' F s'.heap → Prot env W σ1 m' H s'.heap → KpG s s' → R () s') : wpAny (model prog w) A (assign tg env v) R E s := by
  cases hb with
  | name hW =>
    rename_i n p
    refine wpAny_assign_Name (store_any S.vars hk (S.kind n hW) fun h' t V' hb => ?_)
    obtain ⟨S2, P2⟩ := S.store P hW V' hb (c := .val x) r (fun _ _ q => nomatch q)
    exact k _ _ (fun y hy => if_neg fun e => by rw [e, hW] at hy; cases hy) S2 P2 (KpG.refl s).of
  | pair hWa hWb =>
    rename_i a b p1 p2 p3 k0 y z
    unfold Rep at r
    obtain ⟨ta, vs, n, rfl, hta, rl⟩ := r
    unfold RepL at rl
    obtain ⟨v1, q1, rfl, r1, rl⟩ := rl
    unfold RepL at rl
    obtain ⟨v2, q2, rfl, r2, rl⟩ := rl
    unfold RepL at rl
    subst rl
    have hT' : s.heap.IsTuple ta (#[v1, v2]) := ⟨_, S.inn _ _ hta, rfl, n, rfl⟩
    refine wpAny_assign_Tuple ok.hh hT' rfl rfl fun h1 e1 => ?_
    have k1 : ∀ b o, s.heap.get? b = some o → h1.get? b = some o := fun b o e => e1 b o (Nat.ne_of_lt (Heap.lt_size e)) e
    have S1 : St hT env W σ m F h1 := S.keeps k1 ⟨fun _ _ e => e, fun _ _ _ => rfl, fun a o e => k1 _ _ (S.inn a o e)⟩
    have P1 := P.keeps k1
    show wpAny _ _ (assignInOrder [_, _] [v1, v2]) _ _ _
    refine wpAny_bind (wpAny_holding (wpAny_assign_Name (store_any S1.vars hk (S1.kind a hWa) fun h' t V' hb => ?_)))
    obtain ⟨S2, P2⟩ := S1.store P1 hWa V' hb (c := .val y) r1 (fun _ _ q => nomatch q)
    refine wpAny_bind (wpAny_holding (wpAny_assign_Name (store_any S2.vars hk (S2.kind b hWb) fun h2 t2 V2 hb2 => ?_)))
    obtain ⟨S3, P3⟩ := S2.store P2 hWb V2 hb2 (c := .val z) r2 (fun _ _ q => nomatch q)
    exact wpAny_pure (k _ _ (fun y hy => (if_neg fun e => by rw [e, hWb] at hy; cases hy).trans (if_neg fun e => by rw [e, hWa] at hy; cases hy)) S3 P3 (KpG.refl s).of)
/-- a value handed to a loop's target -/
theorem assign_T {tg : Expr} {x : AV} {σ1 : Sig} (hb : BindT W σ tg x σ1) {A : Around} {m : Str → Option Value} {F H : Fz} {s : Shared} {v : Value} {R : Unit → Shared → Prop} {E : Value → Shared → Prop} (ok : OkA d A) (hk : env.scope.kind = .function)
    (S : St hT env W σ m F s.heap) (P : Prot env W σ m H s.heap) (r : Rep F x v)
    (k : ∀ s' m', St hT env W σ1 m' F s'.heap → Prot env W σ1 m' H s'.heap → KpG s s' → R () s') : wpAny (model prog w) A (assign tg env v) R E s :=
  assign_Tm hb ok hk S P r fun s' m' _ => k s' m'

theorem HU_none {H fp : Fz} {a : Addr} (h : H a = none) (f : fp a = none) : HU H fp a = none := by unfold HU; rw [f]; exact h
theorem HU_left {H fp : Fz} {a : Addr} {o : Obj} (h : H a = some o) (off : ∀ a o, fp a = some o → H a = none) : HU H fp a = some o := by
  unfold HU
  cases f : fp a with
  | none => exact h
  | some o' => rw [off a o' f] at h; cases h
theorem HU_right {H fp : Fz} {a : Addr} {o : Obj} (h : fp a = some o) : HU H fp a = some o := by unfold HU; rw [h]

noncomputable def FrOff (env : Env) (fp : Fz) : Prop := fp env.locals = none ∧ ∀ x c, env.kindOf x = some .cell → env.cells.lookup x = some c → fp c = none
theorem Vars.keepsB {m : Str → Option Value} {h h' : Heap} {fp : Fz} (V : Vars env m h) (o : FrOff env fp) (k : ∀ b o, fp b = none → h.get? b = some o → h'.get? b = some o) : Vars env m h' := by
  obtain ⟨⟨mL, h1, h2⟩, h3, h4⟩ := V
  refine ⟨⟨mL, ?_, h2⟩, fun x c e e' => ?_, h4⟩
  · obtain ⟨ob, es, ep, q, r⟩ := h1
    exact ⟨ob, es, ep, k _ _ o.1 q, r⟩
  · obtain ⟨ob, q, r⟩ := h3 x c e e'
    exact ⟨ob, k _ _ (o.2 x c e e') q, r⟩
theorem FrOff.fresh {m : Str → Option Value} {h : Heap} {fp fp' : Fz} (o : FrOff env fp) (V : Vars env m h) (q : ∀ a ob, fp' a = some ob → (∃ o', fp a = some o') ∨ h.get? a = none) : FrOff env fp' := by
  obtain ⟨⟨mL, ⟨ob, es, ep, e1, _⟩, h2⟩, h3, h4⟩ := V
  refine ⟨?_, fun x c e e' => ?_⟩
  · cases z : fp' env.locals with
    | none => rfl
    | some y =>
      rcases q _ _ z with ⟨o', z'⟩ | z'
      · rw [o.1] at z'; cases z'
      · rw [e1] at z'; cases z'
  · obtain ⟨ob', g, _⟩ := h3 x c e e'
    cases z : fp' c with
    | none => rfl
    | some y =>
      rcases q _ _ z with ⟨o', z'⟩ | z'
      · rw [o.2 x c e e'] at z'; cases z'
      · rw [g] at z'; cases z'
theorem FrOff.of_fresh {m : Str → Option Value} {h : Heap} {fp' : Fz} (V : Vars env m h) (q : ∀ a ob, fp' a = some ob → h.get? a = none) : FrOff env fp' :=
  FrOff.fresh (fp := fun _ => none) ⟨rfl, fun _ _ _ _ => rfl⟩ V fun a ob e => .inr (q a ob e)

/-- a frame behind a step of an iterator -/
theorem St.keepsB {m : Str → Option Value} {F F' fp H : Fz} {h h' : Heap} (S : St hT env W σ m F h) (P : Prot env W σ m H h) (Pf : Prot env W σ m fp h) (o : FrOff env fp) (offH : ∀ a ob, fp a = some ob → H a = none)
    (k : ∀ b o, fp b = none → h.get? b = some o → h'.get? b = some o) (x : ExtB fp F h F' h') : St hT env W σ m F' h' ∧ Prot env W σ m H h' := by
  refine ⟨⟨fun a o e => x.le _ _ (S.base a o e), x.inn, S.vars.keepsB o k, S.kind, fun y hy => ?_, fun y c e => ?_, S.sep⟩, fun a ob e => k a ob ?_ (P.inn a ob e), P.free, P.own⟩
  · obtain ⟨ob, ho⟩ := locOf_there S.vars (S.kind y hy)
    rw [x.old _ _ (Pf.free y hy) ho]; exact S.free y hy
  · obtain ⟨v, h1, h2⟩ := S.loc y c e
    refine ⟨v, h1, ?_⟩
    cases c with
    | val z => exact Rep.mono x.le h2
    | own zs =>
      obtain ⟨a, vs, n, rfl, g1, g2, g3⟩ := h2
      exact ⟨a, vs, n, rfl, (x.old _ _ (Pf.own y zs a e h1) g2).trans g1, k _ _ (Pf.own y zs a e h1) g2, RepL.mono x.le g3⟩
  · cases q : fp a with
    | none => rfl
    | some o' => rw [offH a o' q] at e; cases e

/-- what holds between twoF turns of a loop over an iterator -/
structure LI (prog : Program) (w : World) (hT : Heap) (d : Nat) (env : Env) (W : Str → Bool) (tg : Expr) (it : Value) (H F₀ : Fz) (s₀ : Shared) (Fi : Fz) (xs : List AV) (σ : Sig) (m : Str → Option Value) (F fp : Fz) (gp : Nat → Option GenState) (s : Shared) : Prop where
  leI : ∀ a o, Fi a = some o → F a = some o
  hi : Itr prog w hT d tg it xs Fi fp gp
  S : St hT env W σ m F s.heap
  P : Prot env W σ m H s.heap
  Pf : Prot env W σ m fp s.heap
  fo : FrOff env fp
  off : ∀ a o, fp a = some o → H a = none ∧ F a = none
  gat : ∀ (g : Nat) x, gp g = some x → s.gens[g]? = some x ∧ s₀.gens[g]? = none
  le : ∀ a o, F₀ a = some o → F a = some o
  hF : ∀ a o, H a = some o → F a = F₀ a
  kg : KpG s₀ s
theorem none_of {α : Type} {f : Option α} (h : ∀ o, f = some o → False) : f = none := by
  cases f with
  | none => rfl
  | some o => exact (h o rfl).elim
theorem twoF {α : Type} {f : Option α} {o : α} (h : f = some o) (q : f = none) : False := by rw [h] at q; cases q
theorem LI.pre {tg : Expr} {it : Value} {H F₀ Fi F fp : Fz} {s₀ s : Shared} {xs : List AV} {m : Str → Option Value} {gp : Nat → Option GenState} (I : LI prog w hT d env W tg it H F₀ s₀ Fi xs σ m F fp gp s) {A : Around} (ok : OkA d A) : ItPre hT d Fi fp gp A F s :=
  ⟨ok, I.leI, I.S.base, I.S.inn, I.Pf.inn, fun g x e => (I.gat g x e).1, fun a o e => (I.off a o e).2⟩
theorem KpG.ofB {fp : Fz} {gp : Nat → Option GenState} {s₀ s s' : Shared} (k : KpG s₀ s) (gat : ∀ (g : Nat) x, gp g = some x → s.gens[g]? = some x ∧ s₀.gens[g]? = none) (kb : KpB fp gp s s') : KpG s₀ s' :=
  ⟨fun g _ e => kb.gens g _ (none_of fun y q => twoF e (gat g y q).2) (k.gens g _ e), fun e => kb.bare (k.bare e), kb.os.trans k.os⟩
theorem LI.fin {tg : Expr} {it : Value} {H F₀ Fi F fp : Fz} {s₀ s : Shared} {m : Str → Option Value} {gp : Nat → Option GenState} (I : LI prog w hT d env W tg it H F₀ s₀ Fi [] σ m F fp gp s) {A : Around} (ok : OkA d A)
    {R : Option Value → Shared → Prop} {E : Value → Shared → Prop} (k : ∀ s', St hT env W σ m F s'.heap → Prot env W σ m H s'.heap → KpG s₀ s' → R none s') : wpAny (model prog w) A (pyNext it) R E s :=
  wpAny_mono (I.hi A F s (I.pre ok)) (fun _ s' h => h.1 ▸
    (have z := I.S.keepsB I.P I.Pf I.fo (fun a o e => (I.off a o e).1) h.2.heap (F' := F) ⟨fun _ _ e => e, fun _ _ _ _ => rfl, fun a o e => h.2.heap a o (none_of fun y q => twoF e (I.off a y q).2) (I.S.inn a o e)⟩
    k s' z.1 z.2 (I.kg.ofB I.gat h.2))) fun _ _ x => x.elim
theorem Prot.left {H fp : Fz} {m : Str → Option Value} {h : Heap} (P : Prot env W σ m (HU H fp) h) (off : ∀ a o, fp a = some o → H a = none) : Prot env W σ m H h :=
  ⟨fun _ _ e => P.inn _ _ (HU_left e off), fun _ hy => none_of fun _ q => twoF (HU_left q off) (P.free _ hy), fun _ _ _ e1 e2 => none_of fun _ q => twoF (HU_left q off) (P.own _ _ _ e1 e2)⟩
theorem Prot.right {H fp : Fz} {m : Str → Option Value} {h : Heap} (P : Prot env W σ m (HU H fp) h) : Prot env W σ m fp h :=
  ⟨fun _ _ e => P.inn _ _ (HU_right e), fun _ hy => none_of fun _ q => twoF (HU_right q) (P.free _ hy), fun _ _ _ e1 e2 => none_of fun _ q => twoF (HU_right q) (P.own _ _ _ e1 e2)⟩
theorem Prot.both {H fp : Fz} {m : Str → Option Value} {h : Heap} (P : Prot env W σ m H h) (Q : Prot env W σ m fp h) : Prot env W σ m (HU H fp) h :=
  ⟨fun a o e => by
    unfold HU at e
    cases q : fp a with
    | none => rw [q] at e; exact P.inn a o e
    | some y => rw [q] at e; cases e; exact Q.inn a _ q, fun y hy => HU_none (P.free y hy) (Q.free y hy), fun y ys a q1 q2 => HU_none (P.own y ys a q1 q2) (Q.own y ys a q1 q2)⟩
/-- what lies apart from the frame's own things -/
theorem St.prot {m : Str → Option Value} {F fp : Fz} {h h' : Heap} (S : St hT env W σ m F h) (i : ∀ a o, fp a = some o → h'.get? a = some o)
    (fr : ∀ y, W y = true → ∀ o, fp (locOf env y) = some o → h.get? (locOf env y) = none) (ow : ∀ y ys a, σ.lookup y = some (.own ys) → m y = some (.ref a) → ∀ o, fp a = some o → h.get? a = none) : Prot env W σ m fp h' :=
  ⟨i, fun y hy => none_of fun o q => by
    obtain ⟨_, ho⟩ := locOf_there S.vars (S.kind y hy)
    exact twoF ho (fr y hy o q), fun y ys a q1 q2 => none_of fun o q => by
    obtain ⟨_, g0, _, _, _, rfl, _, g2, _⟩ := S.loc y _ q1
    have n := ow y ys a q1 q2 o q
    rw [q2] at g0; cases g0
    exact twoF g2 n⟩
/-- an item is there: what the turn may lean on, and what it must leave -/
structure LT (prog : Program) (w : World) (hT : Heap) (d : Nat) (env : Env) (W : Str → Bool) (tg : Expr) (it : Value) (H F₀ : Fz) (s₀ : Shared) (Fi : Fz) (x : AV) (xs : List AV) (σ : Sig) (m : Str → Option Value) (v : Value) (F' fp' : Fz) (gp' : Nat → Option GenState) (s2 : Shared) : Prop where
  r : Rep F' x v
  S : St hT env W σ m F' s2.heap
  P : Prot env W σ m (HU H fp') s2.heap
  go : ∀ {σ4 : Sig} {m4 : Str → Option Value} {F4 : Fz} {s4 : Shared}, (∀ a o, F' a = some o → F4 a = some o) → (∀ a o, HU H fp' a = some o → F4 a = F' a) → St hT env W σ4 m4 F4 s4.heap → Prot env W σ4 m4 (HU H fp') s4.heap → KpG s2 s4 →
    LI prog w hT d env W tg it H F₀ s₀ Fi xs σ4 m4 F4 fp' gp' s4
theorem LI.turn0 {tg : Expr} {it : Value} {H F₀ Fi F fp : Fz} {s₀ s : Shared} {x : AV} {xs : List AV} {m : Str → Option Value} {gp : Nat → Option GenState} (I : LI prog w hT d env W tg it H F₀ s₀ Fi (x :: xs) σ m F fp gp s) {A : Around} (ok : OkA d A) :
    wpAny (model prog w) A (pyNext it) (fun r s1 => ∃ v, r = some v ∧ wpAny (model prog w) A (letOwnedTupleGo tg it v) (fun _ s2 => ∃ F' fp' gp', LT prog w hT d env W tg it H F₀ s₀ Fi x xs σ m v F' fp' gp' s2) (fun _ _ => False) s1) (fun _ _ => False) s := by
  refine wpAny_mono (I.hi A F s (I.pre ok)) (fun _ _ h => h.elim fun v h => ⟨v, h.1, wpAny_mono h.2 (fun _ s2 h => ?_) fun _ _ x => x⟩) fun _ _ x => x
  obtain ⟨kb, F', fp', gp', ex, r, h1, h2, _, hi'⟩ := h
  refine ⟨F', fp', gp', ?_⟩
  have z := I.S.keepsB I.P I.Pf I.fo (fun a o e => (I.off a o e).1) kb.heap ex
  have offH : ∀ a o, fp' a = some o → H a = none := fun a o e => (h1 a o e).2.2.elim (fun ⟨_, q⟩ => (I.off a _ q).1) fun q => none_of fun _ z => twoF (I.P.inn a _ z) q
  refine ⟨r, z.1, z.2.both (I.S.prot (fun a o e => (h1 a o e).1) (fun y hy o e => (h1 _ o e).2.2.elim (fun ⟨_, q⟩ => (twoF q (I.Pf.free y hy)).elim) id) fun y ys a e1 e2 o e => (h1 _ o e).2.2.elim (fun ⟨_, q⟩ => (twoF q (I.Pf.own y ys a e1 e2)).elim) id), fun q3 q4 S4 P4 k4 => ?_⟩
  exact {
    leI := fun a o e => q3 _ _ (ex.le _ _ (I.leI a o e))
    hi := hi'
    S := S4
    P := P4.left offH
    Pf := P4.right
    fo := I.fo.fresh I.S.vars fun a ob e => (h1 a ob e).2.2
    off := fun a o e => ⟨offH a o e, (q4 a o (HU_right e)).trans (h1 a o e).2.1⟩
    gat := fun g x e => ⟨k4.gens _ _ (h2 g x e).1, (h2 g x e).2.elim (fun ⟨_, q⟩ => (I.gat g _ q).2) fun q => none_of fun _ z => twoF (I.kg.gens g _ z) q⟩
    le := fun a o e => q3 _ _ (ex.le _ _ (I.le a o e))
    hF := fun a o e => ((q4 a o (HU_left e offH)).trans (ex.old a o (none_of fun z q => twoF e (I.off a z q).1) (I.P.inn a o e))).trans (I.hF a o e)
    kg := (I.kg.ofB I.gat kb).trans k4 }

theorem LI.turn {tg : Expr} {it : Value} {H F₀ Fi F fp : Fz} {s₀ s : Shared} {x : AV} {xs : List AV} {m : Str → Option Value} {gp : Nat → Option GenState} (I : LI prog w hT d env W tg it H F₀ s₀ Fi (x :: xs) σ m F fp gp s) {A : Around} (ok : OkA d A)
    {R : Option Value → Shared → Prop} {E : Value → Shared → Prop} {Z : Value → Unit → Shared → Prop} {Y : Value → Shared → Prop} (hR : ∀ v s1, wpAny (model prog w) A (letOwnedTupleGo tg it v) (Z v) Y s1 → R (some v) s1)
    (k : ∀ v s2 F' fp' gp', LT prog w hT d env W tg it H F₀ s₀ Fi x xs σ m v F' fp' gp' s2 → Z v () s2) : wpAny (model prog w) A (pyNext it) R E s :=
  wpAny_mono (I.turn0 ok) (fun _ s1 h => h.elim fun v h => h.1 ▸ hR v s1 (wpAny_mono h.2 (fun _ s2 h => h.elim fun F' h => h.elim fun fp' h => h.elim fun gp' h => k v s2 F' fp' gp' h) fun _ _ x => x.elim)) fun _ _ x => x.elim

/-- the loop by its items -/
noncomputable def LInv (prog : Program) (w : World) (hT : Heap) (d : Nat) (env : Env) (W : Str → Bool) (tg : Expr) (it : Value) (H F₀ : Fz) (s₀ : Shared) (Fi : Fz) (L : List AV → Sig → (Str → Option Value) → Prop) (n : Nat) (s : Shared) : Prop :=
  ∃ xs σ m F fp gp, n = List.length xs ∧ L xs σ m ∧ LI prog w hT d env W tg it H F₀ s₀ Fi xs σ m F fp gp s
theorem LInv.elim {tg : Expr} {it : Value} {H F₀ Fi : Fz} {s₀ s : Shared} {L : List AV → Sig → (Str → Option Value) → Prop} {n : Nat} (h : LInv prog w hT d env W tg it H F₀ s₀ Fi L n s) {C : Prop}
    (k0 : ∀ σ m F fp gp, L [] σ m → LI prog w hT d env W tg it H F₀ s₀ Fi [] σ m F fp gp s → C) (k1 : ∀ x xs σ m F fp gp, xs.length < n → L (x :: xs) σ m → LI prog w hT d env W tg it H F₀ s₀ Fi (x :: xs) σ m F fp gp s → C) : C := by
  obtain ⟨xs, σ, m, F, fp, gp, rfl, hl, I⟩ := h
  cases xs with
  | nil => exact k0 _ _ _ _ _ hl I
  | cons x xs => exact k1 _ _ _ _ _ _ _ (Nat.lt_succ_self _) hl I
theorem PostX.all {H F : Fz} {s : Shared} {C : Flow → Shared → Prop}
    (k : ∀ σ' m' F' s', (∀ a o, F a = some o → F' a = some o) → (∀ a o, H a = some o → F' a = F a) → St hT env W σ' m' F' s'.heap → Prot env W σ' m' H s'.heap → KpG s s' →
      (Q .next σ' → C .next s') ∧ (Q .cont σ' → C .cont s') ∧ (Q .brk σ' → C .brk s') ∧ ∀ y v, Rep F' y v → Q (.ret y) σ' → C (.ret v) s') (f : Flow) (s' : Shared) (h : PostX hT env W H F s Q f s') : C f s' := by
  obtain ⟨fl, σ', m', F', q1, q2, q3, q4, q5, q6, q7⟩ := h
  have z := k σ' m' F' s' q3 q4 q5 q6 q7
  cases fl with
  | next => cases q2; exact z.1 q1
  | cont => cases q2; exact z.2.1 q1
  | brk => cases q2; exact z.2.2.1 q1
  | ret y => obtain ⟨v, rfl, r⟩ := q2; exact z.2.2.2 y v r q1
theorem for_loop {tg : Expr} {it : Value} {body : List Stmt} (hk : env.scope.kind = .function) {A : Around} {H F₀ Fi : Fz} {s₀ : Shared} (ok : OkA d A) {xs : List AV} {σ : Sig} {m : Str → Option Value} {F fp : Fz} {gp : Nat → Option GenState} {s : Shared} {R : Result → Shared → Prop}
    (hl : Loop prog w hT d env W tg body xs σ Q) (I : LI prog w hT d env W tg it H F₀ s₀ Fi xs σ m F fp gp s) (hR : ∀ f s', PostX hT env W H F₀ s₀ Q f s' → R (.ok f) s') : codeAny (model prog w) A (.forLoop tg it body [] env) R s :=
  codeAny_forLoop_any (LInv prog w hT d env W tg it H F₀ s₀ Fi fun xs σ _ => Loop prog w hT d env W tg body xs σ Q) (fun _ _ h => h.elim
    (fun σ m F _ _ hl I => I.fin ok fun s' S' P' k' => wpAny_execs_nil (hR _ _ ⟨.next, σ, m, F, hl, rfl, I.le, I.hF, S', P', k'⟩))
    fun _ xs _ _ _ _ _ hn hl I => hl.elim fun _ hb => I.turn ok (fun _ _ h => h) fun _ _ _ fp' gp' T => assign_T (d := d) hb.1 ok hk T.S T.P T.r fun s3 m3 S3 P3 k3 =>
      wpAny_mono (hb.2 A (HU H fp') m3 _ s3 ok S3 P3) (PostX.all fun σ4 m4 F4 _ q3 q4 S4 P4 k4 =>
        have J := T.go q3 q4 S4 P4 (k3.trans k4)
        have J' : ∀ fl f, Q fl σ4 → FlowIs F4 fl f → PostX hT env W H F₀ s₀ Q f _ := fun fl _ q1 q2 => ⟨fl, σ4, m4, F4, q1, q2, J.le, J.hF, S4, J.P, J.kg⟩
        have J'' := fun q1 : Loop prog w hT d env W tg body xs σ4 Q => (⟨xs.length, hn, xs, σ4, m4, F4, fp', gp', rfl, q1, J⟩ : ∃ m, m < _ ∧ LInv prog w hT d env W tg it H F₀ s₀ Fi (fun xs σ _ => Loop prog w hT d env W tg body xs σ Q) m _)
        ⟨J'', J'', fun q1 => hR _ _ (J' .next _ q1 rfl), fun y v r q1 => hR _ _ (J' (.ret y) _ q1 ⟨v, rfl, r⟩)⟩) fun _ _ x => x.elim)
    xs.length ⟨xs, σ, m, F, fp, gp, rfl, hl, I⟩

theorem LI.first {tg : Expr} {it : Value} {H F F' fp : Fz} {s s2 : Shared} {xs : List AV} {m : Str → Option Value} {gp : Nat → Option GenState} (S : St hT env W σ m F s.heap) (P : Prot env W σ m H s.heap) (kp : Kp s s2) (ex : Ext F s.heap F' s2.heap)
    (h2 : ∀ a o, fp a = some o → s2.heap.get? a = some o ∧ F' a = none ∧ s.heap.get? a = none) (h3 : ∀ (g : Nat) x, gp g = some x → s2.gens[g]? = some x ∧ s.gens[g]? = none) (hit : Itr prog w hT d tg it xs F' fp gp) : LI prog w hT d env W tg it H F s F' xs σ m F' fp gp s2 where
  leI := fun _ _ e => e
  hi := hit
  S := S.keeps kp.heap ex
  P := P.keeps kp.heap
  Pf := S.prot (fun a o e => (h2 a o e).1) (fun _ _ o e => (h2 _ o e).2.2) fun _ _ _ _ _ o e => (h2 _ o e).2.2
  fo := FrOff.of_fresh S.vars fun a ob e => (h2 a ob e).2.2
  off := fun a o e => ⟨none_of fun _ z => twoF (P.inn a _ z) (h2 a o e).2.2, (h2 a o e).2.1⟩
  gat := h3
  le := ex.le
  hF := fun a o e => ex.old a o (P.inn a o e)
  kg := kp.g

theorem st_for {tg iter : Expr} {body : List Stmt} {pos : Pos} {xs : List AV} (hi : EvI prog w hT d env W σ iter tg xs) (hl : Loop prog w hT d env W tg body xs σ Q) (hk : env.scope.kind = .function := by rfl)
    (hs : ∀ x, foldedSetIterable iter env x = pure x := by intro _; rfl) : Ex1 prog w hT d env W σ (.For tg iter body [] pos) Q := fun A H m F s ok S P => by
  refine wpAny_For (wpAny_mono (hi A m F s ok S) (fun x s1 h1 => wpAny_mono h1 (fun it s2 hpat => ?_) fun _ _ x => x) fun _ _ x => x) hs
  obtain ⟨kp, F', fp, gp, ex, h2, h3, hit⟩ := hpat
  exact for_loop hk ok hl (LI.first S P kp ex h2 h3 hit) fun _ _ h => h
end
end Mine
end
section
open PySem PySem.W PyProof.Rows
set_option Elab.async false
namespace Mine
section
variable {prog : Program} {w : World} {hT : Heap} {d : Nat} {env : Env} {W : Str → Bool} {σ : Sig}

theorem itr_walks {tg : Expr} {I : Addr} {fpL wr : List Addr} {n : Nat} {P : Nat → Value → Prop} {St : Nat → Heap → Prop} {xs : List AV} {F₀ : Fz} (Wk : ∀ A, OkA d A → Walks prog w A I fpL wr n P St) (hn : n = xs.length)
    (hfp : ∀ b ∈ fpL, b ∈ wr ∨ ∃ o, F₀ b = some o) (hP : ∀ i v x, P i v → xs[i]? = some x → Rep F₀ x v)
    (hI : ∀ i h, St i h → ∀ b ∈ wr, ∃ o, h.get? b = some o) (hgo : ∀ i A s v (Q : Unit → Shared → Prop), St i s.heap → Q () s → wpAny (model prog w) A (letOwnedTupleGo tg (.ref I) v) Q (fun _ _ => False) s) :
    ∀ (k i : Nat) (F₁ f : Fz), n - i = k → i ≤ n → (∀ a o, F₀ a = some o → F₁ a = some o) → (∀ b o, f b = some o → b ∈ wr) → (∀ b ∈ wr, ∃ o, f b = some o) →
      (∀ h, (∀ b o, f b = some o → h.get? b = some o) → (∀ b o, F₁ b = some o → h.get? b = some o) → St i h) → Itr prog w hT d tg (.ref I) (xs.drop i) F₁ f (fun _ => none) := by
  intro k
  induction k with
  | zero =>
    intro i F₁ f hk hi hF hf hw hst
    have : i = n := by omega
    subst this
    rw [hn, List.drop_length]
    intro A F s pre
    refine (Wk A pre.ok).done s _ _ (hst s.heap pre.at_ fun b o e => pre.inn _ _ (pre.le b o e)) fun h' tk hk' => ⟨rfl, fun b o q e => hk' b o (fun hb => ?_) e, fun _ _ _ e => e, fun e => e, rfl⟩
    obtain ⟨o', q'⟩ := hw b hb
    rw [q] at q'; cases q'
  | succ k ih =>
    intro i F₁ f hk hi hF hf hw hst
    have hlt : i < n := by omega
    have hlt' : i < xs.length := hn ▸ hlt
    rw [List.drop_eq_getElem_cons hlt']
    intro A F s pre
    have hS := hst s.heap pre.at_ fun b o e => pre.inn _ _ (pre.le b o e)
    refine (Wk A pre.ok).item i s _ _ hlt hS fun v h' tk hPv hS' hk' => ⟨v, rfl, hgo (i + 1) A _ v _ hS' ?_⟩
    have hnw : ∀ b o, f b = none → s.heap.get? b = some o → h'.get? b = some o := fun b o q e => hk' b o (fun hb => by
      obtain ⟨o', q'⟩ := hw b hb
      rw [q] at q'; cases q') e
    have hFn : ∀ a o, F a = some o → f a = none := fun a o e => by
      cases q : f a with
      | none => rfl
      | some o' => rw [pre.off a o' q] at e; cases e
    refine ⟨⟨hnw, fun _ _ _ e => e, fun e => e, rfl⟩, F, (fun b => if b ∈ wr then h'.get? b else none), fun _ => none, ⟨fun _ _ e => e, fun _ _ _ _ => rfl, fun a o e => hnw a o (hFn a o e) (pre.inn a o e)⟩,
      Rep.mono (fun a o e => pre.le _ _ (hF a o e)) (hP i v _ hPv (by simp [hlt'])), fun a o e => ?_, (fun g y e => by cases e), (fun _ _ => rfl), ih (i + 1) F₁ _ (by omega) hlt hF (fun b o e => ?_) (fun b hb => ?_) fun h q1 q2 => ?_⟩
    · dsimp only at e
      by_cases hb : a ∈ wr
      · rw [if_pos hb] at e
        obtain ⟨o', q'⟩ := hw a hb
        exact ⟨e, pre.off a o' q', .inl ⟨o', q'⟩⟩
      · rw [if_neg hb] at e; cases e
    · by_cases hb : b ∈ wr
      · exact hb
      · rw [if_neg hb] at e; cases e
    · rw [if_pos hb]
      exact hI _ _ hS' b hb
    · refine (Wk A pre.ok).frame _ _ _ hS' fun b hb o e => ?_
      rcases hfp b hb with hb | ⟨o', q⟩
      · exact q1 b o (by rw [if_pos hb]; exact e)
      · have z := hF b o' q
        have z' := pre.le b o' z
        have z'' := hnw b o' (hFn b o' z') (pre.inn b o' z')
        rw [e] at z''; cases z''
        exact q2 b _ z

theorem letGo_plain {tg : Expr} {I : Addr} {v : Value} {A : Around} {s : Shared} {Q : Unit → Shared → Prop} {E : Value → Shared → Prop} {o : Obj} {n : String} (ho : s.heap.get? I = some o) (hc : o.cls = .type n)
    (hn : ["enumerate", "zip", "dict_itemiterator", "dict_reverseitemiterator", "odict_iterator", "itertools.zip_longest", "itertools.pairwise"].contains n = false) (h : Q () s) : wpAny (model prog w) A (letOwnedTupleGo tg (.ref I) v) Q E s := by
  have key : ∀ a, wpAny (model prog w) A (load I >>= fun o => match o.cls, o.data with
      | .type n, .fields vs => if ["enumerate", "zip", "dict_itemiterator", "dict_reverseitemiterator", "odict_iterator", "itertools.zip_longest", "itertools.pairwise"].contains n && vs[0]? == some (rawInt a) then do
          rule "for.unpacks-the-owned-tuple"
          updateField I 0 .none
        else pure ()
      | _, _ => pure ()) Q E s := fun a => by
    refine wpAny_bind (wpAny_load ho ?_)
    obtain ⟨oc, od, dt, sl⟩ := o
    dsimp only at hc ⊢
    subst hc
    cases dt with
    | fields vs => dsimp only; rw [hn]; exact wpAny_pure h
    | _ => exact wpAny_pure h
  unfold letOwnedTupleGo
  cases tg with
  | Tuple => cases v with
    | ref a => exact key a
    | _ => exact wpAny_pure h
  | List => cases v with
    | ref a => exact key a
    | _ => exact wpAny_pure h
  | _ => exact wpAny_pure h

/-- the footprint of one new object -/
noncomputable def one (a : Addr) (o : Obj) : Fz := fun b => if b = a then some o else none
theorem one_some {a b : Addr} {o o' : Obj} (e : one a o b = some o') : b = a ∧ o' = o := by
  unfold one at e
  by_cases h : b = a
  · rw [if_pos h] at e; cases e; exact ⟨h, rfl⟩
  · rw [if_neg h] at e; cases e
theorem fresh_size (h : Heap) : h.get? h.objs.size = none := by
  cases e : h.get? h.objs.size with
  | none => rfl
  | some o => exact absurd (Heap.lt_size e) (Nat.lt_irrefl _)
theorem F_size {F : Fz} {h : Heap} (i : ∀ a o, F a = some o → h.get? a = some o) : F h.objs.size = none := by
  cases e : F h.objs.size with
  | none => rfl
  | some o => have := i _ _ e; rw [fresh_size] at this; cases this
theorem Kp.push (s : Shared) (o : Obj) : Kp s { s with heap := s.heap.push o } := ⟨fun _ _ e => Heap.get?_push_of_some _ e, fun _ _ e => e, fun e => e, rfl⟩
/-- the end of making a simple iterator -/
theorem evI_end {tg : Expr} {s s1 : Shared} {F F1 : Fz} {o : Obj} {xs : List AV} (k1 : Kp s s1) (x1 : Ext F s.heap F1 s1.heap) (hf : o.isFreed = false) (hi : Itr prog w hT d tg (.ref s1.heap.objs.size) xs F1 (one s1.heap.objs.size o) (fun _ => none)) :
    Kp s { s1 with heap := s1.heap.push o } ∧ ∃ F' fp gp, Ext F s.heap F' (s1.heap.push o) ∧ (∀ a o', fp a = some o' → (s1.heap.push o).get? a = some o' ∧ F' a = none ∧ s.heap.get? a = none) ∧
      (∀ (g : Nat) x, gp g = some x → s1.gens[g]? = some x ∧ s.gens[g]? = none) ∧ Itr prog w hT d tg (.ref s1.heap.objs.size) xs F' fp gp := by
  refine ⟨k1.trans (Kp.push s1 o), F1, _, _, x1.keep fun _ _ e => Heap.get?_push_of_some _ e, fun a o' e => ?_, (fun g x e => by cases e), hi⟩
  obtain ⟨rfl, rfl⟩ := one_some e
  refine ⟨Heap.get?_push_size _ hf, F_size x1.inn, ?_⟩
  cases q : s.heap.get? s1.heap.objs.size with
  | none => rfl
  | some z => have := k1.heap _ _ q; rw [fresh_size] at this; cases this

/-- a range's ints -/
noncomputable def rangeL (a c : Int) (n : Nat) : List Int := (List.range n).map fun (i : Nat) => a + (i : Int) * c
end
section
variable (prog : Program) (w : World) (hT : Heap) (d : Nat) (env : Env) (W : Str → Bool) (σ : Sig)
/-- an iterator is its own iterator -/
noncomputable def SelfIt (it : Value) (fp : Fz) : Prop := ∀ (A : Around) (s : Shared) (Q : Value → Shared → Prop) (E : Value → Shared → Prop), A.handled = none → (∀ a o, fp a = some o → s.heap.get? a = some o) → Q it s → wpAny (model prog w) A (pyIter it) Q E s
noncomputable def EvJ (iter tg : Expr) (xs : List AV) : Prop := ∀ (A : Around) (m : Str → Option Value) (F : Fz) (s : Shared), OkA d A → St hT env W σ m F s.heap →
  wpAny (model prog w) A (eval iter env) (fun x s1 => wpAny (model prog w) A (pyIter x) (fun it s2 => Kp s s2 ∧ ∃ F' fp gp, Ext F s.heap F' s2.heap ∧
    (∀ a o, fp a = some o → s2.heap.get? a = some o ∧ F' a = none ∧ s.heap.get? a = none) ∧ (∀ (g : Nat) x, gp g = some x → s2.gens[g]? = some x ∧ s.gens[g]? = none) ∧ Itr prog w hT d tg it xs F' fp gp ∧ SelfIt prog w it fp) (fun _ _ => False) s1) (fun _ _ => False) s
end
section
variable {prog : Program} {w : World} {hT : Heap} {d : Nat} {env : Env} {W : Str → Bool} {σ : Sig}
theorem evJ_end {tg : Expr} {s s1 : Shared} {F F1 : Fz} {o : Obj} {xs : List AV} (k1 : Kp s s1) (x1 : Ext F s.heap F1 s1.heap) (hf : o.isFreed = false) (hs : ∀ (A : Around) (s2 : Shared) (Q : Value → Shared → Prop) (E : Value → Shared → Prop), A.handled = none → s2.heap.get? s1.heap.objs.size = some o → Q (.ref s1.heap.objs.size) s2 → wpAny (model prog w) A (pyIter (.ref s1.heap.objs.size)) Q E s2) (hi : Itr prog w hT d tg (.ref s1.heap.objs.size) xs F1 (one s1.heap.objs.size o) (fun _ => none)) :
    Kp s { s1 with heap := s1.heap.push o } ∧ ∃ F' fp gp, Ext F s.heap F' (s1.heap.push o) ∧ (∀ a o', fp a = some o' → (s1.heap.push o).get? a = some o' ∧ F' a = none ∧ s.heap.get? a = none) ∧
      (∀ (g : Nat) x, gp g = some x → s1.gens[g]? = some x ∧ s.gens[g]? = none) ∧ Itr prog w hT d tg (.ref s1.heap.objs.size) xs F' fp gp ∧ SelfIt prog w (.ref s1.heap.objs.size) fp := by
  refine ⟨k1.trans (Kp.push s1 o), F1, _, _, x1.keep fun _ _ e => Heap.get?_push_of_some _ e, fun a o' e => ?_, (fun g x e => by cases e), hi, fun A s2 Q E hh h q => hs A s2 Q E hh (h _ _ (if_pos rfl)) q⟩
  obtain ⟨rfl, rfl⟩ := one_some e
  refine ⟨Heap.get?_push_size _ hf, F_size x1.inn, ?_⟩
  cases q : s.heap.get? s1.heap.objs.size with
  | none => rfl
  | some z => have := k1.heap _ _ q; rw [fresh_size] at this; cases this
theorem evJ_list {iter tg : Expr} {xs : List AV} (he : Ev prog w hT d env W σ iter (.lst xs)) : EvJ prog w hT d env W σ iter tg xs := fun A m F s ok S => by
  refine he.use ok S fun v s1 F1 k1 x1 S1 r1 => ?_
  unfold Rep at r1
  obtain ⟨a, vs, n, rfl, ha, rl⟩ := r1
  have hl : s1.heap.IsList a vs.toArray := ⟨_, S1.inn _ _ ha, rfl, n, rfl⟩
  refine wpAny_pyIter_list hl (evJ_end k1 x1 rfl (fun A s2 Q E _ h q => wpAny_pyIter_listiter (l := a) (i := 0) ⟨_, h, rfl, rfl⟩ q) ?_)
  have hne : a ≠ s1.heap.objs.size := Nat.ne_of_lt (Heap.lt_size (S1.inn _ _ ha))
  have := itr_walks (hT := hT) (tg := tg) (F₀ := F1) (xs := xs) (fun A (ok : OkA d A) => Walks.list (prog := prog) (w := w) (A := A) ok.hh s1.heap.objs.size a hne vs.toArray) (by simp [rl.length])
    (fun b hb => by
      simp only [List.mem_cons, List.not_mem_nil, or_false] at hb
      rcases hb with rfl | rfl
      · exact .inl (by simp)
      · exact .inr ⟨_, ha⟩)
    (fun i v x hP hx => by
      obtain ⟨u, hu, r⟩ := rl.get hx
      have : some u = some v := by rw [← hu, ← hP]; simp
      cases this; exact r)
    (fun i h st b hb => by
      simp only [List.mem_cons, List.not_mem_nil, or_false] at hb
      subst hb
      obtain ⟨o, ho, _⟩ := st.1
      exact ⟨o, ho⟩)
    (fun i A s v Q st q => by
      obtain ⟨o, ho, hc, _⟩ := st.1
      exact letGo_plain ho hc (by decide) q)
    _ 0 F1 (one s1.heap.objs.size { cls := .type "list_iterator", data := .fields #[.ref a, .int 0 0] }) rfl (Nat.zero_le _) (fun _ _ e => e) (fun b o e => by simp [(one_some e).1]) (fun b hb => by
      simp only [List.mem_cons, List.not_mem_nil, or_false] at hb
      subst hb; exact ⟨_, if_pos rfl⟩)
    (fun h q1 q2 => ⟨⟨_, q1 _ _ (if_pos rfl), rfl, rfl⟩, ⟨_, q2 _ _ ha, rfl, n, rfl⟩⟩)
  exact this

theorem evJ_range {iter tg : Expr} {a b c : Int} (he : Ev prog w hT d env W σ iter (.rng a b c)) (hsmall : Builtin.Range.small a b c = true) (n : Nat) (hn : Builtin.Range.rangeSize a b c = (n : Int)) :
    EvJ prog w hT d env W σ iter tg ((rangeL a c n).map .int) := fun A m F s ok S => by
  refine he.use ok S fun v s1 F1 k1 x1 S1 r1 => ?_
  unfold Rep at r1
  obtain ⟨r, t, u, q, rfl, ha⟩ := r1
  refine wpAny_pyIter_range (S1.inn _ _ ha) hsmall ?_
  rw [hn]
  refine evJ_end k1 x1 rfl (fun A s2 Q E hh h q => (Walks.range (prog := prog) (w := w) (A := A) hh s1.heap.objs.size a c n).self 0 s2 Q E (by simpa using h) q) ?_
  have := itr_walks (hT := hT) (tg := tg) (F₀ := F1) (xs := (rangeL a c n).map .int) (fun A (ok : OkA d A) => Walks.range (prog := prog) (w := w) (A := A) ok.hh s1.heap.objs.size a c n) (by simp [rangeL])
    (fun b hb => .inl hb)
    (fun i v x hP hx => by
      obtain ⟨t, rfl⟩ := hP
      simp only [rangeL, List.map_map, List.getElem?_map] at hx
      cases q : (List.range n)[i]? with
      | none => rw [q] at hx; cases hx
      | some j =>
        rw [q] at hx
        cases hx
        have : j = i := by
          have := List.getElem?_eq_some_iff.mp q
          obtain ⟨_, e⟩ := this
          simpa using e.symm
        subst this
        unfold Rep; exact ⟨t, rfl⟩)
    (fun i h st b hb => by
      simp only [List.mem_cons, List.not_mem_nil, or_false] at hb
      subst hb
      exact ⟨_, st⟩)
    (fun i A s v Q st q => letGo_plain st rfl (by decide) q)
    _ 0 F1 (one s1.heap.objs.size { cls := .type "range_iterator", data := .fields #[rawInt a, rawInt n, rawInt c] }) rfl (Nat.zero_le _) (fun _ _ e => e) (fun b o e => by simp [(one_some e).1]) (fun b hb => by
      simp only [List.mem_cons, List.not_mem_nil, or_false] at hb
      subst hb; exact ⟨_, if_pos rfl⟩)
    (fun h q1 q2 => by
      have := q1 s1.heap.objs.size _ (if_pos rfl)
      simpa using this)
  exact this

end
section
variable {prog : Program} {w : World} {hT : Heap} {d : Nat} {env : Env} {W : Str → Bool} {σ : Sig}
theorem EvJ.evI {iter tg : Expr} {xs : List AV} (h : EvJ prog w hT d env W σ iter tg xs) : EvI prog w hT d env W σ iter tg xs := fun A m F s ok S =>
  wpAny_mono (h A m F s ok S) (fun x s1 h1 => wpAny_mono h1 (fun it s2 hp => by obtain ⟨kp, F', fp, gp, ex, h2, h3, hit, _⟩ := hp; exact ⟨kp, F', fp, gp, ex, h2, h3, hit⟩) fun _ _ z => z) fun _ _ z => z
theorem evI_list {iter tg : Expr} {xs : List AV} (he : Ev prog w hT d env W σ iter (.lst xs)) : EvI prog w hT d env W σ iter tg xs := (evJ_list he).evI
theorem evI_range {iter tg : Expr} {a b c : Int} (he : Ev prog w hT d env W σ iter (.rng a b c)) (hsmall : Builtin.Range.small a b c = true) (n : Nat) (hn : Builtin.Range.rangeSize a b c = (n : Int)) :
    EvI prog w hT d env W σ iter tg ((rangeL a c n).map .int) := (evJ_range he hsmall n hn).evI
theorem evI_str {iter : Expr} {n : Str} {p : Pos} {x : Str} (he : Ev prog w hT d env W σ iter (.str x)) : EvI prog w hT d env W σ iter (.Name n p) (x.cps.toList.map fun c => .str ⟨#[c]⟩) := fun A m F s ok S => by
  refine he.use ok S fun v s1 F1 k1 x1 S1 r1 => ?_
  unfold Rep at r1
  obtain ⟨t, rfl⟩ := r1
  have key : ∀ (nm : String), (∀ A : Around, A.handled = none → Walks prog w A s1.heap.objs.size [s1.heap.objs.size] [s1.heap.objs.size] x.cps.size (SignAt x) (fun i h => h.IsStrIter s1.heap.objs.size nm x t i)) →
      Itr prog w hT d (.Name n p) (.ref s1.heap.objs.size) (x.cps.toList.map fun c => .str ⟨#[c]⟩) F1 (one s1.heap.objs.size { cls := .type nm, data := .fields #[.str x t, .int 0 0] }) (fun _ => none) := fun nm Wk => by
    have := itr_walks (hT := hT) (tg := .Name n p) (F₀ := F1) (xs := x.cps.toList.map fun c => AV.str ⟨#[c]⟩) (fun A (ok : OkA d A) => Wk A ok.hh) (by simp)
      (fun b hb => .inl hb)
      (fun i v y hP hy => by
        obtain ⟨c, u, hc, rfl⟩ := hP
        simp only [List.getElem?_map, Array.getElem?_toList, hc] at hy
        cases hy
        unfold Rep; exact ⟨u, rfl⟩)
      (fun i h st b hb => by
        simp only [List.mem_cons, List.not_mem_nil, or_false] at hb
        subst hb
        obtain ⟨o, ho, _⟩ := st
        exact ⟨o, ho⟩)
      (fun i A s v Q st q => wpAny_pure q)
      _ 0 F1 (one s1.heap.objs.size { cls := .type nm, data := .fields #[.str x t, .int 0 0] }) rfl (Nat.zero_le _) (fun _ _ e => e) (fun b o e => by simp [(one_some e).1]) (fun b hb => by
        simp only [List.mem_cons, List.not_mem_nil, or_false] at hb
        subst hb; exact ⟨_, if_pos rfl⟩)
      (fun h q1 q2 => ⟨_, q1 s1.heap.objs.size _ (if_pos rfl), rfl, rfl⟩)
    exact this
  cases ha : x.cps.all (· < 128)
  · exact wpAny_pyIter_wide ha (evI_end k1 x1 rfl (key _ fun A hA => Walks.strWide hA _ x t))
  · exact wpAny_pyIter_ascii ha (evI_end k1 x1 rfl (key _ fun A hA => Walks.strAscii hA _ x t))
end
end Mine
end
section
open PySem PySem.W PyProof.Rows
set_option Elab.async false
namespace Mine
theorem len1 {α : Type} {l : List α} (h : l.length = 1) : ∃ a, l = [a] := List.length_eq_one_iff.mp h
theorem len2 {α : Type} {l : List α} (h : l.length = 2) : ∃ a b, l = [a, b] := by
  cases l with
  | nil => cases h
  | cons a l => obtain ⟨b, rfl⟩ := len1 (Nat.succ.inj h); exact ⟨a, b, rfl⟩
theorem len3 {α : Type} {l : List α} (h : l.length = 3) : ∃ a b c, l = [a, b, c] := by
  cases l with
  | nil => cases h
  | cons a l => obtain ⟨b, c, rfl⟩ := len2 (Nat.succ.inj h); exact ⟨a, b, c, rfl⟩
structure Tp (hT : Heap) (K : Frag) (mg mb : Str → Option Value) : Prop where
  g : hT.Ns mainGlobals mg
  b : hT.Ns builtinsNs mb
  lim : hT.NoLimit
  boot : ∀ x : Str, x ≠ "__name__" → mb x = bootBuiltins x
  kin : K.In hT

section
variable (prog : Program) (w : World) (hT : Heap) (d : Nat) (env : Env) (W : Str → Bool) (σ : Sig)
noncomputable def EvL (es : List Expr) (xs : List AV) : Prop := ∀ (A : Around) (m : Str → Option Value) (F : Fz) (s : Shared) (pos : Pos), OkA d A → St hT env W σ m F s.heap →
  wpAny (model prog w) A (spliced (backTo pos (starEach es env))) (fun vs s' => Kp s s' ∧ ∃ F', Ext F s.heap F' s'.heap ∧ RepL F' xs vs) (fun _ _ => False) s
/-- a name of the top -/
noncomputable def Gl (x : Str) (v : Value) : Prop := ∀ (A : Around) (s : Shared) (p : Pos) (Q : Value → Shared → Prop), (∀ a o, hT.get? a = some o → s.heap.get? a = some o) → Q v s → wpAny (model prog w) A (eval (.Name x p) env) Q (fun _ _ => False) s
/-- a callable that changes nothing -/
noncomputable def Fn (f : Value) (xs : List AV) (r : AV) : Prop := ∀ (A : Around) (F : Fz) (s : Shared) (vs : List Value), OkA d A → (∀ a o, hT.get? a = some o → F a = some o) → (∀ a o, F a = some o → s.heap.get? a = some o) → RepL F xs vs →
  wpAny (model prog w) A (call f vs) (fun v s' => Kp s s' ∧ ∃ F', Ext F s.heap F' s'.heap ∧ Rep F' r v) (fun _ _ => False) s
noncomputable def Kr (f : Value) : Prop := ∀ h : Heap, (∀ a o, hT.get? a = some o → h.get? a = some o) → ∃ k, (k = Keeper.frame ∨ k = Keeper.machine ∨ k = Keeper.boundFrame) ∧ Looks (model prog w) h (keeperOf f) k
end

section
variable {prog : Program} {w : World} {hT : Heap} {d : Nat} {env : Env} {W : Str → Bool} {σ : Sig} {K : Frag} {mg mb : Str → Option Value}

theorem EvL.use {es : List Expr} {xs : List AV} (h : EvL prog w hT d env W σ es xs) {A : Around} {m : Str → Option Value} {F : Fz} {s : Shared} {pos : Pos} {Q : List Value → Shared → Prop} {E : Value → Shared → Prop} (ok : OkA d A) (S : St hT env W σ m F s.heap)
    (k : ∀ vs s' F', Kp s s' → Ext F s.heap F' s'.heap → St hT env W σ m F' s'.heap → RepL F' xs vs → Q vs s') : wpAny (model prog w) A (spliced (backTo pos (starEach es env))) Q E s :=
  wpAny_mono (h A m F s pos ok S) (fun v s' hpat => by obtain ⟨kp, F', ex, r⟩ := hpat; exact k v s' F' kp ex (S.keeps kp.heap ex) r) fun _ _ x => x.elim
theorem evl_nil : EvL prog w hT d env W σ [] [] := fun A m F s pos ok S => Calls.spliced_nil ⟨.refl s, F, .refl S.inn, RepL.nil⟩
theorem evl_cons {e : Expr} {es : List Expr} {x : AV} {xs : List AV} (h : Ev prog w hT d env W σ e x) (hs : EvL prog w hT d env W σ es xs) (he : starEach (e :: es) env = (false, eval e env) :: starEach es env := by rfl) : EvL prog w hT d env W σ (e :: es) (x :: xs) := fun A m F s pos ok S => by
  rw [he]
  show wpAny _ _ (spliced ((false, eval e env) :: backTo pos (starEach es env))) _ _ _
  refine Calls.spliced_cons (h.use ok S fun v s1 F1 k1 x1 S1 r1 => hs.use ok S1 fun vs s2 F2 k2 x2 S2 r2 => ⟨k1.trans k2, F2, x1.trans x2 k1.heap, RepL.cons (r1.mono x2.le) r2⟩)

theorem gl_top {x : Str} {v : Value} (T : Tp hT K mg mb) (e : mg x = some v) (hk : env.scope.kind = .function := by rfl) (hx : env.kindOf x = some .globalImplicit := by rfl) (hg : env.globals = mainGlobals := by rfl) (hd : (x == ("__debug__" : Str)) = false := by rfl) :
    Gl prog w hT env x v := fun A s p Q hk' q => Calls.Name_function_global hk hx (Calls.loadGlobal_global (hg ▸ T.g.keeps hk') e q) hd
theorem gl_boot {x : Str} {v : Value} (T : Tp hT K mg mb) (e : mg x = none) (hv : bootBuiltins x = some v) (hn : x ≠ "__name__" := by decide) (hk : env.scope.kind = .function := by rfl) (hx : env.kindOf x = some .globalImplicit := by rfl) (hg : env.globals = mainGlobals := by rfl) (hb : env.builtins = builtinsNs := by rfl) (hd : (x == ("__debug__" : Str)) = false := by rfl) :
    Gl prog w hT env x v := fun A s p Q hk' q => Calls.Name_function_global hk hx (Calls.loadGlobal_builtin (hg ▸ T.g.keeps hk') e (hb ▸ T.b.keeps hk') ((T.boot x hn).trans hv) q) hd

theorem kr_type {n : String} : Kr prog w hT (.type n) := fun h _ => ⟨.machine, .inr (.inl rfl), fun _ _ _ _ _ q => wpAny_pure q⟩
theorem kr_builtin {n : String} : Kr prog w hT (.builtin n) := fun h _ => ⟨.machine, .inr (.inl rfl), fun _ _ _ _ _ q => wpAny_pure q⟩
theorem kr_K {f : Value} (T : Tp hT K mg mb) (hk : keepIn K f = true) : Kr prog w hT f := fun h k => keeps_K hk h fun a o e => k _ _ (T.kin a o e)

theorem evalArgs_any {M : Model} {A : Around} {E : Value → Shared → Prop} {s : Shared} {f : Value} {args : List (Bool × Sem Value)} {Q : Args → Shared → Prop} (hp : args.any (·.1) = false) (h : wpAny M A (spliced args) (fun vs s' => Q ⟨vs, []⟩ s') E s) :
    wpAny M A (evalArgs f true args []) Q E s := by
  match args, hp, h with
  | [], _, h =>
    unfold evalArgs
    show wpAny M A (spliced [] >>= _) Q E s
    refine wpAny_bind (wpAny_mono h (fun vs s' h' => ?_) fun _ _ x => x)
    refine wpAny_holding ?_
    exact wpAny_bind (wpAny_pure (wpAny_bind (wpAny_pure (wpAny_pure h'))))
  | (false, x) :: rest, _, h => exact Calls.evalArgs_plain h
  | (true, x) :: rest, hp, _ => cases hp
theorem ev_call {x : Str} {p pos : Pos} {args : List Expr} {f : Value} {xs : List AV} {r : AV} (hg : Gl prog w hT env x f) (hk : Kr prog w hT f) (ha : EvL prog w hT d env W σ args xs) (hf : Fn prog w hT d f xs r)
    (hp : (backTo pos (starEach args env)).any (·.1) = false := by rfl) : Ev prog w hT d env W σ (.Call (.Name x p) args [] pos) r := fun A m F s ok S => by
  refine Call_Name rfl (hg A s p _ (fun a o e => S.inn _ _ (S.base a o e)) ?_)
  refine callWith_of (P := fun h => ∀ a o, hT.get? a = some o → h.get? a = some o) (by rw [hp]; rfl) hk ?_
  have fin : ∀ (vs : List Value) (s1 : Shared) (F1 : Fz), Kp s s1 → Ext F s.heap F1 s1.heap → St hT env W σ m F1 s1.heap → RepL F1 xs vs → (∀ a o, hT.get? a = some o → s1.heap.get? a = some o) ∧ wpAny (model prog w) A (call f ([] ++ vs) []) (fun v s' => Kp s s' ∧ ∃ F', Ext F s.heap F' s'.heap ∧ Rep F' r v) (fun _ _ => False) s1 :=
    fun vs s1 F1 k1 x1 S1 rl => ⟨fun a o e => S1.inn _ _ (S1.base a o e), wpAny_mono (hf A F1 s1 vs ok S1.base S1.inn rl) (fun v s' hpat => by obtain ⟨k2, F2, x2, r2⟩ := hpat; exact ⟨k1.trans k2, F2, x1.trans x2 k1.heap, r2⟩) fun _ _ q => q⟩
  refine evalArgs_any hp (ha.use ok S fun vs s1 F1 k1 x1 S1 rl => fin vs s1 F1 k1 x1 S1 rl)

theorem bindL_mem {kf : Str → Option NameKind} : ∀ (binds : List (Str × Value)) (m : Str → Option Value) {x : Str} {v : Value}, (binds.map (·.1)).Nodup → (x, v) ∈ binds → kf x = some .local → bindL kf binds m x = some v
  | (y, u) :: r, m, x, v, hn, hm, hk => by
    unfold bindL
    rw [List.map_cons, List.nodup_cons] at hn
    have keep : ∀ (r : List (Str × Value)) (m : Str → Option Value), x ∉ r.map (·.1) → bindL kf r m x = m x := by
      intro r
      induction r with
      | nil => intro m _; rfl
      | cons p r ih =>
        intro m hx
        obtain ⟨z, q⟩ := p
        rw [List.map_cons, List.mem_cons, not_or] at hx
        unfold bindL
        rw [ih _ hx.2]
        by_cases h : kf z = some .local
        · rw [if_pos h]; exact if_neg hx.1
        · rw [if_neg h]
    rcases List.mem_cons.mp hm with e | hm
    · cases e
      rw [keep r _ hn.1, if_pos hk]; exact if_pos rfl
    · exact bindL_mem r _ hn.2 hm hk
theorem bindC_mem {kf : Str → Option NameKind} : ∀ (binds : List (Str × Value)) (m : Str → Option Value) {x : Str} {v : Value}, (binds.map (·.1)).Nodup → (x, v) ∈ binds → kf x ≠ some .local → bindC kf binds m x = some v
  | (y, u) :: r, m, x, v, hn, hm, hk => by
    unfold bindC
    rw [List.map_cons, List.nodup_cons] at hn
    have keep : ∀ (r : List (Str × Value)) (m : Str → Option Value), x ∉ r.map (·.1) → bindC kf r m x = m x := by
      intro r
      induction r with
      | nil => intro m _; rfl
      | cons p r ih =>
        intro m hx
        obtain ⟨z, q⟩ := p
        rw [List.map_cons, List.mem_cons, not_or] at hx
        unfold bindC
        rw [ih _ hx.2]
        by_cases h : kf z = some .local
        · rw [if_pos h]
        · rw [if_neg h]; exact if_neg hx.1
    rcases List.mem_cons.mp hm with e | hm
    · cases e
      rw [keep r _ hn.1, if_neg hk]; exact if_pos rfl
    · exact bindC_mem r _ hn.2 hm hk

/-- the names that a frame may store -/
noncomputable def Wof (sc : Scope) : Str → Bool := fun x => match sc.names.lookup x with
  | some .local => true
  | some .cell => true
  | _ => false
noncomputable def RetIs (r : AV) (fl : AFlow) : Prop := fl = .ret r ∨ (fl = .next ∧ r = .none)

theorem repL_zip {F : Fz} : ∀ {ps : List Str} {xs : List AV} {vs : List Value}, RepL F xs vs → ∀ {x : Str} {c : Cell}, (ps.zip (xs.map Cell.val)).lookup x = some c → ∃ v, (x, v) ∈ ps.zip vs ∧ ∃ y, c = .val y ∧ Rep F y v
  | [], _, _, _, _, _, e => by cases e
  | p :: ps, [], _, _, _, _, e => by cases e
  | p :: ps, y :: ys, _, r, x, c, e => by
    unfold RepL at r
    obtain ⟨v, q, rfl, h1, h2⟩ := r
    rw [List.map_cons, List.zip_cons_cons, List.lookup_cons] at e
    by_cases h : x = p
    · subst h
      rw [beq_self_eq_true] at e
      cases e
      exact ⟨v, .head _, y, rfl, h1⟩
    · rw [beq_eq_false_iff_ne.mpr h] at e
      obtain ⟨u, h3, h4⟩ := repL_zip h2 e
      exact ⟨u, .tail _ h3, h4⟩

theorem fn_body {a : Addr} {o : Obj} {fd : FuncData} {body : List Stmt} {ps : List Str} {xs : List AV} {r : AV} (T : Tp hT K mg mb) (ho : hT.get? a = some o) (hd : o.data = .func fd) (hcd : hT.CodeRec fd.code fd.qualname) (hb : fd.body = .stmts body) (hcl : fd.closure = [])
    (hbind : ∀ vs : List Value, vs.length = ps.length → bindArgs fd ⟨vs, []⟩ = pure (ps.zip vs)) (hnd : ps.Nodup) (hps : ∀ p ∈ ps, fd.scope.names.lookup p = some .local ∨ fd.scope.names.lookup p = some .cell) (hlen : xs.length = ps.length)
    (hx : ∀ L, Ex prog w hT d (callEnvC fd L a) (Wof fd.scope) (ps.zip (xs.map Cell.val)) body fun fl _ => RetIs r fl)
    (hco : fd.scope.isCoroutine = false := by rfl) (hgen : fd.scope.isGenerator = false := by rfl) (hk : fd.scope.kind = .function := by rfl) : Fn prog w hT (d + 1) (.ref a) xs r := fun A F s vs ok B I rl => by
  have hT' : ∀ a o, hT.get? a = some o → s.heap.get? a = some o := fun a o e => I _ _ (B a o e)
  have hvl : vs.length = ps.length := rl.length.trans hlen
  refine wpAny_call (codeAny_call_cells (by have := ok.depth; omega) (hT' _ _ ho) hd (T.lim.keeps hT') (hcd.keeps hT') hb (hbind vs hvl) hcl (fun p hp => ?_) (fun s₁ C => ?_) hco hgen hk)
  · have : p.1 ∈ ps := (List.of_mem_zip hp).1
    rcases hps _ this with h | h
    · exact .inl h
    · exact .inr ⟨h, cellsFrom_some _ _ _ (.inl h)⟩
  · have hmap : ((ps.zip vs).map (·.1)).Nodup := by rw [List.map_fst_zip (by omega)]; exact hnd
    generalize hL : s.heap.objs.size = L at C ⊢
    have hL' : (callEnvC fd L a).locals = L := rfl
    have kf : ∀ x, (callEnvC fd L a).kindOf x = fd.scope.names.lookup x := fun x => rfl
    have fresh : ∀ c, L ≤ c → F c = none := fun c hc => by
      cases e : F c with
      | none => rfl
      | some o' => exact absurd (Heap.lt_size (I _ _ e)) (Nat.not_lt.mpr (hL ▸ hc))
    have freshH : ∀ c, L ≤ c → s.heap.get? c = none := fun c hc => by
      cases e : s.heap.get? c with
      | none => rfl
      | some o' => exact absurd (Heap.lt_size e) (Nat.not_lt.mpr (hL ▸ hc))
    have hlow : ∀ x, Wof fd.scope x = true → L ≤ locOf (callEnvC fd L a) x := fun x hx => by
      unfold locOf
      by_cases h : (callEnvC fd L a).kindOf x = some .cell
      · rw [if_pos h]
        obtain ⟨c, hc⟩ := Option.isSome_iff_exists.mp (cellsFrom_some (x := x) fd.scope.names (L + 1) [] (.inl h))
        have hc' : (callEnvC fd L a).cells.lookup x = some c := hc
        rw [hc']
        exact Nat.le_of_lt (C.above x c (mem_of_lookup hc'))
      · rw [if_neg h]; exact Nat.le_refl _
    let m : Str → Option Value := fun x => if (callEnvC fd L a).kindOf x = some .local then bindL (callEnvC fd L a).kindOf (ps.zip vs) (fun _ => none) x else bindC (callEnvC fd L a).kindOf (ps.zip vs) (fun _ => none) x
    have V : Vars (callEnvC fd L a) m s₁.heap := ⟨⟨_, C.toInCall.ns, fun x hx => (if_pos hx).symm⟩, fun x c hx hc => by
      have e : m x = bindC (callEnvC fd L a).kindOf (ps.zip vs) (fun _ => none) x := if_neg (by rw [hx]; decide)
      rw [e]; exact C.cell x c hc, C.apart⟩
    have S : St hT (callEnvC fd L a) (Wof fd.scope) (ps.zip (xs.map Cell.val)) m F s₁.heap := ⟨B, fun a o e => C.toInCall.keep _ _ (I a o e), V, fun x hx => (by
        unfold Wof at hx
        rw [kf]
        split at hx
        · rename_i h; exact .inl h
        · rename_i h; exact .inr ⟨h, cellsFrom_some _ _ _ (.inl h)⟩
        · cases hx), fun x hx => fresh _ (hlow x hx), fun x c e => (by
        obtain ⟨v, h1, y, rfl, h2⟩ := repL_zip rl e
        refine ⟨v, ?_, h2⟩
        show (if _ then _ else _) = some v
        by_cases hl : (callEnvC fd L a).kindOf x = some .local
        · rw [if_pos hl]; exact bindL_mem _ _ hmap h1 hl
        · rw [if_neg hl]; exact bindC_mem _ _ hmap h1 hl), fun x y xs' ys a e => (by
        obtain ⟨v, h1, y, h3, h2⟩ := repL_zip rl e
        cases h3)⟩
    have P : Prot (callEnvC fd L a) (Wof fd.scope) (ps.zip (xs.map Cell.val)) m s.heap.get? s₁.heap := ⟨C.toInCall.keep, fun x hx => freshH _ (hlow x hx), fun x xs' a e => by
        obtain ⟨v, h1, y, h3, h2⟩ := repL_zip rl e
        cases h3⟩
    have ok' : OkA d (A.deeper (callEnvC fd L a)) := ⟨ok.hh, by have := ok.depth; show A.depth + 1 + d < _; omega, by have := ok.units; show A.units + 3 + _ + 50 < _; omega⟩
    obtain ⟨h1, tk, es⟩ := C.toInCall.same
    refine wpAny_mono (hx L _ s.heap.get? m F s₁ ok' S P) (fun f s' hpat => ?_) fun _ _ x => x.elim
    obtain ⟨fl, σ', m', F', q1, q2, q3, q4, q5, q6, q7⟩ := hpat
    have kp : Kp s s' := by
      refine ⟨q6.inn, fun g x e => q7.gens g x ?_, fun e => q7.bare ?_, q7.os.trans ?_⟩
      · rw [es]; exact e
      · rw [es]; exact e
      · rw [es]
    have ex : Ext F s.heap F' s'.heap := ⟨q3, fun a o e => q4 a o e, q5.inn⟩
    rcases q1 with rfl | ⟨rfl, rfl⟩
    · obtain ⟨v, rfl, r'⟩ := q2
      exact ⟨kp, F', ex, r'⟩
    · cases q2
      exact ⟨kp, F', ex, by unfold Rep; rfl⟩
end
end Mine
end
section
open PySem PySem.W PyProof.Rows
set_option Elab.async false
namespace Mine
section
variable {prog : Program} {w : World} {hT : Heap} {d : Nat} {env : Env} {W : Str → Bool} {σ : Sig} {K : Frag} {mg mb : Str → Option Value}

/-- the pairs that enumerate gives for the signs of a text, from a place on -/
noncomputable def enumS (i : Nat) : List Nat → List AV
  | [] => []
  | c :: cs => .tup [.int i, .str ⟨#[c]⟩] :: enumS (i + 1) cs

noncomputable def two (a : Addr) (o : Obj) (b : Addr) (o' : Obj) : Fz := fun x => if x = a then some o else if x = b then some o' else none
theorem two_some {a b x : Addr} {o o' z : Obj} (e : two a o b o' x = some z) : (x = a ∧ z = o) ∨ (x = b ∧ z = o') := by
  unfold two at e
  by_cases h : x = a
  · rw [if_pos h] at e; cases e; exact .inl ⟨h, rfl⟩
  · rw [if_neg h] at e
    by_cases h' : x = b
    · rw [if_pos h'] at e; cases e; exact .inr ⟨h', rfl⟩
    · rw [if_neg h'] at e; cases e
theorem two_none {a b x : Addr} {o o' : Obj} (e : two a o b o' x = none) : x ≠ a ∧ x ≠ b := by
  unfold two at e
  by_cases h : x = a
  · rw [if_pos h] at e; cases e
  · rw [if_neg h] at e
    by_cases h' : x = b
    · rw [if_pos h'] at e; cases e
    · exact ⟨h, h'⟩

noncomputable def enumObj (it : Addr) (i : Int) (old : Value) : Obj := { cls := .type "enumerate", dict := none, data := .fields #[.none, .bool false, .ref it, rawInt i, .none, old], slots := #[] }

theorem itr_enumS {elts : List Expr} {k0 : Nat} {p0 : Pos} {e it : Addr} (hne : e ≠ it) {x : Str} {t : Tok} : ∀ (cs : List Nat) (i : Nat) (old : Value) (o : Obj) (F₀ : Fz), x.cps.toList.drop i = cs → i ≤ x.cps.size →
    o.cls = .type (strIterType x) → o.data = .fields #[.str x t, .int i 0] → Itr prog w hT d (.Tuple elts k0 p0) (.ref e) (enumS i cs) F₀ (two e (enumObj it i old) it o) (fun _ => none) := by
  have Dr : ∀ A : Around, A.handled = none → Draws prog w A it [it] x.cps.size (fun i v => ∃ c u, x.cps[i]? = some c ∧ v = .str ⟨#[c]⟩ u) (fun i h => h.IsStrIter it (strIterType x) x t i) := fun A hA => by
    unfold strIterType
    cases ha : x.cps.all (· < 128)
    · exact Draws.strWide hA it x t
    · exact Draws.strAscii hA it x t
  intro cs
  induction cs with
  | nil =>
    intro i old o F₀ hd hi hc hdt A F s pre
    have hin : i = x.cps.size := by
      have := congrArg List.length hd
      simp at this; omega
    have he : IsEnum s.heap e it i old := pre.at_ e _ (if_pos rfl)
    have hit : s.heap.IsStrIter it (strIterType x) x t x.cps.size := ⟨o, pre.at_ it o (by unfold two; rw [if_neg (Ne.symm hne), if_pos rfl]), hc, by rw [← hin]; exact hdt⟩
    refine wpAny_pyNext_enum_endD (Dr A.in1 pre.ok.hh) he hit fun h' e' => ⟨rfl, fun b o q g => e' b o (two_none q).2 g, fun _ _ _ g => g, fun g => g, rfl⟩
  | cons c cs ih =>
    intro i old o F₀ hd hi hc hdt A F s pre
    have hlt : i < x.cps.size := by
      have := congrArg List.length hd
      simp at this; omega
    have hci : x.cps[i]? = some c := by
      have h0 := congrArg (fun l => l[0]?) hd
      simpa using h0
    have he : IsEnum s.heap e it i old := pre.at_ e _ (if_pos rfl)
    have hit : s.heap.IsStrIter it (strIterType x) x t i := ⟨o, pre.at_ it o (by unfold two; rw [if_neg (Ne.symm hne), if_pos rfl]), hc, hdt⟩
    refine wpAny_pyNext_enum_itemD (Dr A.in1 pre.ok.hh) he hit hlt hne (by simpa using hne) fun y h' tk hy he' hit' ht hs hk => ⟨_, rfl, wpAny_letOwnedTupleGo_enum he' fun h2 he2 hs2 => ?_⟩
    obtain ⟨c', u, hc', rfl⟩ := hy
    rw [hci] at hc'; cases hc'
    obtain ⟨o', ho', hc2, hd2⟩ := hit'
    have hsz : s.heap.objs.size ≠ e := Nat.ne_of_gt (Heap.lt_size he)
    have hk2 : ∀ b o, two e (enumObj it i old) it o b = none → ∀ o', s.heap.get? b = some o' → h2.get? b = some o' := fun b o q o' g => (hs2.2 b (two_none q).1).trans (hk b o' (two_none q).1 (two_none q).2 g)
    have hto : h2.get? s.heap.objs.size = some (tupObj [.int i tk, .str ⟨#[c]⟩ u] 0) := (hs2.2 _ hsz).trans ht
    have hoff : ∀ a o', F a = some o' → two e (enumObj it i old) it o a = none := fun a o' g => by
      cases q : two e (enumObj it i old) it o a with
      | none => rfl
      | some z => rw [pre.off a z q] at g; cases g
    refine ⟨⟨fun b o' q g => hk2 b o q o' g, fun _ _ _ g => g, fun g => g, rfl⟩, F.put s.heap.objs.size (tupObj [.int i tk, .str ⟨#[c]⟩ u] 0), two e (enumObj it ((i + 1 : Nat) : Int) (.str ⟨#[c]⟩ u)) it o', fun _ => none, ⟨fun a o' g => ?_, fun a o' _ g => ?_, fun a o' g => ?_⟩, ?_, fun a z q => ?_, (fun g y q => by cases q), (fun _ _ => rfl), ih (i + 1) _ o' _ ?_ hlt hc2 ?_⟩
    · unfold Fz.put; rw [if_neg (fun q => by rw [q, F_size pre.inn] at g; cases g)]; exact g
    · unfold Fz.put; rw [if_neg (fun q => by rw [q, fresh_size] at g; cases g)]
    · unfold Fz.put at g
      by_cases q : a = s.heap.objs.size
      · rw [if_pos q] at g; cases g; rw [q]; exact hto
      · rw [if_neg q] at g; exact hk2 a o (hoff a o' g) o' (pre.inn a o' g)
    · unfold Rep
      refine ⟨_, _, 0, rfl, Fz.put_self .., RepL.cons ?_ (RepL.cons ?_ RepL.nil)⟩
      · unfold Rep; exact ⟨tk, rfl⟩
      · unfold Rep; exact ⟨u, rfl⟩
    · have hea : two e (enumObj it i old) it o e = some (enumObj it i old) := if_pos rfl
      have hia : two e (enumObj it i old) it o it = some o := by unfold two; rw [if_neg (Ne.symm hne), if_pos rfl]
      have hisz : s.heap.objs.size ≠ it := Nat.ne_of_gt (Heap.lt_size (pre.at_ it o hia))
      rcases two_some q with ⟨rfl, rfl⟩ | ⟨rfl, rfl⟩
      · refine ⟨?_, ?_, .inl ⟨_, hea⟩⟩
        · show h2.get? a = some (enumObj it ((i + 1 : Nat) : Int) _)
          have : IsEnum h2 a it ((i : Int) + 1) (.str ⟨#[c]⟩ u) := he2
          simpa [enumObj] using this
        · unfold Fz.put; rw [if_neg (Ne.symm hsz)]; exact pre.off _ _ hea
      · refine ⟨(hs2.2 _ (Ne.symm hne)).trans ho', ?_, .inl ⟨_, hia⟩⟩
        unfold Fz.put; rw [if_neg (Ne.symm hisz)]; exact pre.off _ _ hia
    · rw [← List.drop_drop, hd]; rfl
    · simpa using hd2

theorem enumS_make {arg : Expr} {p pos : Pos} {x : Str} (tg : Expr) (htg : ∃ elts k0 p0, tg = .Tuple elts k0 p0) (hg : Gl prog w hT env "enumerate" (.type "enumerate")) (ha : Ev prog w hT d env W σ arg (.str x)) (hp : starEach [arg] env = [(false, eval arg env)]) {A : Around} {m : Str → Option Value} {F : Fz} {s : Shared} {R : Value → Shared → Prop} (ok : OkA d A) (S : St hT env W σ m F s.heap)
    (k : ∀ it s2 F' fp, Kp s s2 → Ext F s.heap F' s2.heap → (∀ a o, fp a = some o → s2.heap.get? a = some o ∧ F' a = none ∧ s.heap.get? a = none) → (∀ F₀, Itr prog w hT d tg it (enumS 0 x.cps.toList) F₀ fp (fun _ => none)) → R it s2) :
    wpAny (model prog w) A (eval (.Call (.Name "enumerate" p) [arg] [] pos) env) (fun x s1 => wpAny (model prog w) A (pyIter x) R (fun _ _ => False) s1) (fun _ _ => False) s := by
  obtain ⟨elts, k0, p0, rfl⟩ := htg
  refine Call_Name1 (hg A s p _ (fun a o e => S.inn _ _ (S.base a o e)) ?_) hp
  refine PySem.callWith_type1 (ha.use ok S fun v s1 F1 k1 x1 S1 r1 => ?_)
  unfold Rep at r1
  obtain ⟨t, rfl⟩ := r1
  refine call_enumerate_str fun h' he hi hs hk => wpAny_pyIter_enum he ?_
  obtain ⟨o, ho, hc, hd⟩ := hi
  have hne : s1.heap.objs.size + 1 ≠ s1.heap.objs.size := Nat.succ_ne_self _
  have f1 : ∀ a, s1.heap.objs.size ≤ a → s.heap.get? a = none := fun a ha => by
    cases q : s.heap.get? a with
    | none => rfl
    | some z => exact absurd (Heap.lt_size (k1.heap _ _ q)) (Nat.not_lt.mpr ha)
  have f2 : ∀ a, s1.heap.objs.size ≤ a → F1 a = none := fun a ha => by
    cases q : F1 a with
    | none => rfl
    | some z => exact absurd (Heap.lt_size (x1.inn _ _ q)) (Nat.not_lt.mpr ha)
  refine k _ _ F1 (two _ (enumObj _ 0 .none) _ o) (k1.trans (Kp.of hk)) (x1.keep hk) (fun a z q => ?_) fun F₀ => itr_enumS hne _ 0 _ o F₀ rfl (Nat.zero_le _) hc hd
  rcases two_some q with ⟨rfl, rfl⟩ | ⟨rfl, rfl⟩
  · exact ⟨he, f2 _ (Nat.le_succ _), f1 _ (Nat.le_succ _)⟩
  · exact ⟨ho, f2 _ (Nat.le_refl _), f1 _ (Nat.le_refl _)⟩
end
end Mine
end
section
open PySem PySem.W PySem.W.X PyProof.Rows
set_option Elab.async false
namespace Mine
section
variable {prog : Program} {w : World} {A : Around} {c : Code} {fs : List Frame} {s : Shared} {P : End → Shared → Prop} {env : Env} {K : Flow → Sem Fin} {H : Value → Sem Fin} {gd : Bool → Bool} {lv : List Value → List Value}

theorem segx_wrap {α : Type} {m : Sem α} {K : α → Sem Fin} {H : Value → Sem Fin} {gd : Bool → Bool} {lv : List Value → List Value}
    (h : wpAny (model prog w) (A.over c fs) m (fun a s' => SegX (model prog w) A c (K a) fs s' P) (fun x s' => SegX (model prog w) A c (H x) fs s' P) s) : SegX (model prog w) A c (m.wrap K H gd lv) fs s P := by
  rintro Γ p rfl hΓ
  exact runs_wrap_of_wp (Φ := fun e s' => e.quiet = true ∧ P e s') K H gd lv m (h (Γ.over fs) p (hΓ.over fs)) (fun a p' s' h' => h' Γ p' rfl hΓ) (fun x p' s' h' => h' Γ p' rfl hΓ)
theorem segx_at {q : Pos} {k : Unit → Sem Fin} (h : SegX (model prog w) A c (k ()) fs s P) : SegX (model prog w) A c (.at q k) fs s P :=
  segx_wrap (m := standAt q) (K := k) (H := .raise) (gd := id) (lv := id) (wpAny_standAt h)

theorem segx_cons {st : Stmt} {rest : List Stmt} (h : SegX (model prog w) A c ((exec st env).wrap (fun f => match f with | .next => (execs rest env).wrap K H gd lv | f => K f) H gd lv) fs s P) :
    SegX (model prog w) A c ((execs (st :: rest) env).wrap K H gd lv) fs s P := by rw [execs_cons_wrap]; exact h

theorem segx_yield {e : Expr} {ypos pos : Pos} (hfs : splitAtGen fs = none) (hgd : gd false = false) (hfg : fs.any Frame.guarded = false)
    (h : wpAny (model prog w) (A.over c fs) (eval e env) (fun v s' => ∀ (k : Resume → Sem Fin) (l : List Value) (p : Pos), (∀ A' s'' P', SegX (model prog w) A' c (K .next) fs s'' P' → SegX (model prog w) A' c (k (.send .none)) fs s'' P') → P (.susp v false l k c p fs) s') (fun _ _ => False) s)
    (hco : env.scope.isCoroutine = false) (hi : interactive env = false) : SegX (model prog w) A c ((exec (.Expr (.Yield (some e) ypos) pos) env).wrap K H gd lv) fs s P := by
  rw [exec_Expr env _ pos hi rfl]
  show SegX (model prog w) A c (.at pos fun _ => ((eval e env >>= fun v => (standAt ypos >>= fun _ => yieldOut env v)) >>= fun x => dropValue (.Yield (some e) ypos) pos x).wrap K H gd lv) fs s P
  have hy : ∀ v, yieldOut env v = yieldValue v := fun v => by simp only [yieldOut, hco, Bool.false_eq_true, if_false]
  simp only [hy]
  refine segx_at ?_
  rw [Sem.bind_eq_wrap', Sem.bind_eq_wrap', Sem.wrap_wrap, Sem.wrap_wrap]
  refine segx_wrap (wpAny_mono h (fun v s' h' => ?_) fun _ _ x => x.elim)
  refine segx_at ?_
  rintro Γ p rfl hΓ
  refine ⟨_, s', Runs.yield' fs hfs, ?_, ?_⟩
  · simp [End.quiet, hgd, hfg]
  · show P (.susp v (gd false) _ _ Γ.code p fs) s'
    rw [hgd]
    exact h' _ _ p fun A' s'' P' q => q

theorem segx_If {test : Expr} {body orelse : List Stmt} {pos : Pos} (h : wpAny (model prog w) (A.over c fs) (isTrue test env (eval test env)) (fun b s' => if b = true then SegX (model prog w) A c ((execs body env).wrap K H gd lv) fs s' P else SegX (model prog w) A c ((execs orelse env).wrap K H gd lv) fs s' P) (fun _ _ => False) s) :
    SegX (model prog w) A c ((exec (.If test body orelse pos) env).wrap K H gd lv) fs s P := by
  rw [exec_If]
  show SegX (model prog w) A c (.at pos fun _ => (isTrue test env (eval test env) >>= fun b => if b then execs body env else execs orelse env).wrap K H gd lv) fs s P
  refine segx_at ?_
  rw [Sem.bind_eq_wrap', Sem.wrap_wrap]
  refine segx_wrap (wpAny_mono h (fun b s' h' => ?_) fun _ _ x => x.elim)
  cases b with
  | true => exact h'
  | false => exact h'

theorem segx_func {body : List Stmt} (h : SegX (model prog w) A (.func body env) ((execs body env).wrap (fun f => .pure (.done (.ret (match f with | .ret v => v | _ => .none)))) (fun e => (leaving env e).wrap (fun _ => .raise e) .raise id id) id id) fs s P) :
    SegX (model prog w) A (.func body env) (denote table (.func body env)) fs s P := by
  show SegX (model prog w) A _ (.point [] fun _ => ((execs body env).onRaise (leaving env)) >>= _) fs s P
  refine segx_wrap (m := point) (K := fun _ => ((execs body env).onRaise (leaving env)) >>= _) (H := .raise) (gd := id) (lv := fun _ => []) (wpAny_point ?_)
  rw [Sem.onRaise_eq_wrap, Sem.bind_eq_wrap', Sem.wrap_wrap]
  rw [Sem.wrap_congr (execs body env) _ _ (K' := fun f => .pure (.done (.ret (match f with | .ret v => v | _ => .none))))
    (H' := fun e => (leaving env e).wrap (fun _ => .raise e) .raise id id) (fun f => by cases f <;> rfl)
    (fun e => by rw [Sem.bind_eq_wrap, Sem.wrap_wrap]; rfl)]
  exact h

theorem segx_For {tg iter : Expr} {body : List Stmt} {pos : Pos}
    (h : wpAny (model prog w) (A.over c fs) (eval iter env) (fun x s1 => wpAny (model prog w) (A.over c fs) (pyIter x) (fun it s2 => ∀ (p : Pos) (k : Result → Sem Fin) (l : List Value), (∀ f, k (.ok f) = K f) →
      SegX (model prog w) A (.forLoop tg it body [] env) (denote table (.forLoop tg it body [] env)) (.ret k none (gd false) l c p [] :: fs) s2 P) (fun _ _ => False) s1) (fun _ _ => False) s)
    (hs : ∀ x, foldedSetIterable iter env x = pure x) : SegX (model prog w) A c ((exec (.For tg iter body [] pos) env).wrap K H gd lv) fs s P := by
  rw [exec_For]
  show SegX (model prog w) A c (.at pos fun _ => (eval iter env >>= fun x => foldedSetIterable iter env x >>= fun x => standAt iter.pos >>= fun _ => holding [x] (pyIter x) >>= fun it => runOwn (.forLoop tg it body [] env) env).wrap K H gd lv) fs s P
  refine segx_at ?_
  rw [Sem.bind_eq_wrap', Sem.wrap_wrap]
  refine segx_wrap (wpAny_mono h (fun x s1 h1 => ?_) fun _ _ x => x.elim)
  rw [hs x]
  show SegX (model prog w) A c (.at iter.pos fun _ => (holding [x] (pyIter x) >>= fun it => runOwn (.forLoop tg it body [] env) env).wrap K H gd lv) fs s1 P
  refine segx_at ?_
  rw [Sem.bind_eq_wrap', Sem.wrap_wrap]
  refine segx_wrap (wpAny_holding (wpAny_mono h1 (fun it s2 h2 => ?_) fun _ _ x => x.elim))
  unfold runOwn run
  exact s_call prog w A c fs P s2 _ _ _ _ _ fun p => h2 p _ _ fun f => rfl

theorem segx_forLoop {tg : Expr} {it : Value} {body : List Stmt}
    (h : wpAny (model prog w) (A.over (.forLoop tg it body [] env) fs) (pyNext it) (fun r s1 => match r with
      | none => SegX (model prog w) A (.forLoop tg it body [] env) (.pure (.again (.block [] env))) fs s1 P
      | some v => wpAny (model prog w) (A.over (.forLoop tg it body [] env) fs) (letOwnedTupleGo tg it v) (fun _ s2 => wpAny (model prog w) (A.over (.forLoop tg it body [] env) fs) (assign tg env v) (fun _ s3 =>
          ∀ KL : Flow → Sem Fin, KL .next = .pure (.again (.forLoop tg it body [] env)) → ∀ HL, SegX (model prog w) A (.forLoop tg it body [] env) ((execs body env).wrap KL HL id id) fs s3 P) (fun _ _ => False) s2) (fun _ _ => False) s1) (fun _ _ => False) s) :
    SegX (model prog w) A (.forLoop tg it body [] env) (denote table (.forLoop tg it body [] env)) fs s P := by
  show SegX _ A _ ((forTurn tg it body [] env).onRaise (fun x => do noteFrame x env; theTreesLotGoes x)) fs s P
  unfold forTurn
  rw [Sem.onRaise_eq_wrap]
  show SegX _ A _ (.at tg.pos fun _ => Sem.wrap _ _ _ _ ((pyNext it).onRaise (fun _ => standAt { tg.pos with line := 0 }) >>= _)) fs s P
  refine segx_at ?_
  rw [Sem.bind_eq_wrap', Sem.wrap_wrap]
  refine segx_wrap (wpAny_onRaise (wpAny_mono h (fun r s1 h1 => ?_) fun _ _ x => x.elim))
  cases r with
  | none => exact h1
  | some v =>
    dsimp only at h1 ⊢
    rw [Sem.bind_eq_wrap', Sem.wrap_wrap]
    refine segx_wrap (wpAny_mono h1 (fun _ s2 h2 => ?_) fun _ _ x => x.elim)
    rw [Sem.bind_eq_wrap', Sem.wrap_wrap]
    refine segx_wrap (wpAny_mono h2 (fun _ s3 h3 => ?_) fun _ _ x => x.elim)
    rw [Sem.bind_eq_wrap', Sem.wrap_wrap]
    exact h3 _ rfl _
end
end Mine
end
section
open PySem PySem.W PySem.W.X PyProof.Rows
set_option Elab.async false
namespace Mine

structure GSt (hT : Heap) (env : Env) (W : Str → Bool) (σ : Sig) (m : Str → Option Value) (F fp : Fz) (s : Shared) : Prop where
  st : St hT env W σ m F s.heap
  at_ : ∀ a o, fp a = some o → s.heap.get? a = some o
  off : ∀ a o, fp a = some o → F a = none
  fr : FrOff env fp
structure KS (env : Env) (fp : Fz) (s s' : Shared) : Prop where
  heap : ∀ b o, b ≠ env.locals → fp b = none → s.heap.get? b = some o → s'.heap.get? b = some o
  g : KpG s s'
structure ExtG (env : Env) (fp F : Fz) (h : Heap) (F' : Fz) (h' : Heap) : Prop where
  le : ∀ a o, F a = some o → F' a = some o
  old : ∀ a o, a ≠ env.locals → fp a = none → h.get? a = some o → F' a = F a
  inn : ∀ a o, F' a = some o → h'.get? a = some o
theorem Ext.g {env : Env} {fp F F' : Fz} {h h' : Heap} (x : Ext F h F' h') : ExtG env fp F h F' h' := ⟨x.le, fun a o _ _ e => x.old a o e, x.inn⟩
theorem ExtB.g {env : Env} {fp F F' : Fz} {h h' : Heap} (x : ExtB fp F h F' h') : ExtG env fp F h F' h' := ⟨x.le, fun a o _ f e => x.old a o f e, x.inn⟩
noncomputable def FpNew (fp fp' : Fz) (s : Shared) : Prop := ∀ a o, fp' a = some o → (∃ o', fp a = some o') ∨ s.heap.get? a = none
noncomputable def Scal (σ : Sig) : Prop := ∀ x c, σ.lookup x = some c → ∃ y, c = .val y ∧ ∀ (F F' : Fz) v, Rep F y v → Rep F' y v

theorem FpNew.off_ {fp fp1 : Fz} {s : Shared} (n : FpNew fp fp1 s) {b : Addr} {o : Obj} (hf : fp b = none) (e : s.heap.get? b = some o) : fp1 b = none := by
  cases q : fp1 b with
  | none => rfl
  | some z =>
    rcases n b z q with ⟨o', h⟩ | h
    · rw [hf] at h; cases h
    · rw [e] at h; cases h
theorem KS.trans {env : Env} {fp fp1 : Fz} {s s1 s2 : Shared} (x : KS env fp s s1) (y : KS env fp1 s1 s2) (n : FpNew fp fp1 s) : KS env fp s s2 :=
  ⟨fun b o hb hf e => y.heap b o hb (n.off_ hf e) (x.heap b o hb hf e), x.g.trans y.g⟩
theorem ExtG.trans {env : Env} {fp fp1 F F1 F2 : Fz} {s s1 : Shared} {h2 : Heap} (x : ExtG env fp F s.heap F1 s1.heap) (y : ExtG env fp1 F1 s1.heap F2 h2) (k : KS env fp s s1) (n : FpNew fp fp1 s) : ExtG env fp F s.heap F2 h2 :=
  ⟨fun a o e => y.le _ _ (x.le a o e), fun a o hb hf e => (y.old a o hb (n.off_ hf e) (k.heap a o hb hf e)).trans (x.old a o hb hf e), y.inn⟩
theorem FpNew.refl (fp : Fz) (s : Shared) : FpNew fp fp s := fun _ o e => .inl ⟨o, e⟩
theorem FpNew.trans {env : Env} {fp fp1 fp2 : Fz} {s s1 : Shared} (x : FpNew fp fp1 s) (y : FpNew fp1 fp2 s1) (k : KS env fp s s1) (L : fp2 env.locals = none) : FpNew fp fp2 s := fun a o e => by
  rcases y a o e with ⟨o', h⟩ | h
  · exact x a o' h
  · cases q : fp a with
    | some z => exact .inl ⟨z, rfl⟩
    | none =>
      refine .inr ?_
      cases z : s.heap.get? a with
      | none => rfl
      | some ob =>
        have hne : a ≠ env.locals := fun c => by rw [c, L] at e; cases e
        have := k.heap a ob hne q z
        rw [h] at this; cases this

section
variable (prog : Program) (w : World) (hT : Heap) (d : Nat) (env : Env) (W : Str → Bool)
/-- a generator that is woken gives these -/
noncomputable def Rsm : List AV → Code → Sem Fin → List Frame → Sig → Fz → Prop
  | [], c, t, fs, σ, fp => ∀ (A : Around) (F : Fz) (m : Str → Option Value) (s : Shared), OkA (d + 1) A → GSt hT env W σ m F fp s →
      SegX (model prog w) A c t fs s fun e s' => e = .ret (.ok (.ret .none)) ∧ KS env fp s s'
  | y :: ys, c, t, fs, σ, fp => ∀ (A : Around) (F : Fz) (m : Str → Option Value) (s : Shared), OkA (d + 1) A → GSt hT env W σ m F fp s →
      SegX (model prog w) A c t fs s fun e s' => ∃ v l k c' p' fs' F' m' σ' fp', e = .susp v false l k c' p' fs' ∧ fs'.any Frame.guarded = false ∧ ExtG env fp F s.heap F' s'.heap ∧ Rep F' y v ∧ GSt hT env W σ' m' F' fp' s' ∧ FpNew fp fp' s ∧ KS env fp s s' ∧ Scal σ' ∧
        Rsm ys c' (k (.send .none)) fs' σ' fp'
noncomputable def RPost (ys : List AV) (fp F : Fz) (s : Shared) (e : End) (s' : Shared) : Prop := match ys with
  | [] => e = .ret (.ok (.ret .none)) ∧ KS env fp s s'
  | y :: ys => ∃ v l k c' p' fs' F' m' σ' fp', e = .susp v false l k c' p' fs' ∧ fs'.any Frame.guarded = false ∧ ExtG env fp F s.heap F' s'.heap ∧ Rep F' y v ∧ GSt hT env W σ' m' F' fp' s' ∧ FpNew fp fp' s ∧ KS env fp s s' ∧ Scal σ' ∧
        Rsm prog w hT d env W ys c' (k (.send .none)) fs' σ' fp'
end
section
variable {prog : Program} {w : World} {hT : Heap} {d : Nat} {env : Env} {W : Str → Bool} {σ τ : Sig} {K : Frag} {mg mb : Str → Option Value}
theorem rsm_iff {ys : List AV} {c : Code} {t : Sem Fin} {fs : List Frame} {fp : Fz} : Rsm prog w hT d env W ys c t fs σ fp ↔ ∀ (A : Around) (F : Fz) (m : Str → Option Value) (s : Shared), OkA (d + 1) A → GSt hT env W σ m F fp s →
    SegX (model prog w) A c t fs s (RPost prog w hT d env W ys fp F s) := by cases ys <;> rfl
theorem GSt.sub {m : Str → Option Value} {F fp : Fz} {s : Shared} (g : GSt hT env W σ m F fp s) (u : Sub τ σ) : GSt hT env W τ m F fp s := ⟨g.st.sub u, g.at_, g.off, g.fr⟩
theorem RPost.from {ys : List AV} {fp fp1 F F1 : Fz} {s s1 s' : Shared} {e : End} (h : RPost prog w hT d env W ys fp1 F1 s1 e s') (x : ExtG env fp F s.heap F1 s1.heap) (k : KS env fp s s1) (n : FpNew fp fp1 s) : RPost prog w hT d env W ys fp F s e s' := by
  cases ys with
  | nil => exact ⟨h.1, k.trans h.2 n⟩
  | cons y ys =>
    obtain ⟨v, l, kk, c', p', fs', F', m', σ', fp', h1, h2, h3, h4, h5, h6, h7, h8, h9⟩ := h
    exact ⟨v, l, kk, c', p', fs', F', m', σ', fp', h1, h2, x.trans h3 k n, h4, h5, n.trans h6 k h5.fr.1, k.trans h7 n, h8, h9⟩
theorem SegX.from {ys : List AV} {fp fp1 F F1 : Fz} {s s1 : Shared} {A : Around} {c : Code} {t : Sem Fin} {fs : List Frame} (h : SegX (model prog w) A c t fs s1 (RPost prog w hT d env W ys fp1 F1 s1)) (x : ExtG env fp F s.heap F1 s1.heap) (k : KS env fp s s1) (n : FpNew fp fp1 s) :
    SegX (model prog w) A c t fs s1 (RPost prog w hT d env W ys fp F s) := h.mono fun _ _ q => q.from x k n

/-- all but the frame's own names -/
noncomputable def snapH (L : Addr) (h : Heap) : Fz := fun a => if a = L then none else h.get? a
theorem prot_snap {m : Str → Option Value} {F : Fz} {h : Heap} (hl : ∀ x, W x = true → locOf env x = env.locals) (sc : Scal σ) : Prot env W σ m (snapH env.locals h) h := by
  refine ⟨fun a o e => ?_, fun x hx => ?_, fun x xs a e => ?_⟩
  · unfold snapH at e
    by_cases q : a = env.locals
    · rw [if_pos q] at e; cases e
    · rw [if_neg q] at e; exact e
  · rw [hl x hx]; exact if_pos rfl
  · obtain ⟨y, q, _⟩ := sc x _ e; cases q

theorem snap_keeps {m m' : Str → Option Value} {F F' fp : Fz} {s s' : Shared} {σ' : Sig} (g : GSt hT env W σ m F fp s) (S' : St hT env W σ' m' F' s'.heap) (P' : Prot env W σ' m' (snapH env.locals s.heap) s'.heap) (le : ∀ a o, F a = some o → F' a = some o) (hF : ∀ a o, snapH env.locals s.heap a = some o → F' a = F a) (kg : KpG s s') : GSt hT env W σ' m' F' fp s' ∧ ExtG env fp F s.heap F' s'.heap ∧ KS env fp s s' := by
  have kp : ∀ b o, b ≠ env.locals → s.heap.get? b = some o → s'.heap.get? b = some o := fun b o hb e => P'.inn b o (by unfold snapH; rw [if_neg hb]; exact e)
  have nfL : ∀ a o, fp a = some o → a ≠ env.locals := fun a o e c => by rw [c, g.fr.1] at e; cases e
  refine ⟨⟨S', fun a o e => kp a o (nfL a o e) (g.at_ a o e), fun a o e => ?_, g.fr⟩, ⟨le, fun a o hb _ e => hF a o (by unfold snapH; rw [if_neg hb]; exact e), S'.inn⟩, fun b o hb _ e => kp b o hb e, kg⟩
  rw [hF a o (by unfold snapH; rw [if_neg (nfL a o e)]; exact g.at_ a o e)]; exact g.off a o e

/-- a plain statement in a generator -/
theorem g_exec {st : Stmt} {A : Around} {m : Str → Option Value} {F fp : Fz} {s : Shared} {Q : Flow → Shared → Prop} {E : Value → Shared → Prop} (h : Ex1 prog w hT d env W σ st fun fl σ' => fl = .next ∧ σ' = τ) (ok : OkA d A) (g : GSt hT env W σ m F fp s) (hl : ∀ x, W x = true → locOf env x = env.locals) (sc : Scal σ)
    (k : ∀ s' m' F', GSt hT env W τ m' F' fp s' → ExtG env fp F s.heap F' s'.heap → KS env fp s s' → Q .next s') : wpAny (model prog w) A (exec st env) Q E s := by
  refine wpAny_mono (h A _ m F s ok g.st (prot_snap (F := F) hl sc)) (fun f s' hpat => ?_) fun _ _ x => x.elim
  obtain ⟨fl, σ', m', F', q1, q2, q3, q4, q5, q6, q7⟩ := hpat
  obtain ⟨rfl, rfl⟩ := q1
  cases q2
  obtain ⟨z1, z2, z3⟩ := snap_keeps g q5 q6 q3 q4 q7
  exact k s' m' F' z1 z2 z3
theorem g_ts {e : Expr} {b : Bool} {A : Around} {m : Str → Option Value} {F fp : Fz} {s : Shared} {Q : Bool → Shared → Prop} {E : Value → Shared → Prop} (h : Ts prog w hT d env W σ e b) (ok : OkA d A) (g : GSt hT env W σ m F fp s)
    (k : ∀ s' F', GSt hT env W σ m F' fp s' → ExtG env fp F s.heap F' s'.heap → KS env fp s s' → Q b s') : wpAny (model prog w) A (isTrue e env (eval e env)) Q E s :=
  h.use ok g.st fun s' F' kp ex S' => k s' F' ⟨S', fun a o e => kp.heap _ _ (g.at_ a o e), fun a o e => (ex.old a o (g.at_ a o e)).trans (g.off a o e), g.fr⟩ ex.g ⟨fun b o _ _ e => kp.heap b o e, kp.g⟩
theorem g_ev {e : Expr} {y : AV} {A : Around} {m : Str → Option Value} {F fp : Fz} {s : Shared} {Q : Value → Shared → Prop} {E : Value → Shared → Prop} (h : Ev prog w hT d env W σ e y) (ok : OkA d A) (g : GSt hT env W σ m F fp s)
    (k : ∀ v s' F', GSt hT env W σ m F' fp s' → ExtG env fp F s.heap F' s'.heap → KS env fp s s' → Rep F' y v → Q v s') : wpAny (model prog w) A (eval e env) Q E s :=
  h.use ok g.st fun v s' F' kp ex S' r => k v s' F' ⟨S', fun a o e => kp.heap _ _ (g.at_ a o e), fun a o e => (ex.old a o (g.at_ a o e)).trans (g.off a o e), g.fr⟩ ex.g ⟨fun b o _ _ e => kp.heap b o e, kp.g⟩ r

/-- an around under a loop in a generator's frame -/
theorem ok_loop {A : Around} (ok : OkA (d + 1) A) {tg : Expr} {it : Value} {b1 b2 b3 : List Stmt} {env env' : Env} {k : Result → Sem Fin} {g : Bool} {l kp : List Value} {p : Pos} : OkA d (A.over (.forLoop tg it b1 b2 env) [.ret k none g l (.func b3 env') p kp]) := by
  refine ⟨ok.hh, ?_, ?_⟩
  · have := ok.depth; show A.depth + 1 + 0 + d < _; omega
  · have := ok.units; show A.units + 3 + 0 + 100 * d + 50 < _; omega
theorem ok_func {A : Around} (ok : OkA (d + 1) A) {b : List Stmt} {env : Env} : OkA d (A.over (.func b env) []) := by
  refine ⟨ok.hh, ?_, ?_⟩
  · have := ok.depth; show A.depth + 0 + 1 + d < _; omega
  · have := ok.units; show A.units + 0 + 3 + 100 * d + 50 < _; omega
end
end Mine
end
section
open PySem PySem.W PySem.W.X PyProof.Rows
set_option Elab.async false
namespace Mine
section
variable {prog : Program} {w : World} {hT : Heap} {d : Nat} {env : Env} {W : Str → Bool} {σ τ : Sig} {K : Frag} {mg mb : Str → Option Value}

theorem pyNext_gen {A : Around} {s : Shared} {ga : Addr} {g : Nat} {gs : GenState} {c : Code} {t : Sem Fin} {fs : List Frame} {Q : Option Value → Shared → Prop} {E : Value → Shared → Prop} (hh : A.handled = none) (hl : s.heap.NoLimit) (hroom : A.depth < recursionLimit)
    (hg : s.heap.IsGen ga g) (hgs : s.gens[g]? = some gs) (hc : (gs = .fresh c ∧ t = denote table c ∧ fs = []) ∨ ∃ k l p cl, gs = .suspended k l c p fs cl ∧ t = k (.send .none))
    (x : SegX (model prog w) A.in1 c t fs (s.setGen g .running) (fun e s₁ => (e = .ret (.ok (.ret .none)) ∧ ∀ h', (∀ b o, s₁.heap.get? b = some o → h'.get? b = some o) → Q none { s₁.setGen g .finished with heap := h' }) ∨
      ∃ v l k c' p' fs', e = .susp v false l k c' p' fs' ∧ Q (some v) (s₁.setGen g e.genState))) : wpAny (model prog w) A (pyNext (.ref ga)) Q E s := by
  unfold pyNext
  refine wpAny_bind (wpAny_attempt (wpAny_callSpecial?_slot (name := Str.ofString "__next__") hg.typeIs slot_gen_next
    (wpAny_call_entry slot_gen_next hg.typeIs entry_gen_next ?_ (args_gen_next _))))
  show wpAny _ A.in1 (Builtin.Generator.genWake (.ref ga) (.send .none)) _ _ s
  unfold Builtin.Generator.genWake
  refine wpAny_bind (wpAny_holding (wpAny_genNumber hg (wpAny_bind (wpAny_genState hgs ?_))))
  rcases hc with ⟨rfl, rfl, rfl⟩ | ⟨k, l, p, cl, rfl, rfl⟩
  all_goals
    refine wpAny_bind (wpAny_roomToWake hl hroom ?_)
    show wpAny _ A.in1 (.resume g (.send .none) [] _) _ _ s
    intro Γ p hΓ
    refine wake_any _ prog w hgs (by first | exact .inl ⟨rfl, rfl, rfl, rfl⟩ | exact .inr ⟨_, _, _, _, rfl, rfl⟩) (fun Γ => Γ.In A.in1) (fun _ h => h) (x.mono fun e s₁ h => ?_) Γ p hΓ
    change wpAny (model prog w) A.in1 _ _ _ (s₁.setGen g e.genState)
    rcases h with ⟨rfl, hp⟩ | ⟨v, l, k, c', p', fs', rfl, hq⟩
    · show wpAny _ A.in1 (newExc (.type "StopIteration") [] >>= _) _ _ _
      refine wpAny_bind ?_
      simp only [newExc, newTuple]
      refine wpAny_bind (wpAny_newObj_type ?_ (by size_fits))
      refine wpAny_bind (m := firstArgMember _ _) (wpAny_of_eq (a := Value.none) (by first | rfl | (simp only [firstArgMember]; rfl)) ?_)
      refine wpAny_newObj_type ?_ (by size_fits)
      simp only [raiseNew]
      refine wpAny_bind (wpAny_bind (wpAny_handled ?_))
      rw [show A.in1.handled = none from hh]
      refine wpAny_throw ?_
      refine wpAny_bind (wpAny_isInstance (T := "StopIteration") (b := true) ⟨_, Heap.get?_push_size _ rfl, rfl⟩ isSubtype_stop ?_)
      exact wpAny_pure (hp _ fun b o hb => Heap.get?_push_of_some _ (Heap.get?_push_of_some _ hb))
    · exact wpAny_pure ⟨v, rfl, wpAny_pure hq⟩

/-- what the object of a generator's names says -/
noncomputable def GPack (env : Env) (σ : Sig) (oL : Obj) : Prop := ∃ (m : Str → Option Value) (es : Array DictEntry) (ep : Nat), oL.data = .dict es ep ∧ StrKeys es ∧ (∀ x, env.kindOf x = some .local → nsFind es x = m x) ∧ (∀ x c, σ.lookup x = some c → ∃ v y, c = .val y ∧ m x = some v ∧ ∀ F, Rep F y v)
theorem GSt.pack {m : Str → Option Value} {F fp : Fz} {s : Shared} (g : GSt hT env W σ m F fp s) (sc : Scal σ) : ∃ oL, s.heap.get? env.locals = some oL ∧ GPack env σ oL := by
  obtain ⟨⟨mL, ⟨o, es, ep, h1, h2, h3, h4⟩, h5⟩, _⟩ := g.st.vars
  refine ⟨o, h1, m, es, ep, h2, h3, fun x hx => (h4 x).trans (h5 x hx), fun x c e => ?_⟩
  obtain ⟨y, rfl, hy⟩ := sc x c e
  obtain ⟨v, hv, r⟩ := g.st.loc x _ e
  exact ⟨v, y, rfl, hv, fun F' => hy F F' v r⟩
theorem GSt.of_pack {oL : Obj} (hp : GPack env σ oL) (hk : ∀ x, W x = true → env.kindOf x = some .local) (hcl : env.cells = []) : ∃ m, ∀ {F fp : Fz} {s : Shared}, (∀ a o, hT.get? a = some o → F a = some o) → (∀ a o, F a = some o → s.heap.get? a = some o) → s.heap.get? env.locals = some oL → F env.locals = none →
    (∀ a o, fp a = some o → s.heap.get? a = some o) → (∀ a o, fp a = some o → F a = none) → fp env.locals = none → GSt hT env W σ m F fp s := by
  obtain ⟨m, es, ep, h1, h2, h3, h4⟩ := hp
  refine ⟨m, fun B I hL hF h5 h6 h7 => ⟨⟨B, I, ⟨⟨nsFind es, ⟨oL, es, ep, hL, h1, h2, fun _ => rfl⟩, h3⟩, fun x c _ e => ?_, ?_⟩, fun x hx => .inl (hk x hx), fun x hx => ?_, fun x c e => ?_, fun x y xs ys a e => ?_⟩, h5, h6, h7, fun x c _ e => ?_⟩⟩
  · rw [hcl] at e; cases e
  · rw [hcl]; exact List.Pairwise.nil
  · have : locOf env x = env.locals := by unfold locOf; rw [if_neg (by rw [hk x hx]; decide)]
    rw [this]; exact hF
  · obtain ⟨v, y, rfl, hv, r⟩ := h4 x c e
    exact ⟨v, hv, r _⟩
  · obtain ⟨v, y, q, _⟩ := h4 x _ e; cases q
  · rw [hcl] at e; cases e

noncomputable def FPg (L : Addr) (oL : Obj) (ga : Addr) (oG : Obj) (fp : Fz) : Fz := fun a => if a = L then some oL else if a = ga then some oG else fp a
theorem FPg_none {L ga : Addr} {oL oG : Obj} {fp : Fz} {a : Addr} (e : FPg L oL ga oG fp a = none) : a ≠ L ∧ a ≠ ga ∧ fp a = none := by
  unfold FPg at e
  by_cases h : a = L
  · rw [if_pos h] at e; cases e
  · rw [if_neg h] at e
    by_cases h' : a = ga
    · rw [if_pos h'] at e; cases e
    · rw [if_neg h'] at e; exact ⟨h, h', e⟩

theorem setGen_other {s : Shared} {g h : Nat} {x : GenState} (hne : h ≠ g) : (s.setGen g x).gens[h]? = s.gens[h]? := by
  show (s.gens.setIfInBounds g x)[h]? = _
  rw [Array.getElem?_setIfInBounds]
  rw [if_neg (Ne.symm hne)]
theorem setGen_self {s : Shared} {g : Nat} {x y : GenState} (h : s.gens[g]? = some y) : (s.setGen g x).gens[g]? = some x := by
  show (s.gens.setIfInBounds g x)[g]? = _
  rw [Array.getElem?_setIfInBounds, if_pos rfl, if_pos]
  exact (Array.getElem?_eq_some_iff.mp h).1
theorem setGen_bare {s : Shared} {g : Nat} {x : GenState} (hx : x.bare = true) (h : AllBare s.gens) : AllBare (s.setGen g x).gens := fun y hy => by
  rcases Array.mem_or_eq_of_mem_setIfInBounds hy with h' | h'
  · exact h y h'
  · rw [h']; exact hx

theorem itr_gen {tg : Expr} {ga : Addr} {g : Nat} {oG : Obj} {nm qn : Value} (T : Tp hT K mg mb) (hk : ∀ x, W x = true → env.kindOf x = some .local) (hcl : env.cells = []) (x0 : Str) (hx0 : W x0 = true) (hoG : oG.cls = .type "generator" ∧ oG.data = .fields #[.int g 0, nm, qn] ∧ oG.slots = #[]) (hLg : env.locals ≠ ga) :
    ∀ (ys : List AV) (gs : GenState) (c : Code) (t : Sem Fin) (fs : List Frame) (σ : Sig) (fp F₀ : Fz) (oL : Obj), ((gs = .fresh c ∧ t = denote table c ∧ fs = []) ∨ ∃ k l p cl, gs = .suspended k l c p fs cl ∧ t = k (.send .none)) →
      Rsm prog w hT d env W ys c t fs σ fp → GPack env σ oL → fp env.locals = none → fp ga = none → Itr prog w hT (d + 2) tg (.ref ga) ys F₀ (FPg env.locals oL ga oG fp) (fun x => if x = g then some gs else none) := by
  intro ys
  induction ys with
  | nil =>
    intro gs c t fs σ fp F₀ oL hc hr hp hfL hfg A F s pre
    have hL : s.heap.get? env.locals = some oL := pre.at_ _ _ (if_pos rfl)
    have hG : s.heap.get? ga = some oG := pre.at_ _ _ (by unfold FPg; rw [if_neg (Ne.symm hLg), if_pos rfl])
    have hT' : ∀ a o, hT.get? a = some o → s.heap.get? a = some o := fun a o e => pre.inn _ _ (pre.base a o e)
    have hfp : ∀ a o, fp a = some o → FPg env.locals oL ga oG fp a = some o := fun a o e => by
      unfold FPg
      rw [if_neg (fun q => by rw [q, hfL] at e; cases e), if_neg (fun q => by rw [q, hfg] at e; cases e)]; exact e
    have hgs : s.gens[g]? = some gs := pre.gat g gs (if_pos rfl)
    obtain ⟨m, mk⟩ := GSt.of_pack (hT := hT) (W := W) hp hk hcl
    have gst : GSt hT env W σ m F fp (s.setGen g .running) := mk pre.base pre.inn hL (pre.off _ _ (if_pos rfl)) (fun a o e => pre.at_ a o (hfp a o e)) (fun a o e => pre.off a o (hfp a o e)) hfL
    have ok' : OkA (d + 1) A.in1 := ⟨pre.ok.hh, by have := pre.ok.depth; show A.depth + _ < _; omega, by have := pre.ok.units; show A.units + 1 + _ + 50 < _; omega⟩
    refine pyNext_gen pre.ok.hh (T.lim.keeps hT') (by have := pre.ok.depth; omega) ⟨oG, nm, qn, hG, hoG.1, hoG.2.1, hoG.2.2⟩ hgs hc ((hr A.in1 F m _ ok' gst).mono fun e s1 h => .inl ⟨h.1, fun h' hk' => ⟨rfl, ?_⟩⟩)
    refine ⟨fun b o q e => hk' b o (h.2.heap b o (FPg_none q).1 (FPg_none q).2.2 e), fun x y q e => ?_, fun e => ?_, h.2.g.os⟩
    · have hne : x ≠ g := fun c => by rw [if_pos c] at q; cases q
      show (s1.setGen g .finished).gens[x]? = some y
      rw [setGen_other hne]
      exact h.2.g.gens x y (by rw [setGen_other hne]; exact e)
    · exact setGen_bare rfl (h.2.g.bare (setGen_bare rfl e))
  | cons y ys ih =>
    intro gs c t fs σ fp F₀ oL hc hr hp hfL hfg A F s pre
    have hL : s.heap.get? env.locals = some oL := pre.at_ _ _ (if_pos rfl)
    have hFG : FPg env.locals oL ga oG fp ga = some oG := by unfold FPg; rw [if_neg (Ne.symm hLg), if_pos rfl]
    have hG : s.heap.get? ga = some oG := pre.at_ _ _ hFG
    have hT' : ∀ a o, hT.get? a = some o → s.heap.get? a = some o := fun a o e => pre.inn _ _ (pre.base a o e)
    have hfp : ∀ a o, fp a = some o → FPg env.locals oL ga oG fp a = some o := fun a o e => by
      unfold FPg
      rw [if_neg (fun q => by rw [q, hfL] at e; cases e), if_neg (fun q => by rw [q, hfg] at e; cases e)]; exact e
    have hgs : s.gens[g]? = some gs := pre.gat g gs (if_pos rfl)
    obtain ⟨m, mk⟩ := GSt.of_pack (hT := hT) (W := W) hp hk hcl
    have gst : GSt hT env W σ m F fp (s.setGen g .running) := mk pre.base pre.inn hL (pre.off _ _ (if_pos rfl)) (fun a o e => pre.at_ a o (hfp a o e)) (fun a o e => pre.off a o (hfp a o e)) hfL
    have ok' : OkA (d + 1) A.in1 := ⟨pre.ok.hh, by have := pre.ok.depth; show A.depth + _ < _; omega, by have := pre.ok.units; show A.units + 1 + _ + 50 < _; omega⟩
    refine pyNext_gen pre.ok.hh (T.lim.keeps hT') (by have := pre.ok.depth; omega) ⟨oG, nm, qn, hG, hoG.1, hoG.2.1, hoG.2.2⟩ hgs hc ((hr A.in1 F m _ ok' gst).mono fun e s1 h => .inr ?_)
    obtain ⟨v, l, k, c', p', fs', F', m', σ', fp', rfl, h2, h3, h4, h5, h6, h7, h8, h9⟩ := h
    refine ⟨v, l, k, c', p', fs', rfl, v, rfl, ?_⟩
    obtain ⟨oL', hL', hp'⟩ := h5.pack h8
    have hGk : s1.heap.get? ga = some oG := h7.heap ga oG (Ne.symm hLg) hfg hG
    refine letGo_plain (o := oG) (s := s1.setGen g _) hGk hoG.1 (by decide) ?_
    have hfg' : fp' ga = none := by
      cases q : fp' ga with
      | none => rfl
      | some z =>
        rcases h6 ga z q with ⟨o', h⟩ | h
        · rw [hfg] at h; cases h
        · have : (s.setGen g .running).heap.get? ga = some oG := hG
          rw [this] at h; cases h
    have hrun : s1.gens[g]? = some .running := h7.g.gens g _ (setGen_self hgs)
    refine ⟨⟨fun b o q e => h7.heap b o (FPg_none q).1 (FPg_none q).2.2 e, fun x z q e => ?_, fun e => ?_, h7.g.os⟩, F', FPg env.locals oL' ga oG fp', (fun x => if x = g then some (End.susp v false l k c' p' fs').genState else none), ⟨h3.le, fun a o q e => h3.old a o (FPg_none q).1 (FPg_none q).2.2 e, h3.inn⟩, h4, fun a o e => ?_, fun x z e => ?_, (fun q => by have := q g; dsimp only at this; rw [if_pos rfl] at this; cases this),
      ih _ c' _ fs' σ' fp' _ oL' (.inr ⟨_, _, _, _, rfl, rfl⟩) h9 hp' h5.fr.1 hfg'⟩
    · have hne : x ≠ g := fun c => by rw [if_pos c] at q; cases q
      rw [setGen_other hne]
      exact h7.g.gens x z (by rw [setGen_other hne]; exact e)
    · refine setGen_bare ?_ (h7.g.bare (setGen_bare rfl e))
      show (!(false || fs'.any Frame.guarded)) = true
      rw [h2]; rfl
    · unfold FPg at e
      by_cases q : a = env.locals
      · rw [if_pos q] at e; cases e
        refine ⟨q ▸ hL', ?_, .inl ⟨oL, by unfold FPg; rw [if_pos q]⟩⟩
        have hz := h5.st.free x0 hx0
        have hz' : locOf env x0 = env.locals := by unfold locOf; rw [if_neg (by rw [hk x0 hx0]; decide)]
        rw [q, ← hz']; exact hz
      · rw [if_neg q] at e
        by_cases q' : a = ga
        · rw [if_pos q'] at e; cases e
          refine ⟨q' ▸ hGk, ?_, .inl ⟨oG, q' ▸ hFG⟩⟩
          rw [q', h3.old _ _ (Ne.symm hLg) hfg hG]; exact pre.off _ _ hFG
        · rw [if_neg q'] at e
          refine ⟨h5.at_ a o e, h5.off a o e, ?_⟩
          rcases h6 a o e with ⟨o', h⟩ | h
          · exact .inl ⟨o', hfp a o' h⟩
          · exact .inr h
    · by_cases q : x = g
      · dsimp only at e
        rw [if_pos q] at e; cases e
        subst q
        exact ⟨setGen_self hrun, .inl ⟨gs, if_pos rfl⟩⟩
      · dsimp only at e
        rw [if_neg q] at e; cases e
end
end Mine
end
section
open PySem PySem.W PySem.W.X PyProof.Rows
set_option Elab.async false
namespace Mine
noncomputable def genv (fd : FuncData) (L a : Addr) : Env := newEnv fd.scope L fd.globals [] (fd.qualname ++ ".<locals>.") (some a) fd.code none fd.builtins
section
variable {prog : Program} {w : World} {hT : Heap} {d : Nat} {env : Env} {W : Str → Bool} {σ τ : Sig} {K : Frag} {mg mb : Str → Option Value}

theorem evI_gen {f : Str} {fa : Addr} {o : Obj} {fd : FuncData} {body : List Stmt} {p : Str} {y : AV} {ys : List AV} {arg tg : Expr} {pos q : Pos} (T : Tp hT K mg mb) (hg : Gl prog w hT env f (.ref fa)) (hkr : Kr prog w hT (.ref fa)) (ho : hT.get? fa = some o) (hd : o.data = .func fd) (hcd : hT.CodeRec fd.code fd.qualname) (hb : fd.body = .stmts body) (hcl : fd.closure = [])
    (hbind : ∀ v, bindArgs fd ⟨[v], []⟩ = pure [(p, v)]) (hp : fd.scope.names.lookup p = some .local) (hnc : ∀ x ∈ fd.scope.names, x.2 ≠ .cell) (hy : ∀ (F F' : Fz) v, Rep F y v → Rep F' y v) (ha : Ev prog w hT (d + 2) env W σ arg y)
    (hr : ∀ L, Rsm prog w hT d (genv fd L fa) (Wof fd.scope) ys (.func body (genv fd L fa)) (denote table (.func body (genv fd L fa))) [] [(p, .val y)] (fun _ => none))
    (hst : starEach [arg] env = [(false, eval arg env)] := by rfl) (hco : fd.scope.isCoroutine = false := by rfl) (hgen : fd.scope.isGenerator = true := by rfl) (hk : fd.scope.kind = .function := by rfl) :
    EvI prog w hT (d + 2) env W σ (.Call (.Name f q) [arg] [] pos) tg ys := fun A m F s ok S => by
  have base : ∀ {s1 : Shared} {F1 : Fz}, St hT env W σ m F1 s1.heap → ∀ a o, hT.get? a = some o → s1.heap.get? a = some o := fun S1 a o e => S1.inn _ _ (S1.base a o e)
  refine Call_Name rfl (hg A s q _ (base S) ?_)
  refine callWith_of (P := fun h => ∀ a o, hT.get? a = some o → h.get? a = some o) (by rw [hst]; rfl) hkr ?_
  refine evalArgs_any (by rw [hst]; rfl) ((evl_cons ha evl_nil hst).use ok S fun vs s1 F1 k1 x1 S1 rl => ⟨base S1, ?_⟩)
  unfold RepL at rl
  obtain ⟨v, r, rfl, rv, rl⟩ := rl
  unfold RepL at rl
  subst rl
  refine wpAny_call (codeAny_call_generator (by have := ok.depth; omega) (base S1 _ _ ho) hd hco hgen hb (hcd.keeps (base S1)) ?_)
  show wpAny _ _ (bindArgs fd ⟨[v], []⟩) _ _ _
  rw [hbind v, hcl]
  refine wpAny_pure (wpAny_newFunctionEnv hnc (fun x hx => by simp at hx; subst hx; exact hp) (fun h1 hns hsb => ⟨(T.lim.keeps (base S1)).fresh _ hsb, ?_⟩) hk)
  dsimp only at hns hsb ⊢
  generalize hL : s1.heap.objs.size = L at hns hsb ⊢
  have k1' : ∀ b o, s1.heap.get? b = some o → h1.get? b = some o := fun b o e => hsb.extBut b o (by rw [← hL]; exact Nat.ne_of_lt (Heap.lt_size e)) (Heap.get?_push_of_some _ e)
  have hsz : h1.objs.size = L + 1 := by rw [hsb.1, Heap.size_push, hL]
  have kp : ∀ b o, s1.heap.get? b = some o → (h1.push { cls := .type "generator", data := .fields #[.int (s1.gens.size : Int) 0, .str fd.name (s1.toks + 1), .str fd.qualname (s1.toks + 1 + 1)] }).get? b = some o := fun b o e => Heap.get?_push_of_some _ (k1' b o e)
  obtain ⟨oL, es, ep, hoL, hdL, hkL, hmL⟩ := id hns
  have hLne : (genv fd L fa).locals ≠ h1.objs.size := by rw [hsz]; exact Nat.ne_of_lt (Nat.lt_succ_self L)
  have f1 : ∀ a, L ≤ a → s1.heap.get? a = none := fun a ha => by
    cases z : s1.heap.get? a with
    | none => rfl
    | some o' => exact absurd (Heap.lt_size z) (Nat.not_lt.mpr (hL ▸ ha))
  have f2 : ∀ a, L ≤ a → F1 a = none := fun a ha => by
    cases z : F1 a with
    | none => rfl
    | some o' => have := x1.inn a o' z; rw [f1 a ha] at this; cases this
  have f0 : ∀ a, L ≤ a → s.heap.get? a = none := fun a ha => by
    cases z : s.heap.get? a with
    | none => rfl
    | some o' => have := k1.heap a o' z; rw [f1 a ha] at this; cases this
  refine wpAny_pyIter_gen (g := s1.gens.size) ⟨_, _, _, Heap.get?_push_size _ rfl, rfl, rfl, rfl⟩ ?_
  refine ⟨⟨fun b o e => kp b o (k1.heap b o e), fun g x e => ?_, fun e => AllBare.push (k1.bare e) rfl, k1.os⟩, F1, FPg L oL h1.objs.size { cls := .type "generator", data := .fields #[.int (s1.gens.size : Int) 0, .str fd.name (s1.toks + 1), .str fd.qualname (s1.toks + 1 + 1)] } (fun _ => none), (fun x => if x = s1.gens.size then some (.fresh (.func body (genv fd L fa))) else none), x1.keep kp, fun a o' e => ?_, fun g x e => ?_,
    itr_gen (oG := { cls := .type "generator", data := .fields #[.int (s1.gens.size : Int) 0, .str fd.name (s1.toks + 1), .str fd.qualname (s1.toks + 1 + 1)] }) (env := genv fd L fa) (W := Wof fd.scope) T (fun x hx => ?_) rfl p (by unfold Wof; rw [hp]) ⟨rfl, rfl, rfl⟩ hLne ys _ _ _ [] [(p, .val y)] (fun _ => none) _ oL (.inl ⟨rfl, rfl, rfl⟩) (hr L) ⟨fun x => [(p, v)].reverse.lookup x, es, ep, hdL, hkL, fun x _ => hmL x, fun x c e => ?_⟩ rfl rfl⟩
  · have h' := k1.gens g x e
    show (s1.gens.push _)[g]? = some x
    rw [Array.getElem?_push, if_neg (Nat.ne_of_lt (Array.getElem?_eq_some_iff.mp h').1)]; exact h'
  · unfold FPg at e
    by_cases q1 : a = L
    · rw [if_pos q1] at e; cases e
      subst q1; exact ⟨Heap.get?_push_of_some _ hoL, f2 _ (Nat.le_refl _), f0 _ (Nat.le_refl _)⟩
    · rw [if_neg q1] at e
      by_cases q2 : a = h1.objs.size
      · rw [if_pos q2] at e; cases e
        have hle : L ≤ a := by rw [q2, hsz]; exact Nat.le_succ L
        subst q2; exact ⟨Heap.get?_push_size _ rfl, f2 _ hle, f0 _ hle⟩
      · rw [if_neg q2] at e; cases e
  · by_cases q1 : g = s1.gens.size
    · dsimp only at e
      rw [if_pos q1] at e; cases e
      refine ⟨?_, ?_⟩
      · show (s1.gens.push _)[g]? = _
        rw [q1]; simp; rfl
      · cases z : s.gens[g]? with
        | none => rfl
        | some x' =>
          have h' := k1.gens g x' z
          rw [q1] at h'
          exact absurd (Array.getElem?_eq_some_iff.mp h').1 (Nat.lt_irrefl _)
    · dsimp only at e
      rw [if_neg q1] at e; cases e
  · unfold Wof at hx
    show fd.scope.names.lookup x = some .local
    split at hx
    · assumption
    · rename_i h; exact absurd rfl (hnc _ (mem_of_lookup h))
    · cases hx
  · have hxp : x = p := by
      rw [List.lookup_cons] at e
      by_cases hq : x = p
      · exact hq
      · rw [beq_eq_false_iff_ne.mpr hq] at e; cases e
    subst hxp
    have : c = .val y := by simpa using e.symm
    subst this
    exact ⟨v, y, rfl, by simp, fun F' => hy F1 F' v rv⟩
end
end Mine
end
section
open PySem PySem.W PyProof.Rows
set_option Elab.async false
namespace Mine
section
variable {prog : Program} {w : World} {hT : Heap} {d : Nat} {env : Env} {W : Str → Bool} {σ : Sig} {K : Frag} {mg mb : Str → Option Value}

theorem ev_tup {es : List Expr} {k : Nat} {pos : Pos} {xs : List AV} (h : EvL prog w hT d env W σ es xs) (hn : xs.length ≤ sizeLine := by exact Nat.le_of_ble_eq_true rfl) : Ev prog w hT d env W σ (.Tuple es k pos) (.tup xs) := fun A m F s ok S =>
  wpAny_Tuple_spliced (h.use ok S fun vs s1 F1 k1 x1 S1 rl => ⟨by rw [rl.length]; exact hn, k1.trans (Kp.push s1 _), F1.put s1.heap.objs.size (tupObj vs 0), x1.trans (Ext.push S1.inn _ rfl) k1.heap, by
    unfold Rep
    exact ⟨_, vs, 0, rfl, Fz.put_self .., rl.mono (Ext.push S1.inn (tupObj vs 0) rfl).le⟩⟩)
theorem evo_list {es : List Expr} {pos : Pos} {xs : List AV} (h : EvL prog w hT d env W σ es xs) (hn : xs.length ≤ sizeLine := by exact Nat.le_of_ble_eq_true rfl) : EvO prog w hT d env W σ (.List es pos) xs := fun A m F s ok S =>
  wpAny_List_spliced (h.use ok S fun vs s1 F1 k1 x1 S1 rl => ⟨by rw [rl.length]; exact hn, k1.trans (Kp.push s1 _), F1, s1.heap.objs.size, vs, 0, x1.keep fun _ _ e => Heap.get?_push_of_some _ e, rfl, (by
      cases q : s.heap.get? s1.heap.objs.size with
      | none => rfl
      | some o => have := k1.heap _ _ q; rw [fresh_size] at this; cases this), F_size S1.inn, Heap.get?_push_size _ rfl, rl⟩)
theorem ts_ev {e : Expr} {b : Bool} (h : Ev prog w hT d env W σ e (.bool b)) (he : isTrue e env (eval e env) = (do let v ← eval e env; standAt e.pos; holding [v] (truthy v)) := by rfl) : Ts prog w hT d env W σ e b := fun A m F s ok S =>
  isTrue_plain (h.use ok S fun v s1 F1 k1 x1 S1 r1 => by
    unfold Rep at r1; subst r1
    exact wpAny_truthy_bool ⟨rfl, k1, F1, x1⟩) he
theorem ts_not {e : Expr} {b : Bool} {pos : Pos} (h : Ts prog w hT d env W σ e b) : Ts prog w hT d env W σ (.UnaryOp .Not e pos) (!b) := fun A m F s ok S =>
  isTrue_not (h.use ok S fun s1 F1 k1 x1 S1 => ⟨rfl, k1, F1, x1⟩)
theorem ts_and2 {e f : Expr} {b c : Bool} {pos : Pos} (h : Ts prog w hT d env W σ e b) (h2 : b = true → Ts prog w hT d env W σ f c) : Ts prog w hT d env W σ (.BoolOp .And [e, f] pos) (b && c) := fun A m F s ok S =>
  isTrue_and (h.use ok S fun s1 F1 k1 x1 S1 => by
    cases b with
    | false => exact ⟨rfl, k1, F1, x1⟩
    | true => exact isTrue_and ((h2 rfl).use ok S1 fun s2 F2 k2 x2 S2 => by
        cases c with
        | false => exact ⟨rfl, k1.trans k2, F2, x1.trans x2 k1.heap⟩
        | true => exact isTrue_and_nil ⟨rfl, k1.trans k2, F2, x1.trans x2 k1.heap⟩))
theorem ev_ifexp {t e f : Expr} {b : Bool} {pos : Pos} {x : AV} (h : Ts prog w hT d env W σ t b) (h2 : if b then Ev prog w hT d env W σ e x else Ev prog w hT d env W σ f x) : Ev prog w hT d env W σ (.IfExp t e f pos) x := fun A m F s ok S =>
  IfExp_ (h.use ok S fun s1 F1 k1 x1 S1 => by
    cases b with
    | true => exact h2.use ok S1 fun v s2 F2 k2 x2 S2 r => ⟨k1.trans k2, F2, x1.trans x2 k1.heap, r⟩
    | false => exact h2.use ok S1 fun v s2 F2 k2 x2 S2 r => ⟨k1.trans k2, F2, x1.trans x2 k1.heap, r⟩)
theorem op_addS {x y : Str} (hn : x.length + y.length ≤ sizeLine) : Op2 prog w hT d (binaryOp .Add) (.str x) (.str y) (.str (x ++ y)) := fun A F s v u ok B I r1 r2 => by
  unfold Rep at r1 r2; obtain ⟨t, rfl⟩ := r1; obtain ⟨t', rfl⟩ := r2
  refine P.add_str ?_
  by_cases h1 : x.length = 0
  · have hx : x = ⟨#[]⟩ := by
      obtain ⟨c⟩ := x
      have : c.size = 0 := h1
      rw [Array.eq_empty_of_size_eq_zero this]
    rw [if_pos (by rw [h1]; rfl)]
    refine ⟨.refl s, F, .refl I, ?_⟩
    unfold Rep
    exact ⟨t', by rw [hx]; obtain ⟨c⟩ := y; show Value.str _ _ = Value.str (Str.mk (#[] ++ c)) _; rw [Array.empty_append]⟩
  · rw [if_neg (by simpa using h1)]
    by_cases h2 : y.length = 0
    · have hy : y = ⟨#[]⟩ := by
        obtain ⟨c⟩ := y
        have : c.size = 0 := h2
        rw [Array.eq_empty_of_size_eq_zero this]
      rw [if_pos (by rw [h2]; rfl)]
      refine ⟨.refl s, F, .refl I, ?_⟩
      unfold Rep
      exact ⟨t, by rw [hy]; obtain ⟨c⟩ := x; show Value.str _ _ = Value.str (Str.mk (c ++ #[])) _; rw [Array.append_empty]⟩
    · rw [if_neg (by simpa using h2)]
      have hl : (x ++ y).length ≤ sizeLine := by
        have : (x ++ y).length = x.length + y.length := Array.size_append
        omega
      exact ⟨hl, fin0 (.refl s) (.refl I) (by unfold Rep; exact ⟨_, rfl⟩)⟩
end
end Mine
end
section
open PySem PySem.W PyProof.Rows Builtin.Str
set_option Elab.async false
namespace Mine
section
variable (prog : Program) (w : World) (hT : Heap) (d : Nat) (env : Env) (W : Str → Bool) (σ : Sig)
/-- an expression that gives a list, frozen or not -/
noncomputable def LV (e : Expr) (xs : List AV) : Prop := ∀ (A : Around) (m : Str → Option Value) (F : Fz) (s : Shared), OkA d A → St hT env W σ m F s.heap →
  wpAny (model prog w) A (eval e env) (fun v s' => Kp s s' ∧ ∃ F' a vs n, Ext F s.heap F' s'.heap ∧ v = .ref a ∧ s'.heap.get? a = some (lstObj vs n) ∧ RepL F' xs vs) (fun _ _ => False) s
noncomputable def EvP (e : Option Expr) (l : Option Int) : Prop := match e, l with
  | none, none => True
  | some e, some i => Ev prog w hT d env W σ e (.int i)
  | some e, none => Ev prog w hT d env W σ e .none
  | none, some _ => False
/-- a call that takes a list at the head of its arguments -/
noncomputable def FnL (f : Value) (xs : List AV) (ys : List AV) (r : AV) : Prop := ∀ (A : Around) (F : Fz) (s : Shared) (a : Addr) (vs us : List Value) (n : Nat), OkA d A → (∀ a o, hT.get? a = some o → F a = some o) → (∀ a o, F a = some o → s.heap.get? a = some o) → s.heap.get? a = some (lstObj vs n) → RepL F xs vs → RepL F ys us →
  wpAny (model prog w) A (call f (.ref a :: us)) (fun v s' => Kp s s' ∧ ∃ F', Ext F s.heap F' s'.heap ∧ Rep F' r v) (fun _ _ => False) s
end
section
variable {prog : Program} {w : World} {hT : Heap} {d : Nat} {env : Env} {W : Str → Bool} {σ : Sig} {K : Frag} {mg mb : Str → Option Value}

theorem LV.use {e : Expr} {xs : List AV} (h : LV prog w hT d env W σ e xs) {A : Around} {m : Str → Option Value} {F : Fz} {s : Shared} {Q : Value → Shared → Prop} {E : Value → Shared → Prop} (ok : OkA d A) (S : St hT env W σ m F s.heap)
    (k : ∀ a s' F' vs n, Kp s s' → Ext F s.heap F' s'.heap → St hT env W σ m F' s'.heap → s'.heap.get? a = some (lstObj vs n) → RepL F' xs vs → Q (.ref a) s') : wpAny (model prog w) A (eval e env) Q E s :=
  wpAny_mono (h A m F s ok S) (fun v s' hpat => by obtain ⟨kp, F', a, vs, n, ex, e, h1, h2⟩ := hpat; subst e; exact k a s' F' vs n kp ex (S.keeps kp.heap ex) h1 h2) fun _ _ x => x.elim
theorem lv_val {e : Expr} {xs : List AV} (h : Ev prog w hT d env W σ e (.lst xs)) : LV prog w hT d env W σ e xs := fun A m F s ok S =>
  h.use ok S fun v s1 F1 k1 x1 S1 r1 => by
    unfold Rep at r1
    obtain ⟨a, vs, n, rfl, ha, rl⟩ := r1
    exact ⟨k1, F1, a, vs, n, x1, rfl, S1.inn _ _ ha, rl⟩
theorem lv_own {x : Str} {pos : Pos} {xs : List AV} (hσ : σ.lookup x = some (.own xs)) (hk : env.scope.kind = .function := by rfl)
    (hx : env.kindOf x = some .local ∨ (env.kindOf x = some .cell ∧ (env.cells.lookup x).isSome = true) := by first | exact Or.inl rfl | exact Or.inr ⟨rfl, rfl⟩) (hd : (x == ("__debug__" : Str)) = false := by rfl) :
    LV prog w hT d env W σ (.Name x pos) xs := fun A m F s ok S => by
  obtain ⟨v, hv, a, vs, n, rfl, h1, h2, h3⟩ := S.loc x _ hσ
  exact wpAny_Name (load_any S.vars hk hx hv ⟨.refl s, F, a, vs, n, .refl S.inn, rfl, h2, h3⟩) hd

/-- an item of a list at a place from the front -/
theorem ev_item {v i : Expr} {pos : Pos} {xs : List AV} {k : Int} {y : AV} (hv : LV prog w hT d env W σ v xs) (hi : Ev prog w hT d env W σ i (.int k)) (h0 : 0 ≤ k) (hn : k < 2 ^ 63) (hy : xs[k.toNat]? = some y)
    (hs : ∀ o j, subscripted i false o j = operate [o, j] (getItem o j) := by intro _ _; rfl) : Ev prog w hT d env W σ (.Subscript v i pos) y := fun A m F s ok S =>
  Subscript_ (hv.use ok S fun a s1 F1 vs n k1 x1 S1 ha rl => hi.use ok S1 fun u s2 F2 k2 x2 S2 r2 => by
    unfold Rep at r2
    obtain ⟨t, rfl⟩ := r2
    have ha2 := k2.heap _ _ ha
    have hl : s2.heap.IsList a vs.toArray := ⟨_, ha2, rfl, n, rfl⟩
    obtain ⟨z, hz, rz⟩ := rl.get hy
    exact tail_any hl.typeIs slot_list_getitem.lookup (wpAny_getItem_list hl h0 hn (by simpa using hz) ⟨k1.trans k2, F2, x1.trans x2 k1.heap, rz.mono x2.le⟩) (hs _ _))
theorem ev_item_neg {v i : Expr} {pos : Pos} {xs : List AV} {k : Int} {y : AV} (hv : LV prog w hT d env W σ v xs) (hi : Ev prog w hT d env W σ i (.int k)) (h0 : k < 0) (h1 : -(xs.length : Int) ≤ k) (hn : -(2 ^ 63) ≤ k) (hy : xs[(k + xs.length).toNat]? = some y)
    (hs : ∀ o j, subscripted i false o j = operate [o, j] (getItem o j) := by intro _ _; rfl) : Ev prog w hT d env W σ (.Subscript v i pos) y := fun A m F s ok S =>
  Subscript_ (hv.use ok S fun a s1 F1 vs n k1 x1 S1 ha rl => hi.use ok S1 fun u s2 F2 k2 x2 S2 r2 => by
    unfold Rep at r2
    obtain ⟨t, rfl⟩ := r2
    have ha2 := k2.heap _ _ ha
    have hl : s2.heap.IsList a vs.toArray := ⟨_, ha2, rfl, n, rfl⟩
    obtain ⟨z, hz, rz⟩ := rl.get hy
    have hlen : (vs.toArray.size : Int) = xs.length := by rw [List.size_toArray, rl.length]
    exact tail_any hl.typeIs slot_list_getitem.lookup (wpAny_getItem_list_neg hl h0 (by rw [hlen]; exact h1) hn (by rw [hlen]; simpa using hz) ⟨k1.trans k2, F2, x1.trans x2 k1.heap, rz.mono x2.le⟩) (hs _ _))

theorem ev_slice {v : Expr} {lo hi : Option Expr} {p pos : Pos} {x : Str} {l u : Option Int} (hv : Ev prog w hT d env W σ v (.str x)) (hl : EvP prog w hT d env W σ lo l) (hu : EvP prog w hT d env W σ hi u) (hx : x.length ≤ sizeLine)
    (ht : ∀ o r, letTemporaryGo v o r = pure () := by intro _ _; rfl) : Ev prog w hT d env W σ (.Subscript v (.Slice lo hi none p) pos) (.str (Txt.slice x l u)) := fun A m F s ok S => by
  have part : ∀ {e : Option Expr} {i : Option Int}, EvP prog w hT d env W σ e i → ∀ {F1 : Fz} {s1 : Shared} {Q : Value → Shared → Prop}, St hT env W σ m F1 s1.heap → (∀ (q : Option (Int × Tok)) s' F', q.map (·.1) = i → Kp s1 s' → Ext F1 s1.heap F' s'.heap → St hT env W σ m F' s'.heap → Q (partValue q) s') → wpAny (model prog w) A (evalPart e env) Q (fun _ _ => False) s1 := by
    intro e i he F1 s1 Q S1 k
    cases e with
    | none => cases i with
      | none => exact wpAny_pure (k none s1 F1 rfl (.refl _) (.refl S1.inn) S1)
      | some _ => exact he.elim
    | some e => cases i with
      | none =>
        refine Ev.use he ok S1 fun v s' F' kp ex S' r => ?_
        unfold Rep at r; subst r
        exact k none s' F' rfl kp ex S'
      | some i =>
        refine Ev.use he ok S1 fun v s' F' kp ex S' r => ?_
        unfold Rep at r; obtain ⟨t, rfl⟩ := r
        exact k (some (i, t)) s' F' rfl kp ex S'
  refine wpAny_Subscript_str_slice (hv.use ok S fun v1 s1 F1 k1 x1 S1 r1 => part hl S1 fun q s2 F2 e2 k2 x2 S2 => part hu S2 fun q' s3 F3 e3 k3 x3 S3 => ?_) ht
  unfold Rep at r1; obtain ⟨t, rfl⟩ := r1
  refine ⟨x, t, q, q', rfl, rfl, rfl, ?_⟩
  have kp := ((k1.trans k2).trans k3).trans (Kp.push s3 { cls := .type "slice", data := .fields #[partValue q, partValue q', .none] })
  have ex : Ext F s.heap F3 (s3.heap.push { cls := .type "slice", data := .fields #[partValue q, partValue q', .none] }) := ((x1.trans x2 k1.heap).trans x3 (k1.trans k2).heap).keep fun _ _ e => Heap.get?_push_of_some _ e
  have hle := Txt.slice_le x l u
  unfold sliceMade
  have hp : slicePicked x q q' none = strSliceIndices l u 1 x.length := by unfold slicePicked; rw [e2, e3]; rfl
  rw [hp]
  show (if ((1 : Int) == 1 && _) = true then _ else _ : Made).post _ _
  unfold Txt.slice at hle ⊢
  by_cases hc : ((1 : Int) == 1 && (strSliceIndices l u 1 x.length).length == x.length) = true
  · rw [if_pos hc, if_pos hc]
    exact ⟨kp, F3, ex, by unfold Rep; exact ⟨t, rfl⟩⟩
  · rw [if_neg hc, if_neg hc]
    rw [if_neg hc] at hle
    exact ⟨Nat.le_trans hle hx, kp.tok _, F3, ex, by unfold Rep; exact ⟨_, rfl⟩⟩

theorem op_isN {x : AV} {b : Bool} (hb : ∀ (F : Fz) v, Rep F x v → (v == .none) = b) : Op2 prog w hT d (compareOp .Is) x .none (.bool b) := fun A F s v u ok B I r1 r2 => by
  unfold Rep at r2; subst r2
  exact is_none ⟨.refl s, F, .refl I, by unfold Rep; rw [hb F v r1]⟩
theorem isN_none (F : Fz) (v : Value) (r : Rep F .none v) : (v == .none) = true := by unfold Rep at r; subst r; rfl
theorem isN_int {i : Int} (F : Fz) (v : Value) (r : Rep F (.int i) v) : (v == .none) = false := by unfold Rep at r; obtain ⟨t, rfl⟩ := r; rfl
theorem op_isNot_bool {b c : Bool} : Op2 prog w hT d (compareOp .IsNot) (.bool b) (.bool c) (.bool (b != c)) := fun A F s v u ok B I r1 r2 => by
  unfold Rep at r1 r2; subst r1; subst r2
  exact isnot_bool ⟨.refl s, F, .refl I, by unfold Rep; rfl⟩
theorem op_notInS {x y : Str} : Op2 prog w hT d (compareOp .NotIn) (.str y) (.str x) (.bool ((occurrences x y 0 x.length 1).isEmpty)) := fun A F s v u ok B I r1 r2 => by
  unfold Rep at r1 r2; obtain ⟨t, rfl⟩ := r1; obtain ⟨t', rfl⟩ := r2
  exact P.notIn_str ⟨.refl s, F, .refl I, by unfold Rep; rw [Bool.not_not]⟩

theorem fn_lenS {x : Str} (hx : x.length ≤ sizeLine) : Fn prog w hT d (.builtin "len") [.str x] (.int x.length) := fun A F s vs ok B I rl => by
  unfold RepL at rl; obtain ⟨v, r, rfl, rv, rl⟩ := rl
  unfold RepL at rl; subst rl
  unfold Rep at rv; obtain ⟨t, rfl⟩ := rv
  refine P.len_str ?_ (fin0 (.refl s) (.refl I) (by unfold Rep; exact ⟨_, rfl⟩))
  have : x.length ≤ 16777216 := hx
  omega
theorem fnl_len {xs : List AV} (hx : xs.length ≤ sizeLine) : FnL prog w hT d (.builtin "len") xs [] (.int xs.length) := fun A F s a vs us n ok B I ha rl ru => by
  unfold RepL at ru; subst ru
  have hl : s.heap.IsList a vs.toArray := ⟨_, ha, rfl, n, rfl⟩
  have : vs.toArray.size = xs.length := by rw [List.size_toArray, rl.length]
  refine len_list hl ?_ (fin0 (.refl s) (.refl I) (by unfold Rep; exact ⟨_, by rw [this]⟩))
  have h2 : xs.length ≤ 16777216 := hx
  rw [this]; omega
/-- a call of a name of the top whose one argument is a list, frozen or not -/
theorem ev_callL {x : Str} {p pos : Pos} {arg : Expr} {f : Value} {xs : List AV} {r : AV} (hg : Gl prog w hT env x f) (hk : Kr prog w hT f) (ha : LV prog w hT d env W σ arg xs) (hf : FnL prog w hT d f xs [] r)
    (hp : starEach [arg] env = [(false, eval arg env)] := by rfl) : Ev prog w hT d env W σ (.Call (.Name x p) [arg] [] pos) r := fun A m F s ok S => by
  refine Call_Name1 (hg A s p _ (fun a o e => S.inn _ _ (S.base a o e)) ?_) hp
  refine callWith_of (P := fun h => ∀ a o, hT.get? a = some o → h.get? a = some o) rfl hk (Calls.evalArgs_plain (Calls.spliced_cons (ha.use ok S fun a s1 F1 vs n k1 x1 S1 hl rl => Calls.spliced_nil ⟨fun a o e => S1.inn _ _ (S1.base a o e), ?_⟩)))
  exact wpAny_mono (hf A F1 s1 a vs [] n ok S1.base S1.inn hl rl RepL.nil) (fun v s' hpat => by obtain ⟨k2, F2, x2, r2⟩ := hpat; exact ⟨k1.trans k2, F2, x1.trans x2 k1.heap, r2⟩) fun _ _ q => q

/-- a method of a built-in type -/
theorem ev_meth {o : Expr} {name : Str} {apos pos : Pos} {args : List Expr} {T id : String} {x : AV} {xs : List AV} {r : AV} (pa : PlainAttrs T) (slot : Slot T name id) (hty : typeOf (.builtin id) = pure (.type "method_descriptor")) (ho : Ev prog w hT d env W σ o x)
    (hx : ∀ (F : Fz) (s : Shared) v, (∀ a o, F a = some o → s.heap.get? a = some o) → Rep F x v → s.TypeIs v T ∧ ∀ a, v = .ref a → ∃ ob, s.heap.get? a = some ob ∧ ob.dict = none) (ha : EvL prog w hT d env W σ args xs) (hf : Fn prog w hT d (.builtin id) (x :: xs) r)
    (hbase : attributeBase o name env (eval o env) = eval o env := by rfl) (hfew : ((backTo pos (starEach args env)).all (fun x => !x.1) && (backToKw pos (keywordEach [] env)).all (fun x => x.1.isSome) && decide (args.length + ([] : List Keyword).length + (if ([] : List Keyword).isEmpty then 0 else 1) < 30)) = true := by rfl)
    (hline : (apos.endLine == pos.line) = true := by rfl) (hp : (backTo pos (starEach args env)).any (·.1) = false := by rfl) : Ev prog w hT d env W σ (.Call (.Attribute o name apos) args [] pos) r := fun A m F s ok S => by
  refine wpAny_Call_method_lateS hbase hfew hline (ho.use ok S fun v s1 F1 k1 x1 S1 r1 => ⟨T, id, pa, slot, hty, (hx F1 s1 v S1.inn r1).1, (hx F1 s1 v S1.inn r1).2, ?_⟩)
  refine Calls.callWith_builtin hp (evalArgs_any hp (ha.use ok S1 fun vs s2 F2 k2 x2 S2 rl => ?_))
  exact wpAny_mono (hf A F2 s2 (v :: vs) ok S2.base S2.inn (RepL.cons (r1.mono x2.le) rl)) (fun v s' hpat => by obtain ⟨k3, F3, x3, r3⟩ := hpat; exact ⟨(k1.trans k2).trans k3, F3, (x1.trans x2 k1.heap).trans x3 (k1.trans k2).heap, r3⟩) fun _ _ q => q
theorem ty_str {x : Str} (F : Fz) (s : Shared) (v : Value) (_ : ∀ a o, F a = some o → s.heap.get? a = some o) (r : Rep F (.str x) v) : s.TypeIs v "str" ∧ ∀ a, v = .ref a → ∃ ob, s.heap.get? a = some ob ∧ ob.dict = none := by
  unfold Rep at r; obtain ⟨t, rfl⟩ := r
  exact ⟨typeIs_str _ _ _, fun a e => nomatch e⟩
theorem ty_lst {xs : List AV} (F : Fz) (s : Shared) (v : Value) (I : ∀ a o, F a = some o → s.heap.get? a = some o) (r : Rep F (.lst xs) v) : s.TypeIs v "list" ∧ ∀ a, v = .ref a → ∃ ob, s.heap.get? a = some ob ∧ ob.dict = none := by
  unfold Rep at r; obtain ⟨a, vs, n, rfl, ha, _⟩ := r
  exact ⟨⟨_, I _ _ ha, rfl⟩, fun b e => by cases e; exact ⟨_, I _ _ ha, rfl⟩⟩

theorem strs_of {F : Fz} : ∀ {ys : List Str} {vs : List Value}, RepL F (ys.map .str) vs → ∃ l : List (Str × Tok), vs = strValues l ∧ l.map (·.1) = ys
  | [], _, r => by unfold RepL at r; simp only [List.map_nil] at r; exact ⟨[], r, rfl⟩
  | y :: ys, _, r => by
    rw [List.map_cons] at r
    unfold RepL at r
    obtain ⟨v, q, rfl, h1, h2⟩ := r
    unfold Rep at h1
    obtain ⟨t, rfl⟩ := h1
    obtain ⟨l, rfl, h3⟩ := strs_of h2
    exact ⟨(y, t) :: l, rfl, by rw [List.map_cons, h3]⟩
theorem fn_join {x : Str} {ys : List Str} (hok : JoinOk x ys = true) : Fn prog w hT d (.builtin "str.join") [.str x, .lst (ys.map .str)] (.str (Txt.join x ys)) := fun A F s vs ok B I rl => by
  unfold RepL at rl; obtain ⟨v, r, rfl, rv, rl⟩ := rl
  unfold RepL at rl; obtain ⟨v', r', rfl, rv', rl⟩ := rl
  unfold RepL at rl; subst rl
  unfold Rep at rv rv'
  obtain ⟨t, rfl⟩ := rv
  obtain ⟨a, us, n, rfl, ha, ru⟩ := rv'
  obtain ⟨l, rfl, hl⟩ := strs_of ru
  exact SC.join (l := l) (texts := ys) ⟨_, I _ _ ha, rfl, n, rfl⟩ hl hok fun t' k => fin0 (.refl s) (.refl I) (by unfold Rep; exact ⟨t', rfl⟩)
end
end Mine
end
section
open PySem PySem.W PyProof.Rows Builtin.Str
set_option Elab.async false
namespace Mine
section
variable {prog : Program} {w : World} {hT : Heap} {d : Nat} {env : Env} {W : Str → Bool} {σ : Sig} {K : Frag} {mg mb : Str → Option Value} {Q : AFlow → Sig → Prop}

theorem frOff_list {m : Str → Option Value} {h : Heap} {a : Addr} {vs : List Value} {n : Nat} {o : Obj} (V : Vars env m h) (e : h.get? a = some (lstObj vs n)) : FrOff env (one a o) := by
  refine ⟨?_, fun x c hk hc => ?_⟩
  · unfold one
    rw [if_neg]
    intro q
    obtain ⟨⟨mL, ⟨o, es, ep, e1, e2, _⟩, _⟩, _⟩ := V
    rw [q, e] at e1; cases e1; cases e2
  · unfold one
    rw [if_neg]
    intro q
    obtain ⟨o, e1, e2⟩ := V.cell x c hk hc
    rw [q, e] at e1; cases e1; cases e2

/-- an own list changed in its place -/
theorem St.chown {m : Str → Option Value} {F H : Fz} {h h' : Heap} {x : Str} {xs xs' : List AV} {a : Addr} {vs' : List Value} {n' : Nat} (S : St hT env W σ m F h) (P : Prot env W σ m H h) (e : σ.lookup x = some (.own xs)) (hm : m x = some (.ref a)) (hs : ∀ b, b ≠ a → h'.get? b = h.get? b) (h1 : h'.get? a = some (lstObj vs' n')) (r : RepL F xs' vs') :
    St hT env W (put σ x (.own xs')) m F h' ∧ Prot env W (put σ x (.own xs')) m H h' := by
  obtain ⟨v, hv, b, vs, n, rfl, g1, g2, g3⟩ := S.loc x _ e
  rw [hm] at hv; cases hv
  have keep : ∀ b o, one a (lstObj vs n) b = none → h.get? b = some o → h'.get? b = some o := fun b o q g => (hs b (fun c => by rw [c] at q; unfold one at q; rw [if_pos rfl] at q; cases q)).trans g
  refine ⟨⟨S.base, fun b o q => (hs b fun c => by rw [c, g1] at q; cases q).trans (S.inn b o q), S.vars.keepsB (frOff_list S.vars g2) keep, S.kind, S.free, fun y c q => ?_, fun y z ys zs b q1 q2 => ?_⟩, fun b o q => (hs b fun c => by rw [c, P.own x xs a e hm] at q; cases q).trans (P.inn b o q), P.free, fun y ys b q1 q2 => ?_⟩
  · rw [lookup_put] at q
    by_cases hy : y = x
    · subst hy
      rw [if_pos rfl] at q; cases q
      exact ⟨_, hm, a, vs', n', rfl, g1, h1, r⟩
    · rw [if_neg hy] at q
      obtain ⟨u, hu, r'⟩ := S.loc y c q
      refine ⟨u, hu, ?_⟩
      cases c with
      | val z => exact r'
      | own zs =>
        obtain ⟨b, us, k, rfl, z1, z2, z3⟩ := r'
        exact ⟨b, us, k, rfl, z1, (hs b fun c => by subst c; exact hy (S.sep y x zs xs _ q e hu hm)).trans z2, z3⟩
  · rw [lookup_put] at q1 q2
    intro e1 e2
    by_cases hy : y = x
    · by_cases hz : z = x
      · rw [hy, hz]
      · rw [if_neg hz] at q2
        rw [hy] at e1
        exact hy.trans (S.sep x z xs zs b e q2 e1 e2)
    · rw [if_neg hy] at q1
      by_cases hz : z = x
      · rw [hz] at e2
        exact (S.sep y x ys xs b q1 e e1 e2).trans hz.symm
      · rw [if_neg hz] at q2
        exact S.sep y z ys zs b q1 q2 e1 e2
  · rw [lookup_put] at q1
    by_cases hy : y = x
    · rw [hy, hm] at q2; cases q2; exact P.own x xs a e hm
    · rw [if_neg hy] at q1; exact P.own y ys b q1 q2

theorem st_append {x : Str} {e : Expr} {p1 p2 p3 p4 : Pos} {xs : List AV} {y : AV} (hσ : σ.lookup x = some (.own xs)) (he : Ev prog w hT d env W σ e y) (hn : xs.length ≤ sizeLine) (h : Q .next (put σ x (.own (xs ++ [y])))) (hk : env.scope.kind = .function := by rfl)
    (hx : env.kindOf x = some .local ∨ (env.kindOf x = some .cell ∧ (env.cells.lookup x).isSome = true) := by first | exact Or.inl rfl | exact Or.inr ⟨rfl, rfl⟩) (hd : (x == ("__debug__" : Str)) = false := by rfl) (hst : starEach [e] env = [(false, eval e env)] := by rfl)
    (hline : (p2.endLine == p3.line) = true := by rfl) (hi : interactive env = false := by rfl) (hs : swapsWith (.Call (.Attribute (.Name x p1) "append" p2) [e] [] p3) none p4.line env = pure false := by rfl) : Ex1 prog w hT d env W σ (.Expr (.Call (.Attribute (.Name x p1) "append" p2) [e] [] p3) p4) Q := fun A H m F s ok S P => by
  obtain ⟨v, hv, a, vs, n, rfl, g1, g2, g3⟩ := S.loc x _ hσ
  refine wpAny_Expr (Call_method1 rfl hst hline (wpAny_Name (load_any S.vars hk hx hv ?_) hd)) hi hs
  refine ⟨"list", "list.append", PySem.F.plainAttrs_list, PySem.F.slot_list_append, PySem.F.type_list_append, ⟨_, g2, rfl⟩, fun b q => by cases q; exact ⟨_, g2, rfl⟩, ?_⟩
  refine Calls.callWith_builtin rfl (Calls.evalArgs_plain (Calls.spliced_cons (he.use ok S fun u s1 F1 k1 x1 S1 r1 => Calls.spliced_nil ?_)))
  have hl : s1.heap.PlainList a vs.toArray := ⟨n, k1.heap _ _ g2⟩
  refine wpAny_list_append_plain (hsz := by rw [List.size_toArray, g3.length]; exact hn) hl fun h' hl' hs' => ?_
  obtain ⟨n', h1⟩ := hl'
  have h1' : h'.get? a = some (lstObj (vs ++ [u]) n') := by rw [h1]; unfold lstObj; simp
  obtain ⟨S2, P2⟩ := S1.chown (P.keeps k1.heap) hσ hv hs'.2 h1' ((g3.mono x1.le).append (RepL.cons r1 RepL.nil))
  exact ⟨.next, _, m, F1, h, rfl, x1.le, fun b o q => x1.old b o (P.inn b o q), S2, P2, k1.g.of⟩

theorem st_aug {x : Str} {op : Operator} {e : Expr} {p1 p2 : Pos} {y z r : AV} (hW : W x = true) (hσ : σ.lookup x = some (.val y)) (he : Ev prog w hT d env W σ e z) (ho : Op2 prog w hT d (inplaceOp op) y z r) (h : Q .next (put σ x (.val r))) (hk : env.scope.kind = .function := by rfl) : Ex1 prog w hT d env W σ (.AugAssign (.Name x p1) op e p2) Q := fun A H m F s ok S P => by
  obtain ⟨v, hv, r0⟩ := S.loc x _ hσ
  refine wpAny_AugAssign_Name (load_any S.vars hk (S.kind x hW) hv (he.use ok S fun u s1 F1 k1 x1 S1 r1 => ?_))
  refine wpAny_mono (ho A F1 s1 v u ok S1.base S1.inn (Rep.mono x1.le r0) r1) (fun q s2 hpat => ?_) fun _ _ q => q
  obtain ⟨k2, F2, x2, r2⟩ := hpat
  have S2 := S1.keeps k2.heap x2
  refine store_any S2.vars hk (S2.kind x hW) fun h' t V' hb => ?_
  obtain ⟨S3, P3⟩ := S2.store (P.keeps (k1.trans k2).heap) hW V' hb (c := .val r) r2 (fun _ _ q => nomatch q)
  have x12 := x1.trans x2 k1.heap
  exact ⟨.next, _, _, F2, h, rfl, x12.le, fun a o q => x12.old a o (P.inn a o q), S3, P3, (k1.trans k2).g.of⟩
theorem op_iadd {a b : Int} : Op2 prog w hT d (inplaceOp .Add) (.int a) (.int b) (.int (a + b)) := fun A F s v u ok B I r1 r2 => by
  unfold Rep at r1 r2; obtain ⟨t, rfl⟩ := r1; obtain ⟨t', rfl⟩ := r2
  exact P.iadd_int (fin0 (.refl s) (.refl I) (by unfold Rep; exact ⟨_, rfl⟩))
theorem op_isub {a b : Int} : Op2 prog w hT d (inplaceOp .Sub) (.int a) (.int b) (.int (a - b)) := fun A F s v u ok B I r1 r2 => by
  unfold Rep at r1 r2; obtain ⟨t, rfl⟩ := r1; obtain ⟨t', rfl⟩ := r2
  exact P.isub_int (fin0 (.refl s) (.refl I) (by unfold Rep; exact ⟨_, rfl⟩))
theorem st_break {p : Pos} (h : Q .brk σ) : Ex1 prog w hT d env W σ (.Break p) Q := fun A H m F s ok S P => wpAny_Break ⟨.brk, σ, m, F, h, rfl, fun _ _ e => e, fun _ _ _ => rfl, S, P, .refl s⟩
theorem st_continue {p : Pos} (h : Q .cont σ) : Ex1 prog w hT d env W σ (.Continue p) Q := fun A H m F s ok S P => wpAny_Continue ⟨.cont, σ, m, F, h, rfl, fun _ _ e => e, fun _ _ _ => rfl, S, P, .refl s⟩
end
end Mine
end
section
open PySem PySem.W PyProof.Rows Builtin.Str
set_option Elab.async false
namespace Mine
/-- a list's own members, one after the other -/
theorem sub_of {τ σ : Sig} (h : ∀ p ∈ τ, σ.lookup p.1 = some p.2) : Sub τ σ := fun p hp _ => h p hp
theorem all_nil {P : Str × Cell → Prop} : ∀ p ∈ ([] : Sig), P p := fun _ h => nomatch h
theorem all_cons {P : Str × Cell → Prop} {x : Str × Cell} {l : Sig} (h : P x) (r : ∀ p ∈ l, P p) : ∀ p ∈ x :: l, P p := fun p hp => by
  rcases List.mem_cons.mp hp with rfl | hp
  · exact h
  · exact r p hp
theorem keepS {τ : Sig} (τ' σ' : Sig) (u : Sub τ' σ') (h : AFlow.next = AFlow.next ∧ Sub τ τ') : AFlow.next = AFlow.next ∧ Sub τ σ' := ⟨rfl, fun z hz e => u.lookup (h.2 z hz e)⟩
theorem Sub.put {τ σ : Sig} (h : Sub τ σ) (x : Str) (c : Cell) : Sub (put τ x c) (put σ x c) := fun p _ e => by
  rw [lookup_put] at e ⊢
  by_cases q : p.1 = x
  · rw [if_pos q] at e ⊢; exact e
  · rw [if_neg q] at e ⊢; exact h.lookup e
theorem Sub.refl (σ : Sig) : Sub σ σ := fun _ _ e => e
section
variable {prog : Program} {w : World} {hT : Heap} {d : Nat} {env : Env} {W : Str → Bool} {σ τ : Sig} {Q Q' : AFlow → Sig → Prop} {tg : Expr} {body : List Stmt}
theorem BindT.sub {x : AV} {τ1 : Sig} (h : BindT W τ tg x τ1) (u : Sub τ σ) : ∃ σ1, BindT W σ tg x σ1 ∧ Sub τ1 σ1 := by
  cases h with
  | name hW => exact ⟨_, .name hW, u.put _ _⟩
  | pair ha hb => exact ⟨_, .pair ha hb, (u.put _ _).put _ _⟩
theorem Loop.sub {xs : List AV} (h : Loop prog w hT d env W tg body xs τ Q) (u : Sub τ σ) (hQ : ∀ τ' σ', Sub τ' σ' → Q .next τ' → Q .next σ') : Loop prog w hT d env W tg body xs σ Q := by
  cases xs with
  | nil => exact hQ _ _ u h
  | cons x xs =>
    obtain ⟨τ1, hb, hx⟩ := h
    obtain ⟨σ1, hb', u1⟩ := hb.sub u
    exact ⟨σ1, hb', hx.sub u1⟩
theorem Loop.mono {xs : List AV} : ∀ {σ : Sig} {Q : AFlow → Sig → Prop}, Loop prog w hT d env W tg body xs σ Q → (∀ fl σ', Q fl σ' → Q' fl σ') → Loop prog w hT d env W tg body xs σ Q' := by
  induction xs with
  | nil => intro σ Q h q; exact q _ _ h
  | cons x xs ih =>
    intro σ Q h q
    obtain ⟨σ1, hb, hx⟩ := h
    refine ⟨σ1, hb, hx.mono fun fl σ2 z => ?_⟩
    cases fl with
    | next => exact ih z q
    | cont => exact ih z q
    | brk => exact q _ _ z
    | ret y => exact q _ _ z
/-- one turn -/
theorem loop_cons {x : AV} {xs : List AV} {σ1 : Sig} (hb : BindT W σ tg x σ1) (h : Ex prog w hT d env W σ1 body fun fl σ2 => match fl with
    | .next => Loop prog w hT d env W tg body xs σ2 Q
    | .cont => Loop prog w hT d env W tg body xs σ2 Q
    | .brk => Q .next σ2
    | .ret y => Q (.ret y) σ2) : Loop prog w hT d env W tg body (x :: xs) σ Q := ⟨σ1, hb, h⟩
end
end Mine
end
section
open PySem PySem.W PySem.W.X PyProof.Rows
set_option Elab.async false
namespace Mine
noncomputable abbrev PR : Program := PySem.Challenge.pw_pe0174_03
noncomputable def stN (i : Nat) : Stmt := (PR.main.body[i]?).getD (.Pass ⟨0, 0, 0, 0⟩)
noncomputable def bodyOf : Stmt → List Stmt
  | .FunctionDef _ _ b _ _ _ _ _ _ _ => b
  | .ClassDef _ _ _ b _ _ _ _ _ _ _ => b
  | _ => []
noncomputable def scopeOf : Stmt → Scope
  | .FunctionDef _ _ _ _ _ _ s _ _ _ => s
  | _ => default
noncomputable def paramsOf : Stmt → Arguments
  | .FunctionDef _ a _ _ _ _ _ _ _ _ => a
  | _ => default
noncomputable def fdN (st : Stmt) (nm qn : Str) (dV kV doc pm : Value) (an : Option Addr) (cd ct : Value) : FuncData := fnOf nm qn (paramsOf st) (bodyOf st) (scopeOf st) dV kV doc pm an cd ct
noncomputable def iGen : Nat := 3
noncomputable def iStrip : Nat := 4
noncomputable def iCheck : Nat := 5
noncomputable def iCls : Nat := 1
noncomputable def iNum : Nat := 7
end Mine
namespace Mine
noncomputable def forTg : Stmt → Expr
  | .For t _ _ _ _ => t
  | _ => .Constant .none 0 ⟨0, 0, 0, 0⟩
noncomputable def forBody : Stmt → List Stmt
  | .For _ _ b _ _ => b
  | _ => []
noncomputable def nth (l : List Stmt) (i : Nat) : Stmt := (l[i]?).getD (.Pass ⟨0, 0, 0, 0⟩)
end Mine
end
section
open PySem PySem.W PySem.W.X PyProof.Rows
set_option Elab.async false
set_option maxRecDepth 100000
namespace Mine
/-- the signs, an escaped one with its backslash -/
noncomputable def escL (p : Int) (e : Bool) (i : Nat) : List Nat → List AV
  | [] => if e then [.tup [.int p, .str ⟨#[92]⟩]] else []
  | c :: cs => if e then .tup [.int i, .str ⟨#[92, c]⟩] :: escL i false (i + 1) cs else if c = 92 then escL i true (i + 1) cs else .tup [.int i, .str ⟨#[c]⟩] :: escL i false (i + 1) cs
noncomputable def gFor : Stmt := nth (bodyOf (stN iGen)) 2
noncomputable def sL (x : Str) (p : Int) (e : Bool) : Sig := [("addr", .val (.str x)), ("pos", .val (.int p)), ("escape", .val (.bool e))]
noncomputable def sLc (x : Str) (p : Int) (e : Bool) (c : Nat) : Sig := [("addr", .val (.str x)), ("pos", .val (.int p)), ("escape", .val (.bool e)), ("ch", .val (.str ⟨#[c]⟩))]
theorem scal_of {σ : Sig} (h : ∀ p ∈ σ, ∃ y, p.2 = Cell.val y ∧ ∀ (F F' : Fz) v, Rep F y v → Rep F' y v) : Scal σ := fun x c e => h (x, c) (mem_of_lookup e)
theorem scal_str {x : Str} (F F' : Fz) (v : Value) (r : Rep F (.str x) v) : Rep F' (.str x) v := by unfold Rep at r ⊢; exact r
theorem scal_int {x : Int} (F F' : Fz) (v : Value) (r : Rep F (.int x) v) : Rep F' (.int x) v := by unfold Rep at r ⊢; exact r
theorem scal_bool {x : Bool} (F F' : Fz) (v : Value) (r : Rep F (.bool x) v) : Rep F' (.bool x) v := by unfold Rep at r ⊢; exact r
theorem scal_sLc (x : Str) (p : Int) (e : Bool) (c : Nat) : Scal (sLc x p e c) := scal_of fun q hq => by
  simp only [sLc, List.mem_cons, List.not_mem_nil, or_false] at hq
  rcases hq with rfl | rfl | rfl | rfl
  · exact ⟨_, rfl, scal_str⟩
  · exact ⟨_, rfl, scal_int⟩
  · exact ⟨_, rfl, scal_bool⟩
  · exact ⟨_, rfl, scal_str⟩
theorem scal_sL (x : Str) (p : Int) (e : Bool) : Scal (sL x p e) := scal_of fun q hq => by
  simp only [sL, List.mem_cons, List.not_mem_nil, or_false] at hq
  rcases hq with rfl | rfl | rfl
  · exact ⟨_, rfl, scal_str⟩
  · exact ⟨_, rfl, scal_int⟩
  · exact ⟨_, rfl, scal_bool⟩
section
variable {w : World} {hT : Heap} {d : Nat} {K : Frag} {mg mb : Str → Option Value} {nm qn : Str} {dV kV doc pm : Value} {an : Option Addr} {cd ct : Value}
variable {L fa : Addr} {x : Str}
theorem gen_hl (y : Str) (h : Wof (scopeOf (stN iGen)) y = true) : locOf (genv (fdN (stN iGen) nm qn dV kV doc pm an cd ct) L fa) y = (genv (fdN (stN iGen) nm qn dV kV doc pm an cd ct) L fa).locals := by
  unfold locOf
  rw [if_neg]
  intro q
  have hn : ∀ z ∈ (scopeOf (stN iGen)).names, z.2 ≠ .cell := by decide +kernel
  exact hn _ (mem_of_lookup q) rfl

theorem GSt.step {prog : Program} {env : Env} {W : Str → Bool} {σ : Sig} {m : Str → Option Value} {F F' fp fp' : Fz} {gp : Nat → Option GenState} {s s' : Shared} (g : GSt hT env W σ m F fp s) (sc : Scal σ) (hl : ∀ x, W x = true → locOf env x = env.locals) (hgp : ∀ g, gp g = none) (kb : KpB fp gp s s') (ex : ExtB fp F s.heap F' s'.heap)
    (h1 : ∀ a o, fp' a = some o → s'.heap.get? a = some o ∧ F' a = none ∧ ((∃ o', fp a = some o') ∨ s.heap.get? a = none)) : GSt hT env W σ m F' fp' s' ∧ ExtG env fp F s.heap F' s'.heap ∧ KS env fp s s' ∧ FpNew fp fp' s := by
  refine ⟨⟨⟨fun a o e => ex.le _ _ (g.st.base a o e), ex.inn, g.st.vars.keepsB g.fr kb.heap, g.st.kind, fun y hy => ?_, fun y c q => ?_, g.st.sep⟩, fun a o e => (h1 a o e).1, fun a o e => (h1 a o e).2.1, g.fr.fresh g.st.vars fun a o e => (h1 a o e).2.2⟩, ex.g, ⟨fun b o _ hf e => kb.heap b o hf e, fun x y e => kb.gens x y (hgp x) e, kb.bare, kb.os⟩, fun a o e => (h1 a o e).2.2⟩
  · obtain ⟨o, ho⟩ := locOf_there g.st.vars (g.st.kind y hy)
    rw [ex.old _ _ (by rw [hl y hy]; exact g.fr.1) ho]; exact g.st.free y hy
  · obtain ⟨v, h2, h3⟩ := g.st.loc y c q
    obtain ⟨z, rfl, hz⟩ := sc y c q
    exact ⟨v, h2, hz F F' v h3⟩

theorem gen_loop (T : Tp hT K mg mb) {it : Value} {cF : Code} {k : Result → Sem Fin} {l : List Value} {pp : Pos} (hcF : ∃ b e, cF = .func b e) (hkF : ∀ p e fp, Rsm PR w hT d (genv (fdN (stN iGen) nm qn dV kV doc pm an cd ct) L fa) (Wof (scopeOf (stN iGen))) (if e then [.tup [.int p, .str ⟨#[92]⟩]] else []) cF (k (.ok .next)) [] (sL x p e) fp) :
    ∀ (cs : List Nat) (i : Nat) (p : Int) (e : Bool) (fp : Fz), Itr PR w hT d (forTg gFor) it (enumS i cs) (fun _ => none) fp (fun _ => none) →
      Rsm PR w hT d (genv (fdN (stN iGen) nm qn dV kV doc pm an cd ct) L fa) (Wof (scopeOf (stN iGen))) (escL p e i cs) (.forLoop (forTg gFor) it (forBody gFor) [] (genv (fdN (stN iGen) nm qn dV kV doc pm an cd ct) L fa)) (denote table (.forLoop (forTg gFor) it (forBody gFor) [] (genv (fdN (stN iGen) nm qn dV kV doc pm an cd ct) L fa))) [.ret k none false l cF pp []] (sL x p e) fp := by
  obtain ⟨cb, ce, rfl⟩ := hcF
  intro cs
  induction cs with
  | nil =>
    intro i p e fp hi
    refine rsm_iff.mpr fun A F m s ok g => segx_forLoop ?_
    have okL := ok_loop (tg := forTg gFor) (it := it) (b1 := forBody gFor) (b2 := []) (env := genv (fdN (stN iGen) nm qn dV kV doc pm an cd ct) L fa) (k := k) (g := false) (l := l) (kp := []) (p := pp) (b3 := cb) (env' := ce) ok
    refine wpAny_mono (hi _ F s ⟨okL, (fun _ _ q => by cases q), g.st.base, g.st.inn, g.at_, (fun _ _ q => by cases q), g.off⟩) (fun r s1 hpat => ?_) fun _ _ q => q
    obtain ⟨hr, kb⟩ := hpat
    subst hr
    have hoff : ∀ a o, F a = some o → fp a = none := fun a o q => by
      cases z : fp a with
      | none => rfl
      | some y => rw [g.off a y z] at q; cases q
    have S1 : St hT _ _ (sL x p e) m F s1.heap := ⟨g.st.base, fun a o q => kb.heap a o (hoff a o q) (g.st.inn a o q), g.st.vars.keepsB g.fr kb.heap, g.st.kind, g.st.free, fun y c q => (by
      obtain ⟨v, h1, h2⟩ := g.st.loc y c q
      obtain ⟨z, rfl, hz⟩ := scal_sL x p e y c q
      exact ⟨v, h1, h2⟩), g.st.sep⟩
    have g1 : GSt hT _ _ (sL x p e) m F (fun _ => none) s1 := ⟨S1, (fun _ _ q => by cases q), (fun _ _ q => by cases q), rfl, fun _ _ _ _ => rfl⟩
    refine s_again PR w A _ _ _ s1 _ rfl ?_
    refine s_pop PR w A _ _ _ s1 (.ok .next) _ rfl k none false l _ pp [] ?_
    refine SegX.from (rsm_iff.mp (hkF p e (fun _ => none)) A F m s1 ok g1) ⟨fun _ _ q => q, fun _ _ _ _ _ => rfl, S1.inn⟩ ⟨fun b o _ hf q => kb.heap b o hf q, fun gg y q => kb.gens gg y rfl q, kb.bare, kb.os⟩ fun _ _ q => by cases q
  | cons c cs ih =>
    intro i p e fp hi
    refine rsm_iff.mpr fun A F m s ok g => segx_forLoop ?_
    have okL := ok_loop (tg := forTg gFor) (it := it) (b1 := forBody gFor) (b2 := []) (env := genv (fdN (stN iGen) nm qn dV kV doc pm an cd ct) L fa) (k := k) (g := false) (l := l) (kp := []) (p := pp) (b3 := cb) (env' := ce) ok
    refine wpAny_mono (hi _ F s ⟨okL, (fun _ _ q => by cases q), g.st.base, g.st.inn, g.at_, (fun _ _ q => by cases q), g.off⟩) (fun r s1 hpat => ?_) fun _ _ q => q
    obtain ⟨v, hr, hgo⟩ := hpat
    subst hr
    refine wpAny_mono hgo (fun _ s2 hpat => ?_) fun _ _ q => q
    obtain ⟨kb, F2, fp2, gp2, ex, rv, h1, h2, h3, hi2⟩ := hpat
    have hgp : gp2 = fun _ => none := funext fun z => h3 (fun _ => rfl) z
    subst hgp
    obtain ⟨g2, x2, k2, n2⟩ := GSt.step (prog := PR) g (scal_sL x p e) gen_hl (fun _ => rfl) kb ex h1
    refine assign_T (σ1 := put (put (sL x p e) "pos" (.val (.int i))) "ch" (.val (.str ⟨#[c]⟩))) (BindT.pair rfl rfl) okL rfl g2.st (prot_snap (F := F2) gen_hl (scal_sL x p e)) rv fun s3 m3 S3 P3 kg3 => ?_
    obtain ⟨g3, x3, k3⟩ := snap_keeps g2 S3 P3 (fun _ _ q => q) (fun _ _ _ => rfl) kg3
    replace g3 : GSt hT _ _ (sLc x i e c) m3 F2 fp2 s3 := g3.sub (sub_of (all_cons rfl (all_cons rfl (all_cons rfl (all_cons rfl all_nil)))))
    have x23 := x2.trans x3 k2 n2
    have k23 := k2.trans k3 n2
    clear x2 k2 x3 k3 kg3 P3 S3 g2 hgo h1 h2 h3
    intro KL hKL HL
    -- going on with the loop
    have go : ∀ (p' : Int) (e' : Bool) (σ' : Sig), Sub (sL x p' e') σ' → Rsm PR w hT d (genv (fdN (stN iGen) nm qn dV kV doc pm an cd ct) L fa) (Wof (scopeOf (stN iGen))) (escL p' e' (i + 1) cs) (.forLoop (forTg gFor) it (forBody gFor) [] (genv (fdN (stN iGen) nm qn dV kV doc pm an cd ct) L fa)) (KL .next) [.ret k none false l (.func cb ce) pp []] σ' fp2 := fun p' e' σ' hs => by
      refine rsm_iff.mpr fun A F m s ok g => ?_
      rw [hKL]
      exact s_again PR w A _ _ _ s _ rfl (rsm_iff.mp (ih (i + 1) p' e' fp2 hi2) A F m s ok (g.sub hs))
    with_unfolding_all refine segx_cons ?_
    refine segx_If (g_ts (ts_ev (ev_name rfl)) okL g3 fun s4 F4 g4 x4 k4 => ?_)
    have x24 := x23.trans x4 k23 n2
    have k24 := k23.trans k4 n2
    cases e with
    | true =>
      rw [if_pos rfl]
      refine segx_cons (segx_yield rfl rfl rfl ?_ rfl rfl)
      refine g_ev (y := .tup [.int i, .str ⟨#[92, c]⟩]) (ev_tup (evl_cons (ev_name rfl) (evl_cons (ev_binop ev_str (ev_name rfl) (op_addS (by show 1 + 1 ≤ sizeLine; decide))) evl_nil))) okL g4 fun v5 s5 F5 g5 x5 k5 r5 => ?_
      intro kk ll p5 hkk
      refine ⟨v5, ll, kk, _, p5, _, F5, m3, sLc x i true c, fp2, rfl, rfl, x24.trans x5 k24 n2, r5, g5, n2, k24.trans k5 n2, scal_sLc _ _ _ _, ?_⟩
      refine rsm_iff.mpr fun A' F' m' s' ok' g' => hkk A' s' _ ?_
      refine segx_cons (segx_wrap (g_exec (st_assign (x := "escape") rfl ev_bool ⟨rfl, rfl⟩) (ok_loop ok') g' gen_hl (scal_sLc _ _ _ _) fun s6 m6 F6 g6 x6 k6 => ?_))
      exact SegX.from (rsm_iff.mp (go i false _ (sub_of (all_cons rfl (all_cons rfl (all_cons rfl all_nil))))) A' F6 m6 s6 ok' g6) x6 k6 (FpNew.refl _ _)
    | false =>
      rw [if_neg Bool.false_ne_true]
      refine segx_cons (segx_If (g_ts (ts_cmp (ev_name rfl) ev_str op_eqS) okL g4 fun s5 F5 g5 x5 k5 => ?_))
      have x25 := x24.trans x5 k24 n2
      have k25 := k24.trans k5 n2
      have hc : decide ((⟨#[c]⟩ : Str) = Str.ofString "\\") = decide (c = 92) := by
        have : Str.ofString "\\" = ⟨#[92]⟩ := by decide +kernel
        rw [this]
        by_cases h : c = 92
        · subst h; simp
        · rw [decide_eq_false h, decide_eq_false]
          intro q; injection q with q; injection q with q; injection q with q; exact h q
      rw [hc]
      by_cases h92 : c = 92
      · rw [decide_eq_true h92, if_pos rfl]
        have hys : escL p false i (c :: cs) = escL i true (i + 1) cs := by show (if false = true then _ else if c = 92 then _ else _) = _; rw [if_neg Bool.false_ne_true, if_pos h92]
        rw [hys]
        refine segx_cons (segx_wrap (g_exec (st_assign (x := "escape") rfl ev_bool ⟨rfl, rfl⟩) okL g5 gen_hl (scal_sLc _ _ _ _) fun s6 m6 F6 g6 x6 k6 => ?_))
        exact SegX.from (rsm_iff.mp (go i true _ (sub_of (all_cons rfl (all_cons rfl (all_cons rfl all_nil))))) A F6 m6 s6 ok g6) (x25.trans x6 k25 n2) (k25.trans k6 n2) n2
      · rw [decide_eq_false h92, if_neg Bool.false_ne_true]
        have hys : escL p false i (c :: cs) = .tup [.int i, .str ⟨#[c]⟩] :: escL i false (i + 1) cs := by show (if false = true then _ else if c = 92 then _ else _) = _; rw [if_neg Bool.false_ne_true, if_neg h92]
        rw [hys]
        refine segx_cons (segx_yield rfl rfl rfl ?_ rfl rfl)
        refine g_ev (y := .tup [.int i, .str ⟨#[c]⟩]) (ev_tup (evl_cons (ev_name rfl) (evl_cons (ev_name rfl) evl_nil))) okL g5 fun v6 s6 F6 g6 x6 k6 r6 => ?_
        intro kk ll p6 hkk
        refine ⟨v6, ll, kk, _, p6, _, F6, m3, sLc x i false c, fp2, rfl, rfl, x25.trans x6 k25 n2, r6, g6, n2, k25.trans k6 n2, scal_sLc _ _ _ _, ?_⟩
        refine rsm_iff.mpr fun A' F' m' s' ok' g' => hkk A' s' _ ?_
        exact rsm_iff.mp (go i false _ (sub_of (all_cons rfl (all_cons rfl (all_cons rfl all_nil))))) A' F' m' s' ok' g'

theorem gen_rsm (T : Tp hT K mg mb) (hen : mg "enumerate" = none) : Rsm PR w hT d (genv (fdN (stN iGen) nm qn dV kV doc pm an cd ct) L fa) (Wof (scopeOf (stN iGen))) (escL 0 false 0 x.cps.toList)
    (.func (bodyOf (stN iGen)) (genv (fdN (stN iGen) nm qn dV kV doc pm an cd ct) L fa)) (denote table (.func (bodyOf (stN iGen)) (genv (fdN (stN iGen) nm qn dV kV doc pm an cd ct) L fa))) [] [("addr", .val (.str x))] (fun _ => none) := by
  refine rsm_iff.mpr fun A F m s ok g => ?_
  refine segx_func ?_
  with_unfolding_all refine segx_cons ?_
  have sc1 : Scal [("addr", Cell.val (.str x))] := scal_of (all_cons ⟨_, rfl, scal_str⟩ all_nil)
  have sc2 : Scal (put [("addr", Cell.val (.str x))] "pos" (.val (.int 0))) := scal_of (all_cons ⟨_, rfl, scal_str⟩ (all_cons ⟨_, rfl, scal_int⟩ all_nil))
  refine segx_wrap (g_exec (st_assign rfl ev_int ⟨rfl, rfl⟩) (ok_func ok) g gen_hl sc1 fun s1 m1 F1 g1 x1 k1 => ?_)
  refine segx_cons (segx_wrap (g_exec (st_assign rfl ev_bool ⟨rfl, rfl⟩) (ok_func ok) g1 gen_hl sc2 fun s2 m2 F2 g2 x2 k2 => ?_))
  replace g2 : GSt hT _ _ (sL x 0 false) m2 F2 _ s2 := g2.sub (sub_of (all_cons rfl (all_cons rfl (all_cons rfl all_nil))))
  have x12 := x1.trans x2 k1 (FpNew.refl _ _)
  have k12 := k1.trans k2 (FpNew.refl _ _)
  refine segx_cons (segx_For ?_ (fun _ => rfl))
  refine enumS_make (forTg gFor) ⟨_, _, _, rfl⟩ (gl_boot T hen (by decide +kernel)) (ev_name rfl) rfl (ok_func ok) g2.st fun it s3 F3 fp kp ex h3 hi => ?_
  intro p k l hk
  have g3 : GSt hT _ _ (sL x 0 false) m2 F3 fp s3 := ⟨g2.st.keeps kp.heap ex, fun a o e => (h3 a o e).1, fun a o e => (h3 a o e).2.1, FrOff.of_fresh g2.st.vars fun a o e => (h3 a o e).2.2⟩
  have n3 : FpNew (fun _ => none) fp s := fun a o e => .inr (by
    have z := (h3 a o e).2.2
    cases q : s.heap.get? a with
    | none => rfl
    | some o' =>
      by_cases c : a = (genv (fdN (stN iGen) nm qn dV kV doc pm an cd ct) L fa).locals
      · rw [c, g3.fr.1] at e; cases e
      · rw [k12.heap a o' c rfl q] at z; cases z)
  have k3 : KS (genv (fdN (stN iGen) nm qn dV kV doc pm an cd ct) L fa) (fun _ => none) s2 s3 := ⟨fun b o _ _ e => kp.heap b o e, kp.g⟩
  refine SegX.from (rsm_iff.mp (gen_loop T (k := k) (l := l) (pp := p) ⟨_, _, rfl⟩ (fun p' e' fp' => ?_) _ 0 0 false fp (hi _)) A F3 m2 s3 ok g3) (x12.trans ex.g k12 (FpNew.refl _ _)) (k12.trans k3 (FpNew.refl _ _)) n3
  rw [hk]
  refine rsm_iff.mpr fun A F m s ok g => ?_
  refine segx_cons (segx_If (g_ts (ts_ev (ev_name rfl)) (ok_func ok) g fun s4 F4 g4 x4 k4 => ?_))
  cases e' with
  | false =>
    rw [if_neg Bool.false_ne_true, if_neg Bool.false_ne_true]
    exact s_end PR w A _ _ s4 (.ok (.ret .none)) _ rfl ⟨rfl, k4⟩
  | true =>
    rw [if_pos rfl, if_pos rfl]
    refine segx_cons (segx_yield rfl rfl rfl ?_ rfl rfl)
    refine g_ev (y := .tup [.int p', .str ⟨#[92]⟩]) (ev_tup (evl_cons (ev_name rfl) (evl_cons ev_str evl_nil))) (ok_func ok) g4 fun v5 s5 F5 g5 x5 k5 r5 => ?_
    intro kk ll p5 hkk
    refine ⟨v5, ll, kk, _, p5, _, F5, m, sL x p' true, fp', rfl, rfl, x4.trans x5 k4 (FpNew.refl _ _), r5, g5, FpNew.refl _ _, k4.trans k5 (FpNew.refl _ _), scal_sL _ _ _, ?_⟩
    refine rsm_iff.mpr fun A' F' m' s' ok' g' => hkk A' s' _ ?_
    exact s_end PR w A' _ _ s' (.ok (.ret .none)) _ rfl ⟨rfl, ⟨fun _ _ _ _ e => e, .refl _⟩⟩
end
end Mine
end
section
open PySem PySem.W PySem.W.X PyProof.Rows Builtin.Str
set_option Elab.async false
set_option maxRecDepth 100000
namespace Mine
theorem OkA.down {d d' : Nat} (h : d ≤ d') {A : Around} (ok : OkA d' A) : OkA d A := ⟨ok.hh, by have := ok.depth; omega, by have := ok.units; omega⟩
theorem Fn.up {prog : Program} {w : World} {hT : Heap} {d d' : Nat} {f : Value} {xs : List AV} {r : AV} (h : Fn prog w hT d f xs r) (hd : d ≤ d') : Fn prog w hT d' f xs r := fun A F s vs ok => h A F s vs (ok.down hd)
/-- a def of the text stands at this place -/
noncomputable def FnAt (hT : Heap) (a : Addr) (st : Stmt) (nm qn : Str) : Prop := ∃ doc pm an cd ct oc od osl, hT.get? a = some ⟨oc, od, .func (fdN st nm qn .none .none doc pm an cd ct), osl⟩ ∧ hT.CodeRec cd qn
theorem kr_fn {prog : Program} {w : World} {hT : Heap} {a : Addr} {st : Stmt} {nm qn : Str} (h : FnAt hT a st nm qn) : Kr prog w hT (.ref a) := fun h' k => by
  obtain ⟨doc, pm, an, cd, ct, oc, od, osl, ho, _⟩ := h
  refine ⟨.frame, .inl rfl, fun A Q E s hk q => ?_⟩
  unfold keeperOf
  exact wpAny_bind (wpAny_load (hk _ _ (k _ _ ho)) (wpAny_pure q))

noncomputable def escPr (p : Int) (e : Bool) (i : Nat) : List Nat → List (Int × Str)
  | [] => if e then [(p, ⟨#[92]⟩)] else []
  | c :: cs => if e then (i, ⟨#[92, c]⟩) :: escPr i false (i + 1) cs else if c = 92 then escPr i true (i + 1) cs else (i, ⟨#[c]⟩) :: escPr i false (i + 1) cs
noncomputable def prAV (q : Int × Str) : AV := .tup [.int q.1, .str q.2]
theorem escL_eq : ∀ (cs : List Nat) (p : Int) (e : Bool) (i : Nat), escL p e i cs = (escPr p e i cs).map prAV
  | [], p, e, i => by unfold escL escPr; cases e <;> rfl
  | c :: cs, p, e, i => by
    unfold escL escPr
    cases e
    · simp only [Bool.false_eq_true, if_false]
      split
      · exact escL_eq cs _ _ _
      · rw [List.map_cons, ← escL_eq cs]; rfl
    · simp only [if_true]
      rw [List.map_cons, ← escL_eq cs]; rfl

/-- brackets read from the left -/
noncomputable def checkL : Int → List Str → Bool
  | o, [] => decide (o = 0)
  | o, c :: cs => if c = ⟨#[40]⟩ then checkL (o + 1) cs else if c = ⟨#[41]⟩ then (if o - 1 < 0 then false else checkL (o - 1) cs) else checkL o cs
noncomputable def stripGo (x : Str) : List (Int × Str) → Int → Option Int → List Str → Int × List Str
  | [], s, _, rs => (s, rs)
  | (p, c) :: r, s, o, rs => if c = ⟨#[34]⟩ then (match o with | none => stripGo x r s (some p) rs | some q => stripGo x r (p + 1) none (if s = q then rs else rs ++ [Txt.slice x (some s) (some q)])) else stripGo x r s o rs
noncomputable def escItems (x : Str) : List (Int × Str) := escPr 0 false 0 x.cps.toList
noncomputable def stripF (x : Str) : Str := if (occurrences x ⟨#[34]⟩ 0 x.length 1).isEmpty then x else
  let q := stripGo x (escItems x) 0 none []
  Txt.join ⟨#[]⟩ (if q.1 < x.length then q.2 ++ [Txt.slice x (some q.1) none] else q.2)
noncomputable def checkF (x : Str) : Bool := checkL 0 ((escItems (stripF x)).map (·.2))

theorem lit_open : Str.ofString "(" = ⟨#[40]⟩ := by decide +kernel
theorem lit_close : Str.ofString ")" = ⟨#[41]⟩ := by decide +kernel
theorem lit_quote : Str.ofString "\"" = ⟨#[34]⟩ := by decide +kernel
theorem lit_empty : Str.ofString "" = ⟨#[]⟩ := by decide +kernel

section
variable {w : World} {hT : Heap} {d : Nat} {K : Frag} {mg mb : Str → Option Value}
variable {aGen aStrip aCheck : Addr}
theorem evI_esc {env : Env} {W : Str → Bool} {σ : Sig} {arg tg : Expr} {p pos : Pos} {x : Str} (T : Tp hT K mg mb) (hG : FnAt hT aGen (stN iGen) "_iter_escaped_chars" "_iter_escaped_chars") (hen : mg "enumerate" = none) (hg : Gl PR w hT env "_iter_escaped_chars" (.ref aGen)) (ha : Ev PR w hT (d + 2) env W σ arg (.str x)) (hst : starEach [arg] env = [(false, eval arg env)] := by rfl) :
    EvI PR w hT (d + 2) env W σ (.Call (.Name "_iter_escaped_chars" p) [arg] [] pos) tg ((escItems x).map prAV) := by
  obtain ⟨doc, pm, an, cd, ct, oc, od, osl, ho, hcd⟩ := id hG
  have := escL_eq x.cps.toList 0 false 0
  unfold escItems
  rw [← this]
  exact evI_gen T hg (kr_fn hG) ho rfl hcd rfl rfl (fun v => rfl) (by rfl) (show ∀ x ∈ (scopeOf (stN iGen)).names, x.2 ≠ .cell by decide +kernel) scal_str ha (fun L => gen_rsm T hen) hst

theorem check_loop {nm qn : Str} {doc pm : Value} {an : Option Addr} {cd ct : Value} {L a : Addr} : ∀ (ps : List (Int × Str)) (o : Int), Loop PR w hT d (callEnvC (fdN (stN iCheck) nm qn .none .none doc pm an cd ct) L a) (Wof (scopeOf (stN iCheck))) (forTg (nth (bodyOf (stN iCheck)) 2)) (forBody (nth (bodyOf (stN iCheck)) 2)) (ps.map prAV) [("opens", .val (.int o))]
    (fun fl σ' => match fl with | .next => ∃ o', List.lookup ("opens" : Str) σ' = some (.val (.int o')) ∧ checkL o (ps.map (·.2)) = decide (o' = 0) | .ret y => y = .bool false ∧ checkL o (ps.map (·.2)) = false | _ => False) := by
  intro ps
  induction ps with
  | nil => intro o; exact ⟨o, rfl, rfl⟩
  | cons q ps ih =>
    intro o
    obtain ⟨p, c⟩ := q
    rw [List.map_cons]
    have go : ∀ (o1 : Int) (σ2 : Sig), List.lookup ("opens" : Str) σ2 = some (.val (.int o1)) → checkL o (((p, c) :: ps).map (·.2)) = checkL o1 (ps.map (·.2)) → Loop PR w hT d (callEnvC (fdN (stN iCheck) nm qn .none .none doc pm an cd ct) L a) (Wof (scopeOf (stN iCheck))) (forTg (nth (bodyOf (stN iCheck)) 2)) (forBody (nth (bodyOf (stN iCheck)) 2)) (ps.map prAV) σ2
        (fun fl σ' => match fl with | .next => ∃ o', List.lookup ("opens" : Str) σ' = some (.val (.int o')) ∧ checkL o (((p, c) :: ps).map (·.2)) = decide (o' = 0) | .ret y => y = .bool false ∧ checkL o (((p, c) :: ps).map (·.2)) = false | _ => False) := fun o1 σ2 h1 h2 => by
      rw [h2]
      refine (ih o1).sub (sub_of (all_cons h1 all_nil)) fun τ' σ' u ⟨o', q1, q2⟩ => ⟨o', u.lookup q1, q2⟩
    refine loop_cons (BindT.pair rfl rfl) ?_
    with_unfolding_all refine ex_cons (st_if (ts_cmp (ev_name rfl) ev_str op_eqS) ?_)
    rw [lit_open]
    by_cases hc : c = ⟨#[40]⟩
    · rw [decide_eq_true hc, if_pos rfl]
      refine ex_cons (st_aug rfl rfl ev_int op_iadd (ex_nil (ex_nil (go (o + 1) _ rfl ?_))))
      show (if c = ⟨#[40]⟩ then _ else _) = _
      rw [if_pos hc]
    · rw [decide_eq_false hc, if_neg Bool.false_ne_true]
      refine ex_cons (st_if (ts_cmp (ev_name rfl) ev_str op_eqS) ?_)
      rw [lit_close]
      by_cases hc2 : c = ⟨#[41]⟩
      · rw [decide_eq_true hc2, if_pos rfl]
        have e0 : checkL o (((p, c) :: ps).map (·.2)) = if o - 1 < 0 then false else checkL (o - 1) (ps.map (·.2)) := by
          show (if c = ⟨#[40]⟩ then _ else if c = ⟨#[41]⟩ then _ else _) = _
          rw [if_neg hc, if_pos hc2]
        refine ex_cons (st_aug rfl rfl ev_int op_isub (ex_cons (st_if (ts_cmp (ev_name rfl) ev_int op_ltI) ?_)))
        by_cases hz : o - 1 < 0
        · rw [decide_eq_true hz, if_pos rfl]
          refine ex_cons (st_return ev_bool ⟨rfl, ?_⟩)
          rw [e0, if_pos hz]
        · rw [decide_eq_false hz, if_neg Bool.false_ne_true]
          refine ex_nil (ex_nil (ex_nil (ex_nil (go (o - 1) _ rfl ?_))))
          rw [e0, if_neg hz]
      · rw [decide_eq_false hc2, if_neg Bool.false_ne_true]
        refine ex_nil (ex_nil (ex_nil (go o _ rfl ?_)))
        show (if c = ⟨#[40]⟩ then _ else if c = ⟨#[41]⟩ then _ else _) = _
        rw [if_neg hc, if_neg hc2]

noncomputable def opV : Option Int → AV
  | none => .none
  | some i => .int i
noncomputable def sS (x : Str) (s : Int) (o : Option Int) (rs : List Str) : Sig := [("addr", .val (.str x)), ("start", .val (.int s)), ("open_pos", .val (opV o)), ("result", .own (rs.map .str))]
theorem sub_sS {x : Str} {s : Int} {o : Option Int} {rs : List Str} {σ : Sig} (h1 : List.lookup ("addr" : Str) σ = some (.val (.str x))) (h2 : List.lookup ("start" : Str) σ = some (.val (.int s))) (h3 : List.lookup ("open_pos" : Str) σ = some (.val (opV o))) (h4 : List.lookup ("result" : Str) σ = some (.own (rs.map .str))) : Sub (sS x s o rs) σ :=
  sub_of (all_cons h1 (all_cons h2 (all_cons h3 (all_cons h4 all_nil))))
theorem strip_loop {nm qn : Str} {doc pm : Value} {an : Option Addr} {cd ct : Value} {L a : Addr} {x : Str} (hx : x.length ≤ sizeLine) : ∀ (ps : List (Int × Str)) (s : Int) (o : Option Int) (rs : List Str), rs.length + ps.length ≤ sizeLine → Loop PR w hT d (callEnvC (fdN (stN iStrip) nm qn .none .none doc pm an cd ct) L a) (Wof (scopeOf (stN iStrip))) (forTg (nth (bodyOf (stN iStrip)) 4)) (forBody (nth (bodyOf (stN iStrip)) 4)) (ps.map prAV) (sS x s o rs)
    (fun fl σ' => fl = .next ∧ ∃ s' o' rs', Sub (sS x s' o' rs') σ' ∧ stripGo x ps s o rs = (s', rs')) := by
  intro ps
  induction ps with
  | nil => intro s o rs _; exact ⟨rfl, s, o, rs, Sub.refl _, rfl⟩
  | cons q ps ih =>
    intro s o rs hn
    obtain ⟨p, c⟩ := q
    rw [List.map_cons]
    rw [List.length_cons] at hn
    have go : ∀ (s1 : Int) (o1 : Option Int) (rs1 : List Str) (σ2 : Sig), Sub (sS x s1 o1 rs1) σ2 → rs1.length ≤ rs.length + 1 → stripGo x ((p, c) :: ps) s o rs = stripGo x ps s1 o1 rs1 → Loop PR w hT d (callEnvC (fdN (stN iStrip) nm qn .none .none doc pm an cd ct) L a) (Wof (scopeOf (stN iStrip))) (forTg (nth (bodyOf (stN iStrip)) 4)) (forBody (nth (bodyOf (stN iStrip)) 4)) (ps.map prAV) σ2
        (fun fl σ' => fl = .next ∧ ∃ s' o' rs', Sub (sS x s' o' rs') σ' ∧ stripGo x ((p, c) :: ps) s o rs = (s', rs')) := fun s1 o1 rs1 σ2 h1 h2 h3 => by
      rw [h3]
      refine (ih s1 o1 rs1 (by omega)).sub h1 fun τ' σ' u ⟨_, s', o', rs', q1, q2⟩ => ⟨rfl, s', o', rs', fun z hz e => u.lookup (q1 z hz e), q2⟩
    refine loop_cons (BindT.pair rfl rfl) ?_
    with_unfolding_all refine ex_cons (st_if (ts_cmp (ev_name rfl) ev_str op_eqS) ?_)
    rw [lit_quote]
    by_cases hc : c = ⟨#[34]⟩
    · rw [decide_eq_true hc, if_pos rfl]
      cases o with
      | none =>
        refine ex_cons (st_if (b := true) (ts_cmp (ev_name rfl) ev_none (op_isN isN_none)) ?_)
        rw [if_pos rfl]
        refine ex_cons (st_assign rfl (ev_name rfl) (ex_nil (ex_nil (ex_nil (go s (some p) rs _ (sub_sS rfl rfl rfl rfl) (by omega) ?_)))))
        show (if c = ⟨#[34]⟩ then _ else _) = _
        rw [if_pos hc]
      | some q =>
        refine ex_cons (st_if (b := false) (ts_cmp (ev_name rfl) ev_none (op_isN isN_int)) ?_)
        rw [if_neg Bool.false_ne_true]
        have e0 : stripGo x ((p, c) :: ps) s (some q) rs = stripGo x ps (p + 1) none (if s = q then rs else rs ++ [Txt.slice x (some s) (some q)]) := by
          show (if c = ⟨#[34]⟩ then _ else _) = _
          rw [if_pos hc]
        refine ex_cons (st_if (ts_cmp (ev_name rfl) (ev_name rfl) op_neI) ?_)
        by_cases hsq : s = q
        · have : (s != q) = false := by simp [hsq]
          rw [this, if_neg Bool.false_ne_true]
          refine ex_nil (ex_cons (st_assign rfl (ev_binop (ev_name rfl) ev_int op_add) (ex_cons (st_assign rfl ev_none (ex_nil (ex_nil (ex_nil (go (p + 1) none rs _ (sub_sS rfl rfl rfl rfl) (by omega) ?_))))))))
          rw [e0, if_pos hsq]
        · have : (s != q) = true := by simp [hsq]
          rw [this, if_pos rfl]
          refine ex_cons (st_append rfl (ev_slice (l := some s) (u := some q) (ev_name rfl) (ev_name rfl : Ev _ _ _ _ _ _ _ _ _) (ev_name rfl : Ev _ _ _ _ _ _ _ _ _) hx) (by rw [List.length_map]; omega) ?_)
          refine ex_nil (ex_cons (st_assign rfl (ev_binop (ev_name rfl) ev_int op_add) (ex_cons (st_assign rfl ev_none (ex_nil (ex_nil (ex_nil (go (p + 1) none (rs ++ [Txt.slice x (some s) (some q)]) _ (sub_sS rfl rfl rfl ?_) (by rw [List.length_append]; exact Nat.le_refl _) ?_))))))))
          · rw [List.map_append]; rfl
          · rw [e0, if_neg hsq]
    · rw [decide_eq_false hc, if_neg Bool.false_ne_true]
      refine ex_nil (ex_nil (go s o rs _ (sub_sS rfl rfl rfl rfl) (by omega) ?_))
      show (if c = ⟨#[34]⟩ then _ else _) = _
      rw [if_neg hc]

theorem escPr_length : ∀ (cs : List Nat) (p : Int) (e : Bool) (i : Nat), (escPr p e i cs).length ≤ cs.length + (if e then 1 else 0)
  | [], p, e, i => by unfold escPr; cases e <;> simp
  | c :: cs, p, e, i => by
    unfold escPr
    cases e
    · simp only [Bool.false_eq_true, if_false]
      split
      · have := escPr_length cs i true (i + 1); simp only [if_true] at this; rw [List.length_cons]; omega
      · have := escPr_length cs i false (i + 1); simp only [Bool.false_eq_true, if_false] at this; rw [List.length_cons, List.length_cons]; omega
    · simp only [if_true]
      have := escPr_length cs i false (i + 1); simp only [Bool.false_eq_true, if_false] at this; rw [List.length_cons, List.length_cons]; omega
theorem escItems_length (x : Str) : (escItems x).length ≤ x.length := by
  have := escPr_length x.cps.toList 0 false 0
  simp only [Bool.false_eq_true, if_false, Nat.add_zero, Array.length_toList] at this
  exact this
theorem stripGo_le (x : Str) : ∀ (ps : List (Int × Str)) (s : Int) (o : Option Int) (rs : List Str), (∀ y ∈ rs, y.length ≤ x.length) → (∀ y ∈ (stripGo x ps s o rs).2, y.length ≤ x.length) ∧ (stripGo x ps s o rs).2.length ≤ rs.length + ps.length
  | [], s, o, rs, h => ⟨h, Nat.le_refl _⟩
  | (p, c) :: r, s, o, rs, h => by
    unfold stripGo
    rw [List.length_cons]
    by_cases hc : c = ⟨#[34]⟩
    · rw [if_pos hc]
      cases o with
      | none => have z := stripGo_le x r s (some p) rs h; exact ⟨z.1, by have := z.2; dsimp only; omega⟩
      | some q =>
        dsimp only
        by_cases hs : s = q
        · rw [if_pos hs]; have z := stripGo_le x r (p + 1) none rs h; exact ⟨z.1, by have := z.2; omega⟩
        · rw [if_neg hs]
          have z := stripGo_le x r (p + 1) none (rs ++ [Txt.slice x (some s) (some q)]) (fun y hy => by
            rcases List.mem_append.mp hy with hy | hy
            · exact h y hy
            · rw [List.mem_singleton.mp hy]; exact Txt.slice_le x _ _)
          refine ⟨z.1, ?_⟩
          have := z.2
          rw [List.length_append, List.length_singleton] at this
          omega
    · rw [if_neg hc]; have z := stripGo_le x r s o rs h; exact ⟨z.1, by have := z.2; omega⟩
theorem sum_le (n : Nat) : ∀ (l : List Str), (∀ y ∈ l, y.length ≤ n) → (l.map (·.length)).sum ≤ l.length * n
  | [], _ => Nat.zero_le _
  | y :: l, h => by
    rw [List.map_cons, List.sum_cons, List.length_cons, Nat.succ_mul]
    have h1 := h y (.head _)
    have h2 := sum_le n l fun z hz => h z (.tail _ hz)
    omega
theorem joinOk_of {l : List Str} {n : Nat} (h : ∀ y ∈ l, y.length ≤ n) (hl : l.length * n ≤ sizeLine) : JoinOk ⟨#[]⟩ l = true := by
  unfold JoinOk tooLong
  rw [StrLaws.joinTotal]
  have h1 := sum_le n l h
  have h0 : (⟨#[]⟩ : Str).length = 0 := rfl
  rw [h0, Nat.mul_zero, Nat.add_zero]
  simp only [Bool.not_eq_true', decide_eq_false_iff_not, Nat.not_lt]
  omega
/-- the parts that are joined -/
noncomputable def stripParts (x : Str) : List Str := let q := stripGo x (escItems x) 0 none []
  if q.1 < x.length then q.2 ++ [Txt.slice x (some q.1) none] else q.2
theorem stripParts_ok {x : Str} (hx : x.length ≤ 2000) : (∀ y ∈ stripParts x, y.length ≤ x.length) ∧ (stripParts x).length ≤ x.length + 1 := by
  have z := stripGo_le x (escItems x) 0 none [] (fun y hy => nomatch hy)
  have z2 := escItems_length x
  unfold stripParts
  dsimp only
  rw [List.length_nil, Nat.zero_add] at z
  split
  · refine ⟨fun y hy => ?_, by rw [List.length_append, List.length_singleton]; omega⟩
    rcases List.mem_append.mp hy with hy | hy
    · exact z.1 y hy
    · rw [List.mem_singleton.mp hy]; exact Txt.slice_le x _ _
  · exact ⟨z.1, by omega⟩

set_option maxHeartbeats 4000000 in
theorem fn_strip {x : Str} (T : Tp hT K mg mb) (hG : FnAt hT aGen (stN iGen) "_iter_escaped_chars" "_iter_escaped_chars") (hS : FnAt hT aStrip (stN iStrip) "_strip_quoted_realnames" "_strip_quoted_realnames") (gG : mg "_iter_escaped_chars" = some (.ref aGen)) (hen : mg "enumerate" = none) (hlen : mg "len" = none) (hx : x.length ≤ 2000) :
    Fn PR w hT 3 (.ref aStrip) [.str x] (.str (stripF x)) := by
  obtain ⟨doc, pm, an, cd, ct, oc, od, osl, ho, hcd⟩ := id hS
  have hxl : x.length ≤ sizeLine := Nat.le_trans hx (by decide)
  refine fn_body (ps := ["addr"]) T ho rfl hcd rfl rfl (fun vs h => by obtain ⟨v, rfl⟩ := len1 h; rfl) (by decide) (fun p hp => .inl (by rw [List.mem_singleton.mp hp]; rfl)) rfl (fun L => ?_) rfl rfl rfl
  with_unfolding_all refine ex_cons (st_if (ts_cmp ev_str (ev_name rfl) op_notInS) ?_)
  rw [lit_quote]
  cases hq : (occurrences x ⟨#[34]⟩ 0 x.length 1).isEmpty with
  | true =>
    rw [if_pos rfl]
    refine ex_cons (st_return (ev_name rfl) (.inl ?_))
    unfold stripF; rw [hq, if_pos rfl]
  | false =>
    rw [if_neg Bool.false_ne_true]
    have e0 : stripF x = Txt.join ⟨#[]⟩ (stripParts x) := by unfold stripF stripParts; rw [hq, if_neg Bool.false_ne_true]
    refine ex_nil (ex_cons (st_assign rfl ev_int (ex_cons (st_assign rfl ev_none (ex_cons (st_assignO rfl (evo_list evl_nil) ?_))))))
    refine ex_cons (st_for (evI_esc T hG hen (gl_top T gG) (ev_name rfl)) (Loop.mono ((strip_loop hxl (escItems x) 0 none [] (by have := escItems_length x; rw [List.length_nil]; omega)).sub (sub_sS rfl rfl rfl rfl) fun τ' σ' u ⟨_, s', o', rs', q1, q2⟩ => ⟨rfl, s', o', rs', fun z hz e => u.lookup (q1 z hz e), q2⟩) ?_))
    rintro fl σ' ⟨rfl, s', o', rs', u, hgo⟩
    refine Ex.sub ?_ u
    have hpl := stripParts_ok hx
    have hj : JoinOk ⟨#[]⟩ (stripParts x) = true := joinOk_of hpl.1 (by
      have h1 : (stripParts x).length * x.length ≤ 2001 * 2000 := Nat.mul_le_mul (by omega) hx
      have h2 : 2001 * 2000 ≤ sizeLine := by decide
      omega)
    have hrs : rs'.length ≤ sizeLine := by
      have z := (stripGo_le x (escItems x) 0 none [] (fun y hy => nomatch hy)).2
      rw [hgo, List.length_nil, Nat.zero_add] at z
      have := escItems_length x
      exact Nat.le_trans z (by omega)
    refine ex_cons (st_if (ts_cmp (ev_name rfl) (ev_call (gl_boot T hlen (by decide +kernel)) kr_builtin (evl_cons (ev_name rfl) evl_nil) (fn_lenS hxl)) op_ltI) ?_)
    by_cases hlt : s' < x.length
    · rw [decide_eq_true hlt, if_pos rfl]
      have e1 : stripParts x = rs' ++ [Txt.slice x (some s') none] := by unfold stripParts; rw [hgo]; exact if_pos hlt
      rw [e1] at hj
      refine ex_cons (st_append rfl (ev_slice (l := some s') (u := none) (ev_name rfl) (ev_name rfl : Ev _ _ _ _ _ _ _ _ _) trivial hxl) (by rw [List.length_map]; exact hrs) ?_)
      refine ex_nil (ex_freeze "result" rfl (ex_cons (st_return (ev_meth PySem.F.plainAttrs_str PySem.F.slot_str_join PySem.F.type_str_join ev_str ty_str (evl_cons (ev_name rfl) evl_nil) (r := .str (Txt.join ⟨#[]⟩ (stripParts x))) ?_) (.inl (by rw [e0])))))
      rw [e1]
      have := fn_join (prog := PR) (w := w) (hT := hT) (d := 2) hj
      rw [List.map_append] at this
      exact this
    · rw [decide_eq_false hlt, if_neg Bool.false_ne_true]
      have e1 : stripParts x = rs' := by unfold stripParts; rw [hgo]; exact if_neg hlt
      rw [e1] at hj
      refine ex_nil (ex_freeze "result" rfl (ex_cons (st_return (ev_meth PySem.F.plainAttrs_str PySem.F.slot_str_join PySem.F.type_str_join ev_str ty_str (evl_cons (ev_name rfl) evl_nil) (r := .str (Txt.join ⟨#[]⟩ (stripParts x))) ?_) (.inl (by rw [e0])))))
      rw [e1]
      exact fn_join hj

set_option maxHeartbeats 4000000 in
theorem fn_check {x : Str} (T : Tp hT K mg mb) (hG : FnAt hT aGen (stN iGen) "_iter_escaped_chars" "_iter_escaped_chars") (hS : FnAt hT aStrip (stN iStrip) "_strip_quoted_realnames" "_strip_quoted_realnames") (hC : FnAt hT aCheck (stN iCheck) "_check_parenthesis" "_check_parenthesis")
    (gG : mg "_iter_escaped_chars" = some (.ref aGen)) (gS : mg "_strip_quoted_realnames" = some (.ref aStrip)) (hen : mg "enumerate" = none) (hlen : mg "len" = none) (hx : x.length ≤ 2000) : Fn PR w hT 4 (.ref aCheck) [.str x] (.bool (checkF x)) := by
  obtain ⟨doc, pm, an, cd, ct, oc, od, osl, ho, hcd⟩ := id hC
  refine fn_body (ps := ["addr"]) T ho rfl hcd rfl rfl (fun vs h => by obtain ⟨v, rfl⟩ := len1 h; rfl) (by decide) (fun p hp => .inl (by rw [List.mem_singleton.mp hp]; rfl)) rfl (fun L => ?_) rfl rfl rfl
  with_unfolding_all refine ex_cons (st_assign rfl (ev_call (gl_top T gS) (kr_fn hS) (evl_cons (ev_name rfl) evl_nil) (fn_strip T hG hS gG hen hlen hx)) ?_)
  refine ex_cons (st_assign rfl ev_int ?_)
  refine ex_cons (st_for (evI_esc (d := 1) T hG hen (gl_top T gG) (ev_name rfl)) (Loop.mono ((check_loop (escItems (stripF x)) 0).sub (sub_of (all_cons rfl all_nil)) fun τ' σ' u ⟨o', q1, q2⟩ => ⟨o', u.lookup q1, q2⟩) ?_))
  rintro fl σ' h
  cases fl with
  | next =>
    obtain ⟨o', h1, h2⟩ := h
    refine Ex.sub (τ := [("opens", .val (.int o'))]) ?_ (sub_of (all_cons h1 all_nil))
    refine ex_cons (st_return (ev_cmp (ev_name rfl) ev_int op_eqI) (.inl ?_))
    unfold checkF
    rw [h2]
    rfl
  | brk => exact h.elim
  | cont => exact h.elim
  | ret y =>
    obtain ⟨rfl, h2⟩ := h
    exact .inl (by unfold checkF; rw [h2])
end
end Mine
end
section
open PySem PySem.W PyProof.Rows Builtin.Str
set_option Elab.async false
namespace Mine
section
variable {prog : Program} {w : World} {hT : Heap} {d : Nat} {env : Env} {W : Str → Bool} {σ : Sig} {K : Frag} {mg mb : Str → Option Value} {Q : AFlow → Sig → Prop}

theorem EvO.lv {e : Expr} {xs : List AV} (h : EvO prog w hT d env W σ e xs) : LV prog w hT d env W σ e xs := fun A m F s ok S =>
  wpAny_mono (h A m F s ok S) (fun _ _ hpat => by obtain ⟨kp, F', a, vs, n, ex, e, _, _, h3, h4⟩ := hpat; exact ⟨kp, F', a, vs, n, ex, e, h3, h4⟩) fun _ _ x => x
/-- a new list at the end of the heap -/
theorem evoFin {F F2 : Fz} {s s2 : Shared} {xs : List AV} {vs : List Value} {n : Nat} (k : Kp s s2) (x : Ext F s.heap F2 s2.heap) (r : RepL F2 xs vs) {t : Nat} :
    Kp s { s2 with heap := s2.heap.push (lstObj vs n), toks := t } ∧ ∃ F' a vs' n', Ext F s.heap F' (s2.heap.push (lstObj vs n)) ∧ (Value.ref s2.heap.objs.size) = .ref a ∧ s.heap.get? a = none ∧ F' a = none ∧ (s2.heap.push (lstObj vs n)).get? a = some (lstObj vs' n') ∧ RepL F' xs vs' :=
  ⟨(k.trans (Kp.push s2 _)).tok t, F2, s2.heap.objs.size, vs, n, x.keep fun _ _ e => Heap.get?_push_of_some _ e, rfl, (by
      cases q : s.heap.get? s2.heap.objs.size with
      | none => rfl
      | some o => have := k.heap _ _ q; rw [fresh_size] at this; cases this), F_size x.inn, Heap.get?_push_size _ rfl, r⟩

theorem evo_add {l r : Expr} {pos : Pos} {xs ys : List AV} (hl : LV prog w hT d env W σ l xs) (hr : LV prog w hT d env W σ r ys) (hn : xs.length + ys.length ≤ sizeLine) : EvO prog w hT d env W σ (.BinOp l .Add r pos) (xs ++ ys) := fun A m F s ok S =>
  wpAny_BinOp (hl.use ok S fun a s1 F1 vs n k1 x1 S1 ha rl => hr.use ok S1 fun b s2 F2 us n2 k2 x2 S2 hb ru => by
    have ha2 := k2.heap _ _ ha
    have e : vs.toArray ++ us.toArray = (vs ++ us).toArray := by simp
    refine concat_meets ⟨_, ha2, rfl⟩ ⟨_, hb, rfl⟩ noFill_list_add seq_list_add PySem.F.slot_list_add PySem.F.entry_list_add (PySem.F.args_list_add_2 _ _) (list_addW a b vs.toArray us.toArray n n2 none none #[] #[] (by simpa [rl.length, ru.length] using hn)) ⟨ha2, hb, ?_⟩
    rw [e]
    exact evoFin (n := 0) (t := s2.toks) (k1.trans k2) (x1.trans x2 k1.heap) ((rl.mono x2.le).append ru))

theorem joined_one (v : Value) : ∀ (k : Nat) (acc : List Value), (List.replicate k #[v]).foldl (fun x1 x2 => x1 ++ x2) acc.toArray = (acc ++ List.replicate k v).toArray
  | 0, acc => by simp
  | k + 1, acc => by
    rw [List.replicate_succ, List.foldl_cons, List.replicate_succ]
    have : acc.toArray ++ #[v] = (acc ++ [v]).toArray := by simp
    rw [this, joined_one v k (acc ++ [v])]
    simp
theorem repL_replicate {F : Fz} {x : AV} {v : Value} (r : Rep F x v) : ∀ k : Nat, RepL F (List.replicate k x) (List.replicate k v)
  | 0 => RepL.nil
  | k + 1 => RepL.cons r (repL_replicate r k)
/-- a list of one thing, many times over -/
theorem evo_mul1 {l r : Expr} {pos : Pos} {x : AV} {k : Int} (hl : LV prog w hT d env W σ l [x]) (hr : Ev prog w hT d env W σ r (.int k)) (hlo : -(2 ^ 63 : Int) ≤ k) (hhi : k ≤ 2 ^ 24) : EvO prog w hT d env W σ (.BinOp l .Mult r pos) (List.replicate k.toNat x) := fun A m F s ok S =>
  wpAny_BinOp (hl.use ok S fun a s1 F1 vs n k1 x1 S1 ha rl => hr.use ok S1 fun u s2 F2 k2 x2 S2 ru => by
    unfold Rep at ru; obtain ⟨t, rfl⟩ := ru
    unfold RepL at rl; obtain ⟨v, q, rfl, rv, rl⟩ := rl
    unfold RepL at rl; subst rl
    have ha2 : s2.heap.get? a = some { cls := .type "list", dict := none, data := .seq #[v] n, slots := #[] } := k2.heap _ _ ha
    refine wpAny_binaryOp_repeat_ref (T := "list") (U := "int") (by decide) ⟨_, ha2, rfl⟩ (fun s' => typeIs_int s' k t) noFill_list_mul PySem.F.fills_int_mul PySem.F.slot_int_rmul repeat_list PySem.F.slot_int_index.lookup
      (call_meets PySem.F.slot_int_rmul (typeIs_int s2 k t) PySem.F.entry_int_rmul (PySem.F.args_int_rmul_2 _ _) (int___rmul___int_list k t a #[v] n)
        ⟨ha2, rfl, ⟨_, ha2, rfl⟩, call_meets PySem.F.slot_list_mul ⟨_, ha2, rfl⟩ PySem.F.entry_list_mul (PySem.F.args_list_mul_2 _ _)
          (AutoListH.list___mul___list_int_3 a #[v] n k t (by simp [Builtin.List.listFitsIndex]; omega) (by have : (#[v] : Array Value).size = 1 := rfl; rw [this]; omega) (by simp [Builtin.List.listTooLong, sizeLine]; omega))
          ⟨ha2, ?_⟩⟩)
    have e := joined_one v k.toNat []
    rw [List.nil_append] at e
    show _ ∧ _
    simp only [Array.isEmpty, List.size_toArray, List.length_cons, List.length_nil]
    rw [if_neg (by decide), show (#[] : Array Value) = List.toArray [] from rfl, e]
    exact evoFin (n := 0) (t := s2.toks) (k1.trans k2) (x1.trans x2 k1.heap) (repL_replicate (rv.mono x2.le) _))

theorem op_mulS {x : Str} {n : Int} (hok : MulOk x n) : Op2 prog w hT d (binaryOp .Mult) (.str x) (.int n) (.str (Txt.mul x n)) := fun A F s v u ok B I r1 r2 => by
  unfold Rep at r1 r2; obtain ⟨t, rfl⟩ := r1; obtain ⟨t', rfl⟩ := r2
  exact SB.mul hok fun t' k => fin0 (.refl s) (.refl I) (by unfold Rep; exact ⟨_, rfl⟩)

theorem st_setitem {x : Str} {e i : Expr} {p1 p2 p3 : Pos} {xs : List AV} {y : AV} {k : Int} (hσ : σ.lookup x = some (.own xs)) (he : Ev prog w hT d env W σ e y) (hi : Ev prog w hT d env W σ i (.int k)) (h0 : 0 ≤ k) (hn : k < xs.length) (hz : k < 2 ^ 63)
    (h : Q .next (put σ x (.own (xs.set k.toNat y)))) (hk : env.scope.kind = .function := by rfl)
    (hx : env.kindOf x = some .local ∨ (env.kindOf x = some .cell ∧ (env.cells.lookup x).isSome = true) := by first | exact Or.inl rfl | exact Or.inr ⟨rfl, rfl⟩) (hd : (x == ("__debug__" : Str)) = false := by rfl)
    (hs : swapsWith e (some (.Subscript (.Name x p1) i p2)) p3.line env = pure false := by rfl) : Ex1 prog w hT d env W σ (.Assign [.Subscript (.Name x p1) i p2] e p3) Q := fun A H m F s ok S P => by
  obtain ⟨v, hv, a, vs, n, rfl, g1, g2, g3⟩ := S.loc x _ hσ
  refine wpAny_Assign_Subscript (he.use ok S fun u s1 F1 k1 x1 S1 r1 => wpAny_Name (load_any S1.vars hk hx hv (hi.use ok S1 fun j s2 F2 k2 x2 S2 r2 => ?_)) hd) hs
  unfold Rep at r2; obtain ⟨t, rfl⟩ := r2
  have ga : s2.heap.get? a = some (listOf vs.toArray n) := (k1.trans k2).heap _ _ g2
  have x12 := x1.trans x2 k1.heap
  refine ki_setAt ga h0 hz (by rw [List.size_toArray, g3.length]; exact hn) ?_
  have h1 : (s2.heap.update a (Obj.mapSeq (·.setIfInBounds k.toNat u))).get? a = some (lstObj (vs.set k.toNat u) n) := by
    rw [Heap.get?_update_self _ ga rfl]
    show some (Obj.mapSeq _ (lstObj vs n)) = _
    simp [Obj.mapSeq, lstObj]
  obtain ⟨S3, P3⟩ := S2.chown (P.keeps (k1.trans k2).heap) hσ hv (fun b hb => Heap.get?_update_ne _ _ _ _ hb) h1 ((g3.mono x12.le).set k.toNat (r1.mono x2.le))
  exact ⟨.next, _, m, F2, h, rfl, x12.le, fun b o q => x12.old b o (P.inn b o q), S3, P3, (k1.trans k2).g.of⟩

end
end Mine
end
section
open PySem PySem.W PyProof.Rows Builtin.Str
set_option Elab.async false
namespace Mine

theorem intsAre_of {F : Fz} : ∀ {ns : List Int} {vs : List Value}, RepL F (ns.map .int) vs → IntsAre vs ns
  | [], _, r => by unfold RepL at r; simp only [List.map_nil] at r; subst r; exact .nil
  | n :: ns, _, r => by
    rw [List.map_cons] at r
    unfold RepL at r
    obtain ⟨v, q, rfl, h1, h2⟩ := r
    unfold Rep at h1
    obtain ⟨t, rfl⟩ := h1
    exact .cons n t (intsAre_of h2)
theorem repL_ints {F : Fz} : ∀ {ns : List Int} {vs : List Value}, IntsAre vs ns → RepL F (ns.map .int) vs
  | _, _, .nil => RepL.nil
  | _, _, .cons n t h => RepL.cons (by unfold Rep; exact ⟨t, rfl⟩) (repL_ints h)
theorem items_of : ∀ {vs : List Value} {ns : List Int}, IntsAre vs ns → ∃ l : List (Int × Tok), vs.toArray = intItems l.toArray ∧ l.map (·.1) = ns
  | _, _, .nil => ⟨[], by simp [intItems], rfl⟩
  | _, _, .cons (vs := vs) n t h => by
    obtain ⟨l, e1, e2⟩ := items_of h
    refine ⟨(n, t) :: l, ?_, by rw [List.map_cons, e2]⟩
    have : vs = l.map fun p => Value.int p.1 p.2 := by
      have := congrArg Array.toList e1
      simpa [intItems] using this
    rw [this]
    simp [intItems]

theorem small_r {a b : Int} (h : 0 ≤ a ∧ a ≤ 100000 ∧ 0 ≤ b ∧ b ≤ 100000) : Builtin.Range.small a b 1 = true := small_one (by omega) (by omega) (by omega) (by omega)
theorem rsz {a b : Int} {n : Nat} (h : b = a + n) : Builtin.Range.rangeSize a b 1 = (n : Int) := by
  rw [rangeSize_one]; split <;> omega
section
variable {prog : Program} {w : World} {hT : Heap} {d : Nat} {env : Env} {W : Str → Bool} {σ : Sig} {K : Frag} {mg mb : Str → Option Value} {Q : AFlow → Sig → Prop}

theorem keepH {s : Shared} {F : Fz} {h' : Heap} {tk : Nat} {x : AV} {v : Value} (I : ∀ a o, F a = some o → s.heap.get? a = some o) (k : ∀ c o, s.heap.get? c = some o → h'.get? c = some o) (r : Rep F x v) :
    Kp s { s with heap := h', toks := tk } ∧ ∃ F', Ext F s.heap F' ({ s with heap := h', toks := tk } : Shared).heap ∧ Rep F' x v :=
  ⟨Kp.of k, F, (Ext.refl I).keep k, r⟩
/-- a new frozen object at a place that was free -/
theorem newH {s : Shared} {F : Fz} {h' : Heap} {tk : Nat} {a : Addr} {o : Obj} (I : ∀ a o, F a = some o → s.heap.get? a = some o) (k : ∀ c o, s.heap.get? c = some o → h'.get? c = some o) (hn : s.heap.get? a = none) (ho : h'.get? a = some o) :
    Kp s { s with heap := h', toks := tk } ∧ Ext F s.heap (F.put a o) h' := by
  refine ⟨Kp.of k, fun b o' q => ?_, fun b o' q => ?_, fun b o' q => ?_⟩
  · unfold Fz.put
    by_cases c : b = a
    · subst c; have := I _ _ q; rw [hn] at this; cases this
    · rw [if_neg c]; exact q
  · unfold Fz.put
    by_cases c : b = a
    · subst c; rw [hn] at q; cases q
    · rw [if_neg c]
  · unfold Fz.put at q
    by_cases c : b = a
    · rw [if_pos c] at q; cases q; subst c; exact ho
    · rw [if_neg c] at q; exact k _ _ (I _ _ q)

theorem fn_max2 {a b : Int} : Fn prog w hT d (.builtin "max") [.int a, .int b] (.int (max a b)) := fun A F s vs ok B I rl => by
  unfold RepL at rl; obtain ⟨v, r, rfl, rv, rl⟩ := rl
  unfold RepL at rl; obtain ⟨v', r', rfl, rv', rl⟩ := rl
  unfold RepL at rl; subst rl
  unfold Rep at rv rv'; obtain ⟨t, rfl⟩ := rv; obtain ⟨t', rfl⟩ := rv'
  refine max_two_ints ok.hh fun h' tk k => keepH I k ?_
  unfold Rep
  by_cases h : b > a
  · rw [if_pos h]; exact ⟨t', by congr 1; omega⟩
  · rw [if_neg h]; exact ⟨t, by congr 1; omega⟩
theorem fn_min2 {a b : Int} : Fn prog w hT d (.builtin "min") [.int a, .int b] (.int (min a b)) := fun A F s vs ok B I rl => by
  unfold RepL at rl; obtain ⟨v, r, rfl, rv, rl⟩ := rl
  unfold RepL at rl; obtain ⟨v', r', rfl, rv', rl⟩ := rl
  unfold RepL at rl; subst rl
  unfold Rep at rv rv'; obtain ⟨t, rfl⟩ := rv; obtain ⟨t', rfl⟩ := rv'
  refine min_two_ints ok.hh fun h' tk k => keepH I k ?_
  unfold Rep
  by_cases h : b < a
  · rw [if_pos h]; exact ⟨t', by congr 1; omega⟩
  · rw [if_neg h]; exact ⟨t, by congr 1; omega⟩
theorem fnl_sum {ns : List Int} : FnL prog w hT d (.builtin "sum") (ns.map .int) [] (.int ns.sum) := fun A F s a vs us n ok B I ha rl ru => by
  unfold RepL at ru; subst ru
  obtain ⟨l, e1, e2⟩ := items_of (intsAre_of rl)
  refine sum_intListG (xs := l.toArray) ok.hh ⟨_, ha, rfl, n, by show Data.seq vs.toArray n = _; rw [e1]⟩ fun h' tk t' k => keepH I k ?_
  unfold Rep
  refine ⟨t', ?_⟩
  congr 1
  rw [preSum_eq, List.take_of_length_le (by simp), ← e2]

theorem fn_range1 {n : Int} : Fn prog w hT d (.type "range") [.int n] (.rng 0 n 1) := fun A F s vs ok B I rl => by
  unfold RepL at rl; obtain ⟨v, r, rfl, rv, rl⟩ := rl
  unfold RepL at rl; subst rl
  unfold Rep at rv; obtain ⟨t, rfl⟩ := rv
  refine call_range_1 ?_
  have := newH (F := F) (tk := s.toks + 1 + 1) I (fun _ _ e => Heap.get?_push_of_some { cls := .type "range", data := .fields #[.int 0 s.toks, .int n t, .int 1 (s.toks + 1)] } e) (fresh_size _) (Heap.get?_push_size _ rfl)
  exact ⟨this.1, _, this.2, by unfold Rep; exact ⟨_, _, _, _, rfl, Fz.put_self ..⟩⟩
theorem fn_range2 {a b : Int} : Fn prog w hT d (.type "range") [.int a, .int b] (.rng a b 1) := fun A F s vs ok B I rl => by
  unfold RepL at rl; obtain ⟨v, r, rfl, rv, rl⟩ := rl
  unfold RepL at rl; obtain ⟨v', r', rfl, rv', rl⟩ := rl
  unfold RepL at rl; subst rl
  unfold Rep at rv rv'; obtain ⟨t, rfl⟩ := rv; obtain ⟨t', rfl⟩ := rv'
  refine call_range_2 ?_
  have := newH (F := F) (tk := s.toks + 1) I (fun _ _ e => Heap.get?_push_of_some { cls := .type "range", data := .fields #[.int a t, .int b t', .int 1 s.toks] } e) (fresh_size _) (Heap.get?_push_size _ rfl)
  exact ⟨this.1, _, this.2, by unfold Rep; exact ⟨_, _, _, _, rfl, Fz.put_self ..⟩⟩
theorem fnl_tuple {xs : List AV} (hx : xs.length ≤ sizeLine) : FnL prog w hT d (.type "tuple") xs [] (.tup xs) := fun A F s a vs us n ok B I ha rl ru => by
  unfold RepL at ru; subst ru
  refine call_tuple_list (items := vs.toArray) ⟨_, ha, rfl, n, rfl⟩ (fun h' k => ?_) (by rw [List.size_toArray, rl.length]; exact hx)
  have k2 : ∀ b o, s.heap.get? b = some o → (h'.push (tupObj vs 0)).get? b = some o := fun b o e => Heap.get?_push_of_some _ (k _ _ e)
  have hn : s.heap.get? h'.objs.size = none := by
    cases q : s.heap.get? h'.objs.size with
    | none => rfl
    | some o => have := k _ _ q; rw [fresh_size] at this; cases this
  have := newH (F := F) (tk := s.toks) I k2 hn (Heap.get?_push_size _ rfl)
  exact ⟨this.1, _, this.2, by unfold Rep; exact ⟨_, vs, 0, rfl, Fz.put_self .., rl.mono this.2.le⟩⟩
theorem sorted_uniq {l l' : List Int} (hp : l.Perm l') (h : l.Pairwise (· ≤ ·)) : l = l'.mergeSort := by
  have h2 : l'.mergeSort.Pairwise (· ≤ ·) := by
    have := List.pairwise_mergeSort (le := fun a b : Int => decide (a ≤ b)) (fun a b c h1 h2 => by simp at *; omega) (fun a b => by simp; omega) l'
    simpa using this
  exact List.Perm.eq_of_pairwise (fun a b _ _ h1 h2 => by omega) h h2 (hp.trans (List.mergeSort_perm l' _).symm)
theorem fnl_sorted {ns : List Int} (h64 : ns.length < 64) : FnL prog w hT d (.builtin "sorted") (ns.map .int) [] (.lst (ns.mergeSort.map .int)) := fun A F s a vs us n ok B I ha rl ru => by
  unfold RepL at ru; subst ru
  refine sorted_ints (ns := ns) (vs := vs) ⟨_, ha, rfl, n, rfl⟩ (intsAre_of rl) (by rw [rl.length, List.length_map]; exact h64) fun out ns' a1 a2 a3 => ?_
  obtain ⟨e, he⟩ := sortedAll_at s.heap vs out
  have hn : s.heap.get? (s.heap.objs.size + 1) = none := by
    cases q : s.heap.get? (s.heap.objs.size + 1) with
    | none => rfl
    | some o => exact absurd (Heap.lt_size q) (Nat.not_lt.mpr (Nat.le_succ _))
  have he' : (sortedAll s.heap vs out).get? (s.heap.objs.size + 1) = some (lstObj out.toList e) := he
  have := newH (F := F) (tk := s.toks) I (fun _ _ => sortedAll_old) hn he'
  rw [← sorted_uniq a2 a3]
  exact ⟨this.1, _, this.2, by unfold Rep; exact ⟨_, out.toList, e, rfl, Fz.put_self .., repL_ints a1⟩⟩
theorem fn_count {ns : List Int} {k : Int} : Fn prog w hT d (.builtin "list.count") [.lst (ns.map .int), .int k] (.int (ns.count k : Nat)) := fun A F s vs ok B I rl => by
  unfold RepL at rl; obtain ⟨v, r, rfl, rv, rl⟩ := rl
  unfold RepL at rl; obtain ⟨v', r', rfl, rv', rl⟩ := rl
  unfold RepL at rl; subst rl
  unfold Rep at rv rv'; obtain ⟨t, rfl⟩ := rv'; obtain ⟨a, vs, n, rfl, ha, rv⟩ := rv
  exact count_list_ints (vs := vs) ⟨_, I _ _ ha, rfl, n, rfl⟩ (intsAre_of rv) (fin0 (.refl s) (.refl I) (by unfold Rep; exact ⟨_, rfl⟩))
theorem ev_count {o arg : Expr} {apos pos : Pos} {ns : List Int} {k : Int} (ho : Ev prog w hT d env W σ o (.lst (ns.map .int))) (ha : Ev prog w hT d env W σ arg (.int k))
    (hbase : attributeBase o "count" env (eval o env) = eval o env := by rfl) (hfew : ((backTo pos (starEach [arg] env)).all (fun x => !x.1) && (backToKw pos (keywordEach [] env)).all (fun x => x.1.isSome) && decide ([arg].length + ([] : List Keyword).length + (if ([] : List Keyword).isEmpty then 0 else 1) < 30)) = true := by rfl)
    (hline : (apos.endLine == pos.line) = true := by rfl) (hp : (backTo pos (starEach [arg] env)).any (·.1) = false := by rfl) (hst : starEach [arg] env = (false, eval arg env) :: starEach [] env := by rfl) : Ev prog w hT d env W σ (.Call (.Attribute o "count" apos) [arg] [] pos) (.int (ns.count k : Nat)) :=
  ev_meth PySem.F.plainAttrs_list PySem.F.slot_list_count PySem.F.type_list_count ho ty_lst (evl_cons ha evl_nil hst) fn_count hbase hfew hline hp
end
end Mine
end
section
open PySem PySem.W PyProof.Rows Builtin.Str PySem.SeqAt
set_option Elab.async false
namespace Mine
mutual
/-- plain data -/
noncomputable def AV.dat : AV → PyData
  | .none => .none
  | .bool b => .bool b
  | .int i => .int i
  | .str x => .str x
  | .tup xs => .tuple (AV.dats xs)
  | .lst xs => .list (AV.dats xs)
  | _ => .none
noncomputable def AV.dats : List AV → List PyData
  | [] => []
  | x :: xs => AV.dat x :: AV.dats xs
end
mutual
noncomputable def AV.flat : AV → Bool
  | .none => true
  | .bool _ => true
  | .int _ => true
  | .str x => PyData.canLay0 (.str x)
  | .tup xs => AV.flats xs
  | .lst xs => AV.flats xs
  | _ => false
noncomputable def AV.flats : List AV → Bool
  | [] => true
  | x :: xs => AV.flat x && AV.flats xs
end
mutual
theorem reads_of {F : Fz} {h : Heap} (I : ∀ a o, F a = some o → h.get? a = some o) : ∀ {x : AV} {v : Value}, Rep F x v → x.flat = true → (∃ as, Reads h v x.dat as) ∧ x.dat.canLay0 = true
  | .none, _, r, _ => by unfold Rep at r; subst r; exact ⟨⟨_, .none⟩, by simp [AV.dat, PyData.canLay0]⟩
  | .bool b, _, r, _ => by unfold Rep at r; subst r; exact ⟨⟨_, .bool b⟩, by simp [AV.dat, PyData.canLay0]⟩
  | .int i, _, r, _ => by unfold Rep at r; obtain ⟨t, rfl⟩ := r; exact ⟨⟨_, .int i t⟩, by simp [AV.dat, PyData.canLay0]⟩
  | .str x, _, r, f => by unfold Rep at r; obtain ⟨t, rfl⟩ := r; exact ⟨⟨_, .str x t⟩, by simpa [AV.flat, AV.dat] using f⟩
  | .tup xs, _, r, f => by
    unfold Rep at r; obtain ⟨a, vs, n, rfl, ha, rl⟩ := r
    obtain ⟨⟨as, ra⟩, c⟩ := readsL_of I rl (by simpa [AV.flat] using f)
    exact ⟨⟨_, .tuple (I _ _ ha) rfl rfl (by rw [List.toList_toArray]; exact ra)⟩, by simpa [AV.dat, PyData.canLay0] using c⟩
  | .lst xs, _, r, f => by
    unfold Rep at r; obtain ⟨a, vs, n, rfl, ha, rl⟩ := r
    obtain ⟨⟨as, ra⟩, c⟩ := readsL_of I rl (by simpa [AV.flat] using f)
    exact ⟨⟨_, .list (I _ _ ha) rfl rfl (by rw [List.toList_toArray]; exact ra)⟩, by simpa [AV.dat, PyData.canLay0] using c⟩
  | .rng _ _ _, _, _, f => by simp [AV.flat] at f
  | .any, _, _, f => by simp [AV.flat] at f
  | .at _ _, _, _, f => by simp [AV.flat] at f
  | .inst _ _ _, _, _, f => by simp [AV.flat] at f
theorem readsL_of {F : Fz} {h : Heap} (I : ∀ a o, F a = some o → h.get? a = some o) : ∀ {xs : List AV} {vs : List Value}, RepL F xs vs → AV.flats xs = true → (∃ as, ReadsAll h vs (AV.dats xs) as) ∧ PyData.canLayAll0 (AV.dats xs) = true
  | [], _, r, _ => by unfold RepL at r; subst r; exact ⟨⟨_, .nil⟩, by simp [AV.dats, PyData.canLayAll0]⟩
  | x :: xs, _, r, f => by
    unfold RepL at r; obtain ⟨v, q, rfl, h1, h2⟩ := r
    simp only [AV.flats, Bool.and_eq_true] at f
    obtain ⟨⟨as, ra⟩, c⟩ := reads_of I h1 f.1
    obtain ⟨⟨bs, rb⟩, c2⟩ := readsL_of I h2 f.2
    exact ⟨⟨_, .cons ra rb⟩, by simp [AV.dats, PyData.canLayAll0, c, c2]⟩
end
section
variable {prog : Program} {w : World} {hT : Heap} {d : Nat} {env : Env} {W : Str → Bool} {σ : Sig} {K : Frag} {mg mb : Str → Option Value} {Q : AFlow → Sig → Prop}

theorem op_eqD {x y : AV} {b : Bool} (hx : x.flat = true) (hy : y.flat = true) (hd : x.dat.depth ≤ 40) (hb : PyData.eqv x.dat y.dat = b) : Op2 prog w hT d (compareOp .Eq) x y (.bool b) := fun A F s v u ok B I r1 r2 => by
  obtain ⟨⟨as, ra⟩, c1⟩ := reads_of I r1 hx
  obtain ⟨⟨bs, rb⟩, c2⟩ := reads_of I r2 hy
  refine compareEq_reads ra rb c1 c2 (by have := ok.units; have : min x.dat.depth y.dat.depth ≤ 40 := Nat.le_trans (Nat.min_le_left _ _) hd; omega) ⟨.refl s, F, .refl I, by unfold Rep; rw [hb]⟩
theorem op_neD {x y : AV} {b : Bool} (hx : x.flat = true) (hy : y.flat = true) (hd : x.dat.depth ≤ 40) (hb : (!PyData.eqv x.dat y.dat) = b) : Op2 prog w hT d (compareOp .NotEq) x y (.bool b) := fun A F s v u ok B I r1 r2 => by
  obtain ⟨⟨as, ra⟩, c1⟩ := reads_of I r1 hx
  obtain ⟨⟨bs, rb⟩, c2⟩ := reads_of I r2 hy
  refine compareNe_reads ra rb c1 c2 (by have := ok.units; have : min x.dat.depth y.dat.depth ≤ 40 := Nat.le_trans (Nat.min_le_left _ _) hd; omega) ⟨.refl s, F, .refl I, by unfold Rep; rw [hb]⟩
theorem fnl_max {ns : List Int} {M : Int} (hM : M ∈ ns) (hm : ∀ a ∈ ns, a ≤ M) : FnL prog w hT d (.builtin "max") (ns.map .int) [] (.int M) := fun A F s a vs us n ok B I ha rl ru => by
  unfold RepL at ru; subst ru
  obtain ⟨l, e1, e2⟩ := items_of (intsAre_of rl)
  have hlen : 0 < l.length := by
    cases l with
    | nil => rw [← e2] at hM; cases hM
    | cons _ _ => exact Nat.succ_pos _
  refine max_intList (xs := l.toArray) ok.hh ⟨_, ha, rfl, n, by show Data.seq vs.toArray n = _; rw [e1]⟩ (by simpa using hlen) fun v h' tk hv k => keepH I k ?_
  obtain ⟨t, rfl⟩ := intItems_at hv
  obtain ⟨h1, h2⟩ := argBest_gt (numAt l.toArray) (l.toArray.size - 1)
  unfold Rep
  refine ⟨t, ?_⟩
  congr 1
  have hns : ns = l.toArray.toList.map (·.1) := by rw [← e2]
  refine Int.le_antisymm (hm _ ?_) ?_
  · rw [hns, numAt_eq]; exact getD_mem (by rw [List.length_map, Array.length_toList]; have : l.toArray.size = l.length := by simp
                                           omega)
  · rw [hns] at hM
    obtain ⟨j, hj, e⟩ := mem_getD hM
    rw [List.length_map, Array.length_toList] at hj
    rw [← e, ← numAt_eq]; exact h2 j (by omega)

theorem repL_dropLast {F : Fz} : ∀ {xs : List AV} {vs : List Value}, RepL F xs vs → RepL F xs.dropLast vs.dropLast
  | [], _, r => by unfold RepL at r; subst r; exact RepL.nil
  | [x], _, r => by
    unfold RepL at r; obtain ⟨v, q, rfl, h1, h2⟩ := r
    unfold RepL at h2; subst h2; exact RepL.nil
  | x :: y :: xs, _, r => by
    unfold RepL at r; obtain ⟨v, q, rfl, h1, h2⟩ := r
    have h3 := repL_dropLast h2
    unfold RepL at h2; obtain ⟨v', q', rfl, _, _⟩ := h2
    rw [List.dropLast_cons_cons, List.dropLast_cons_cons]
    exact RepL.cons h1 h3
/-- all but the last -/
theorem evo_butlast {v : Expr} {e : Expr} {p pos : Pos} {xs : List AV} (hv : LV prog w hT d env W σ v xs) (he : Ev prog w hT d env W σ e (.int (-1))) (hn : xs.length ≤ sizeLine)
    (ht : ∀ o r, letTemporaryGo v o r = pure () := by intro _ _; rfl) : EvO prog w hT d env W σ (.Subscript v (.Slice none (some e) none p) pos) xs.dropLast := fun A m F s ok S => by
  have es : eval (.Slice none (some e) none p) env = (do
      let l ← evalPart none env
      let u ← holding [l] (evalPart (some e) env)
      let st ← holding [l, u] (evalPart none env)
      newFields "slice" [l, u, st]) := rfl
  refine Subscript_Slice (hv.use ok S fun a s1 F1 vs n k1 x1 S1 ha rl => ?_) ht
  rw [es]
  refine wpAny_bind (wpAny_pure (wpAny_bind (wpAny_holding (he.use ok S1 fun u s2 F2 k2 x2 S2 r2 => wpAny_bind (wpAny_holding (wpAny_pure (wpAny_bind (wpAny_alloc (wpAny_pure ?_)))))))))
  unfold Rep at r2; obtain ⟨t, rfl⟩ := r2
  have ha2 := Heap.get?_push_of_some { cls := .type "slice", data := .fields #[.none, .int (-1) t, .none] } (k2.heap _ _ ha)
  have hl : (s2.heap.push { cls := .type "slice", data := .fields #[.none, .int (-1) t, .none] }).IsList a vs.toArray := ⟨_, ha2, rfl, n, rfl⟩
  refine ⟨"list", _, list_getitem_lookup, ⟨_, ha2, rfl⟩, wpAny_getItem_list_slice hl (Heap.IsSliceOf.new ..) .none (.int (-1) t) .none (by simp) ?_ (by rw [List.size_toArray, rl.length]; exact hn)⟩
  have e := slicePick_butLast vs.toArray 1 (Nat.le_refl 1)
  have e2 : slicePick vs.toArray none (some (-1)) none = vs.dropLast.toArray := by
    rw [show (-1 : Int) = -((1 : Nat) : Int) from rfl, e, List.dropLast_eq_take]; simp
  rw [e2]
  have hd : RepL F2 xs.dropLast vs.dropLast := repL_dropLast (rl.mono x2.le)
  exact evoFin (n := 0) (t := s2.toks) (s2 := { s2 with heap := s2.heap.push { cls := .type "slice", data := .fields #[.none, .int (-1) t, .none] } }) ((k1.trans k2).trans (Kp.push s2 _)) ((x1.trans x2 k1.heap).keep fun _ _ e => Heap.get?_push_of_some _ e) hd
theorem sidx_pos {k : Int} {n : Nat} (h0 : 0 ≤ k) (h : k.toNat < n) : seqIndex? k n = some k.toNat := by
  unfold seqIndex?
  dsimp only
  rw [if_neg (Int.not_lt.mpr h0), if_pos]
  rw [Bool.and_eq_true, decide_eq_true_iff, decide_eq_true_iff]
  exact ⟨h0, (Int.toNat_lt h0).mp h⟩
theorem ev_itemT {v i : Expr} {pos : Pos} {xs : List AV} {k : Int} {y : AV} (hv : Ev prog w hT d env W σ v (.tup xs)) (hi : Ev prog w hT d env W σ i (.int k)) (h0 : 0 ≤ k) (hn : k < 2 ^ 63) (hy : xs[k.toNat]? = some y)
    (hs : ∀ o j, subscripted i false o j = operate [o, j] (getItem o j) := by intro _ _; rfl) : Ev prog w hT d env W σ (.Subscript v i pos) y := fun A m F s ok S =>
  Subscript_ (hv.use ok S fun a s1 F1 k1 x1 S1 r1 => hi.use ok S1 fun u s2 F2 k2 x2 S2 r2 => by
    unfold Rep at r1 r2
    obtain ⟨t, rfl⟩ := r2
    obtain ⟨a, vs, n, rfl, ha, rl⟩ := r1
    have ha2 := S2.inn _ _ (x2.le _ _ ha)
    have hl : IsTup s2.heap a vs.toArray := ⟨_, ha2, rfl, n, rfl⟩
    obtain ⟨z, hz, rz⟩ := rl.get hy
    have hlt : k.toNat < vs.length := by
      rcases Nat.lt_or_ge k.toNat vs.length with h | h
      · exact h
      · rw [List.getElem?_eq_none h] at hz; cases hz
    exact tail_any hl.typeIs slot_tuple_getitem.lookup (getItem_tuple hl (Int.le_trans (by decide) h0) hn (sidx_pos (n := vs.toArray.size) h0 hlt) ((List.getElem?_toArray ..).trans hz) ⟨k1.trans k2, F2, x1.trans x2 k1.heap, rz.mono x2.le⟩) (hs _ _))
theorem ev_itemS {v i : Expr} {pos : Pos} {x : Str} {k : Int} {c : Nat} (hv : Ev prog w hT d env W σ v (.str x)) (hi : Ev prog w hT d env W σ i (.int k)) (h0 : -(2 ^ 63) ≤ k) (hn : k < 2 ^ 63) (hy : (seqIndex? k x.length).bind (x.cps[·]?) = some c)
    (hs : ∀ o j, subscripted i false o j = operate [o, j] (getItem o j) := by intro _ _; rfl) : Ev prog w hT d env W σ (.Subscript v i pos) (.str ⟨#[c]⟩) := fun A m F s ok S =>
  Subscript_ (hv.use ok S fun a s1 F1 k1 x1 S1 r1 => hi.use ok S1 fun u s2 F2 k2 x2 S2 r2 => by
    unfold Rep at r1 r2
    obtain ⟨t, rfl⟩ := r2
    obtain ⟨t1, rfl⟩ := r1
    exact tail_any (typeIs_str s2 x t1) PySem.F.slot_str_getitem.lookup (PySem.P.getItem_str (by simp; omega) hy (fin0 (k1.trans k2) (x1.trans x2 k1.heap) (by unfold Rep; exact ⟨_, rfl⟩))) (hs _ _))
end
end Mine
end
section
open PySem PySem.W PyProof.Rows Builtin.Str
set_option Elab.async false
namespace Mine
section
variable {prog : Program} {w : World} {hT : Heap} {d : Nat} {env : Env} {W : Str → Bool} {σ : Sig} {K : Frag} {mg mb : Str → Option Value} {Q : AFlow → Sig → Prop}

theorem st_unpack {x y : Str} {p1 p2 tp p : Pos} {k : Nat} {e : Expr} {u v : AV} (hx : W x = true) (hy : W y = true) (he : Ev prog w hT d env W σ e (.tup [u, v])) (h : Q .next (put (put σ x (.val u)) y (.val v))) (hk : env.scope.kind = .function := by rfl)
    (hs : swapsWithSole [.Tuple [.Name x p1, .Name y p2] k tp] e p.line env = pure false := by rfl) (hw : swappedStores [.Tuple [.Name x p1, .Name y p2] k tp] e env = pure none := by rfl) :
    Ex1 prog w hT d env W σ (.Assign [.Tuple [.Name x p1, .Name y p2] k tp] e p) Q := fun A H m F s ok S P =>
  Assign_Tuple (he.use ok S fun r s1 F1 k1 x1 S1 r1 => assign_T (.pair hx hy) ok hk S1 (P.keeps k1.heap) r1 fun s' m' S2 P2 kg =>
    ⟨.next, _, m', F1, h, rfl, x1.le, fun a o q => x1.old a o (P.inn a o q), S2, P2, k1.g.trans kg⟩) hs hw
theorem st_unpackS {x y : Str} {p1 p2 tp p : Pos} {k : Nat} {e : Expr} {u v : AV} (hx : W x = true) (hy : W y = true) (he : Ev prog w hT d env W σ e (.tup [u, v])) (h : Q .next (put (put σ y (.val v)) x (.val u))) (hk : env.scope.kind = .function := by rfl)
    (hs : swapsWithSole [.Tuple [.Name x p1, .Name y p2] k tp] e p.line env = pure false := by rfl) (hw : swappedStores [.Tuple [.Name x p1, .Name y p2] k tp] e env = pure (some [x, y]) := by rfl) :
    Ex1 prog w hT d env W σ (.Assign [.Tuple [.Name x p1, .Name y p2] k tp] e p) Q := fun A H m F s ok S P =>
  Assign_Tuple_swapped (names := [x, y]) (he.use ok S fun r s1 F1 k1 x1 S1 r1 => by
    unfold Rep at r1
    obtain ⟨ta, vs, n, rfl, hta, rl⟩ := r1
    unfold RepL at rl
    obtain ⟨v1, q1, rfl, r1, rl⟩ := rl
    unfold RepL at rl
    obtain ⟨v2, q2, rfl, r2, rl⟩ := rl
    unfold RepL at rl
    subst rl
    have hT' : IsTup s1.heap ta (#[v1, v2]) := ⟨_, S1.inn _ _ hta, rfl, n, rfl⟩
    refine unpackItems_tuple (items := #[v1, v2]) ok.hh hT' fun h1 e1 => ?_
    have kk : ∀ b o, s1.heap.get? b = some o → h1.get? b = some o := fun b o e => e1 b o (Nat.ne_of_lt (Heap.lt_size e)) e
    have S2 : St hT env W σ m F1 h1 := S1.keeps kk ⟨fun _ _ e => e, fun _ _ _ => rfl, fun a o e => kk _ _ (S1.inn a o e)⟩
    have P1 := (P.keeps k1.heap).keeps kk
    show wpAny _ _ (assignInOrder [bindName env y, bindName env x] [v2, v1]) _ _ _
    refine wpAny_bind (wpAny_holding (bindName_ (store_any S2.vars hk (S2.kind y hy) fun h' t V' hb => ?_)))
    obtain ⟨S3, P3⟩ := S2.store P1 hy V' hb (c := .val v) r2 (fun _ _ q => nomatch q)
    refine wpAny_bind (wpAny_holding (bindName_ (store_any S3.vars hk (S3.kind x hx) fun h2 t2 V2 hb2 => ?_)))
    obtain ⟨S4, P4⟩ := S3.store P3 hx V2 hb2 (c := .val u) r1 (fun _ _ q => nomatch q)
    exact wpAny_pure ⟨.next, _, _, F1, h, rfl, x1.le, fun a o q => x1.old a o (P.inn a o q), S4, P4, k1.g.of⟩) hs hw
theorem st_assign3 {x y z : Str} {p1 p2 p3 p : Pos} {e : Expr} {u : AV} (hx : W x = true) (hy : W y = true) (hz : W z = true) (he : Ev prog w hT d env W σ e u) (h : Q .next (put (put (put σ x (.val u)) y (.val u)) z (.val u))) (hk : env.scope.kind = .function := by rfl)
    (hee : (assignEach [.Name x p1, .Name y p2, .Name z p3] env).map (·.2) = [assign (.Name x p1) env, assign (.Name y p2) env, assign (.Name z p3) env] := by rfl)
    (hw : swappedStores [.Name x p1, .Name y p2, .Name z p3] e env = pure none := by rfl) :
    Ex1 prog w hT d env W σ (.Assign [.Name x p1, .Name y p2, .Name z p3] e p) Q := fun A H m F s ok S P =>
  wpAny_Assign_three (he.use ok S fun r s1 F1 k1 x1 S1 r1 => assign_T (.name hx) ok hk S1 (P.keeps k1.heap) r1 fun s2 m2 S2 P2 g2 => assign_T (.name hy) ok hk S2 P2 r1 fun s3 m3 S3 P3 g3 => assign_T (.name hz) ok hk S3 P3 r1 fun s4 m4 S4 P4 g4 =>
    ⟨.next, _, m4, F1, h, rfl, x1.le, fun a o q => x1.old a o (P.inn a o q), S4, P4, k1.g.trans (g2.trans (g3.trans g4))⟩) hee hw
end
end Mine
end
section
open PySem PySem.W PyProof.Rows Builtin.Str
set_option Elab.async false
namespace Mine
/-- a class of the text: its object, its names -/
structure Cls (hT : Heap) (C : Addr) (mN : Str → Option Value) : Prop where
  obj : ∃ nm q N bs sn sub ab col dd k0 k1 k2 k3 k5 newId, hT.get? C = some (excClassObj nm q C N bs [.type "object"] true sn sub ab col dd k0 k1 k2 k3 k5 newId) ∧ hT.Ns N mN
  sa : mN "__setattr__" = none
  ga : mN "__getattribute__" = none
  gh : mN "__getattr__" = none

noncomputable def AV.hands : AV → Bool
  | .rng _ _ _ => false
  | .any => false
  | .at _ _ => false
  | .inst _ _ _ => false
  | _ => true
theorem handed_of {F : Fz} {y : AV} {v : Value} (hy : y.hands = true) (r : Rep F y v) : handedOut v = pure v := by
  cases y with
  | none => unfold Rep at r; subst r; rfl
  | bool b => unfold Rep at r; subst r; rfl
  | int i => unfold Rep at r; obtain ⟨t, rfl⟩ := r; rfl
  | str x => unfold Rep at r; obtain ⟨t, rfl⟩ := r; rfl
  | tup xs => unfold Rep at r; obtain ⟨a, vs, n, rfl, _⟩ := r; rfl
  | lst xs => unfold Rep at r; obtain ⟨a, vs, n, rfl, _⟩ := r; rfl
  | rng a b c => simp [AV.hands] at hy
  | any => simp [AV.hands] at hy
  | «at» a x => simp [AV.hands] at hy
  | inst C ks xs => simp [AV.hands] at hy

theorem repL_lookup {F : Fz} : ∀ {ks : List Str} {xs : List AV} {vs : List Value}, RepL F xs vs → ∀ {n : Str} {y : AV}, (ks.zip xs).lookup n = some y → ∃ v, (ks.zip vs).lookup n = some v ∧ Rep F y v
  | [], _, _, _, _, _, e => by cases e
  | k :: ks, [], _, _, _, _, e => by cases e
  | k :: ks, x :: xs, _, r, n, y, e => by
    unfold RepL at r; obtain ⟨v, q, rfl, h1, h2⟩ := r
    rw [List.zip_cons_cons, List.lookup_cons] at e ⊢
    by_cases h : n = k
    · subst h
      simp only [beq_self_eq_true] at e ⊢
      cases e
      exact ⟨v, rfl, h1⟩
    · rw [beq_eq_false_iff_ne.mpr h] at e ⊢
      exact repL_lookup h2 e
theorem inst_of {F : Fz} {h : Heap} {C : Addr} {ks : List Str} {xs : List AV} {v : Value} (I : ∀ a o, F a = some o → h.get? a = some o) (r : Rep F (.inst C ks xs) v) : ∃ x vs, v = .ref x ∧ h.Inst x C (fun y => (ks.zip vs).lookup y) ∧ RepL F xs vs := by
  unfold Rep at r
  obtain ⟨x, dx, od, es, ep, vs, e, h1, h2, h3, h4, h5, h6, h7, h8⟩ := r
  exact ⟨x, vs, e, ⟨_, I _ _ h1, rfl, fun c => by simp, .inr ⟨dx, rfl, h2, od, es, ep, I _ _ h3, h4, h5, h6, h7⟩⟩, h8⟩
theorem lookup_none_zip {ks : List Str} {vs : List Value} {n : Str} (h : n ∉ ks) : (ks.zip vs).lookup n = none := by
  induction ks generalizing vs with
  | nil => rfl
  | cons k ks ih =>
    cases vs with
    | nil => rfl
    | cons v vs =>
      rw [List.zip_cons_cons, List.lookup_cons, beq_eq_false_iff_ne.mpr (fun e : n = k => h (by rw [e]; exact .head _))]
      exact ih fun e => h (.tail _ e)

section
variable {prog : Program} {w : World} {hT : Heap} {d : Nat} {env : Env} {W : Str → Bool} {σ : Sig} {K : Frag} {mg mb : Str → Option Value} {Q : AFlow → Sig → Prop} {C : Addr} {mN : Str → Option Value}

theorem ev_at {e : Expr} {a : Addr} {x : AV} (h : Ev prog w hT d env W σ e (.at a x)) : Ev prog w hT d env W σ e x := fun A m F s ok S =>
  wpAny_mono (h A m F s ok S) (fun _ _ hpat => by obtain ⟨k, F', ex, r⟩ := hpat; unfold Rep at r; exact ⟨k, F', ex, r.2⟩) fun _ _ q => q

/-- an attribute of an object of the class -/
theorem ev_attr {e : Expr} {name : Str} {pos : Pos} {ks : List Str} {xs : List AV} {y : AV} (hC : Cls hT C mN) (he : Ev prog w hT d env W σ e (.inst C ks xs)) (hy : (ks.zip xs).lookup name = some y) (hn : mN name = none) (hB : typeLookup (.type "object") name = pure none) (hf : y.hands = true := by rfl)
    (hev : eval (.Attribute e name pos) env = (do
      let o ← eval e env
      standAt pos.atName
      let r ← holding [o] (getAttr o name true)
      letTemporaryGo e o r
      pure r) := by with_unfolding_all rfl) : Ev prog w hT d env W σ (.Attribute e name pos) y := fun A m F s ok S =>
  Attribute_any_ (he.use ok S fun v s1 F1 k1 x1 S1 r1 => by
    obtain ⟨x, vs, rfl, hI, rl⟩ := inst_of S1.inn r1
    obtain ⟨u, hu, ru⟩ := repL_lookup rl hy
    obtain ⟨nm, q, N, bs, sn, sub, ab, col, dd, k0, k2, k3, k4, k5, newId, ho, hns⟩ := hC.obj
    have kT : ∀ a o, hT.get? a = some o → s1.heap.get? a = some o := fun a o e => S1.inn _ _ (S1.base a o e)
    obtain ⟨hh, g, dr, t, os⟩ := s1
    exact load_attr (kT _ _ ho) (hns.keeps kT) hC.ga hn hB hI hu (handed_of hf ru) (fin0 (s := ⟨hh, g, dr, t, os⟩) (t := t + 1) k1 x1 ru)) hev

/-- a call of a method of an object of the class -/
theorem ev_methC {o : Expr} {name : Str} {apos pos : Pos} {args : List Expr} {ks : List Str} {ys : List AV} {xs : List AV} {r : AV} {f : Addr} {of : Obj} {yB : Option Value} {pl : Sem Bool} (hC : Cls hT C mN) (ho : Ev prog w hT d env W σ o (.inst C ks ys)) (hf : mN name = some (.ref f)) (hfo : hT.get? f = some of) (hfc : of.cls = .type "function")
    (hB : typeLookup (.type "object") name = pure yB) (hsh : name ∉ ks) (hk : Kr prog w hT (.ref f)) (ha : EvL prog w hT d env W σ args xs) (hfn : Fn prog w hT d (.ref f) (.inst C ks ys :: xs) r)
    (he : eval (.Call (.Attribute o name apos) args [] pos) env = (do
      let ov ← eval o env
      standAt apos.atName
      let (f, first) ← holding [ov] (getMethod ov name pl)
      callWith pos f first (backTo pos (starEach args env)) []) := by with_unfolding_all rfl) (hp : (backTo pos (starEach args env)).any (·.1) = false := by rfl) :
    Ev prog w hT d env W σ (.Call (.Attribute o name apos) args [] pos) r := fun A m F s ok S =>
  MethodCall_ (pl := pl) (ho.use ok S fun v s1 F1 k1 x1 S1 r1 => by
    obtain ⟨x, vs, rfl, hI, rl⟩ := inst_of S1.inn r1
    obtain ⟨nm, q, N, bs, sn, sub, ab, col, dd, k0, k2, k3, k4, k5, newId, hco, hns⟩ := hC.obj
    have kT : ∀ a o, hT.get? a = some o → s1.heap.get? a = some o := fun a o e => S1.inn _ _ (S1.base a o e)
    have go : wpAny (model prog w) A (callWith pos (.ref f) [.ref x] (backTo pos (starEach args env)) []) (fun v s' => Kp s s' ∧ ∃ F', Ext F s.heap F' s'.heap ∧ Rep F' r v) (fun _ _ => False) s1 := by
      refine callWith_of (P := fun h => ∀ a o, hT.get? a = some o → h.get? a = some o) (by rw [hp]; rfl) hk ?_
      refine evalArgs_any hp (ha.use ok S1 fun us s2 F2 k2 x2 S2 rl2 => ⟨fun a o e => S2.inn _ _ (S2.base a o e), ?_⟩)
      exact wpAny_mono (hfn A F2 s2 (.ref x :: us) ok S2.base S2.inn (RepL.cons (r1.mono x2.le) rl2)) (fun v s' hpat => by obtain ⟨k3, F3, x3, r3⟩ := hpat; exact ⟨(k1.trans k2).trans k3, F3, (x1.trans x2 k1.heap).trans x3 (k1.trans k2).heap, r3⟩) fun _ _ q => q
    obtain ⟨hh, g, dr, t, os⟩ := s1
    exact method_of (kT _ _ hco) (hns.keeps kT) hC.ga hC.gh hf (kT _ _ hfo) hfc hB hI (lookup_none_zip hsh) go) he
end
end Mine
end
section
open PySem PySem.W PyProof.Rows Builtin.Str
set_option Elab.async false
namespace Mine
section
variable {prog : Program} {w : World} {hT : Heap} {d : Nat} {env : Env} {W : Str → Bool} {σ : Sig} {K : Frag} {mg mb : Str → Option Value} {Q : AFlow → Sig → Prop} {C : Addr} {mN : Str → Option Value}
theorem enter {a : Addr} {o : Obj} {fd : FuncData} {body : List Stmt} {ps : List Str} {xs : List AV} {A : Around} {F : Fz} {s : Shared} {vs : List Value} {R : Result → Shared → Prop} (T : Tp hT K mg mb) (ho : hT.get? a = some o) (hd : o.data = .func fd) (hcd : hT.CodeRec fd.code fd.qualname) (hb : fd.body = .stmts body) (hcl : fd.closure = [])
    (hbind : ∀ vs : List Value, vs.length = ps.length → bindArgs fd ⟨vs, []⟩ = pure (ps.zip vs)) (hnd : ps.Nodup) (hps : ∀ p ∈ ps, fd.scope.names.lookup p = some .local ∨ fd.scope.names.lookup p = some .cell) (hlen : xs.length = ps.length)
    (ok : OkA (d + 1) A) (B : ∀ a o, hT.get? a = some o → F a = some o) (I : ∀ a o, F a = some o → s.heap.get? a = some o) (rl : RepL F xs vs)
    (hx : ∀ L s₁ m, St hT (callEnvC fd L a) (Wof fd.scope) (ps.zip (xs.map Cell.val)) m F s₁.heap → Prot (callEnvC fd L a) (Wof fd.scope) (ps.zip (xs.map Cell.val)) m s.heap.get? s₁.heap → KpG s s₁ → OkA d (A.deeper (callEnvC fd L a)) →
      (∀ b o, s.heap.get? b = some o → s₁.heap.get? b = some o) → (∀ b o, s.heap.get? b = some o → (callEnvC fd L a).locals ≠ b ∧ ∀ y c, (callEnvC fd L a).cells.lookup y = some c → c ≠ b) →
      wpAny (model prog w) (A.deeper (callEnvC fd L a)) (execs body (callEnvC fd L a)) (fun f s' => R (.ok (.ret (match f with | .ret v => v | _ => .none))) s') (fun _ _ => False) s₁)
    (hco : fd.scope.isCoroutine = false := by rfl) (hgen : fd.scope.isGenerator = false := by rfl) (hk : fd.scope.kind = .function := by rfl) : codeAny (model prog w) A (.call (.ref a) ⟨vs, []⟩) R s := by
  have hT' : ∀ a o, hT.get? a = some o → s.heap.get? a = some o := fun a o e => I _ _ (B a o e)
  have hvl : vs.length = ps.length := rl.length.trans hlen
  refine (codeAny_call_cells (by have := ok.depth; omega) (hT' _ _ ho) hd (T.lim.keeps hT') (hcd.keeps hT') hb (hbind vs hvl) hcl (fun p hp => ?_) (fun s₁ C => ?_) hco hgen hk)
  · have : p.1 ∈ ps := (List.of_mem_zip hp).1
    rcases hps _ this with h | h
    · exact .inl h
    · exact .inr ⟨h, cellsFrom_some _ _ _ (.inl h)⟩
  · have hmap : ((ps.zip vs).map (·.1)).Nodup := by rw [List.map_fst_zip (by omega)]; exact hnd
    generalize hL : s.heap.objs.size = L at C ⊢
    have hL' : (callEnvC fd L a).locals = L := rfl
    have kf : ∀ x, (callEnvC fd L a).kindOf x = fd.scope.names.lookup x := fun x => rfl
    have fresh : ∀ c, L ≤ c → F c = none := fun c hc => by
      cases e : F c with
      | none => rfl
      | some o' => exact absurd (Heap.lt_size (I _ _ e)) (Nat.not_lt.mpr (hL ▸ hc))
    have freshH : ∀ c, L ≤ c → s.heap.get? c = none := fun c hc => by
      cases e : s.heap.get? c with
      | none => rfl
      | some o' => exact absurd (Heap.lt_size e) (Nat.not_lt.mpr (hL ▸ hc))
    have hlow : ∀ x, Wof fd.scope x = true → L ≤ locOf (callEnvC fd L a) x := fun x hx => by
      unfold locOf
      by_cases h : (callEnvC fd L a).kindOf x = some .cell
      · rw [if_pos h]
        obtain ⟨c, hc⟩ := Option.isSome_iff_exists.mp (cellsFrom_some (x := x) fd.scope.names (L + 1) [] (.inl h))
        have hc' : (callEnvC fd L a).cells.lookup x = some c := hc
        rw [hc']
        exact Nat.le_of_lt (C.above x c (mem_of_lookup hc'))
      · rw [if_neg h]; exact Nat.le_refl _
    let m : Str → Option Value := fun x => if (callEnvC fd L a).kindOf x = some .local then bindL (callEnvC fd L a).kindOf (ps.zip vs) (fun _ => none) x else bindC (callEnvC fd L a).kindOf (ps.zip vs) (fun _ => none) x
    have V : Vars (callEnvC fd L a) m s₁.heap := ⟨⟨_, C.toInCall.ns, fun x hx => (if_pos hx).symm⟩, fun x c hx hc => by
      have e : m x = bindC (callEnvC fd L a).kindOf (ps.zip vs) (fun _ => none) x := if_neg (by rw [hx]; decide)
      rw [e]; exact C.cell x c hc, C.apart⟩
    have S : St hT (callEnvC fd L a) (Wof fd.scope) (ps.zip (xs.map Cell.val)) m F s₁.heap := ⟨B, fun a o e => C.toInCall.keep _ _ (I a o e), V, fun x hx => (by
        unfold Wof at hx
        rw [kf]
        split at hx
        · rename_i h; exact .inl h
        · rename_i h; exact .inr ⟨h, cellsFrom_some _ _ _ (.inl h)⟩
        · cases hx), fun x hx => fresh _ (hlow x hx), fun x c e => (by
        obtain ⟨v, h1, y, rfl, h2⟩ := repL_zip rl e
        refine ⟨v, ?_, h2⟩
        show (if _ then _ else _) = some v
        by_cases hl : (callEnvC fd L a).kindOf x = some .local
        · rw [if_pos hl]; exact bindL_mem _ _ hmap h1 hl
        · rw [if_neg hl]; exact bindC_mem _ _ hmap h1 hl), fun x y xs' ys a e => (by
        obtain ⟨v, h1, y, h3, h2⟩ := repL_zip rl e
        cases h3)⟩
    have P : Prot (callEnvC fd L a) (Wof fd.scope) (ps.zip (xs.map Cell.val)) m s.heap.get? s₁.heap := ⟨C.toInCall.keep, fun x hx => freshH _ (hlow x hx), fun x xs' a e => by
        obtain ⟨v, h1, y, h3, h2⟩ := repL_zip rl e
        cases h3⟩
    have ok' : OkA d (A.deeper (callEnvC fd L a)) := ⟨ok.hh, by have := ok.depth; show A.depth + 1 + d < _; omega, by have := ok.units; show A.units + 3 + _ + 50 < _; omega⟩
    obtain ⟨h1, tk, es⟩ := C.toInCall.same
    have kg : KpG s s₁ := by
      refine ⟨fun g x e => ?_, fun e => ?_, ?_⟩
      · rw [es]; exact e
      · rw [es]; exact e
      · rw [es]
    refine wpAny_mono (hx L s₁ m S P kg ok' C.toInCall.keep fun b o e => ⟨fun q => ?_, fun y c hc q => ?_⟩) (fun _ _ z => z) fun _ _ x => x.elim
    · have := freshH _ (Nat.le_refl L); rw [← q] at e; rw [show (callEnvC fd L a).locals = L from rfl, this] at e; cases e
    · have := freshH c (Nat.le_of_lt (C.above y c (mem_of_lookup hc))); rw [q, e] at this; cases this

theorem Prot.less {m : Str → Option Value} {H H' : Fz} {h : Heap} (P : Prot env W σ m H h) (le : ∀ a o, H' a = some o → H a = some o) : Prot env W σ m H' h := by
  have non : ∀ a, H a = none → H' a = none := fun a e => by
    cases q : H' a with
    | none => rfl
    | some o => rw [le _ _ q] at e; cases e
  exact ⟨fun a o e => P.inn _ _ (le a o e), fun x hx => non _ (P.free x hx), fun x xs a e1 e2 => non _ (P.own x xs a e1 e2)⟩

/-- an object that is still being made -/
structure OI (F H : Fz) (env : Env) (h : Heap) (x dx C : Addr) (mA : Str → Option Value) : Prop where
  obj : h.get? x = some { cls := .ref C, dict := some dx, data := .plain }
  ne : dx ≠ x
  ns : h.Ns1 dx mA
  fx : F x = none
  fd : F dx = none
  hx : H x = none
  hd : H dx = none
  lo : env.locals ≠ x ∧ env.locals ≠ dx
  ce : ∀ y c, env.cells.lookup y = some c → c ≠ x ∧ c ≠ dx

noncomputable def pair2 (x dx : Addr) (o o' : Obj) : Fz := fun b => if b = x then some o else if b = dx then some o' else none
theorem pair2_none {x dx b : Addr} {o o' : Obj} (h1 : b ≠ x) (h2 : b ≠ dx) : pair2 x dx o o' b = none := by unfold pair2; rw [if_neg h1, if_neg h2]

theorem attr_store {name : Str} {e : Expr} {y : AV} {p1 p2 p3 : Pos} {A : Around} {m : Str → Option Value} {F H : Fz} {s : Shared} {x dx : Addr} {mA : Str → Option Value} {ns : List Str} {R : Flow → Shared → Prop} (hC : Cls hT C mN) (hn : mN name = none) (hB : typeLookup (.type "object") name = pure none)
    (hself : List.lookup ("self" : Str) σ = some (.val (.at x .any))) (he : Ev prog w hT d env W σ e y) (ok : OkA d A) (S : St hT env W σ m F s.heap) (P : Prot env W σ m H s.heap) (O : OI F H env s.heap x dx C mA) (hw : Within mA ns) (hsz : ns.length ≤ sizeLine)
    (k : ∀ s' F' v, St hT env W σ m F' s'.heap → Prot env W σ m H s'.heap → OI F' H env s'.heap x dx C (fun z => if z = name then some v else mA z) → Rep F' y v → (∀ a o, F a = some o → F' a = some o) → (∀ a o, H a = some o → F' a = F a) → KpG s s' → R .next s')
    (hk : env.scope.kind = .function := by rfl) (hsx : env.kindOf "self" = some .local ∨ (env.kindOf "self" = some .cell ∧ (List.lookup ("self" : Str) env.cells).isSome = true) := by first | exact Or.inl rfl | exact Or.inr ⟨rfl, rfl⟩)
    (hs : swapsWith e (some (.Attribute (.Name "self" p1) name p2)) p3.line env = pure false := by rfl) : wpAny (model prog w) A (exec (.Assign [.Attribute (.Name "self" p1) name p2] e p3) env) R (fun _ _ => False) s := by
  refine plainObj_wpAny_Assign_Attribute (he.use ok S fun v s1 F1 k1 x1 S1 r1 => ?_) hs
  obtain ⟨sv, hsv, rs⟩ := S1.loc _ _ hself
  have : sv = .ref x := by have rs : Rep F1 (.at x .any) sv := rs; unfold Rep at rs; exact rs.1
  subst this
  refine wpAny_Name (load_any S1.vars hk hsx hsv ?_) rfl
  obtain ⟨nm, q, N, bs, sn, sub, ab, col, dd, k0, k2, k3, k4, k5, newId, hco, hns⟩ := hC.obj
  have kT : ∀ a o, hT.get? a = some o → s1.heap.get? a = some o := fun a o e => S1.inn _ _ (S1.base a o e)
  have o1 := k1.heap _ _ O.obj
  have n1 := O.ns.keeps k1.heap
  obtain ⟨od, es, ep, hdx, hdd, _⟩ := id n1
  have hI : s1.heap.Inst x C mA := ⟨_, o1, rfl, fun c => by simp, .inr ⟨dx, rfl, O.ne, n1⟩⟩
  have hxC : x ≠ C := fun e => by have := S1.base _ _ hco; rw [← e, (x1.old _ _ O.obj).trans O.fx] at this; cases this
  obtain ⟨hh, g, dr, t, os⟩ := s1
  refine store_attr PySem.F.store_object (kT _ _ hco) (hns.keeps kT) hC.sa hn hB hxC hI (fun h' tk' I' hkeep hsame => ?_) hw hsz
  obtain ⟨ob, e1, e2, e3, e4, e5⟩ := hsame _ o1
  have hob : ob = { cls := .ref C, dict := some dx, data := .plain } := by
    obtain ⟨a1, a2, a3, a4⟩ := ob
    dsimp only at e2 e3 e4 e5
    rw [e2, e3, e4, e5 dx rfl]
  subst hob
  have ns' : h'.Ns1 dx (fun z => if z = name then some v else mA z) := by
    obtain ⟨ob2, g1, g2, g3, g4⟩ := I'
    rw [e1] at g1; cases g1
    rcases g4 with ⟨g4, _⟩ | ⟨d', g4, _, g5⟩
    · cases g4
    · cases g4; exact g5
  have f1x : F1 x = none := (x1.old _ _ O.obj).trans O.fx
  obtain ⟨od0, es0, ep0, hdx0, hdd0, _⟩ := id O.ns
  have f1d : F1 dx = none := (x1.old _ _ hdx0).trans O.fd
  have keep : ∀ b o, pair2 x dx { cls := .ref C, dict := some dx, data := .plain } od b = none → hh.get? b = some o → h'.get? b = some o := fun b o z g => by
    refine hkeep b o (fun q => ?_) (fun o₀ d' g1 g2 q => ?_) g
    · rw [q] at z; unfold pair2 at z; rw [if_pos rfl] at z; cases z
    · rw [o1] at g1; cases g1; cases g2
      rw [q] at z; unfold pair2 at z
      by_cases c : dx = x
      · rw [if_pos c] at z; cases z
      · rw [if_neg c, if_pos rfl] at z; cases z
  have fpOff : ∀ a ob, pair2 x dx { cls := .ref C, dict := some dx, data := .plain } od a = some ob → (a = x ∨ a = dx) := fun a ob z => by
    unfold pair2 at z
    by_cases c : a = x
    · exact .inl c
    · rw [if_neg c] at z
      by_cases c2 : a = dx
      · exact .inr c2
      · rw [if_neg c2] at z; cases z
  have fo : FrOff env (pair2 x dx { cls := .ref C, dict := some dx, data := .plain } od) := ⟨pair2_none O.lo.1 O.lo.2, fun y c _ hc => pair2_none (O.ce y c hc).1 (O.ce y c hc).2⟩
  have locNe : ∀ y, W y = true → locOf env y ≠ x ∧ locOf env y ≠ dx := fun y hy => by
    rcases S1.kind y hy with hl | ⟨hc, hs⟩
    · rw [show locOf env y = env.locals by unfold locOf; rw [if_neg (by rw [hl]; decide)]]; exact O.lo
    · obtain ⟨c', hc'⟩ := Option.isSome_iff_exists.mp hs
      rw [show locOf env y = c' by unfold locOf; rw [if_pos hc, hc']; rfl]; exact O.ce y c' hc'
  have Pf : Prot env W σ m (pair2 x dx { cls := .ref C, dict := some dx, data := .plain } od) hh := by
    refine ⟨fun a o z => ?_, fun y hy => pair2_none (locNe y hy).1 (locNe y hy).2, fun y ys a q1 q2 => ?_⟩
    · unfold pair2 at z
      by_cases c : a = x
      · rw [if_pos c] at z; cases z; rw [c]; exact o1
      · rw [if_neg c] at z
        by_cases c2 : a = dx
        · rw [if_pos c2] at z; cases z; rw [c2]; exact hdx
        · rw [if_neg c2] at z; cases z
    · obtain ⟨u, hu, b, us, n, rfl, _, q4, _⟩ := S1.loc y _ q1
      rw [q2] at hu; cases hu
      refine pair2_none (fun z => ?_) fun z => ?_
      · rw [z, o1] at q4; cases q4
      · rw [z, hdx] at q4; cases q4; cases hdd
  obtain ⟨S2, P2⟩ := S1.keepsB (P.keeps k1.heap) Pf fo (fun a ob z => by rcases fpOff a ob z with rfl | rfl; exact O.hx; exact O.hd) keep (F' := F1) ⟨fun _ _ e => e, fun _ _ _ _ => rfl, fun a o z => keep a o (pair2_none (fun c => by rw [c, f1x] at z; cases z) fun c => by rw [c, f1d] at z; cases z) (S1.inn a o z)⟩
  exact k ⟨h', g, dr, tk', os⟩ F1 v S2 P2 ⟨e1, O.ne, ns', f1x, f1d, O.hx, O.hd, O.lo, O.ce⟩ r1 x1.le (fun a o z => x1.old a o (P.inn a o z)) k1.g.of
end
end Mine
end
section
open PySem PySem.W PySem.W.X PyProof.Rows Builtin.Str
set_option Elab.async false
set_option maxRecDepth 100000
namespace Mine
noncomputable def stC (k : Nat) : Stmt := nth (bodyOf (stN iCls)) k
/-- one more tab behind a run of b blanks -/
noncomputable def bump (l : List Int) (b : Nat) : List Int :=
  let l' := if l.length ≤ b then l ++ List.replicate (b - l.length + 1) 0 else l
  l'.set b (l'.getD b 0 + 1)
structure WS where
  cnt : List Int
  b : Nat
  n : Nat
  nt : Nat
noncomputable def wsGo : List Nat → WS → WS
  | [], s => s
  | c :: cs, s => if c = 32 then wsGo cs ⟨s.cnt, s.b + 1, s.n + 1, s.nt⟩ else if c = 9 then wsGo cs ⟨bump s.cnt s.b, 0, s.n + 1, s.nt + 1⟩ else s
theorem bump_length (l : List Int) (b : Nat) : (bump l b).length = max l.length (b + 1) := by
  unfold bump
  simp only [List.length_set]
  split
  · rename_i h
    rw [List.length_append, List.length_replicate, ← Nat.add_assoc, Nat.add_sub_of_le h, Nat.max_eq_right (Nat.le_succ_of_le h)]
  · rename_i h
    exact (Nat.max_eq_left (Nat.lt_of_not_le h)).symm
theorem wsGo_le : ∀ (cs : List Nat) (s : WS), (wsGo cs s).cnt.length ≤ s.cnt.length + s.b + cs.length ∧ (wsGo cs s).b ≤ s.b + cs.length
  | [], s => ⟨Nat.le_add_right _ _, Nat.le_refl _⟩
  | c :: cs, s => by
    unfold wsGo
    rw [List.length_cons]
    split
    · have := wsGo_le cs ⟨s.cnt, s.b + 1, s.n + 1, s.nt⟩
      rw [← Nat.add_assoc, Nat.add_right_comm s.b 1] at this
      exact ⟨Nat.le_trans this.1 (Nat.le_of_eq (Nat.add_right_comm _ 1 _)), this.2⟩
    · split
      · have := wsGo_le cs ⟨bump s.cnt s.b, 0, s.n + 1, s.nt + 1⟩
        rw [bump_length, Nat.zero_add] at this
        refine ⟨Nat.le_trans this.1 ?_, Nat.le_trans this.2 (Nat.le_trans (Nat.le_succ _) (Nat.le_add_left _ _))⟩
        exact Nat.le_trans (Nat.add_le_add_right (Nat.max_le.mpr ⟨Nat.le_add_right _ (s.b + 1), Nat.le_add_left _ _⟩) _) (Nat.le_of_eq (Nat.add_right_comm _ 1 _))
      · exact ⟨Nat.le_trans (Nat.le_add_right _ _) (Nat.le_add_right _ _), Nat.le_add_right _ _⟩
noncomputable def wsOf (x : Str) : WS := wsGo x.cps.toList ⟨[], 0, 0, 0⟩
noncomputable def wsKs : List Str := ["raw", "n", "nt", "norm", "is_simple"]
noncomputable def wsN (s : WS) : AV := .tup [.tup (s.cnt.map .int), .int s.b]
/-- what an object of the class holds -/
noncomputable def wsAV (C : Addr) (x : Str) : AV := .inst C wsKs [.str x, .int (wsOf x).n, .int (wsOf x).nt, wsN (wsOf x), .bool (decide (((wsOf x).cnt.length : Int) ≤ 1))]

/-- an attribute of the class itself -/
noncomputable def CA (w : World) (hT : Heap) (C : Addr) (name : Str) (v : Value) : Prop := ∀ (A : Around) (s : Shared) (E : Value → Shared → Prop) (Q : Value → Shared → Prop), (∀ a o, hT.get? a = some o → s.heap.get? a = some o) → Q v { s with toks := s.toks + 1 } → wpAny (model PR w) A (getAttr (.ref C) name true) Q E s

section
variable {w : World} {hT : Heap} {d : Nat} {K : Frag} {mg mb : Str → Option Value} {C : Addr} {mN : Str → Option Value}
theorem ev_clsattr {env : Env} {W : Str → Bool} {σ : Sig} {x name : Str} {p pos : Pos} {y : Str} {t : Tok} (hg : Gl PR w hT env x (.ref C)) (ha : CA w hT C name (.str y t)) : Ev PR w hT d env W σ (.Attribute (.Name x p) name pos) (.str y) := fun A m F s ok S =>
  Attribute_name (hg A s p _ (fun a o e => S.inn _ _ (S.base a o e)) (ha A s _ _ (fun a o e => S.inn _ _ (S.base a o e)) (fin0 (.refl s) (.refl S.inn) (by unfold Rep; exact ⟨_, rfl⟩))))

noncomputable def sW (a : Addr) (x : Str) (s : WS) : Sig := [("self", .val (.at a (.inst C ["raw"] [.str x]))), ("S", .val (.str ⟨#[32]⟩)), ("T", .val (.str ⟨#[9]⟩)), ("count", .own (s.cnt.map .int)), ("b", .val (.int s.b)), ("n", .val (.int s.n)), ("nt", .val (.int s.nt))]
theorem sub_sW {a : Addr} {x : Str} {s : WS} {σ : Sig} (h0 : List.lookup ("self" : Str) σ = some (.val (.at a (.inst C ["raw"] [.str x])))) (h1 : List.lookup ("S" : Str) σ = some (.val (.str ⟨#[32]⟩))) (h2 : List.lookup ("T" : Str) σ = some (.val (.str ⟨#[9]⟩))) (h3 : List.lookup ("count" : Str) σ = some (.own (s.cnt.map .int))) (h4 : List.lookup ("b" : Str) σ = some (.val (.int s.b))) (h5 : List.lookup ("n" : Str) σ = some (.val (.int s.n))) (h6 : List.lookup ("nt" : Str) σ = some (.val (.int s.nt))) : Sub (sW (C := C) a x s) σ :=
  sub_of (all_cons h0 (all_cons h1 (all_cons h2 (all_cons h3 (all_cons h4 (all_cons h5 (all_cons h6 all_nil)))))))

theorem one_cp (c k : Nat) : ((⟨#[c]⟩ : Str) = ⟨#[k]⟩) ↔ c = k := by
  constructor
  · intro h; injection h with h; injection h with h; injection h
  · rintro rfl; rfl

set_option maxHeartbeats 4000000 in
theorem ws_loop {nm qn : Str} {doc pm : Value} {an : Option Addr} {cd ct : Value} {L f : Addr} {a : Addr} {x : Str} (T : Tp hT K mg mb) (hlen : mg "len" = none) : ∀ (cs : List Nat) (s : WS), s.cnt.length + s.b + cs.length ≤ 4000 → Loop PR w hT d (callEnvC (fdN (stC 1) nm qn .none .none doc pm an cd ct) L f) (Wof (scopeOf (stC 1))) (forTg (nth (bodyOf (stC 1)) 4)) (forBody (nth (bodyOf (stC 1)) 4)) (cs.map fun c => .str ⟨#[c]⟩) (sW (C := C) a x s)
    (fun fl σ' => fl = .next ∧ Sub (sW (C := C) a x (wsGo cs s)) σ') := by
  intro cs
  induction cs with
  | nil => intro s _; exact ⟨rfl, Sub.refl _⟩
  | cons c cs ih =>
    intro s hn
    rw [List.length_cons] at hn
    have hL : 4000 ≤ sizeLine := by decide
    rw [List.map_cons]
    have go : ∀ (s1 : WS) (σ2 : Sig), Sub (sW (C := C) a x s1) σ2 → s1.cnt.length + s1.b + cs.length ≤ 4000 → wsGo (c :: cs) s = wsGo cs s1 → Loop PR w hT d (callEnvC (fdN (stC 1) nm qn .none .none doc pm an cd ct) L f) (Wof (scopeOf (stC 1))) (forTg (nth (bodyOf (stC 1)) 4)) (forBody (nth (bodyOf (stC 1)) 4)) (cs.map fun c => .str ⟨#[c]⟩) σ2
        (fun fl σ' => fl = .next ∧ Sub (sW (C := C) a x (wsGo (c :: cs) s)) σ') := fun s1 σ2 h1 h2 h3 => by
      rw [h3]
      exact (ih s1 h2).sub h1 keepS
    refine loop_cons (BindT.name rfl) ?_
    with_unfolding_all refine ex_cons (st_if (ts_cmp (ev_name rfl) (ev_name rfl) op_eqS) ?_)
    by_cases hc : c = 32
    · rw [decide_eq_true ((one_cp c 32).mpr hc), if_pos rfl]
      refine ex_cons (st_assign rfl (ev_binop (ev_name rfl) ev_int op_add) (ex_cons (st_assign rfl (ev_binop (ev_name rfl) ev_int op_add) (ex_nil (ex_nil (go ⟨s.cnt, s.b + 1, s.n + 1, s.nt⟩ _ (sub_sW rfl rfl rfl rfl rfl rfl rfl) (by dsimp only; omega) ?_))))))
      show (if c = 32 then _ else _) = _
      rw [if_pos hc]
    · rw [decide_eq_false (fun h => hc ((one_cp c 32).mp h)), if_neg Bool.false_ne_true]
      refine ex_cons (st_if (ts_cmp (ev_name rfl) (ev_name rfl) op_eqS) ?_)
      by_cases hc2 : c = 9
      · rw [decide_eq_true ((one_cp c 9).mpr hc2), if_pos rfl]
        have e0 : wsGo (c :: cs) s = wsGo cs ⟨bump s.cnt s.b, 0, s.n + 1, s.nt + 1⟩ := by
          show (if c = 32 then _ else if c = 9 then _ else _) = _
          rw [if_neg hc, if_pos hc2]
        have hfin : (⟨bump s.cnt s.b, 0, s.n + 1, s.nt + 1⟩ : WS).cnt.length + (⟨bump s.cnt s.b, 0, s.n + 1, s.nt + 1⟩ : WS).b + cs.length ≤ 4000 := by
          dsimp only; rw [bump_length]; omega
        refine ex_cons (st_assign rfl (ev_binop (ev_name rfl) ev_int op_add) (ex_cons (st_assign rfl (ev_binop (ev_name rfl) ev_int op_add) ?_)))
        refine ex_cons (st_if (ts_cmp (ev_name rfl) (ev_callL (gl_boot T hlen (by decide +kernel)) kr_builtin (lv_own rfl) (fnl_len (by rw [List.length_map]; omega))) op_geI) ?_)
        rw [List.length_map]
        have hget : ∀ l' : List Int, s.b < l'.length → (l'.map AV.int)[((s.b : Nat) : Int).toNat]? = some (.int (l'.getD s.b 0)) := fun l' h => by
          simp [List.getD, h]
        have hset : ∀ l' : List Int, l'.set s.b (l'.getD s.b 0 + 1) = bump s.cnt s.b → (l'.map AV.int).set ((s.b : Nat) : Int).toNat (.int (l'.getD s.b 0 + 1)) = (bump s.cnt s.b).map AV.int := fun l' h => by
          rw [← h, List.map_set]; rfl
        by_cases hb : (s.b : Int) ≥ (s.cnt.length : Int)
        · rw [decide_eq_true hb, if_pos rfl]
          have hb' : s.cnt.length ≤ s.b := Int.ofNat_le.mp hb
          let l' : List Int := s.cnt ++ List.replicate (s.b - s.cnt.length + 1) 0
          have hl' : s.cnt.map AV.int ++ List.replicate ((s.b : Int) - (s.cnt.length : Int) + 1).toNat (AV.int 0) = l'.map AV.int := by
            rw [List.map_append, List.map_replicate, show ((s.b : Int) - (s.cnt.length : Int) + 1).toNat = s.b - s.cnt.length + 1 by rw [← Int.ofNat_sub hb', ← Int.natCast_succ, Int.toNat_natCast]]
          have hlt : s.b < l'.length := by show _ < (s.cnt ++ _).length; rw [List.length_append, List.length_replicate, ← Nat.add_assoc, Nat.add_sub_of_le hb']; exact Nat.lt_succ_self _
          have hbump : l'.set s.b (l'.getD s.b 0 + 1) = bump s.cnt s.b := by unfold bump; rw [if_pos hb']
          refine ex_cons (st_assignO (ys := l'.map .int) rfl (hl' ▸ evo_add (lv_own rfl) (evo_mul1 (k := (s.b : Int) - (s.cnt.length : Int) + 1) (evo_list (evl_cons ev_int evl_nil)).lv (ev_binop (ev_binop (ev_name rfl) (by simpa using (ev_callL (gl_boot T hlen (by decide +kernel)) kr_builtin (lv_own (xs := s.cnt.map .int) rfl) (fnl_len (by rw [List.length_map]; omega)))) op_sub) ev_int op_add) (by omega) (by omega)).lv (by rw [List.length_map, List.length_replicate]; omega)) ?_)
          refine ex_nil ?_
          clear_value l'
          refine ex_cons (st_setitem (k := (s.b : Int)) (y := .int (l'.getD s.b 0 + 1)) rfl (ev_binop (ev_item (y := .int (l'.getD s.b 0)) (lv_own (xs := l'.map .int) rfl) (ev_name rfl) (by omega) (by omega) (hget l' hlt)) ev_int op_add) (ev_name rfl) (by omega) (by rw [List.length_map]; omega) (by omega) ?_)
          refine ex_cons (st_assign rfl ev_int (ex_nil (ex_nil (ex_nil (go _ _ (sub_sW rfl rfl rfl ?_ rfl rfl rfl) hfin e0)))))
          exact congrArg (fun z => some (Cell.own z)) (hset l' hbump)
        · rw [decide_eq_false hb, if_neg Bool.false_ne_true]
          have hlt : s.b < s.cnt.length := Nat.lt_of_not_le fun q => hb (Int.ofNat_le.mpr q)
          have hbump : s.cnt.set s.b (s.cnt.getD s.b 0 + 1) = bump s.cnt s.b := by unfold bump; rw [if_neg (Nat.not_le.mpr hlt)]
          refine ex_nil ?_
          refine ex_cons (st_setitem (k := (s.b : Int)) (y := .int (s.cnt.getD s.b 0 + 1)) rfl (ev_binop (ev_item (y := .int (s.cnt.getD s.b 0)) (lv_own (xs := s.cnt.map .int) rfl) (ev_name rfl) (by omega) (by omega) (hget s.cnt hlt)) ev_int op_add) (ev_name rfl) (by omega) (by rw [List.length_map]; omega) (by omega) ?_)
          refine ex_cons (st_assign rfl ev_int (ex_nil (ex_nil (ex_nil (go _ _ (sub_sW rfl rfl rfl ?_ rfl rfl rfl) hfin e0)))))
          exact congrArg (fun z => some (Cell.own z)) (hset s.cnt hbump)
      · rw [decide_eq_false (fun h => hc2 ((one_cp c 9).mp h)), if_neg Bool.false_ne_true]
        refine ex_cons (st_break ?_)
        refine ⟨rfl, ?_⟩
        have e0 : wsGo (c :: cs) s = s := by
          show (if c = 32 then _ else if c = 9 then _ else _) = _
          rw [if_neg hc, if_neg hc2]
        rw [e0]
        exact sub_sW rfl rfl rfl rfl rfl rfl rfl
end
end Mine
end
section
open PySem PySem.W PyProof.Rows Builtin.Str
set_option Elab.async false
namespace Mine
section
variable {prog : Program} {w : World} {hT : Heap} {d : Nat} {env : Env} {W : Str → Bool} {σ : Sig} {K : Frag} {mg mb : Str → Option Value} {C : Addr} {mN : Str → Option Value}
/-- one statement ahead of others, by hand -/
theorem raw1 {st : Stmt} {rest : List Stmt} {G : Sig → Prop} {A : Around} {H : Fz} {m : Str → Option Value} {F : Fz} {s : Shared} {R : Flow → Shared → Prop} (h : Ex1 prog w hT d env W σ st fun fl σ' => fl = .next ∧ G σ') (ok : OkA d A) (S : St hT env W σ m F s.heap) (P : Prot env W σ m H s.heap)
    (k : ∀ s' σ' m' F', G σ' → (∀ a o, F a = some o → F' a = some o) → (∀ a o, H a = some o → F' a = F a) → St hT env W σ' m' F' s'.heap → Prot env W σ' m' H s'.heap → KpG s s' → wpAny (model prog w) A (execs rest env) R (fun _ _ => False) s') :
    wpAny (model prog w) A (execs (st :: rest) env) R (fun _ _ => False) s := by
  refine wpAny_execs_cons (wpAny_mono (h A H m F s ok S P) (fun f s' hpat => ?_) fun _ _ z => z)
  obtain ⟨fl, σ', m', F', ⟨h1, h2⟩, q2, q3, q4, q5, q6, q7⟩ := hpat
  subst h1
  cases q2
  exact k s' σ' m' F' h2 q3 q4 q5 q6 q7
theorem St.thaw {m : Str → Option Value} {F F' : Fz} {h : Heap} (S : St hT env W σ m F h) (le : ∀ a o, F' a = some o → F a = some o) (B : ∀ a o, hT.get? a = some o → F' a = some o) (hc : ∀ y c, σ.lookup y = some c → ∀ v, RepC F h c v → RepC F' h c v) : St hT env W σ m F' h := by
  refine ⟨B, fun a o e => S.inn _ _ (le a o e), S.vars, S.kind, fun x hx => ?_, fun x c e => ?_, S.sep⟩
  · cases q : F' (locOf env x) with
    | none => rfl
    | some o => have := le _ _ q; rw [S.free x hx] at this; cases this
  · obtain ⟨v, h1, h2⟩ := S.loc x c e
    exact ⟨v, h1, hc x c e v h2⟩
/-- cells that lean on no frozen object -/
noncomputable def thin : Cell → Bool
  | .val (.int _) => true
  | .val (.str _) => true
  | .val (.bool _) => true
  | .val .none => true
  | .val (.at _ .any) => true
  | .own xs => xs.all fun x => match x with | .int _ => true | _ => false
  | _ => false
theorem repL_thin {F F' : Fz} : ∀ {xs : List AV} {vs : List Value}, (xs.all fun x => match x with | .int _ => true | _ => false) = true → RepL F xs vs → RepL F' xs vs
  | [], _, _, r => by unfold RepL at r ⊢; exact r
  | x :: xs, _, h, r => by
    unfold RepL at r ⊢
    rw [List.all_cons, Bool.and_eq_true] at h
    obtain ⟨v, q, e, h1, h2⟩ := r
    refine ⟨v, q, e, ?_, repL_thin h.2 h2⟩
    cases x with
    | int i => unfold Rep at h1 ⊢; exact h1
    | _ => cases h.1
theorem thin_rep {F F' : Fz} {h : Heap} (le : ∀ a o, F' a = some o → F a = some o) {c : Cell} (hc : thin c = true) {v : Value} (r : RepC F h c v) : RepC F' h c v := by
  cases c with
  | own xs =>
    obtain ⟨a, vs, n, e, h1, h2, h3⟩ := r
    refine ⟨a, vs, n, e, ?_, h2, repL_thin hc h3⟩
    cases q : F' a with
    | none => rfl
    | some o => rw [le _ _ q] at h1; cases h1
  | val x =>
    have r : Rep F x v := r
    show Rep F' x v
    cases x with
    | none => unfold Rep at r ⊢; exact r
    | bool b => unfold Rep at r ⊢; exact r
    | int i => unfold Rep at r ⊢; exact r
    | str x => unfold Rep at r ⊢; exact r
    | tup xs => cases hc
    | lst xs => cases hc
    | rng a b c => cases hc
    | any => cases hc
    | «at» a x =>
      cases x with
      | any => unfold Rep at r ⊢; exact ⟨r.1, by unfold Rep; trivial⟩
      | _ => cases hc
    | inst C ks xs => cases hc
end
end Mine
end
section
open PySem PySem.W PySem.W.X PyProof.Rows Builtin.Str
set_option Elab.async false
set_option maxRecDepth 100000
namespace Mine
/-- what the class must be like to make objects -/
structure Mk (w : World) (hT : Heap) (mg : Str → Option Value) (C aI : Addr) (mN : Str → Option Value) : Prop where
  cls : Cls hT C mN
  makes : ∀ h : Heap, (∀ a o, hT.get? a = some o → h.get? a = some o) → Makes (model PR w) h C
  ini : ∀ h : Heap, (∀ a o, hT.get? a = some o → h.get? a = some o) → Looks (model PR w) h (typeLookup (.ref C) "__init__") (some (.ref aI))
  bnd : ∀ h : Heap, (∀ a o, hT.get? a = some o → h.get? a = some o) → ∀ self, Looks (model PR w) h (bindSpecial (.ref aI) self) (.ref aI, [self])
  fn : FnAt hT aI (stC 1) "__init__" "Whitespace.__init__"
  glob : mg "Whitespace" = some (.ref C)
  S : ∃ t, CA w hT C "S" (.str ⟨#[32]⟩ t)
  T : ∃ t, CA w hT C "T" (.str ⟨#[9]⟩ t)
  names : ∀ k ∈ wsKs, mN k = none
theorem obj_raw : typeLookup (.type "object") "raw" = pure none := by rw [typeLookup_type, builtinLookup_eq_fast]; kernel_rfl
theorem obj_n : typeLookup (.type "object") "n" = pure none := by rw [typeLookup_type, builtinLookup_eq_fast]; kernel_rfl
theorem obj_nt : typeLookup (.type "object") "nt" = pure none := by rw [typeLookup_type, builtinLookup_eq_fast]; kernel_rfl
theorem obj_norm : typeLookup (.type "object") "norm" = pure none := by rw [typeLookup_type, builtinLookup_eq_fast]; kernel_rfl
theorem obj_simple : typeLookup (.type "object") "is_simple" = pure none := by rw [typeLookup_type, builtinLookup_eq_fast]; kernel_rfl

noncomputable def sI (X : Addr) (x : Str) (s : WS) : Sig := [("self", .val (.at X .any)), ("count", .own (s.cnt.map .int)), ("b", .val (.int s.b)), ("n", .val (.int s.n)), ("nt", .val (.int s.nt))]

theorem ne2 {f : Addr → Option Obj} {a b : Addr} {o : Obj} (e : f a = some o) (q : f b = none) : a ≠ b := by
  rintro rfl
  exact twoF e q
section
variable {hT : Heap} {E : Env} {W : Str → Bool} {σ : Sig} {m : Str → Option Value} {F H : Fz} {h : Heap} {X D C : Addr} {mA : Str → Option Value}
theorem OI.loc {y : Str} (O : OI F H E h X D C mA) (k : E.kindOf y = some .local ∨ (E.kindOf y = some .cell ∧ (List.lookup y E.cells).isSome = true)) : locOf E y ≠ X ∧ locOf E y ≠ D := by
  unfold locOf
  rcases k with hl | ⟨hc, hs⟩
  · rw [if_neg (by rw [hl]; decide)]; exact O.lo
  · obtain ⟨c', hc'⟩ := Option.isSome_iff_exists.mp hs
    rw [if_pos hc, hc']; exact O.ce y c' hc'
/-- the object and its names written down -/
noncomputable def put2 (F : Fz) (X : Addr) (o : Obj) (D : Addr) (o' : Obj) : Fz := (F.put X o).put D o'
theorem put2_at {o o' : Obj} {a : Addr} (h1 : a ≠ X) (h2 : a ≠ D) : put2 F X o D o' a = F a := by unfold put2 Fz.put; rw [if_neg h2, if_neg h1]
theorem put2_d {o o' : Obj} : put2 F X o D o' D = some o' := if_pos rfl
theorem put2_x {o o' : Obj} (hne : D ≠ X) : put2 F X o D o' X = some o := by unfold put2 Fz.put; rw [if_neg (Ne.symm hne), if_pos rfl]
theorem put2_le {o o' : Obj} (hx : F X = none) (hd : F D = none) (a : Addr) (ob : Obj) (e : F a = some ob) : put2 F X o D o' a = some ob :=
  (put2_at (ne2 e hx) (ne2 e hd)).trans e
theorem put2_inn {o o' : Obj} (hX : h.get? X = some o) (hD : h.get? D = some o') (i : ∀ a ob, F a = some ob → h.get? a = some ob) (a : Addr) (ob : Obj) (e : put2 F X o D o' a = some ob) : h.get? a = some ob := by
  unfold put2 Fz.put at e
  by_cases c1 : a = D
  · rw [if_pos c1] at e; cases e; rw [c1]; exact hD
  · rw [if_neg c1] at e
    by_cases c2 : a = X
    · rw [if_pos c2] at e; cases e; rw [c2]; exact hX
    · rw [if_neg c2] at e; exact i _ _ e
/-- neither the object nor its names -/
noncomputable def cut2 (F : Fz) (X D : Addr) : Fz := fun a => if a = X then none else if a = D then none else F a
theorem cut2_at {a : Addr} (h1 : a ≠ X) (h2 : a ≠ D) : cut2 F X D a = F a := by unfold cut2; rw [if_neg h1, if_neg h2]
theorem cut2_x : cut2 F X D X = none := if_pos rfl
theorem cut2_d (hne : D ≠ X) : cut2 F X D D = none := by unfold cut2; rw [if_neg hne, if_pos rfl]
theorem cut2_le (a : Addr) (o : Obj) (e : cut2 F X D a = some o) : F a = some o := by
  unfold cut2 at e
  by_cases c1 : a = X
  · rw [if_pos c1] at e; cases e
  · rw [if_neg c1] at e
    by_cases c2 : a = D
    · rw [if_pos c2] at e; cases e
    · rw [if_neg c2] at e; exact e
theorem sig1 {c c' : Cell} {y : Str} (e : List.lookup y [(("self" : Str), c)] = some c') : y = "self" ∧ c = c' := by
  rw [List.lookup_cons] at e
  by_cases hy : y = "self"
  · rw [hy, beq_self_eq_true] at e; cases e; exact ⟨hy, rfl⟩
  · rw [beq_eq_false_iff_ne.mpr hy] at e; cases e
/-- the new object with its first attribute, as a value of its own -/
theorem inst_raw {x : Str} {v0 : Value} (S : St hT E W σ m F h) (P : Prot E W σ m H h) (O : OI F H E h X D C (fun z => if z = "raw" then some v0 else none)) (hs : List.lookup ("self" : Str) σ = some (.val (.at X .any))) (r : Rep F (.str x) v0) :
    ∃ od, h.get? D = some od ∧ St hT E W [("self", .val (.at X (.inst C ["raw"] [.str x])))] m (put2 F X (instObj C D) D od) h ∧ Prot E W [("self", .val (.at X (.inst C ["raw"] [.str x])))] m H h := by
  obtain ⟨od, es, ep, hd, hdd, hsk, huq, hfd⟩ := id O.ns
  have le := put2_le (o := instObj C D) (o' := od) O.fx O.fd
  refine ⟨od, hd, ⟨fun a o e => le _ _ (S.base a o e), put2_inn O.obj hd S.inn, S.vars, S.kind, fun y hy => (put2_at (O.loc (S.kind y hy)).1 (O.loc (S.kind y hy)).2).trans (S.free y hy), fun y c e => ?_, fun y z ys zs a e => nomatch (sig1 e).2⟩, ⟨P.inn, P.free, fun y ys a e => nomatch (sig1 e).2⟩⟩
  obtain ⟨rfl, rfl⟩ := sig1 e
  obtain ⟨u, hu, ru⟩ := S.loc "self" _ hs
  have ru : Rep F (.at X .any) u := ru
  unfold Rep at ru
  obtain ⟨rfl, _⟩ := ru
  refine ⟨_, hu, ?_⟩
  show Rep _ _ _
  unfold Rep
  refine ⟨rfl, ?_⟩
  unfold Rep
  refine ⟨X, D, od, es, ep, [v0], rfl, put2_x O.ne, O.ne, put2_d, hdd, hsk, huq, fun z => ?_, RepL.cons (r.mono le) RepL.nil⟩
  rw [hfd, List.zip_cons_cons, List.lookup_cons]
  by_cases hz : z = "raw"
  · rw [hz, beq_self_eq_true]; exact if_pos rfl
  · rw [beq_eq_false_iff_ne.mpr hz]; exact if_neg hz
/-- once all five attributes stand -/
theorem make_fin {x : Str} {F0 F' : Fz} {hh : Heap} {v0 v1 v2 v3 v4 : Value} (hmA : mA = fun (z : Str) => if z = "is_simple" then some v4 else if z = "norm" then some v3 else if z = "nt" then some v2 else if z = "n" then some v1 else if z = "raw" then some v0 else none)
    (O : OI F' hh.get? E h X D C mA) (inn : ∀ a o, F' a = some o → h.get? a = some o) (old : ∀ a o, hh.get? a = some o → F' a = F0 a) (I : ∀ a o, F0 a = some o → hh.get? a = some o)
    (r : RepL F' [.str x, .int (wsOf x).n, .int (wsOf x).nt, .tup [.tup ((wsOf x).cnt.map .int), .int (wsOf x).b], .bool (decide (((wsOf x).cnt.length : Int) ≤ 1))] [v0, v1, v2, v3, v4]) :
    ∃ FZ, Ext F0 hh FZ h ∧ Rep FZ (wsAV C x) (.ref X) := by
  obtain ⟨od, es, ep, hd, hdd, hsk, huq, hfd⟩ := id O.ns
  have old' : ∀ a o, hh.get? a = some o → put2 F' X (instObj C D) D od a = F0 a := fun a o e => (put2_at (ne2 e O.hx) (ne2 e O.hd)).trans (old a o e)
  refine ⟨put2 F' X (instObj C D) D od, ⟨fun a o e => (old' a o (I _ _ e)).trans e, old', put2_inn O.obj hd inn⟩, ?_⟩
  unfold wsAV Rep
  refine ⟨X, D, od, es, ep, _, rfl, put2_x O.ne, O.ne, put2_d, hdd, hsk, huq, fun z => ?_, r.mono (put2_le O.fx O.fd)⟩
  rw [hfd, hmA]
  unfold wsKs
  simp only [List.zip_cons_cons, List.lookup_cons]
  by_cases h1 : z = "raw"
  · subst h1; rfl
  · rw [beq_eq_false_iff_ne.mpr h1]
    by_cases h2 : z = "n"
    · subst h2; rfl
    · rw [beq_eq_false_iff_ne.mpr h2]
      by_cases h3 : z = "nt"
      · subst h3; rfl
      · rw [beq_eq_false_iff_ne.mpr h3]
        by_cases h4 : z = "norm"
        · subst h4; rfl
        · rw [beq_eq_false_iff_ne.mpr h4]
          by_cases h5 : z = "is_simple"
          · subst h5; rfl
          · rw [beq_eq_false_iff_ne.mpr h5, if_neg h5, if_neg h4, if_neg h3, if_neg h2, if_neg h1]; rfl
theorem thin_sI {x : Str} {y : Str} {c : Cell} (e : (sI X x (wsOf x)).lookup y = some c) : thin c = true := by
  have hm := mem_of_lookup e
  unfold sI at hm
  simp only [List.mem_cons, List.not_mem_nil, or_false] at hm
  rcases hm with hm | hm | hm | hm | hm <;> (injection hm with _ hm; rw [hm]; first | rfl | (show List.all _ _ = true; rw [List.all_map]; exact List.all_eq_true.mpr fun _ _ => rfl))
theorem sI_sW {x y : Str} {c : Cell} (hy : y ≠ ("self" : Str)) (e : (sI X x (wsOf x)).lookup y = some c) : (sW (C := C) X x (wsOf x)).lookup y = some c := by
  unfold sI at e
  unfold sW
  rw [List.lookup_cons, beq_eq_false_iff_ne.mpr hy] at e ⊢
  dsimp only at e ⊢
  rw [List.lookup_cons]
  by_cases h1 : y = "S"
  · subst h1; cases e
  · rw [beq_eq_false_iff_ne.mpr h1]
    dsimp only
    rw [List.lookup_cons]
    by_cases h2 : y = "T"
    · subst h2; cases e
    · rw [beq_eq_false_iff_ne.mpr h2]; exact e
theorem sI_own {x y : Str} {ys : List AV} (e : (sI X x (wsOf x)).lookup y = some (.own ys)) : (sW (C := C) X x (wsOf x)).lookup y = some (.own ys) := sI_sW (fun c => by subst c; cases e) e
/-- the object behind the loop is again one that is being made -/
theorem back_any {x : Str} (S : St hT E W (sW (C := C) X x (wsOf x)) m F h) (P : Prot E W (sW (C := C) X x (wsOf x)) m H h) (B : ∀ a o, hT.get? a = some o → a ≠ X ∧ a ≠ D) :
    St hT E W (sI X x (wsOf x)) m (cut2 F X D) h ∧ Prot E W (sI X x (wsOf x)) m H h := by
  have S' : St hT E W (sI X x (wsOf x)) m F h := by
    refine ⟨S.base, S.inn, S.vars, S.kind, S.free, fun y c e => ?_, fun y z ys zs a e1 e2 => S.sep y z ys zs a (sI_own e1) (sI_own e2)⟩
    by_cases hy : y = "self"
    · subst hy
      obtain ⟨u, hu, ru⟩ := S.loc "self" _ rfl
      cases e
      have ru : Rep F (.at X (.inst C ["raw"] [.str x])) u := ru
      unfold Rep at ru
      exact ⟨u, hu, by show Rep _ _ _; unfold Rep; exact ⟨ru.1, by unfold Rep; trivial⟩⟩
    · exact S.loc y c (sI_sW hy e)
  exact ⟨S'.thaw cut2_le (fun a o e => (cut2_at (B a o e).1 (B a o e).2).trans (S.base a o e)) fun y c e v r => thin_rep cut2_le (thin_sI e) r, ⟨P.inn, P.free, fun y ys a e1 e2 => P.own y ys a (sI_own e1) e2⟩⟩
end
section
variable {w : World} {hT : Heap} {d : Nat} {K : Frag} {mg mb : Str → Option Value} {C aI : Addr} {mN : Str → Option Value}
set_option maxHeartbeats 8000000 in
theorem fn_make {x : Str} (T : Tp hT K mg mb) (M : Mk w hT mg C aI mN) (hlen : mg "len" = none) (htup : mg "tuple" = none) (hx : x.length ≤ 2000) : Fn PR w hT (d + 2) (.ref C) [.str x] (wsAV C x) := fun A F s vs ok B I rl => by
  unfold RepL at rl; obtain ⟨v, r, rfl, rv, rl⟩ := rl
  unfold RepL at rl; subst rl
  obtain ⟨doc, pm, an, cd, ct, oc, od, osl, ho, hcd⟩ := id M.fn
  have kT : ∀ a o, hT.get? a = some o → s.heap.get? a = some o := fun a o e => I _ _ (B a o e)
  obtain ⟨tS, hS⟩ := M.S
  obtain ⟨tT, hTT⟩ := M.T
  generalize hs : s.heap = h0
  obtain ⟨hh, g, dr, t, os⟩ := s
  dsimp only at hs kT I
  subst hs
  refine wpAny_call (make_core (M.makes _ kT) (M.ini _ kT) (M.bnd _ kT) (.inl rfl) ?_)
  have kp : ∀ b o, hh.get? b = some o → ((hh.push emptyDict).push (instObj C hh.objs.size)).get? b = some o := fun b o e => Heap.get?_push_of_some _ (Heap.get?_push_of_some _ e)
  have hX : ((hh.push emptyDict).push (instObj C hh.objs.size)).get? (hh.objs.size + 1) = some (instObj C hh.objs.size) := by heap_get
  have hD : ((hh.push emptyDict).push (instObj C hh.objs.size)).get? hh.objs.size = some emptyDict := Heap.get?_push_of_some _ (Heap.get?_push_size _ rfl)
  have nX : hh.get? (hh.objs.size + 1) = none := by
    cases q : hh.get? (hh.objs.size + 1) with
    | none => rfl
    | some o => exact absurd (Heap.lt_size q) (Nat.not_lt.mpr (Nat.le_succ _))
  have nD : hh.get? hh.objs.size = none := fresh_size _
  generalize hXe : hh.objs.size + 1 = X at hX nX ⊢
  generalize hDe : hh.objs.size = D at hD nD hX kp ⊢
  have hne : D ≠ X := by rw [← hXe, hDe]; exact Nat.ne_of_lt (Nat.lt_succ_self _)
  have fX : F X = none := by
    cases q : F X with
    | none => rfl
    | some o => rw [I _ _ q] at nX; cases nX
  have fD : F D = none := by
    cases q : F D with
    | none => rfl
    | some o => rw [I _ _ q] at nD; cases nD
  have okU : OkA (d + 1) (A.under (.builtin "type.__call__" ⟨[.ref C, v], []⟩)) := by
    have hwt : (Code.builtin "type.__call__" ⟨[.ref C, v], []⟩).weight = 1 := by with_unfolding_all rfl
    have hcu : (Code.builtin "type.__call__" ⟨[.ref C, v], []⟩).cUnits = 1 := by with_unfolding_all rfl
    exact ⟨ok.hh, by have := ok.depth; show A.depth + Code.weight _ + (d + 1) < _; rw [hwt]; omega, by have := ok.units; show A.units + Code.cUnits _ + 100 * (d + 1) + 50 < _; rw [hcu]; omega⟩
  refine enter (ps := ["self", "ws"]) (xs := [.at X .any, .str x]) (F := F) T ho rfl hcd rfl rfl (fun vs h => by obtain ⟨v, u, rfl⟩ := len2 h; rfl) (by decide) (fun p hp => .inl (by
    rcases List.mem_cons.mp hp with rfl | hp
    · rfl
    · rw [List.mem_singleton.mp hp]; rfl)) rfl okU B (fun a o e => kp _ _ (I a o e)) (RepL.cons (by unfold Rep; exact ⟨rfl, by unfold Rep; trivial⟩) (RepL.cons rv RepL.nil)) (fun L s₁ m S P kg ok2 keep fresh => ?_) rfl rfl rfl
  have P' := P.less (H' := hh.get?) kp
  have O : OI F hh.get? (callEnvC (fdN (stC 1) "__init__" "Whitespace.__init__" .none .none doc pm an cd ct) L aI) s₁.heap X D C (fun _ => none) :=
    ⟨keep _ _ hX, hne, Heap.Ns1.of_empty ⟨_, #[], _, keep _ _ hD, rfl, fun e he => absurd he (by simp), fun _ => rfl⟩, fX, fD, nX, nD, ⟨(fresh _ _ hX).1, (fresh _ _ hD).1⟩, fun y c hc => ⟨(fresh _ _ hX).2 y c hc, (fresh _ _ hD).2 y c hc⟩⟩
  with_unfolding_all refine wpAny_execs_cons (attr_store M.cls (M.names _ (by decide)) obj_raw rfl (ev_name (y := .str x) rfl) ok2 S P' O Within.nil (by decide) fun s2 F2 v0 S2 P2 O2 r2 le2 old2 kg2 => ?_)
  obtain ⟨od2, hd2, S3, P3⟩ := inst_raw S2 P2 O2 rfl r2
  have hcs : (x.cps.toList.length : Nat) ≤ 2000 := by rw [Array.length_toList]; exact hx
  refine raw1 (G := (· = _)) (st_unpackS rfl rfl (ev_tup (evl_cons (ev_clsattr (gl_top T M.glob) hS) (evl_cons (ev_clsattr (gl_top T M.glob) hTT) evl_nil))) ⟨rfl, rfl⟩) ok2 S3 P3 fun s4 σ4 m4 F4 e4 le4 old4 S4 P4 kg4 => ?_
  subst e4
  refine raw1 (G := (· = _)) (st_assignO rfl (evo_list evl_nil) ⟨rfl, rfl⟩) ok2 S4 P4 fun s5 σ5 m5 F5 e5 le5 old5 S5 P5 kg5 => ?_
  subst e5
  refine raw1 (G := (· = _)) (st_assign3 rfl rfl rfl ev_int ⟨rfl, rfl⟩) ok2 S5 P5 fun s6 σ6 m6 F6 e6 le6 old6 S6 P6 kg6 => ?_
  subst e6
  refine raw1 (G := fun σ' => Sub (sW (C := C) X x (wsOf x)) σ') (st_for (evI_str (ev_attr M.cls (ev_at (ev_name rfl)) rfl (M.names _ (by decide)) obj_raw)) (Loop.mono ((ws_loop T hlen x.cps.toList ⟨[], 0, 0, 0⟩ (by dsimp only [List.length_nil]; omega)).sub (sub_sW rfl rfl rfl rfl rfl rfl rfl) keepS) fun fl σ' h => h)) ok2 S6 P6 fun s7 σ7 m7 F7 u7 le7 old7 S7 P7 kg7 => ?_
  have oldF : ∀ a o, hh.get? a = some o → F7 a = F a := fun a o e =>
    (old7 a o e).trans ((old6 a o e).trans ((old5 a o e).trans ((old4 a o e).trans ((put2_at (ne2 (f := hh.get?) e nX) (ne2 (f := hh.get?) e nD)).trans (old2 a o e)))))
  obtain ⟨S8, P8⟩ := back_any (D := D) (S7.sub u7) (P7.sub u7) fun a o e => ⟨ne2 (f := hh.get?) (kT _ _ e) nX, ne2 (f := hh.get?) (kT _ _ e) nD⟩
  have inn7 : ∀ a o, put2 F2 X (instObj C D) D od2 a = some o → s7.heap.get? a = some o := fun a o e => S7.inn _ _ (le7 _ _ (le6 _ _ (le5 _ _ (le4 _ _ e))))
  have O8 : OI (cut2 F7 X D) hh.get? (callEnvC (fdN (stC 1) "__init__" "Whitespace.__init__" .none .none doc pm an cd ct) L aI) s7.heap X D C (fun z => if z = "raw" then some v0 else none) :=
    ⟨inn7 _ _ (put2_x hne), hne, (by obtain ⟨od, es, ep, q1, q2⟩ := id O2.ns; rw [hd2] at q1; cases q1; exact ⟨od2, es, ep, inn7 _ _ put2_d, q2⟩), cut2_x, cut2_d hne, nX, nD, O2.lo, O2.ce⟩
  have hcl := wsGo_le x.cps.toList ⟨[], 0, 0, 0⟩
  have hcl' : (wsOf x).cnt.length ≤ sizeLine := by
    have h1 : (wsOf x).cnt.length ≤ 2000 := by
      have := hcl.1; dsimp only [List.length_nil] at this; unfold wsOf; omega
    exact Nat.le_trans h1 (by decide)
  refine wpAny_execs_cons (attr_store M.cls (M.names _ (by decide)) obj_n rfl (ev_name (y := .int (wsOf x).n) rfl) ok2 S8 P8 O8 (Within.cons _ _ Within.nil) (by decide) fun s9 F9 v9 S9 P9 O9 r9 le9 old9 kg9 => ?_)
  refine wpAny_execs_cons (attr_store M.cls (M.names _ (by decide)) obj_nt rfl (ev_name (y := .int (wsOf x).nt) rfl) ok2 S9 P9 O9 (Within.cons _ _ (Within.cons _ _ Within.nil)) (by decide) fun s10 F10 v10 S10 P10 O10 r10 le10 old10 kg10 => ?_)
  refine wpAny_execs_cons (attr_store M.cls (M.names _ (by decide)) obj_norm rfl (ev_tup (xs := [.tup ((wsOf x).cnt.map .int), .int (wsOf x).b]) (evl_cons (ev_callL (gl_boot T htup (by decide +kernel)) kr_type (lv_own rfl) (fnl_tuple (by rw [List.length_map]; exact hcl'))) (evl_cons (ev_name rfl) evl_nil))) ok2 S10 P10 O10 (Within.cons _ _ (Within.cons _ _ (Within.cons _ _ Within.nil))) (by decide) fun s11 F11 v11 S11 P11 O11 r11 le11 old11 kg11 => ?_)
  refine wpAny_execs_cons (attr_store M.cls (M.names _ (by decide)) obj_simple rfl (ev_cmp (ev_callL (gl_boot T hlen (by decide +kernel)) kr_builtin (lv_own (xs := (wsOf x).cnt.map .int) rfl) (fnl_len (by rw [List.length_map]; exact hcl'))) ev_int op_leI) ok2 S11 P11 O11 (Within.cons _ _ (Within.cons _ _ (Within.cons _ _ (Within.cons _ _ Within.nil)))) (by decide) fun s12 F12 v12 S12 P12 O12 r12 le12 old12 kg12 => ?_)
  refine wpAny_execs_nil ⟨rfl, ?_⟩
  have kgA : KpG ⟨hh, g, dr, t, os⟩ s12 := (KpG.trans (s := ⟨hh, g, dr, t, os⟩) (s1 := ⟨(hh.push emptyDict).push (instObj C D), g, dr, t, os⟩) ⟨fun _ _ e => e, fun e => e, rfl⟩ kg).trans (kg2.trans (kg4.trans (kg5.trans (kg6.trans (kg7.trans (kg9.trans (kg10.trans (kg11.trans kg12))))))))
  rw [List.length_map] at r12
  have v0r : Rep F12 (.str x) v0 := by unfold Rep at r2 ⊢; exact r2
  exact ⟨⟨P12.inn, kgA.gens, kgA.bare, kgA.os⟩, make_fin rfl O12 S12.inn (fun a o e => (old12 a o e).trans ((old11 a o e).trans ((old10 a o e).trans ((old9 a o e).trans ((cut2_at (ne2 (f := hh.get?) e nX) (ne2 (f := hh.get?) e nD)).trans (oldF a o e)))))) I
    (RepL.cons v0r (RepL.cons (r9.mono fun a o e => le12 _ _ (le11 _ _ (le10 _ _ e))) (RepL.cons (r10.mono fun a o e => le12 _ _ (le11 _ _ e)) (RepL.cons (r11.mono le12) (RepL.cons r12 RepL.nil)))))⟩
end
end Mine
end
section
open PySem PySem.W PyProof.Rows Builtin.Str
set_option Elab.async false
namespace Mine
theorem bits_le {a : Int} (h : a.natAbs < 2 ^ 60) : Builtin.Int.intBits a ≤ 64 := by
  unfold Builtin.Int.intBits
  split
  · omega
  · rename_i h0
    have : a.natAbs.log2 < 60 := (Nat.log2_lt (by simpa using h0)).mpr h
    omega
theorem mulOkL {a b : Int} (h : a.natAbs < 2 ^ 60) : IntMulOk a b := IntMulOk.of_left (bits_le h)
theorem flats_ints : ∀ l : List Int, AV.flats (l.map .int) = true
  | [] => by simp [AV.flats]
  | x :: l => by simp [AV.flats, AV.flat, flats_ints l]
theorem dats_ints : ∀ l : List Int, AV.dats (l.map .int) = l.map PyData.int
  | [] => by simp [AV.dats]
  | x :: l => by simp [AV.dats, AV.dat, dats_ints l]
theorem depth_ints : ∀ l : List Int, PyData.depthAll (l.map PyData.int) = 0
  | [] => by simp [PyData.depthAll]
  | x :: l => by simp [PyData.depthAll, PyData.depth, depth_ints l]
theorem eqv_ints : ∀ l l' : List Int, PyData.eqvAll (l.map PyData.int) (l'.map PyData.int) = decide (l = l')
  | [], [] => by simp [PyData.eqvAll]
  | [], _ :: _ => by simp [PyData.eqvAll]
  | _ :: _, [] => by simp [PyData.eqvAll]
  | x :: l, y :: l' => by
    rw [List.map_cons, List.map_cons, PyData.eqvAll, eqv_ints l l', PyData.eqv]
    by_cases h : x = y
    · subst h; simp
    · simp [h]
section
variable {prog : Program} {w : World} {hT : Heap} {d : Nat} {env : Env} {W : Str → Bool} {σ : Sig} {K : Frag} {mg mb : Str → Option Value} {Q : AFlow → Sig → Prop}
theorem fn_lenT {xs : List AV} (hx : xs.length ≤ sizeLine) : Fn prog w hT d (.builtin "len") [.tup xs] (.int xs.length) := fun A F s vs ok B I rl => by
  unfold RepL at rl; obtain ⟨v, r, rfl, rv, rl⟩ := rl
  unfold RepL at rl; subst rl
  unfold Rep at rv; obtain ⟨a, vs, n, rfl, ha, rv⟩ := rv
  have hl : IsTup s.heap a vs.toArray := ⟨_, I _ _ ha, rfl, n, rfl⟩
  have : vs.toArray.size = xs.length := by rw [List.size_toArray, rv.length]
  refine len_tuple hl ?_ (fin0 (.refl s) (.refl I) (by unfold Rep; exact ⟨_, by rw [this]⟩))
  have h2 : xs.length ≤ 16777216 := hx
  rw [this]; omega
theorem op_eqInts {l l' : List Int} : Op2 prog w hT d (compareOp .Eq) (.lst (l.map .int)) (.lst (l'.map .int)) (.bool (decide (l = l'))) :=
  op_eqD (by simp [AV.flat, flats_ints]) (by simp [AV.flat, flats_ints]) (by simp [AV.dat, PyData.depth, dats_ints, depth_ints]) (by simp only [AV.dat, dats_ints, PyData.eqv, eqv_ints])
end
end Mine
end
section
open PySem PySem.W PySem.W.X PyProof.Rows Builtin.Str
set_option Elab.async false
set_option maxRecDepth 100000
namespace Mine
noncomputable def longF (s : WS) : Int := max ((s.cnt.length : Int) - 1) s.b
noncomputable def indSum (cnt : List Int) (ts : Int) (is : List Int) (z : Int) : Int := is.foldl (fun il i => il + i.fdiv ts * cnt.getD i.toNat 0) z
noncomputable def indF (s : WS) (ts : Int) : Int := s.b + ts * (indSum s.cnt ts (rangeL ts 1 (s.cnt.length - ts.toNat)) 0 + s.nt)
/-- an object of the class, by what it was made of -/
noncomputable def wsA (C : Addr) (x : Str) (s : WS) : AV := .inst C wsKs [.str x, .int s.n, .int s.nt, .tup [.tup (s.cnt.map .int), .int s.b], .bool (decide ((s.cnt.length : Int) ≤ 1))]
/-- a method of the class -/
structure Mt (hT : Heap) (mN : Str → Option Value) (k : Nat) (nm qn : Str) (f : Addr) : Prop where
  fn : FnAt hT f (stC k) nm qn
  ns : mN nm = some (.ref f)
  cls : ∃ of, hT.get? f = some of ∧ of.cls = .type "function"
section
variable {w : World} {hT : Heap} {d : Nat} {K : Frag} {mg mb : Str → Option Value} {C aI : Addr} {mN : Str → Option Value}
theorem eqv_norm (s s' : WS) : PyData.eqv (AV.tup [.tup (s.cnt.map .int), .int s.b]).dat (AV.tup [.tup (s'.cnt.map .int), .int s'.b]).dat = decide (s.cnt = s'.cnt ∧ s.b = s'.b) := by
  simp only [AV.dat, AV.dats, dats_ints, PyData.eqv, PyData.eqvAll, eqv_ints, Bool.and_true]
  by_cases h : s.cnt = s'.cnt
  · by_cases h2 : s.b = s'.b
    · simp [h, h2]
    · have : ¬ (s.b : Int) = (s'.b : Int) := by omega
      simp [h, h2, this]
  · simp [h]

theorem fn_long {a : Addr} {x : Str} {s : WS} (T : Tp hT K mg mb) (hC : Cls hT C mN) (M : ∀ k ∈ wsKs, mN k = none) (hf : FnAt hT a (stC 2) "longest_run_of_spaces" "Whitespace.longest_run_of_spaces") (hlen : mg "len" = none) (hmax : mg "max" = none) (hs : s.cnt.length ≤ sizeLine) :
    Fn PR w hT (d + 1) (.ref a) [wsA C x s] (.int (longF s)) := by
  obtain ⟨doc, pm, an, cd, ct, oc, od, osl, ho, hcd⟩ := id hf
  refine fn_body (ps := ["self"]) T ho rfl hcd rfl rfl (fun vs h => by obtain ⟨v, rfl⟩ := len1 h; rfl) (by decide) (fun p hp => .inl (by rw [List.mem_singleton.mp hp]; rfl)) rfl (fun L => ?_) rfl rfl rfl
  with_unfolding_all refine ex_cons (st_unpack rfl rfl (ev_attr (ks := wsKs) hC (ev_name rfl) rfl (M _ (by decide)) obj_norm) ?_)
  refine ex_cons (st_return (ev_call (gl_boot T hmax (by decide +kernel)) kr_builtin (evl_cons (ev_binop (ev_call (gl_boot T hlen (by decide +kernel)) kr_builtin (evl_cons (ev_name rfl) evl_nil) (fn_lenT (by rw [List.length_map]; exact hs))) ev_int op_sub) (evl_cons (ev_name rfl) evl_nil)) fn_max2) (.inl ?_))
  rw [List.length_map]
  rfl

set_option maxHeartbeats 4000000 in
theorem fn_ind {a : Addr} {x : Str} {s : WS} {ts : Int} (T : Tp hT K mg mb) (hC : Cls hT C mN) (M : ∀ k ∈ wsKs, mN k = none) (hf : FnAt hT a (stC 3) "indent_level" "Whitespace.indent_level") (hlen : mg "len" = none) (hrg : mg "range" = none) (hs : s.cnt.length ≤ 4000) (h1 : 1 ≤ ts) (h2 : ts ≤ 5000) :
    Fn PR w hT (d + 1) (.ref a) [wsA C x s, .int ts] (.int (indF s ts)) := by
  obtain ⟨doc, pm, an, cd, ct, oc, od, osl, ho, hcd⟩ := id hf
  have hsl : s.cnt.length ≤ sizeLine := Nat.le_trans hs (by decide)
  refine fn_body (ps := ["self", "tabsize"]) T ho rfl hcd rfl rfl (fun vs h => by obtain ⟨v, u, rfl⟩ := len2 h; rfl) (by decide) (fun p hp => .inl (by
    rcases List.mem_cons.mp hp with rfl | hp
    · rfl
    · rw [List.mem_singleton.mp hp]; rfl)) rfl (fun L => ?_) rfl rfl rfl
  with_unfolding_all refine ex_cons (st_unpack rfl rfl (ev_attr (ks := wsKs) hC (ev_name rfl) rfl (M _ (by decide)) obj_norm) ?_)
  refine ex_cons (st_assign rfl ev_int ?_)
  have hn : Builtin.Range.rangeSize ts ((s.cnt.map AV.int).length : Nat) 1 = ((s.cnt.length - ts.toNat : Nat) : Int) := by
    rw [rangeSize_one, List.length_map]
    split <;> omega
  have hsm : Builtin.Range.small ts ((s.cnt.map AV.int).length : Nat) 1 = true := by
    rw [List.length_map]
    exact small_r (by omega)
  refine ex_cons (st_for (evI_range (ev_call (gl_boot T hrg (by decide +kernel)) kr_type (evl_cons (ev_name rfl) (evl_cons (ev_call (gl_boot T hlen (by decide +kernel)) kr_builtin (evl_cons (ev_name rfl) evl_nil) (fn_lenT (by rw [List.length_map]; exact hsl))) evl_nil)) fn_range2) hsm _ hn) ?_)
  have hmem : ∀ i ∈ rangeL ts 1 (s.cnt.length - ts.toNat), 0 ≤ i ∧ i < s.cnt.length := fun i hi => by
    unfold rangeL at hi
    obtain ⟨k, hk, rfl⟩ := List.mem_map.mp hi
    have := List.mem_range.mp hk
    omega
  let τ (z : Int) : Sig := [("self", .val (wsA C x s)), ("tabsize", .val (.int ts)), ("count", .val (.tup (s.cnt.map .int))), ("trailing", .val (.int s.b)), ("il", .val (.int z))]
  have key : ∀ (is : List Int) (z : Int), (∀ i ∈ is, 0 ≤ i ∧ i < s.cnt.length) → Loop PR w hT d (callEnvC (fdN (stC 3) "indent_level" "Whitespace.indent_level" .none .none doc pm an cd ct) L a) (Wof (scopeOf (stC 3))) (forTg (nth (bodyOf (stC 3)) 2)) (forBody (nth (bodyOf (stC 3)) 2)) (is.map .int) (τ z)
      (fun fl σ' => fl = .next ∧ Sub (τ (indSum s.cnt ts is z)) σ') := by
    intro is
    induction is with
    | nil => intro z _; exact ⟨rfl, Sub.refl _⟩
    | cons i is ih =>
      intro z hi
      obtain ⟨hi1, hi2⟩ := hi i (.head _)
      rw [List.map_cons]
      refine loop_cons (BindT.name rfl) ?_
      have hget : (s.cnt.map AV.int)[i.toNat]? = some (.int (s.cnt.getD i.toNat 0)) := by
        have : i.toNat < s.cnt.length := by omega
        simp [List.getD, this]
      have hdv : (i.fdiv ts).natAbs < 2 ^ 60 := by
        rw [Int.fdiv_eq_ediv_of_nonneg _ (by omega)]
        have h3 : 0 ≤ i / ts := Int.ediv_nonneg hi1 (by omega)
        have h4 : i / ts ≤ i := Int.ediv_le_self _ hi1
        omega
      with_unfolding_all refine ex_cons (st_assign rfl (ev_binop (ev_name rfl) (ev_binop (ev_binop (ev_name rfl) (ev_name rfl) (op_div (by omega) (PyProof.noPylong_small (by omega)))) (ev_itemT (y := .int (s.cnt.getD i.toNat 0)) (ev_name rfl) (ev_name rfl) hi1 (by omega) hget) (op_mul (mulOkL hdv))) op_add) ?_)
      refine ex_nil ?_
      refine (ih (z + i.fdiv ts * s.cnt.getD i.toNat 0) fun j hj => hi j (.tail _ hj)).sub (sub_of (all_cons rfl (all_cons rfl (all_cons rfl (all_cons rfl (all_cons rfl all_nil)))))) keepS
  refine Loop.mono ((key _ 0 hmem).sub (sub_of (all_cons rfl (all_cons rfl (all_cons rfl (all_cons rfl (all_cons rfl all_nil)))))) keepS) ?_
  rintro fl σ' ⟨rfl, u⟩
  refine Ex.sub ?_ u
  refine ex_cons (st_return (ev_binop (ev_name rfl) (ev_binop (ev_name rfl) (ev_binop (ev_name rfl) (ev_attr (ks := wsKs) hC (ev_name rfl) rfl (M _ (by decide)) obj_nt) op_add) (op_mul (mulOkL (by omega)))) op_add) (.inl rfl))

end
end Mine
end
section
open PySem PySem.W PySem.W.X PyProof.Rows Builtin.Str
set_option Elab.async false
set_option maxRecDepth 100000
namespace Mine
theorem obj_long : typeLookup (.type "object") "longest_run_of_spaces" = pure none := by rw [typeLookup_type, builtinLookup_eq_fast]; kernel_rfl
theorem obj_ind : typeLookup (.type "object") "indent_level" = pure none := by rw [typeLookup_type, builtinLookup_eq_fast]; kernel_rfl
theorem obj_equal : typeLookup (.type "object") "equal" = pure none := by rw [typeLookup_type, builtinLookup_eq_fast]; kernel_rfl
theorem obj_less : typeLookup (.type "object") "less" = pure none := by rw [typeLookup_type, builtinLookup_eq_fast]; kernel_rfl
noncomputable def simpleW (s : WS) : Bool := decide ((s.cnt.length : Int) ≤ 1)
noncomputable def sizesW (s s' : WS) : List Int := rangeL 2 1 ((max (longF s) (longF s') + 1 + 1).toNat - 2)
noncomputable def lessF (s s' : WS) : Bool := if (s.n : Int) ≥ s'.n then false else if simpleW s && simpleW s' then decide ((s.nt : Int) ≤ s'.nt) else (sizesW s s').all fun ts => decide (¬ indF s ts ≥ indF s' ts)
/-- the methods that read alone -/
structure Ms (hT : Heap) (mN : Str → Option Value) (aL aN : Addr) : Prop where
  long : Mt hT mN 2 "longest_run_of_spaces" "Whitespace.longest_run_of_spaces" aL
  ind : Mt hT mN 3 "indent_level" "Whitespace.indent_level" aN
section
variable {w : World} {hT : Heap} {d : Nat} {K : Frag} {mg mb : Str → Option Value} {C aI aL aN : Addr} {mN : Str → Option Value}
theorem long_le {s : WS} (h1 : s.cnt.length ≤ 4000) (h2 : s.b ≤ 4000) : -1 ≤ longF s ∧ longF s ≤ 4000 := by unfold longF; omega
theorem top_bd {s s' : WS} (hs : s.cnt.length ≤ 4000) (hs' : s'.cnt.length ≤ 4000) (hb : s.b ≤ 4000) (hb' : s'.b ≤ 4000) : 0 ≤ max (longF s) (longF s') + 1 ∧ max (longF s) (longF s') + 1 ≤ 4001 :=
  ⟨Int.add_le_add_right (Int.le_trans (long_le hs hb).1 (Int.le_max_left _ _)) 1, Int.add_le_add_right (Int.max_le.mpr ⟨(long_le hs hb).2, (long_le hs' hb').2⟩) 1⟩
theorem rng_bd {m : Int} (h : m ≤ 4001) : (∀ i ∈ rangeL 1 1 m.toNat, 1 ≤ i ∧ i ≤ 5000) ∧ (∀ i ∈ rangeL 2 1 ((m + 1).toNat - 2), 1 ≤ i ∧ i ≤ 5000) ∧ (rangeL 1 1 m.toNat).length ≤ 5000 := by
  have hm : m.toNat ≤ 4001 := Int.toNat_le.mpr h
  have hm' : (m + 1).toNat - 2 ≤ 4002 := Nat.le_trans (Nat.sub_le _ _) (Int.toNat_le.mpr (Int.add_le_add_right h 1))
  generalize m.toNat = n at hm
  generalize (m + 1).toNat - 2 = n' at hm'
  clear h
  have key : ∀ (a : Int) (n : Nat), 1 ≤ a ∧ a ≤ 2 → n ≤ 4002 → ∀ i ∈ rangeL a 1 n, 1 ≤ i ∧ i ≤ 5000 := fun a n ha hn i hi => by
    unfold rangeL at hi
    obtain ⟨k, hk, rfl⟩ := List.mem_map.mp hi
    have hk := Nat.lt_of_lt_of_le (List.mem_range.mp hk) hn
    clear hi hn
    omega
  refine ⟨key 1 n (by decide) (Nat.le_succ_of_le hm), key 2 n' (by decide) hm', ?_⟩
  unfold rangeL
  rw [List.length_map, List.length_range]
  exact Nat.le_trans hm (by decide)
theorem top_sm {m : Int} (h : 0 ≤ m ∧ m ≤ 4001) : 0 ≤ m + 1 ∧ m + 1 ≤ 100000 := ⟨Int.add_nonneg h.1 (by decide), Int.le_trans (Int.add_le_add_right h.2 1) (by decide)⟩
theorem top_rs {m : Int} (h : 0 ≤ m) : Builtin.Range.rangeSize 1 (m + 1) 1 = ((m.toNat : Nat) : Int) := rsz (by rw [Int.toNat_of_nonneg h, Int.add_comm])
theorem top_rs2 (m : Int) : Builtin.Range.rangeSize 2 m 1 = ((m.toNat - 2 : Nat) : Int) := by
  rw [rangeSize_one]
  split <;> omega
end
end Mine
end
section
open PySem PySem.W PyProof.Rows
set_option Elab.async false
namespace Mine
end Mine
end
section
open PySem PySem.W PyProof.Rows
set_option Elab.async false
namespace Mine
section
variable {prog : Program} {w : World} {A : Around} {R : Result → Shared → Prop} {s : Shared}
theorem codeAny_comp {elt target iter : Expr} {ifs : List Expr} {scope : Scope} {pos : Pos} {it acc : Value} {env : Env} (I : Nat → Shared → Prop)
    (turn : ∀ n s, I n s → wpAny (model prog w) A (pyNext it) (fun r s₁ => match r with
      | none => R (.ok .next) s₁
      | some v => wpAny (model prog w) A (letOwnedTupleGo target it v) (fun _ s' => wpAny (model prog w) A (assign target env v) (fun _ s₂ =>
          wpAny (model prog w) A (forIn ifs true fun c r => if r = true then do let ok ← isTrue c env (eval c env); pure (ForInStep.yield ok) else pure (ForInStep.yield r)) (fun ok s₃ =>
            if ok = true then wpAny (model prog w) A (eval elt env) (fun x s₄ =>
              wpAny (model prog w) A (call (.builtin "list.append") [acc, x]) (fun _ s₅ => ∃ m, m < n ∧ I m s₅) (fun _ _ => False) s₄) (fun _ _ => False) s₃
            else ∃ m, m < n ∧ I m s₃) (fun _ _ => False) s₂) (fun _ _ => False) s') (fun _ _ => False) s₁) (fun _ _ => False) s)
    (n : Nat) (h : I n s) : codeAny (model prog w) A (.compLoop (.ListComp elt [⟨target, iter, ifs, 0⟩] scope pos) 0 it acc env) R s := by
  refine codeAny_loop rfl I (fun n s hI => ?_) n h
  show wpAny _ A ((compTurn (.ListComp elt [⟨target, iter, ifs, 0⟩] scope pos) 0 it acc env).onRaise (fun x => do noteFrame x env; theTreesLotGoes x)) _ _ s
  refine wpAny_noted ?_
  rw [compTurn_list]
  refine wpAny_bind (wpAny_standAt (wpAny_bind (wpAny_mono (turn n s hI) (fun r s₁ h₁ => ?_) fun _ _ h' => h'.elim)))
  cases r with
  | none => exact wpAny_pure h₁
  | some v =>
    refine wpAny_bind (wpAny_mono h₁ (fun _ s' h' => ?_) fun _ _ h' => h'.elim)
    refine wpAny_bind (wpAny_mono h' (fun _ s₂ h₂ => wpAny_bind (wpAny_mono h₂ (fun ok s₃ h₃ => ?_) fun _ _ h' => h'.elim)) fun _ _ h' => h'.elim)
    cases ok with
    | false => exact wpAny_pure ⟨rfl, h₃⟩
    | true =>
      exact wpAny_bind (wpAny_bind (wpAny_mono h₃ (fun x s₄ h₄ => wpAny_bind (wpAny_mono h₄ (fun _ s₅ h₅ => wpAny_pure (wpAny_pure ⟨rfl, h₅⟩)) fun _ _ h' => h'.elim)) fun _ _ h' => h'.elim))
end
section
variable (prog : Program) (w : World) (hT : Heap) (d : Nat) (env : Env) (W : Str → Bool) (D : Addr) (ifs : List Expr) (elt : Expr)
noncomputable def PostB (hT : Heap) (env : Env) (W : Str → Bool) (m : Str → Option Value) (H F : Fz) (s : Shared) (Q : Sig → Prop) (s' : Shared) : Prop :=
  ∃ σ' F', Q σ' ∧ (∀ a o, F a = some o → F' a = some o) ∧ (∀ a o, H a = some o → F' a = F a) ∧ St hT env W σ' m F' s'.heap ∧ Prot env W σ' m H s'.heap ∧ KpG s s'
/-- the inside of a comprehension -/
noncomputable def ExB (σ : Sig) (Q : Sig → Prop) : Prop := ∀ (A : Around) (H : Fz) (m : Str → Option Value) (F : Fz) (s : Shared), OkA d A → m ".acc" = some (.ref D) → St hT env W σ m F s.heap → Prot env W σ m H s.heap →
  wpAny (model prog w) A (forIn ifs true fun c r => if r = true then do let ok ← isTrue c env (eval c env); pure (ForInStep.yield ok) else pure (ForInStep.yield r)) (fun ok s₃ =>
    if ok = true then wpAny (model prog w) A (eval elt env) (fun x s₄ =>
      wpAny (model prog w) A (call (.builtin "list.append") [.ref D, x]) (fun _ s₅ => PostB hT env W m H F s Q s₅) (fun _ _ => False) s₄) (fun _ _ => False) s₃
    else PostB hT env W m H F s Q s₃) (fun _ _ => False) s
noncomputable def CLoop (tg : Expr) : List AV → Sig → (Sig → Prop) → Prop
  | [], σ, Q => Q σ
  | x :: xs, σ, Q => ∃ σ1, BindT W σ tg x σ1 ∧ ExB prog w hT d env W D ifs elt σ1 fun σ2 => CLoop tg xs σ2 Q
end
section
variable {prog : Program} {w : World} {hT : Heap} {d : Nat} {env : Env} {W : Str → Bool}
theorem comp_loop {tg elt iter : Expr} {ifs : List Expr} {scope : Scope} {pos : Pos} {it : Value} {D : Addr} (hk : env.scope.kind = .function) {A : Around} {H F₀ Fi : Fz} {s₀ : Shared} (ok : OkA d A) {xs : List AV} {σ : Sig} {m : Str → Option Value} {F fp : Fz} {gp : Nat → Option GenState} {s : Shared} {R : Result → Shared → Prop} {Q : Sig → Prop}
    (hl : CLoop prog w hT d env W D ifs elt tg xs σ Q) (I : LI prog w hT d env W tg it H F₀ s₀ Fi xs σ m F fp gp s)
    (hW : W ".acc" = false) (hm : m ".acc" = some (.ref D)) (hR : ∀ s' σ' m' F', Q σ' → m' ".acc" = some (.ref D) → (∀ a o, F₀ a = some o → F' a = some o) → (∀ a o, H a = some o → F' a = F₀ a) → St hT env W σ' m' F' s'.heap → Prot env W σ' m' H s'.heap → KpG s₀ s' → R (.ok .next) s') :
    codeAny (model prog w) A (.compLoop (.ListComp elt [⟨tg, iter, ifs, 0⟩] scope pos) 0 it (.ref D) env) R s :=
  codeAny_comp (LInv prog w hT d env W tg it H F₀ s₀ Fi fun xs σ m => CLoop prog w hT d env W D ifs elt tg xs σ Q ∧ m ".acc" = some (.ref D)) (fun _ _ h => h.elim
    (fun σ m F _ _ hl I => I.fin ok fun s' S' P' k' => hR s' σ m F hl.1 hl.2 I.le I.hF S' P' k')
    fun _ xs _ _ _ _ _ hn hl I => hl.1.elim fun _ hb => I.turn ok (fun _ _ h => h) fun _ _ _ fp' gp' T => assign_Tm (d := d) hb.1 ok hk T.S T.P T.r fun s3 m3 hm3 S3 P3 k3 =>
      have hm3 : m3 ".acc" = some (.ref D) := (hm3 _ hW).trans hl.2
      have close : ∀ s4, PostB hT env W m3 (HU H fp') _ s3 (fun σ2 => CLoop prog w hT d env W D ifs elt tg xs σ2 Q) s4 → ∃ m, m < _ ∧ LInv prog w hT d env W tg it H F₀ s₀ Fi (fun xs σ m => CLoop prog w hT d env W D ifs elt tg xs σ Q ∧ m ".acc" = some (.ref D)) m s4 :=
        fun s4 h => h.elim fun σ4 h => h.elim fun F4 h => ⟨xs.length, hn, xs, σ4, m3, F4, fp', gp', rfl, ⟨h.1, hm3⟩, T.go h.2.1 h.2.2.1 h.2.2.2.1 h.2.2.2.2.1 (k3.trans h.2.2.2.2.2)⟩
      wpAny_mono (hb.2 A (HU H fp') m3 _ s3 ok hm3 S3 P3) (fun okb s4 => match okb with
        | false => fun z => close s4 z
        | true => fun z => wpAny_mono z (fun u s5 z5 => wpAny_mono z5 (fun _ s6 z6 => close s6 z6) fun _ _ x => x) fun _ _ x => x) fun _ _ x => x)
    xs.length ⟨xs, σ, m, F, fp, gp, rfl, ⟨hl, hm⟩, I⟩
end
end Mine
end
section
open PySem PySem.W PyProof.Rows
set_option Elab.async false
namespace Mine
theorem cellsFrom_append : ∀ (names : List (Str × NameKind)) (n : Nat) (acc : List (Str × Addr)), cellsFrom n names acc = cellsFrom n names [] ++ acc
  | [], _, _ => rfl
  | (x, k) :: r, n, acc => by
    unfold cellsFrom
    split
    · rw [cellsFrom_append r (n + 1) ((x, n) :: acc), cellsFrom_append r (n + 1) [(x, n)], List.append_assoc]; rfl
    · exact cellsFrom_append r n acc
theorem cellsFrom_mem : ∀ (names : List (Str × NameKind)) (n : Nat) (acc : List (Str × Addr)) {x : Str} {c : Addr}, (x, c) ∈ cellsFrom n names acc → (x, NameKind.cell) ∈ names ∨ (x, c) ∈ acc
  | [], _, _, _, _, h => .inr h
  | (y, k) :: r, n, acc, x, c, h => by
    unfold cellsFrom at h
    split at h
    · rename_i hk
      rcases cellsFrom_mem r (n + 1) ((y, n) :: acc) h with h | h
      · exact .inl (.tail _ h)
      · rcases List.mem_cons.mp h with e | h
        · cases e; exact .inl (by rw [beq_iff_eq.mp hk]; exact .head _)
        · exact .inr h
    · rcases cellsFrom_mem r n acc h with h | h
      · exact .inl (.tail _ h)
      · exact .inr h
noncomputable def rl (env : Env) (n : Str) (k : NameKind) : NameKind := if (k == .free && env.scope.kind == .function && env.kindOf n == some .cell) then .cell else k
theorem lookup_rl {env : Env} : ∀ (names : List (Str × NameKind)) (x : Str),
    (names.map fun (n, k) => if (k == NameKind.free && env.scope.kind == .function && env.kindOf n == some .cell) then (n, NameKind.cell) else (n, k)).lookup x = (names.lookup x).map (rl env x)
  | [], _ => rfl
  | (n, k) :: r, x => by
    have e : (if (k == NameKind.free && env.scope.kind == .function && env.kindOf n == some .cell) = true then (n, NameKind.cell) else (n, k)) = (n, rl env n k) := by unfold rl; split <;> rfl
    rw [List.map_cons]
    show List.lookup x ((if (k == NameKind.free && env.scope.kind == .function && env.kindOf n == some .cell) = true then (n, NameKind.cell) else (n, k)) :: _) = _
    rw [e, List.lookup_cons, List.lookup_cons]
    cases hx : x == n with
    | true => rw [beq_iff_eq.mp hx]; rfl
    | false => exact lookup_rl r x
theorem lookup_mem_nodup {α : Type} : ∀ {l : List (Str × α)} {x : Str} {v : α}, (l.map (·.1)).Nodup → (x, v) ∈ l → l.lookup x = some v
  | (y, u) :: r, x, v, hn, h => by
    rw [List.map_cons, List.nodup_cons] at hn
    rw [List.lookup_cons]
    rcases List.mem_cons.mp h with e | h
    · cases e; rw [beq_self_eq_true]
    · have : x ≠ y := fun e => hn.1 (e ▸ List.mem_map.mpr ⟨_, h, rfl⟩)
      rw [beq_eq_false_iff_ne.mpr this]
      exact lookup_mem_nodup hn.2 h
theorem lookup_append {α : Type} : ∀ (l l' : List (Str × α)) (x : Str), (l ++ l').lookup x = match l.lookup x with | some v => some v | none => l'.lookup x
  | [], _, _ => rfl
  | (y, u) :: r, l', x => by
    rw [List.cons_append, List.lookup_cons, List.lookup_cons]
    cases x == y with
    | true => rfl
    | false => exact lookup_append r l' x

/-- the frame of a comprehension -/
noncomputable def cenvOf (scope : Scope) (cl : List (Str × Addr)) (L : Addr) (env : Env) : Env :=
  { scope := relabel scope env, locals := L, globals := env.globals, cells := cellsFrom (L + 1) scope.names cl, qual := env.qual, func := none, code := env.code, frame := env.frame, builtins := env.builtins }
/-- what a comprehension holds of the frame around it -/
structure Cap (env : Env) (scope : Scope) (cl : List (Str × Addr)) : Prop where
  clos : closureFor scope env = pure cl
  names : (cl.map (·.1)).Nodup
  at_ : ∀ p ∈ cl, env.cells.lookup p.1 = some p.2 ∧ env.kindOf p.1 = some .cell ∧ scope.names.lookup p.1 = some .free
  nodup : (scope.names.map (·.1)).Nodup
  acc : List.lookup (".acc" : Str) scope.names = none
  dot : List.lookup (".0" : Str) scope.names = some .local
  kind : scope.kind = .function
  ekind : env.scope.kind = .function

section
variable {prog : Program} {w : World} {hT : Heap} {d : Nat} {env : Env} {W : Str → Bool} {σ τ : Sig}
theorem cap_names {scope : Scope} {cl : List (Str × Addr)} (c : Cap env scope cl) : ∀ x ∈ scope.names, x.2 = .local → scope.names.lookup x.1 = some .local := fun x hx e => lookup_mem_nodup c.nodup (by rw [← e]; exact hx)

theorem new_cenv {scope : Scope} {cl : List (Str × Addr)} {A : Around} {s : Shared} {E : Value → Shared → Prop} {Q : Env → Shared → Prop}
    (h : Q { scope, locals := s.heap.objs.size, globals := env.globals, cells := cellsFrom (s.heap.objs.size + 1) scope.names cl, qual := env.qual, func := none, code := env.code, frame := env.frame, builtins := env.builtins } { s with heap := pushCells (s.heap.push { cls := .type "dict", data := .dict #[] }) scope.names }) :
    wpAny (model prog w) A (newFunctionEnv scope env.globals cl [] env.qual none .none (some env)) Q E s := by
  simp only [newFunctionEnv, Option.isSome_some, if_true]
  refine wpAny_bind (wpAny_alloc ?_)
  refine wpAny_bind (wpAny_layCells _ (fun name kind cells => by cases hkc : kind == NameKind.cell <;> simp [hkc]) _ _ _ _ ?_)
  rw [show ({ s with heap := s.heap.push { cls := .type "dict", data := .dict #[] } } : Shared).heap.objs.size = s.heap.objs.size + 1 from Heap.size_push ..]
  exact wpAny_pure h

theorem new_cenv_st {scope : Scope} {cl : List (Str × Addr)} {m : Str → Option Value} {F : Fz} {s0 s2 : Shared} {fp : Fz} (c : Cap env scope cl) (S : St hT env W σ m F s2.heap) (k0 : ∀ b o, s0.heap.get? b = some o → s2.heap.get? b = some o) (V0 : Vars env m s0.heap) (hfp : ∀ a o, fp a = some o → s2.heap.get? a = some o ∧ F a = none ∧ s0.heap.get? a = none)
    (hτ : ∀ x c, τ.lookup x = some c → σ.lookup x = some c ∧ Wof scope x = false ∧ x ≠ ".acc" ∧ ∃ y, c = .val y) :
    ∃ m', m' ".acc" = some (.ref s2.heap.objs.size) ∧ (∀ b o, s2.heap.get? b = some o → (pushCells ((s2.heap.push (lstObj [] 0)).push { cls := .type "dict", data := .dict #[] }) scope.names).get? b = some o) ∧
      (pushCells ((s2.heap.push (lstObj [] 0)).push { cls := .type "dict", data := .dict #[] }) scope.names).Ns (s2.heap.objs.size + 1) (fun _ => none) ∧
      St hT (cenvOf scope cl (s2.heap.objs.size + 1) env) (Wof scope) ((".acc", .own []) :: τ) m' F (pushCells ((s2.heap.push (lstObj [] 0)).push { cls := .type "dict", data := .dict #[] }) scope.names) ∧
      Prot (cenvOf scope cl (s2.heap.objs.size + 1) env) (Wof scope) ((".acc", .own []) :: τ) m' s0.heap.get? (pushCells ((s2.heap.push (lstObj [] 0)).push { cls := .type "dict", data := .dict #[] }) scope.names) ∧
      Prot (cenvOf scope cl (s2.heap.objs.size + 1) env) (Wof scope) ((".acc", .own []) :: τ) m' fp (pushCells ((s2.heap.push (lstObj [] 0)).push { cls := .type "dict", data := .dict #[] }) scope.names) ∧
      FrOff (cenvOf scope cl (s2.heap.objs.size + 1) env) fp := by
  generalize hH : pushCells ((s2.heap.push (lstObj [] 0)).push { cls := .type "dict", data := .dict #[] }) scope.names = H
  have sz : ((s2.heap.push (lstObj [] 0)).push { cls := .type "dict", data := .dict #[] }).objs.size = s2.heap.objs.size + 2 := by rw [Heap.size_push, Heap.size_push]
  have ok := cellsFrom_ok scope.names ((s2.heap.push (lstObj [] 0)).push { cls := .type "dict", data := .dict #[] }) (s2.heap.objs.size + 2) [] ⟨fun _ _ hm => (nomatch hm), List.Pairwise.nil⟩ (by rw [sz]; exact Nat.le_refl _)
  rw [sz, hH] at ok
  have keep1 : ∀ b o, ((s2.heap.push (lstObj [] 0)).push { cls := .type "dict", data := .dict #[] }).get? b = some o → H.get? b = some o := fun b o e => hH ▸ pushCells_keeps _ _ b o e
  have keep : ∀ b o, s2.heap.get? b = some o → H.get? b = some o := fun b o e => keep1 b o (Heap.get?_push_of_some _ (Heap.get?_push_of_some _ e))
  have hD : H.get? s2.heap.objs.size = some (lstObj [] 0) := keep1 _ _ (Heap.get?_push_of_some _ (Heap.get?_push_size _ rfl))
  have hLo : ((s2.heap.push (lstObj [] 0)).push { cls := .type "dict", data := .dict #[] }).get? (s2.heap.objs.size + 1) = some { cls := .type "dict", data := .dict #[] } := by
    have := Heap.get?_push_size (o := { cls := .type "dict", data := .dict #[] }) (s2.heap.push (lstObj [] 0)) rfl
    rwa [Heap.size_push] at this
  have hL : H.Ns (s2.heap.objs.size + 1) (fun _ => none) := ⟨_, #[], _, keep1 _ _ hLo, rfl, fun e he => absurd he (by simp), fun _ => rfl⟩
  have fresh : ∀ a, s2.heap.objs.size ≤ a → s2.heap.get? a = none := fun a ha => by
    cases e : s2.heap.get? a with
    | none => rfl
    | some o' => exact absurd (Heap.lt_size e) (Nat.not_lt.mpr ha)
  have fresh0 : ∀ a, s2.heap.objs.size ≤ a → s0.heap.get? a = none := fun a ha => by
    cases e : s0.heap.get? a with
    | none => rfl
    | some o' => have := k0 _ _ e; rw [fresh a ha] at this; cases this
  have freshF : ∀ a, s2.heap.objs.size ≤ a → F a = none := fun a ha => by
    cases e : F a with
    | none => rfl
    | some o' => have := S.inn _ _ e; rw [fresh a ha] at this; cases this
  have freshP : ∀ a, s2.heap.objs.size ≤ a → fp a = none := fun a ha => by
    cases e : fp a with
    | none => rfl
    | some o' => have := (hfp _ _ e).1; rw [fresh a ha] at this; cases this
  have hcells : (cenvOf scope cl (s2.heap.objs.size + 1) env).cells = cellsFrom (s2.heap.objs.size + 2) scope.names [] ++ cl := cellsFrom_append ..
  have hkof : ∀ x, (cenvOf scope cl (s2.heap.objs.size + 1) env).kindOf x = (scope.names.lookup x).map (rl env x) := fun x => lookup_rl scope.names x
  have ownN : ∀ x c', (x, c') ∈ cellsFrom (s2.heap.objs.size + 2) scope.names [] → scope.names.lookup x = some .cell := fun x c' h => by
    rcases cellsFrom_mem _ _ _ h with h | h
    · exact lookup_mem_nodup c.nodup h
    · cases h
  have clLook : ∀ x c', cl.lookup x = some c' → env.cells.lookup x = some c' ∧ env.kindOf x = some .cell ∧ scope.names.lookup x = some .free := fun x c' h => c.at_ (x, c') (mem_of_lookup h)
  have wcell : ∀ x, Wof scope x = true → scope.names.lookup x = some .local ∨ scope.names.lookup x = some .cell := fun x h => by
    unfold Wof at h
    split at h
    · rename_i q; exact .inl q
    · rename_i q; exact .inr q
    · cases h
  have wno : ∀ x, Wof scope x = false → scope.names.lookup x ≠ some .local ∧ scope.names.lookup x ≠ some .cell := fun x h => by
    unfold Wof at h
    constructor <;> (intro q; rw [q] at h; cases h)
  have accW : Wof scope ".acc" = false := by unfold Wof; rw [c.acc]
  let m' : Str → Option Value := fun y => if y = ".acc" then some (.ref s2.heap.objs.size) else if Wof scope y = true then none else m y
  have m1 : m' ".acc" = some (.ref s2.heap.objs.size) := if_pos rfl
  have m2 : ∀ y, Wof scope y = true → m' y = none := fun y h => by
    have : y ≠ ".acc" := fun e => by rw [e, accW] at h; cases h
    show (if _ then _ else _) = _
    rw [if_neg this, if_pos h]
  have m3 : ∀ y : Str, y ≠ ".acc" → Wof scope y = false → m' y = m y := fun y h1 h2 => by
    show (if _ then _ else _) = _
    rw [if_neg h1, if_neg (by rw [h2]; decide)]
  have ownLook : ∀ x c', (cenvOf scope cl (s2.heap.objs.size + 1) env).cells.lookup x = some c' → ((x, c') ∈ cellsFrom (s2.heap.objs.size + 2) scope.names [] ∧ scope.names.lookup x = some .cell) ∨ cl.lookup x = some c' := fun x c' h => by
    rw [hcells, lookup_append] at h
    cases q : (cellsFrom (s2.heap.objs.size + 2) scope.names []).lookup x with
    | some z => rw [q] at h; cases h; exact .inl ⟨mem_of_lookup q, ownN _ _ (mem_of_lookup q)⟩
    | none => rw [q] at h; exact .inr h
  have V : Vars (cenvOf scope cl (s2.heap.objs.size + 1) env) m' H := by
    refine ⟨⟨_, hL, fun x hx => ?_⟩, fun x c' hx hc => ?_, ?_⟩
    · rw [hkof] at hx
      cases q : scope.names.lookup x with
      | none => rw [q] at hx; cases hx
      | some k =>
        rw [q] at hx
        have : k = .local := by
          have hx : some (rl env x k) = some NameKind.local := hx
          unfold rl at hx
          split at hx
          · cases hx
          · cases hx; rfl
        subst this
        exact (m2 x (by unfold Wof; rw [q])).symm
    · rcases ownLook x c' hc with ⟨h1, h2⟩ | h1
      · rw [m2 x (by unfold Wof; rw [h2])]
        exact (ok.empty x c' h1).1
      · obtain ⟨e1, e2, e3⟩ := clLook x c' h1
        rw [m3 x (fun e => by rw [e, c.acc] at e3; cases e3) (by unfold Wof; rw [e3])]
        exact (S.vars.cell x c' e2 e1).keeps keep
    · rw [hcells, List.pairwise_append]
      refine ⟨ok.apart, ?_, fun p hp q hq => ?_⟩
      · have : cl.Pairwise fun p q => p.1 ≠ q.1 := by have := c.names; unfold List.Nodup at this; rwa [List.pairwise_map] at this
        refine this.imp_of_mem fun {p q} hp hq hpq e => hpq ?_
        exact name_of_addr S.vars.apart (mem_of_lookup (c.at_ p hp).1) (e ▸ mem_of_lookup (c.at_ q hq).1)
      · intro e
        have h1 := (ok.empty p.1 p.2 hp).2
        have h2 := S.vars.cell q.1 q.2 (c.at_ q hq).2.1 (c.at_ q hq).1
        obtain ⟨o, ho, _⟩ := h2
        have := Heap.lt_size ho
        rw [← e] at this
        exact absurd this (Nat.not_lt.mpr (Nat.le_trans (Nat.le_add_right _ 2) h1))
  have kd : ∀ x, Wof scope x = true → (cenvOf scope cl (s2.heap.objs.size + 1) env).kindOf x = some .local ∨ ((cenvOf scope cl (s2.heap.objs.size + 1) env).kindOf x = some .cell ∧ ((cenvOf scope cl (s2.heap.objs.size + 1) env).cells.lookup x).isSome = true) := fun x h => by
    rcases wcell x h with q | q
    · exact .inl (by rw [hkof, q]; rfl)
    · refine .inr ⟨by rw [hkof, q]; rfl, ?_⟩
      obtain ⟨c', hc'⟩ := Option.isSome_iff_exists.mp (cellsFrom_some (x := x) scope.names (s2.heap.objs.size + 2) [] (.inl q))
      rw [hcells, lookup_append, hc']; rfl
  have lo : ∀ x, Wof scope x = true → s2.heap.objs.size ≤ locOf (cenvOf scope cl (s2.heap.objs.size + 1) env) x := fun x h => by
    rcases wcell x h with q | q
    · have : (cenvOf scope cl (s2.heap.objs.size + 1) env).kindOf x = some .local := by rw [hkof, q]; rfl
      unfold locOf; rw [if_neg (by rw [this]; decide)]; exact Nat.le_succ _
    · have : (cenvOf scope cl (s2.heap.objs.size + 1) env).kindOf x = some .cell := by rw [hkof, q]; rfl
      unfold locOf; rw [if_pos this]
      obtain ⟨c', hc'⟩ := Option.isSome_iff_exists.mp (cellsFrom_some (x := x) scope.names (s2.heap.objs.size + 2) [] (.inl q))
      rw [hcells, lookup_append, hc']
      exact Nat.le_trans (Nat.le_add_right _ 2) (ok.empty x c' (mem_of_lookup hc')).2
  have look : ∀ (y : Str) (c' : Cell), List.lookup y (((".acc" : Str), Cell.own []) :: τ) = some c' → (y = ".acc" ∧ c' = .own []) ∨ (y ≠ ".acc" ∧ τ.lookup y = some c') := fun y c' e => by
    rw [List.lookup_cons] at e
    by_cases h : y = ".acc"
    · rw [h, beq_self_eq_true] at e; cases e; exact .inl ⟨h, rfl⟩
    · rw [beq_eq_false_iff_ne.mpr h] at e; exact .inr ⟨h, e⟩
  have ownOnly : ∀ (y : Str) (ys : List AV), List.lookup y (((".acc" : Str), Cell.own []) :: τ) = some (.own ys) → y = ".acc" := fun y ys e => by
    rcases look y _ e with ⟨h, _⟩ | ⟨_, h⟩
    · exact h
    · obtain ⟨_, _, _, z, hz⟩ := hτ y _ h; cases hz
  refine ⟨m', m1, keep, hL, ⟨S.base, fun a o e => keep _ _ (S.inn a o e), V, kd, fun x hx => freshF _ (lo x hx), fun y c' e => ?_, fun y z ys zs a e1 e2 _ _ => (ownOnly _ _ e1).trans (ownOnly _ _ e2).symm⟩, ⟨fun a o e => keep _ _ (k0 a o e), fun x hx => fresh0 _ (lo x hx), fun y ys a e1 e2 => ?_⟩, ⟨fun a o e => keep _ _ (hfp a o e).1, fun x hx => freshP _ (lo x hx), fun y ys a e1 e2 => ?_⟩, freshP _ (Nat.le_succ _), fun x c' hx hc => ?_⟩
  · rcases look y c' e with ⟨rfl, rfl⟩ | ⟨h1, h2⟩
    · exact ⟨_, m1, _, [], 0, rfl, freshF _ (Nat.le_refl _), hD, RepL.nil⟩
    · obtain ⟨q1, q2, q3, z, rfl⟩ := hτ y c' h2
      obtain ⟨v, hv, r⟩ := S.loc y _ q1
      exact ⟨v, (m3 y q3 q2).trans hv, r⟩
  · rw [ownOnly _ _ e1, m1] at e2; cases e2; exact fresh0 _ (Nat.le_refl _)
  · rw [ownOnly _ _ e1, m1] at e2; cases e2; exact freshP _ (Nat.le_refl _)
  · rcases ownLook x c' hc with ⟨h1, h2⟩ | h1
    · exact freshP _ (Nat.le_trans (Nat.le_add_right _ 2) (ok.empty x c' h1).2)
    · obtain ⟨e1, e2, e3⟩ := clLook x c' h1
      obtain ⟨o, ho, _⟩ := V0.cell x c' e2 e1
      cases q : fp c' with
      | none => rfl
      | some o' => rw [(hfp _ _ q).2.2] at ho; cases ho

/-- a comprehension, its list handed on or used at once -/
theorem comp_core {elt tg iter : Expr} {ifs : List Expr} {scope : Scope} {cl : List (Str × Addr)} {p0 pos : Pos} {xs ys : List AV} {use : Option (Value → Sem Unit)} {Qv : Value → Shared → Prop} (c : Cap env scope cl) (he : EvJ prog w hT d env W σ iter tg xs)
    (hτ : ∀ x c, τ.lookup x = some c → σ.lookup x = some c ∧ Wof scope x = false ∧ x ≠ ".acc" ∧ ∃ y, c = .val y)
    (hb : ∀ L D, CLoop prog w hT d (cenvOf scope cl L env) (Wof scope) D ifs elt tg xs ((".acc", .own []) :: τ) (fun σ' => List.lookup (".acc" : Str) σ' = some (.own ys)))
    (hs : ∀ x, foldedSetIterable iter env x = pure x) {A : Around} {m : Str → Option Value} {F : Fz} {s : Shared} (ok : OkA d A) (S : St hT env W σ m F s.heap)
    (fin : ∀ (D C : Addr) (s' : Shared) (F' : Fz) (mL : Str → Option Value) (vs : List Value) (n : Nat), s.heap.get? D = none → s.heap.get? C = none → D ≠ C → s'.heap.Ns C mL → F' C = none → F' D = none → s'.heap.get? D = some (lstObj vs n) → RepL F' ys vs → Kp s s' → Ext F s.heap F' s'.heap →
      compPost (model prog w) A (fun _ _ => False) use Qv (.ref D) C (.ok .next) s') :
    wpAny (model prog w) A (comprehension (.ListComp elt [⟨tg, iter, ifs, 0⟩] scope pos) scope env p0 (newList []) false (eval iter env) use) Qv (fun _ _ => False) s := by
  refine wpAny_comprehension_free rfl hs c.clos c.kind (cap_names c) (wpAny_mono (he A m F s ok S) (fun xv s1 h1 => wpAny_mono h1 (fun it s2 hpat => ?_) fun _ _ z => z) fun _ _ z => z)
  obtain ⟨kp, F2, fp, gp, ex, hfp, hgp, hit, hself⟩ := hpat
  have S2 := S.keeps kp.heap ex
  refine wpAny_newObj_type (new_cenv ?_)
  obtain ⟨m', hm', keep, hL, Sc, Pc, Pf, fo⟩ := new_cenv_st c S2 kp.heap S.vars hfp hτ
  have hD0 : s.heap.get? s2.heap.objs.size = none := by
    cases q : s.heap.get? s2.heap.objs.size with
    | none => rfl
    | some o => have := kp.heap _ _ q; rw [fresh_size] at this; cases this
  have hC0 : s.heap.get? (s2.heap.objs.size + 1) = none := by
    cases q : s.heap.get? (s2.heap.objs.size + 1) with
    | none => rfl
    | some o => exact absurd (Heap.lt_size (kp.heap _ _ q)) (Nat.not_lt.mpr (Nat.le_succ _))
  have hsz : (s2.heap.push (lstObj [] 0)).objs.size = s2.heap.objs.size + 1 := Heap.size_push ..
  have acc : Wof scope ".acc" = false := by unfold Wof; rw [c.acc]
  have dot : Wof scope ".0" = true := by unfold Wof; rw [c.dot]
  show codeAny _ _ _ _ { s2 with heap := pushCells ((s2.heap.push (lstObj [] 0)).push { cls := .type "dict", data := .dict #[] }) scope.names }
  have loop : codeAny (model prog w) A (.compLoop (.ListComp elt [⟨tg, iter, ifs, 0⟩] scope pos) 0 it (.ref s2.heap.objs.size) (cenvOf scope cl (s2.heap.objs.size + 1) env))
      (compPost (model prog w) A (fun _ _ => False) use Qv (.ref s2.heap.objs.size) (s2.heap.objs.size + 1)) { s2 with heap := pushCells ((s2.heap.push (lstObj [] 0)).push { cls := .type "dict", data := .dict #[] }) scope.names } := by
    refine comp_loop (F₀ := F2) (H := s.heap.get?) (s₀ := s) (Fi := F2) c.kind ok (hb _ _) ⟨fun _ _ e => e, hit, Sc, Pc, Pf, fo, fun a o e => ⟨(hfp a o e).2.2, (hfp a o e).2.1⟩, fun g x e => hgp g x e, fun _ _ e => e, fun _ _ _ => rfl, ⟨kp.gens, kp.bare, kp.os⟩⟩ acc hm' ?_
    intro s' σ' m2 F' hQ hm2 le' old' S' P' kg'
    obtain ⟨⟨mL, hns, _⟩, _, _⟩ := id S'.vars
    obtain ⟨v, hv, a, vs, n, rfl, g1, g2, g3⟩ := S'.loc ".acc" _ hQ
    rw [hm2] at hv; cases hv
    have fC : F' (s2.heap.objs.size + 1) = none := by
      have := S'.free ".0" dot
      have e : locOf (cenvOf scope cl (s2.heap.objs.size + 1) env) ".0" = s2.heap.objs.size + 1 := by
        unfold locOf
        rw [if_neg]
        · rfl
        · rw [show (cenvOf scope cl (s2.heap.objs.size + 1) env).kindOf ".0" = (List.lookup (".0" : Str) scope.names).map (rl env ".0") from lookup_rl scope.names ".0", c.dot]; intro q; cases q
      rwa [e] at this
    exact fin _ _ s' F' mL vs n hD0 hC0 (Nat.ne_of_lt (Nat.lt_succ_self _)) hns fC g1 g2 g3 ⟨P'.inn, kg'.gens, kg'.bare, kg'.os⟩ ⟨fun b o e => le' _ _ (ex.le b o e), fun b o e => (old' b o e).trans (ex.old b o e), S'.inn⟩
  have loop' := codeAny_compStart_list loop (hself A { s2 with heap := pushCells ((s2.heap.push (lstObj [] 0)).push { cls := .type "dict", data := .dict #[] }) scope.names } _ _ ok.hh Pf.inn loop)
  have e1 : ({ s2 with heap := s2.heap.push { cls := .type "list", dict := none, data := .seq ([] : List Value).toArray } } : Shared).heap.objs.size = s2.heap.objs.size + 1 := Heap.size_push ..
  rw [e1]
  exact loop'
theorem evo_comp {elt tg iter : Expr} {ifs : List Expr} {scope : Scope} {cl : List (Str × Addr)} {pos : Pos} {xs ys : List AV} (c : Cap env scope cl) (he : EvJ prog w hT d env W σ iter tg xs)
    (hτ : ∀ x c, τ.lookup x = some c → σ.lookup x = some c ∧ Wof scope x = false ∧ x ≠ ".acc" ∧ ∃ y, c = .val y)
    (hb : ∀ L D, CLoop prog w hT d (cenvOf scope cl L env) (Wof scope) D ifs elt tg xs ((".acc", .own []) :: τ) (fun σ' => List.lookup (".acc" : Str) σ' = some (.own ys)))
    (hs : ∀ x, foldedSetIterable iter env x = pure x := by intro _; rfl) : EvO prog w hT d env W σ (.ListComp elt [⟨tg, iter, ifs, 0⟩] scope pos) ys := fun A m F s ok S => by
  rw [eval_ListComp]
  refine comp_core (use := none) c he hτ hb hs ok S fun D C s' F' mL vs n hD hC hDC hns fC fD g2 g3 kp ex => ⟨mL, hns, fun h' hsb => ?_⟩
  have k' : ∀ b o, b ≠ C → s'.heap.get? b = some o → h'.get? b = some o := fun b o hb e => hsb.extBut b o hb e
  exact ⟨⟨fun b o e => k' b o (fun q => by rw [q, hC] at e; cases e) (kp.heap b o e), kp.gens, kp.bare, kp.os⟩, F', D, vs, n, ⟨ex.le, ex.old, fun b o e => k' b o (fun q => by rw [q, fC] at e; cases e) (ex.inn b o e)⟩, rfl, hD, fD, k' _ _ hDC g2, g3⟩
/-- a comprehension's list stored under a name before the comprehension's own names are let go -/
theorem st_compS {elt tg iter : Expr} {ifs : List Expr} {scope : Scope} {cl : List (Str × Addr)} {x : Str} {p1 p2 pos : Pos} {xs ys : List AV} {Q : AFlow → Sig → Prop} (hW : W x = true) (c : Cap env scope cl) (he : EvJ prog w hT d env W σ iter tg xs)
    (hτ : ∀ x c, τ.lookup x = some c → σ.lookup x = some c ∧ Wof scope x = false ∧ x ≠ ".acc" ∧ ∃ y, c = .val y)
    (hb : ∀ L D, CLoop prog w hT d (cenvOf scope cl L env) (Wof scope) D ifs elt tg xs ((".acc", .own []) :: τ) (fun σ' => List.lookup (".acc" : Str) σ' = some (.own ys)))
    (h : Q .next (put σ x (.own ys))) (hk : env.scope.kind = .function := by rfl)
    (hsw : swapsWith (.ListComp elt [⟨tg, iter, ifs, 0⟩] scope pos) (some (.Name x p1)) p2.line env = pure true := by rfl)
    (hs : ∀ x, foldedSetIterable iter env x = pure x := by intro _; rfl) : Ex1 prog w hT d env W σ (.Assign [.Name x p1] (.ListComp elt [⟨tg, iter, ifs, 0⟩] scope pos) p2) Q := fun A H m F s ok S P => by
  rw [exec_Assign_Name_used _ _ _ _ hsw]
  refine wpAny_bind (wpAny_standAt (wpAny_bind ?_))
  show wpAny _ A (do let _ ← comprehension (.ListComp elt [⟨tg, iter, ifs, 0⟩] scope pos) scope env _ (newList []) false (eval iter env) (some (assign (.Name x p1) env))) _ _ s
  refine wpAny_bind (wpAny_mono (comp_core (use := some (assign (.Name x p1) env)) (Qv := fun _ s' => PostX hT env W H F s Q .next s') c he hτ hb hs ok S fun D C s' F' mL vs n hD hC hDC hns fC fD g2 g3 kp ex => ?_)
    (fun _ s' hq => wpAny_pure (wpAny_pure hq)) fun _ _ e => e)
  show wpAny _ A (assign (.Name x p1) env (.ref D)) _ _ _
  have S1 := S.keeps kp.heap ex
  have hne : ∀ b o, s.heap.get? b = some o → b ≠ C := fun b o e q => by rw [q, hC] at e; cases e
  refine wpAny_assign_Name (store_any S1.vars hk (S1.kind x hW) fun h1 t V1 hb1 => ?_)
  obtain ⟨S2, P2⟩ := S1.store (P.keeps kp.heap) hW V1 hb1 (c := .own ys) (v := .ref D) ⟨D, vs, n, rfl, fD, g2, g3⟩ (fun zs b e1 e2 => by
    cases e2
    refine ⟨?_, fun z zs hz q e => ?_⟩
    · cases q : H D with
      | none => rfl
      | some o => have := P.inn D o q; rw [hD] at this; cases this
    · obtain ⟨u, hu, b, us, k, rfl, _, q2, _⟩ := S.loc z _ q
      rw [hu] at e; cases e
      rw [hD] at q2; cases q2)
  obtain ⟨ol, hol⟩ := locOf_there S.vars (S.kind x hW)
  have hCl : C ≠ locOf env x := fun q => hne _ _ hol q.symm
  obtain ⟨oC, esC, epC, hoC, hdC, hrC⟩ := hns
  have hoC1 : h1.get? C = some oC := (hb1 C hCl).trans hoC
  refine ⟨mL, ⟨oC, esC, epC, hoC1, hdC, hrC⟩, fun h2 hsb => ?_⟩
  have fo : FrOff env (one C oC) := FrOff.of_fresh S.vars fun a ob e => by rw [(one_some e).1]; exact hC
  have no : ∀ b, b ≠ C → one C oC b = none := fun b q => if_neg q
  have Pf : Prot env W (put σ x (.own ys)) (upd m x (.ref D)) (one C oC) h1 := ⟨fun a ob e => by obtain ⟨rfl, rfl⟩ := one_some e; exact hoC1, fun y hy => no _ (by obtain ⟨o, ho⟩ := locOf_there S.vars (S.kind y hy); exact hne _ _ ho), fun y zs a e1 e2 => no _ fun q => by
    obtain ⟨v, hv, b, us, k, rfl, _, q2, _⟩ := S2.loc y _ e1
    rw [e2] at hv; cases hv
    rw [q, hoC1] at q2; cases q2; cases hdC⟩
  obtain ⟨S3, P3⟩ := S2.keepsB (F' := F') (h' := h2) P2 Pf fo (fun a ob e => by
    rw [(one_some e).1]
    cases q : H C with
    | none => rfl
    | some o => have := P.inn C o q; rw [hC] at this; cases this) (fun b o hn e => hsb.extBut b o (fun q => by rw [q] at hn; unfold one at hn; rw [if_pos rfl] at hn; cases hn) e) ⟨fun _ _ e => e, fun _ _ _ _ => rfl, fun a o e => hsb.extBut a o (fun q => by rw [q, fC] at e; cases e) (S2.inn a o e)⟩
  exact ⟨.next, _, _, F', h, rfl, ex.le, fun a o q => ex.old a o (P.inn a o q), S3, P3, kp.g.of⟩
end
end Mine
end
section
open PySem PySem.W PyProof.Rows
set_option Elab.async false
namespace Mine
noncomputable def scopeOk (scope : Scope) : Bool := decide ((scope.names.map (·.1)).Nodup) && (List.lookup (".acc" : Str) scope.names == none) && (List.lookup (".0" : Str) scope.names == some .local) && (scope.kind == .function)
theorem cap_mk {env : Env} {scope : Scope} {cl : List (Str × Addr)} (h1 : closureFor scope env = pure cl) (h2 : (cl.map (·.1)).Nodup) (h3 : ∀ p ∈ cl, env.cells.lookup p.1 = some p.2 ∧ env.kindOf p.1 = some .cell ∧ scope.names.lookup p.1 = some .free) (h4 : scopeOk scope = true) (h5 : env.scope.kind = .function := by rfl) : Cap env scope cl := by
  unfold scopeOk at h4
  simp only [Bool.and_eq_true, decide_eq_true_eq, beq_iff_eq] at h4
  obtain ⟨⟨⟨a, b⟩, c⟩, e⟩ := h4
  exact ⟨h1, h2, h3, a, b, c, e, h5⟩
theorem cap0 {env : Env} {scope : Scope} (h1 : closureFor scope env = pure []) (h4 : scopeOk scope = true) (h5 : env.scope.kind = .function := by rfl) : Cap env scope [] := cap_mk h1 List.nodup_nil (fun _ h => nomatch h) h4 h5
theorem cap1 {env : Env} {scope : Scope} {x : Str} {a : Addr} (h1 : closureFor scope env = pure [(x, a)]) (h3 : env.cells.lookup x = some a ∧ env.kindOf x = some .cell ∧ scope.names.lookup x = some .free) (h4 : scopeOk scope = true) (h5 : env.scope.kind = .function := by rfl) : Cap env scope [(x, a)] :=
  cap_mk h1 (List.nodup_cons.mpr ⟨fun h => (nomatch h), List.nodup_nil⟩) (fun p hp => by rw [List.mem_singleton.mp hp]; exact h3) h4 h5
/-- captured names -/
noncomputable def CapS (scope : Scope) (σ τ : Sig) : Prop := ∀ x c, τ.lookup x = some c → σ.lookup x = some c ∧ Wof scope x = false ∧ x ≠ ".acc" ∧ ∃ y, c = .val y
theorem caps_nil {scope : Scope} {σ : Sig} : CapS scope σ [] := fun _ _ h => nomatch h
theorem caps_cons {scope : Scope} {σ τ : Sig} {n : Str} {y : AV} (h1 : σ.lookup n = some (.val y)) (h2 : Wof scope n = false) (h3 : (n == (".acc" : Str)) = false) (r : CapS scope σ τ) : CapS scope σ ((n, .val y) :: τ) := fun x c h => by
  rw [List.lookup_cons] at h
  by_cases e : x = n
  · rw [e, beq_self_eq_true] at h; cases h; rw [e]; exact ⟨h1, h2, beq_eq_false_iff_ne.mp h3, y, rfl⟩
  · rw [beq_eq_false_iff_ne.mpr e] at h; exact r x c h

section
variable {prog : Program} {w : World} {hT : Heap} {d : Nat} {env : Env} {W : Str → Bool} {σ τ : Sig} {D : Addr} {ifs : List Expr} {elt tg iter : Expr}
theorem BindT.other {x : AV} {σ1 : Sig} (h : BindT W σ tg x σ1) {y : Str} (hy : W y = false) : σ1.lookup y = σ.lookup y := by
  cases h with
  | name hW => rw [lookup_put, if_neg (fun e => by rw [e, hW] at hy; cases hy)]
  | pair ha hb => rw [lookup_put, if_neg (fun e => by rw [e, hb] at hy; cases hy), lookup_put, if_neg (fun e => by rw [e, ha] at hy; cases hy)]
theorem ExB.sub {Q : Sig → Prop} (h : ExB prog w hT d env W D ifs elt τ Q) (u : Sub τ σ) : ExB prog w hT d env W D ifs elt σ Q := fun A H m F s ok hm S P => h A H m F s ok hm (S.sub u) (P.sub u)
theorem CLoop.sub {Q : Sig → Prop} {xs : List AV} (h : CLoop prog w hT d env W D ifs elt tg xs τ Q) (u : Sub τ σ) (hQ : ∀ τ' σ', Sub τ' σ' → Q τ' → Q σ') : CLoop prog w hT d env W D ifs elt tg xs σ Q := by
  cases xs with
  | nil => exact hQ _ _ u h
  | cons x xs =>
    obtain ⟨τ1, hb, hx⟩ := h
    obtain ⟨σ1, hb', u1⟩ := hb.sub u
    exact ⟨σ1, hb', hx.sub u1⟩
/-- one more at the end -/
theorem exb_end {A : Around} {H F : Fz} {m : Str → Option Value} {s : Shared} {zs : List AV} {y : AV} {Q : Sig → Prop} (ok : OkA d A) (he : Ev prog w hT d env W σ elt y) (hσ : List.lookup (".acc" : Str) σ = some (.own zs)) (hn : zs.length ≤ sizeLine) (hm : m ".acc" = some (.ref D)) (S : St hT env W σ m F s.heap) (P : Prot env W σ m H s.heap)
    {s₀ : Shared} {F₀ : Fz} (le : ∀ a o, F₀ a = some o → F a = some o) (hF : ∀ a o, H a = some o → F a = F₀ a) (kg : KpG s₀ s) (hQ : Q (put σ ".acc" (.own (zs ++ [y])))) :
    wpAny (model prog w) A (eval elt env) (fun x s₄ => wpAny (model prog w) A (call (.builtin "list.append") [.ref D, x]) (fun _ s₅ => PostB hT env W m H F₀ s₀ Q s₅) (fun _ _ => False) s₄) (fun _ _ => False) s := by
  refine he.use ok S fun u s1 F1 k1 x1 S1 r1 => ?_
  obtain ⟨v, hv, a, vs, n, rfl, g1, g2, g3⟩ := S1.loc ".acc" _ hσ
  rw [hm] at hv; cases hv
  have hl : s1.heap.PlainList D vs.toArray := ⟨n, g2⟩
  refine wpAny_list_append_plain (hsz := by rw [List.size_toArray, g3.length]; exact hn) hl fun h' hl' hs' => ?_
  obtain ⟨n', h1⟩ := hl'
  have h1' : h'.get? D = some (lstObj (vs ++ [u]) n') := by rw [h1]; unfold lstObj; simp
  obtain ⟨S2, P2⟩ := S1.chown (P.keeps k1.heap) hσ hm hs'.2 h1' (g3.append (RepL.cons r1 RepL.nil))
  exact ⟨_, F1, hQ, fun a o q => x1.le _ _ (le a o q), fun b o q => (x1.old b o (P.inn b o q)).trans (hF b o q), S2, P2, kg.trans k1.g.of⟩
theorem exb_plain {zs : List AV} {y : AV} {Q : Sig → Prop} (he : Ev prog w hT d env W σ elt y) (hσ : List.lookup (".acc" : Str) σ = some (.own zs)) (hn : zs.length ≤ sizeLine) (hQ : Q (put σ ".acc" (.own (zs ++ [y])))) : ExB prog w hT d env W D [] elt σ Q := fun A H m F s ok hm S P =>
  wpAny_tests_nil (by rw [if_pos rfl]; exact exb_end ok he hσ hn hm S P (fun _ _ e => e) (fun _ _ _ => rfl) (.refl s) hQ)
theorem exb_if {c : Expr} {b : Bool} {zs : List AV} {y : AV} {Q : Sig → Prop} (hc : Ts prog w hT d env W σ c b) (he : b = true → Ev prog w hT d env W σ elt y) (hσ : List.lookup (".acc" : Str) σ = some (.own zs)) (hn : zs.length ≤ sizeLine) (hQ : if b then Q (put σ ".acc" (.own (zs ++ [y]))) else Q σ) : ExB prog w hT d env W D [c] elt σ Q := fun A H m F s ok hm S P =>
  wpAny_tests_one (hc.use ok S fun s1 F1 k1 x1 S1 => by
    cases b with
    | true => rw [if_pos rfl]; exact exb_end ok (he rfl) hσ hn hm S1 (P.keeps k1.heap) x1.le (fun a o q => x1.old a o (P.inn a o q)) k1.g hQ
    | false => rw [if_neg Bool.false_ne_true]; exact ⟨σ, F1, hQ, x1.le, fun a o q => x1.old a o (P.inn a o q), S1, P.keeps k1.heap, k1.g⟩)

theorem sub_acc {scope : Scope} {zs ws : List AV} {σ1 : Sig} {x : AV} (hτ : CapS scope σ τ) (hacc : Wof scope ".acc" = false) (hb : BindT (Wof scope) ((".acc", .own zs) :: τ) tg x σ1) : Sub ((".acc", .own ws) :: τ) (put σ1 ".acc" (.own ws)) := fun p hp e => by
  rw [lookup_put]
  rw [List.lookup_cons] at e
  by_cases h : p.1 = ".acc"
  · rw [if_pos h]; rw [h, beq_self_eq_true] at e; exact e
  · rw [if_neg h]
    rw [beq_eq_false_iff_ne.mpr h] at e
    obtain ⟨_, h2, _⟩ := hτ _ _ e
    rw [hb.other h2, List.lookup_cons, beq_eq_false_iff_ne.mpr h]
    exact e
theorem sub_acc0 {scope : Scope} {zs : List AV} {σ1 : Sig} {x : AV} (hτ : CapS scope σ τ) (hacc : Wof scope ".acc" = false) (hb : BindT (Wof scope) ((".acc", .own zs) :: τ) tg x σ1) : Sub ((".acc", .own zs) :: τ) σ1 := fun p hp e => by
  by_cases h : p.1 = ".acc"
  · rw [h] at e ⊢; rw [hb.other hacc]; exact e
  · rw [List.lookup_cons, beq_eq_false_iff_ne.mpr h] at e
    obtain ⟨_, h2, _⟩ := hτ _ _ e
    rw [hb.other h2, List.lookup_cons, beq_eq_false_iff_ne.mpr h]
    exact e
theorem acc_off {scope : Scope} {cl : List (Str × Addr)} (c : Cap env scope cl) : Wof scope ".acc" = false := by unfold Wof; rw [c.acc]

theorem cl_map {α : Type} (as : List α) {g f : α → AV} {scope : Scope} {cl : List (Str × Addr)} (c : Cap env scope cl) (hτ : CapS scope σ τ) (hn : as.length ≤ sizeLine)
    (hstep : ∀ a ∈ as, ∀ L zs, ∃ σ1, BindT (Wof scope) ((".acc", .own zs) :: τ) tg (g a) σ1 ∧ Ev prog w hT d (cenvOf scope cl L env) (Wof scope) σ1 elt (f a)) (L D : Addr) :
    CLoop prog w hT d (cenvOf scope cl L env) (Wof scope) D [] elt tg (as.map g) ((".acc", .own []) :: τ) (fun σ' => List.lookup (".acc" : Str) σ' = some (.own (as.map f))) := by
  have key : ∀ (as : List α) (zs : List AV), (∀ a ∈ as, ∀ L zs, ∃ σ1, BindT (Wof scope) ((".acc", .own zs) :: τ) tg (g a) σ1 ∧ Ev prog w hT d (cenvOf scope cl L env) (Wof scope) σ1 elt (f a)) → zs.length + as.length ≤ sizeLine →
      CLoop prog w hT d (cenvOf scope cl L env) (Wof scope) D [] elt tg (as.map g) ((".acc", .own zs) :: τ) (fun σ' => List.lookup (".acc" : Str) σ' = some (.own (zs ++ as.map f))) := by
    intro as
    induction as with
    | nil => intro zs _ _; show List.lookup _ _ = _; simp
    | cons a as ih =>
      intro zs hst hl
      rw [List.length_cons] at hl
      obtain ⟨σ1, hb, hev⟩ := hst a (.head _) L zs
      rw [List.map_cons]
      refine ⟨σ1, hb, exb_plain (zs := zs) hev ?_ (by omega) ?_⟩
      · rw [hb.other (acc_off c)]; rfl
      · have := ih (zs ++ [f a]) (fun b hb' => hst b (.tail _ hb')) (by rw [List.length_append, List.length_singleton]; omega)
        rw [List.append_assoc] at this
        exact this.sub (sub_acc hτ (acc_off c) hb) fun τ' σ' u q => u.lookup q
  have := key as [] hstep (by rw [List.length_nil]; omega)
  rwa [List.nil_append] at this
theorem evo_map {α : Type} (as : List α) {g f : α → AV} {scope : Scope} {cl : List (Str × Addr)} {pos : Pos} (c : Cap env scope cl) (he : EvJ prog w hT d env W σ iter tg (as.map g)) (hτ : CapS scope σ τ) (hn : as.length ≤ sizeLine)
    (hstep : ∀ a ∈ as, ∀ L zs, ∃ σ1, BindT (Wof scope) ((".acc", .own zs) :: τ) tg (g a) σ1 ∧ Ev prog w hT d (cenvOf scope cl L env) (Wof scope) σ1 elt (f a))
    (hs : ∀ x, foldedSetIterable iter env x = pure x := by intro _; rfl) : EvO prog w hT d env W σ (.ListComp elt [⟨tg, iter, [], 0⟩] scope pos) (as.map f) :=
  evo_comp c he hτ (cl_map as c hτ hn hstep) hs
theorem st_mapS {α : Type} {x : Str} {p1 p2 : Pos} {Q : AFlow → Sig → Prop} (as : List α) {g f : α → AV} {scope : Scope} {cl : List (Str × Addr)} {pos : Pos} (hW : W x = true) (c : Cap env scope cl) (he : EvJ prog w hT d env W σ iter tg (as.map g)) (hτ : CapS scope σ τ) (hn : as.length ≤ sizeLine)
    (hstep : ∀ a ∈ as, ∀ L zs, ∃ σ1, BindT (Wof scope) ((".acc", .own zs) :: τ) tg (g a) σ1 ∧ Ev prog w hT d (cenvOf scope cl L env) (Wof scope) σ1 elt (f a)) (h : Q .next (put σ x (.own (as.map f)))) (hk : env.scope.kind = .function := by rfl)
    (hsw : swapsWith (.ListComp elt [⟨tg, iter, [], 0⟩] scope pos) (some (.Name x p1)) p2.line env = pure true := by rfl)
    (hs : ∀ x, foldedSetIterable iter env x = pure x := by intro _; rfl) : Ex1 prog w hT d env W σ (.Assign [.Name x p1] (.ListComp elt [⟨tg, iter, [], 0⟩] scope pos) p2) Q :=
  st_compS hW c he hτ (cl_map as c hτ hn hstep) h hk hsw hs
theorem cl_filter {α : Type} (as : List α) {g f : α → AV} (p : α → Bool) {cnd : Expr} {scope : Scope} {cl : List (Str × Addr)} (c : Cap env scope cl) (hτ : CapS scope σ τ) (hn : as.length ≤ sizeLine)
    (hstep : ∀ a ∈ as, ∀ L zs, ∃ σ1, BindT (Wof scope) ((".acc", .own zs) :: τ) tg (g a) σ1 ∧ Ts prog w hT d (cenvOf scope cl L env) (Wof scope) σ1 cnd (p a) ∧ (p a = true → Ev prog w hT d (cenvOf scope cl L env) (Wof scope) σ1 elt (f a))) (L D : Addr) :
    CLoop prog w hT d (cenvOf scope cl L env) (Wof scope) D [cnd] elt tg (as.map g) ((".acc", .own []) :: τ) (fun σ' => List.lookup (".acc" : Str) σ' = some (.own ((as.filter p).map f))) := by
  have key : ∀ (as : List α) (zs : List AV), (∀ a ∈ as, ∀ L zs, ∃ σ1, BindT (Wof scope) ((".acc", .own zs) :: τ) tg (g a) σ1 ∧ Ts prog w hT d (cenvOf scope cl L env) (Wof scope) σ1 cnd (p a) ∧ (p a = true → Ev prog w hT d (cenvOf scope cl L env) (Wof scope) σ1 elt (f a))) → zs.length + as.length ≤ sizeLine →
      CLoop prog w hT d (cenvOf scope cl L env) (Wof scope) D [cnd] elt tg (as.map g) ((".acc", .own zs) :: τ) (fun σ' => List.lookup (".acc" : Str) σ' = some (.own (zs ++ (as.filter p).map f))) := by
    intro as
    induction as with
    | nil => intro zs _ _; show List.lookup _ _ = _; simp
    | cons a as ih =>
      intro zs hst hl
      rw [List.length_cons] at hl
      obtain ⟨σ1, hb, hts, hev⟩ := hst a (.head _) L zs
      rw [List.map_cons]
      refine ⟨σ1, hb, exb_if (zs := zs) hts hev ?_ (by omega) ?_⟩
      · rw [hb.other (acc_off c)]; rfl
      · cases hp : p a with
        | true =>
          rw [if_pos rfl, List.filter_cons_of_pos hp, List.map_cons]
          have := ih (zs ++ [f a]) (fun b hb' => hst b (.tail _ hb')) (by rw [List.length_append, List.length_singleton]; omega)
          rw [List.append_assoc] at this
          exact this.sub (sub_acc hτ (acc_off c) hb) fun τ' σ' u q => u.lookup q
        | false =>
          rw [if_neg Bool.false_ne_true, List.filter_cons_of_neg (by rw [hp]; exact Bool.false_ne_true)]
          exact (ih zs (fun b hb' => hst b (.tail _ hb')) (by omega)).sub (sub_acc0 hτ (acc_off c) hb) fun τ' σ' u q => u.lookup q
  have := key as [] hstep (by rw [List.length_nil]; omega)
  rwa [List.nil_append] at this
theorem evo_filter {α : Type} (as : List α) {g f : α → AV} (p : α → Bool) {cnd : Expr} {scope : Scope} {cl : List (Str × Addr)} {pos : Pos} (c : Cap env scope cl) (he : EvJ prog w hT d env W σ iter tg (as.map g)) (hτ : CapS scope σ τ) (hn : as.length ≤ sizeLine)
    (hstep : ∀ a ∈ as, ∀ L zs, ∃ σ1, BindT (Wof scope) ((".acc", .own zs) :: τ) tg (g a) σ1 ∧ Ts prog w hT d (cenvOf scope cl L env) (Wof scope) σ1 cnd (p a) ∧ (p a = true → Ev prog w hT d (cenvOf scope cl L env) (Wof scope) σ1 elt (f a)))
    (hs : ∀ x, foldedSetIterable iter env x = pure x := by intro _; rfl) : EvO prog w hT d env W σ (.ListComp elt [⟨tg, iter, [cnd], 0⟩] scope pos) ((as.filter p).map f) :=
  evo_comp c he hτ (cl_filter as p c hτ hn hstep) hs
end
end Mine
end
section
open PySem PySem.W PyProof.Rows
set_option Elab.async false
namespace Mine
section
variable {prog : Program} {w : World} {hT : Heap} {d : Nat} {env : Env} {W : Str → Bool} {σ : Sig}
end
end Mine
end
section
open PySem PySem.W PySem.W.X PyProof.Rows Builtin.Str
set_option Elab.async false
set_option maxRecDepth 100000
namespace Mine
noncomputable def numStep (ns : List Int) (count : Int) (l : List Int) (k : Int) : List Int := l.set (k.fmod count).toNat (l.getD (k.fmod count).toNat 0 + (ns.getD k.toNat 0).fmod 5040)
noncomputable def numsF (ns : List Int) (count : Int) : List Int := (rangeL 0 1 (min (ns.length : Int) 60).toNat).foldl (numStep ns count) (List.replicate count.toNat 0)
theorem numStep_length (ns : List Int) (count : Int) (l : List Int) (k : Int) : (numStep ns count l k).length = l.length := by unfold numStep; rw [List.length_set]
theorem foldl_numStep_length (ns : List Int) (count : Int) : ∀ (ks : List Int) (l : List Int), (ks.foldl (numStep ns count) l).length = l.length
  | [], _ => rfl
  | k :: ks, l => by rw [List.foldl_cons, foldl_numStep_length ns count ks, numStep_length]
theorem numsF_length (ns : List Int) (count : Int) : (numsF ns count).length = count.toNat := by unfold numsF; rw [foldl_numStep_length, List.length_replicate]
section
variable {w : World} {hT : Heap} {d : Nat} {K : Frag} {mg mb : Str → Option Value}
set_option maxHeartbeats 4000000 in
theorem fn_numbers {a : Addr} {ns : List Int} {count : Int} (T : Tp hT K mg mb) (hf : FnAt hT a (stN iNum) "_law_numbers" "_law_numbers") (hlen : mg "len" = none) (hmin : mg "min" = none) (hrg : mg "range" = none) (hns : ns.length ≤ 100) (h1 : 1 ≤ count) (h2 : count ≤ 100) :
    Fn PR w hT (d + 1) (.ref a) [.lst (ns.map .int), .int count] (.lst ((numsF ns count).map .int)) := by
  obtain ⟨doc, pm, an, cd, ct, oc, od, osl, ho, hcd⟩ := id hf
  refine fn_body (ps := ["script", "count"]) T ho rfl hcd rfl rfl (fun vs h => by obtain ⟨v, u, rfl⟩ := len2 h; rfl) (by decide) (fun p hp => .inl (by
    rcases List.mem_cons.mp hp with rfl | hp
    · rfl
    · rw [List.mem_singleton.mp hp]; rfl)) rfl (fun L => ?_) rfl rfl rfl
  have hL : 100 ≤ sizeLine := by decide
  have e0 : List.replicate count.toNat (AV.int 0) = (List.replicate count.toNat (0 : Int)).map .int := by rw [List.map_replicate]
  with_unfolding_all refine ex_cons (st_assignO (ys := (List.replicate count.toNat (0 : Int)).map .int) rfl (e0 ▸ evo_mul1 (evo_list (evl_cons ev_int evl_nil)).lv (ev_name rfl) (by omega) (by omega)) ?_)
  have hmn : 0 ≤ min (ns.length : Int) 60 := Int.le_min.mpr ⟨Int.natCast_nonneg _, by decide⟩
  have hn : Builtin.Range.rangeSize 0 (min ((ns.map AV.int).length : Int) 60) 1 = ((min (ns.length : Int) 60).toNat : Int) := by
    rw [List.length_map]; exact rsz (by rw [Int.zero_add, Int.toNat_of_nonneg hmn])
  have hsm : Builtin.Range.small 0 (min ((ns.map AV.int).length : Int) 60) 1 = true := by
    rw [List.length_map]
    exact small_r ⟨by decide, by decide, hmn, Int.le_trans (Int.min_le_right _ _) (by decide)⟩
  refine ex_cons (st_for (evI_range (ev_call (gl_boot T hrg (by decide +kernel)) kr_type (evl_cons (ev_call (gl_boot T hmin (by decide +kernel)) kr_builtin (evl_cons (ev_callL (gl_boot T hlen (by decide +kernel)) kr_builtin (lv_val (ev_name rfl)) (fnl_len (by rw [List.length_map]; omega))) (evl_cons ev_int evl_nil)) fn_min2) evl_nil) fn_range1) hsm _ hn) ?_)
  have hmem : ∀ i ∈ rangeL 0 1 (min (ns.length : Int) 60).toNat, 0 ≤ i ∧ i < ns.length := fun i hi => by
    unfold rangeL at hi
    obtain ⟨k, hk, rfl⟩ := List.mem_map.mp hi
    rw [Int.zero_add, Int.mul_one]
    exact ⟨Int.natCast_nonneg k, Int.lt_of_lt_of_le (Int.lt_toNat.mp (List.mem_range.mp hk)) (Int.min_le_left _ _)⟩
  let τ (z : List Int) : Sig := [("script", .val (.lst (ns.map .int))), ("count", .val (.int count)), ("numbers", .own (z.map .int))]
  have key : ∀ (is : List Int) (z : List Int), z.length = count.toNat → (∀ i ∈ is, 0 ≤ i ∧ i < ns.length) → Loop PR w hT d (callEnvC (fdN (stN iNum) "_law_numbers" "_law_numbers" .none .none doc pm an cd ct) L a) (Wof (scopeOf (stN iNum))) (forTg (nth (bodyOf (stN iNum)) 1)) (forBody (nth (bodyOf (stN iNum)) 1)) (is.map .int) (τ z)
      (fun fl σ' => fl = .next ∧ Sub (τ (is.foldl (numStep ns count) z)) σ') := by
    intro is
    induction is with
    | nil => intro z _ _; exact ⟨rfl, Sub.refl _⟩
    | cons i is ih =>
      intro z hz hi
      obtain ⟨hi1, hi2⟩ := hi i (.head _)
      rw [List.map_cons]
      have hc0 : 0 < count := Int.lt_of_lt_of_le (by decide) h1
      have hm0 : 0 ≤ i.fmod count := Int.fmod_nonneg_of_pos i hc0
      have hm1 : i.fmod count < count := Int.fmod_lt_of_pos i hc0
      have hget : (z.map AV.int)[(i.fmod count).toNat]? = some (.int (z.getD (i.fmod count).toNat 0)) := by
        have : (i.fmod count).toNat < z.length := by rw [hz]; exact (Int.toNat_lt_toNat hc0).mpr hm1
        simp [List.getD, this]
      have hgs : (ns.map AV.int)[i.toNat]? = some (.int (ns.getD i.toNat 0)) := by
        have : i.toNat < ns.length := (Int.toNat_lt hi1).mpr hi2
        simp [List.getD, this]
      refine loop_cons (BindT.name rfl) ?_
      with_unfolding_all refine ex_cons (st_setitem (k := i.fmod count) (xs := z.map .int) rfl (ev_binop (ev_item (y := .int (z.getD (i.fmod count).toNat 0)) (lv_own rfl) (ev_binop (ev_name rfl) (ev_name rfl) (op_mod (by omega))) hm0 (by omega) hget) (ev_binop (ev_item (y := .int (ns.getD i.toNat 0)) (lv_val (ev_name rfl)) (ev_name rfl) hi1 (by omega) hgs) ev_int (op_mod (by decide))) op_add) (ev_binop (ev_name rfl) (ev_name rfl) (op_mod (by omega))) hm0 (by rw [List.length_map]; omega) (by omega) ?_)
      refine ex_nil ?_
      refine (ih (numStep ns count z i) (by rw [numStep_length]; exact hz) fun j hj => hi j (.tail _ hj)).sub (sub_of (all_cons rfl (all_cons rfl (all_cons ?_ all_nil)))) keepS
      refine congrArg (fun z => some (Cell.own z)) ?_
      unfold numStep
      rw [List.map_set]
  refine Loop.mono ((key _ _ (by rw [List.length_replicate]) hmem).sub (sub_of (all_cons rfl (all_cons rfl (all_cons rfl all_nil)))) keepS) ?_
  rintro fl σ' ⟨rfl, u⟩
  refine Ex.sub ?_ u
  refine ex_freeze "numbers" rfl ?_
  refine ex_cons (st_return (ev_name rfl) (.inl rfl))
end
end Mine
end
section
open PySem PySem.W PySem.W.X PyProof.Rows Builtin.Str
set_option Elab.async false
namespace Mine
section
variable {prog : Program} {w : World} {hT : Heap} {d : Nat} {env : Env} {W : Str → Bool} {σ : Sig}
theorem ev_neg {e : Expr} {i : Int} {pos : Pos} (h : Ev prog w hT d env W σ e (.int i)) : Ev prog w hT d env W σ (.UnaryOp .USub e pos) (.int (-i)) := fun A m F s ok S =>
  UnaryOp_ (h.use ok S fun v s1 F1 k1 x1 S1 r1 => by
    unfold Rep at r1; obtain ⟨t, rfl⟩ := r1
    exact neg_int (fin0 k1 x1 (by unfold Rep; exact ⟨_, rfl⟩)))
theorem range_get {α : Type} (f : Nat → α) {n k : Nat} (h : k < n) : ((List.range n).map f)[((k : Int)).toNat]? = some (f k) := by
  rw [Int.toNat_natCast, List.getElem?_map, List.getElem?_range h]; rfl
end
end Mine
end
section
open PySem PySem.W PySem.W.X PyProof.Rows Builtin.Str
set_option Elab.async false
namespace Mine
theorem cap3 {env : Env} {scope : Scope} {x y z : Str} {a b c : Addr} (h1 : closureFor scope env = pure [(x, a), (y, b), (z, c)]) (hn : [x, y, z].Nodup) (p1 : env.cells.lookup x = some a ∧ env.kindOf x = some .cell ∧ scope.names.lookup x = some .free) (p2 : env.cells.lookup y = some b ∧ env.kindOf y = some .cell ∧ scope.names.lookup y = some .free) (p3 : env.cells.lookup z = some c ∧ env.kindOf z = some .cell ∧ scope.names.lookup z = some .free) (h4 : scopeOk scope = true) (h5 : env.scope.kind = .function := by rfl) : Cap env scope [(x, a), (y, b), (z, c)] :=
  cap_mk h1 hn (List.forall_mem_cons.mpr ⟨p1, List.forall_mem_cons.mpr ⟨p2, List.forall_mem_cons.mpr ⟨p3, fun _ h => nomatch h⟩⟩⟩) h4 h5
section
variable {prog : Program} {w : World} {hT : Heap} {d : Nat} {env : Env} {W : Str → Bool} {σ : Sig} {Q : AFlow → Sig → Prop}
end
end Mine
end
section
open PySem PySem.W PySem.W.X PyProof.Rows Builtin.Str
set_option Elab.async false
set_option maxRecDepth 100000
namespace Mine
noncomputable def iDep : Nat := 8
noncomputable def iUni : Nat := 9
noncomputable def iWay : Nat := 10
noncomputable def iBeg : Nat := 11
noncomputable def iTyp : Nat := 12
noncomputable def iLaw : Nat := 13
theorem len_app' (x y : Str) : (x ++ y).length = x.length + y.length := Array.size_append
theorem fmod_bd {a b : Int} (h : 0 < b) : 0 ≤ a.fmod b ∧ a.fmod b < b := by
  rw [Int.fmod_eq_emod_of_nonneg _ (by omega)]
  exact ⟨Int.emod_nonneg _ (by omega), Int.emod_lt_of_pos _ h⟩
theorem shE {i k n : Nat} (h : i + (k + 1) = n) : i + 1 + k = n := by omega
theorem ltE {i k n : Nat} (h : i + (k + 1) = n) : i < n := by omega
theorem neg1 {n : Nat} (h : 0 < n) : -((n : Nat) : Int) ≤ -1 := by omega
theorem nat63 {n : Nat} (h : n ≤ 100000) : ((n : Nat) : Int) < 2 ^ 63 := by omega
theorem small_r0 {n : Nat} (h : n ≤ 100000) : Builtin.Range.small 0 ((n : Nat) : Int) 1 = true := small_r ⟨Int.le_refl 0, by decide, Int.natCast_nonneg n, Int.ofNat_le.mpr h⟩
theorem rsz0 {n : Nat} : Builtin.Range.rangeSize 0 ((n : Nat) : Int) 1 = ((n : Nat) : Int) := rsz (Int.zero_add _).symm
theorem items_nat (n : Nat) : (rangeL 0 1 n).map AV.int = (List.range n).map fun j => AV.int ((0 + j : Nat) : Int) := by
  unfold rangeL
  rw [List.map_map]
  refine List.map_congr_left fun j _ => ?_
  show AV.int (0 + (j : Int) * 1) = AV.int ((0 + j : Nat) : Int)
  rw [Int.mul_one, Int.zero_add, Nat.zero_add]
theorem items_succ (i k : Nat) : (List.range (k + 1)).map (fun j => AV.int ((i + j : Nat) : Int)) = AV.int ((i : Nat) : Int) :: (List.range k).map fun j => AV.int ((i + 1 + j : Nat) : Int) := by
  rw [List.range_succ_eq_map, List.map_cons, List.map_map]
  refine congrArg (List.cons (AV.int ((i : Nat) : Int))) (List.map_congr_left fun j _ => ?_)
  show AV.int ((i + (j + 1) : Nat) : Int) = _
  rw [Nat.add_assoc, Nat.add_comm 1]
theorem last_get {α : Type} (f : α → AV) (l : List α) (x : α) : ((l ++ [x]).map f)[((-1 : Int) + (((l ++ [x]).map f).length : Int)).toNat]? = some (f x) := by
  rw [List.length_map, List.length_append, List.length_singleton, show ((-1 : Int) + ((l.length + 1 : Nat) : Int)).toNat = l.length by omega, List.map_append, List.getElem?_append_right (by rw [List.length_map]; omega), List.length_map, Nat.sub_self]
  rfl
/-- the depths, told by the numbers -/
noncomputable def depGo (num : List Int) : List Int → List Int → List Int
  | ds, [] => ds
  | ds, p :: ps => depGo num (ds ++ [(num.getD p.toNat 0 + p * p).fmod (ds.getLastD 0 + 2)]) ps
noncomputable def depF (num : List Int) (b c : Int) : List Int := depGo num [0] (rangeL (b + 1) 1 (c - 1).toNat)
noncomputable def okD (ds : List Int) : Prop := ds ≠ [] ∧ ∀ d ∈ ds, 0 ≤ d ∧ d < ds.length
theorem dep_len (num : List Int) : ∀ (ps ds : List Int), (depGo num ds ps).length = ds.length + ps.length
  | [], _ => rfl
  | p :: ps, ds => by
    show (depGo num (ds ++ [_]) ps).length = _
    rw [dep_len num ps, List.length_append, List.length_singleton, List.length_cons]; omega
theorem last_mem {ds : List Int} (h : ds ≠ []) : ds.getLastD 0 ∈ ds := by
  cases ds with
  | nil => exact absurd rfl h
  | cons d ds => rw [List.getLastD_cons]; cases ds with
    | nil => exact .head _
    | cons e ds => rw [List.getLastD_eq_getLast?, List.getLast?_eq_some_getLast (by simp)]; exact .tail _ (List.getLast_mem (by simp))
theorem snoc_last (ds : List Int) (h : ds ≠ []) : ∃ l, ds = l ++ [ds.getLastD 0] := by
  refine ⟨ds.dropLast, ?_⟩
  have := List.dropLast_concat_getLast h
  rw [List.getLastD_eq_getLast?, List.getLast?_eq_some_getLast h]
  exact this.symm
theorem okD_snoc {num ds : List Int} {p : Int} (h : okD ds) : okD (ds ++ [(num.getD p.toNat 0 + p * p).fmod (ds.getLastD 0 + 2)]) := by
  obtain ⟨h1, h2⟩ := h
  refine ⟨by simp, fun d hd => ?_⟩
  rw [List.length_append, List.length_singleton]
  rcases List.mem_append.mp hd with hd | hd
  · have := h2 d hd; omega
  · rw [List.mem_singleton.mp hd]
    have := h2 _ (last_mem h1)
    have := fmod_bd (a := num.getD p.toNat 0 + p * p) (b := ds.getLastD 0 + 2) (by omega)
    omega
theorem okD_zero : okD [0] := ⟨by simp, fun d hd => by rw [List.mem_singleton.mp hd]; decide⟩
section
variable {w : World} {hT : Heap} {d : Nat} {K : Frag} {mg mb : Str → Option Value}
set_option maxHeartbeats 4000000 in
theorem fn_depths {a : Addr} {num : List Int} {b c : Int} (T : Tp hT K mg mb) (hf : FnAt hT a (stN iDep) "_law_depths" "_law_depths") (hrg : mg "range" = none) (hb : 0 ≤ b) (hc : 1 ≤ c) (hbc : b + c ≤ num.length) (hn : num.length ≤ 100) :
    Fn PR w hT (d + 1) (.ref a) [.lst (num.map .int), .int b, .int c] (.lst ((depF num b c).map .int)) := by
  obtain ⟨doc, pm, an, cd, ct, oc, od, osl, ho, hcd⟩ := id hf
  refine fn_body (ps := ["numbers", "begin", "count"]) T ho rfl hcd rfl rfl (fun vs h => by obtain ⟨v, u, z, rfl⟩ := len3 h; rfl) (by decide) (fun p hp => .inl (by
    rcases List.mem_cons.mp hp with rfl | hp
    · rfl
    · rcases List.mem_cons.mp hp with rfl | hp
      · rfl
      · rw [List.mem_singleton.mp hp]; rfl)) rfl (fun L => ?_) rfl rfl rfl
  have hL : 1000 ≤ sizeLine := by decide
  with_unfolding_all refine ex_cons (st_assignO (ys := ([0] : List Int).map .int) rfl (evo_list (evl_cons ev_int evl_nil)) ?_)
  have hrs : Builtin.Range.rangeSize (b + 1) (b + c) 1 = (((c - 1).toNat : Nat) : Int) := by
    exact rsz (by omega)
  refine ex_cons (st_for (evI_range (ev_call (gl_boot T hrg (by decide +kernel)) kr_type (evl_cons (ev_binop (ev_name rfl) ev_int op_add) (evl_cons (ev_binop (ev_name rfl) (ev_name rfl) op_add) evl_nil)) fn_range2) (small_r (by omega)) _ hrs) ?_)
  let τ (z : List Int) : Sig := [("numbers", .val (.lst (num.map .int))), ("depths", .own (z.map .int))]
  have key : ∀ (is z : List Int), okD z → z.length + is.length ≤ 200 → (∀ i ∈ is, 0 ≤ i ∧ i < num.length) → Loop PR w hT d (callEnvC (fdN (stN iDep) "_law_depths" "_law_depths" .none .none doc pm an cd ct) L a) (Wof (scopeOf (stN iDep))) (forTg (nth (bodyOf (stN iDep)) 1)) (forBody (nth (bodyOf (stN iDep)) 1)) (is.map .int) (τ z)
      (fun fl σ' => fl = .next ∧ Sub (τ (depGo num z is)) σ') := by
    intro is
    induction is with
    | nil => intro z _ _ _; exact ⟨rfl, Sub.refl _⟩
    | cons i is ih =>
      intro z hz hl hi
      obtain ⟨hi1, hi2⟩ := hi i (.head _)
      rw [List.length_cons] at hl
      rw [List.map_cons]
      have hgn : (num.map AV.int)[i.toNat]? = some (.int (num.getD i.toNat 0)) := by
        have : i.toNat < num.length := by omega
        simp [List.getD, this]
      obtain ⟨l, hl1⟩ := snoc_last z hz.1
      have hlast := hz.2 _ (last_mem hz.1)
      have hg1 := last_get AV.int l (z.getLastD 0)
      rw [← hl1] at hg1
      have hzl : 1 ≤ z.length := List.length_pos_iff.mpr hz.1
      refine loop_cons (BindT.name rfl) ?_
      with_unfolding_all refine ex_cons (st_append (xs := z.map .int) (y := .int ((num.getD i.toNat 0 + i * i).fmod (z.getLastD 0 + 2))) rfl (ev_binop (ev_binop (ev_item (y := .int (num.getD i.toNat 0)) (lv_val (ev_name rfl)) (ev_name rfl) hi1 (by omega) hgn) (ev_binop (ev_name rfl) (ev_name rfl) (op_mul (mulOkL (by omega)))) op_add) (ev_binop (ev_item_neg (xs := z.map .int) (y := .int (z.getLastD 0)) (lv_own rfl) (ev_neg ev_int) (by decide) (by rw [List.length_map]; omega) (by decide) hg1) ev_int op_add) (op_mod (by omega))) (by rw [List.length_map]; omega) ?_)
      refine ex_nil ?_
      refine (ih (z ++ [(num.getD i.toNat 0 + i * i).fmod (z.getLastD 0 + 2)]) (okD_snoc hz) (by rw [List.length_append, List.length_singleton]; omega) fun j hj => hi j (.tail _ hj)).sub (sub_of (all_cons rfl (all_cons ?_ all_nil))) keepS
      exact congrArg (fun z => some (Cell.own z)) (by rw [List.map_append]; rfl)
  have hmem : ∀ i ∈ rangeL (b + 1) 1 (c - 1).toNat, 0 ≤ i ∧ i < num.length := fun i hi => by
    unfold rangeL at hi
    obtain ⟨k, hk, rfl⟩ := List.mem_map.mp hi
    have := List.mem_range.mp hk
    omega
  refine Loop.mono ((key _ [0] okD_zero (by unfold rangeL; rw [List.length_map, List.length_range, List.length_singleton]; omega) hmem).sub (sub_of (all_cons rfl (all_cons rfl all_nil))) keepS) ?_
  rintro fl σ' ⟨rfl, u⟩
  refine Ex.sub ?_ u
  refine ex_freeze "depths" rfl ?_
  exact ex_cons (st_return (ev_name rfl) (.inl rfl))
end
end Mine
end
section
open PySem PySem.W PySem.W.X PyProof.Rows Builtin.Str
set_option Elab.async false
namespace Mine
/-- pieces of a text: a bracket, two backslashes, a quoted bracket, a bracket behind a backslash -/
inductive Pc where
  | sg (b : Bool)
  | b2
  | qu (b : Bool)
  | es (b : Bool)
noncomputable def br (b : Bool) : Nat := if b then 40 else 41
noncomputable def Pc.cps : Pc → List Nat
  | .sg b => [br b]
  | .b2 => [92, 92]
  | .qu b => [34, br b, 34]
  | .es b => [92, br b]
noncomputable def Pc.its : Pc → List Str
  | .sg b => [⟨#[br b]⟩]
  | .b2 => [⟨#[92, 92]⟩]
  | .qu _ => []
  | .es b => [⟨#[92, br b]⟩]
noncomputable def Pc.kept : Pc → Bool
  | .qu _ => false
  | _ => true
noncomputable def Pc.sign : Pc → List Bool
  | .sg b => [b]
  | _ => []
noncomputable def cpsOf (ps : List Pc) : List Nat := ps.flatMap Pc.cps
noncomputable def noq (ps : List Pc) : List Pc := ps.filter Pc.kept
noncomputable def itsOf (ps : List Pc) : List Str := ps.flatMap Pc.its
theorem cpsOf_cons (p : Pc) (ps : List Pc) : cpsOf (p :: ps) = p.cps ++ cpsOf ps := List.flatMap_cons
theorem itsOf_cons (p : Pc) (ps : List Pc) : itsOf (p :: ps) = p.its ++ itsOf ps := List.flatMap_cons
theorem itsOf_noq : ∀ ps : List Pc, itsOf (noq ps) = itsOf ps
  | [] => rfl
  | p :: ps => by
    have ih := itsOf_noq ps
    cases p <;> (unfold noq; simp only [List.filter_cons, Pc.kept, if_true]; try rw [itsOf_cons]; try rw [itsOf_cons]) <;> first | (rw [← ih]; rfl) | exact ih
theorem br_ne (b : Bool) : br b ≠ 92 ∧ br b ≠ 34 := by cases b <;> decide
theorem escPr_any (p q : Int) (i : Nat) (cs : List Nat) : escPr p false i cs = escPr q false i cs := by
  cases cs with
  | nil => rfl
  | cons c cs => rfl
theorem esc_sg (p : Int) (i : Nat) (b : Bool) (cs : List Nat) : escPr p false i (br b :: cs) = ((i : Int), ⟨#[br b]⟩) :: escPr p false (i + 1) cs := by
  show (if false = true then _ else if br b = 92 then _ else _) = _
  rw [if_neg Bool.false_ne_true, if_neg (br_ne b).1, escPr_any i p]
theorem esc_q (p : Int) (i : Nat) (cs : List Nat) : escPr p false i (34 :: cs) = ((i : Int), ⟨#[34]⟩) :: escPr p false (i + 1) cs := by
  show (if false = true then _ else if (34 : Nat) = 92 then _ else _) = _
  rw [if_neg Bool.false_ne_true, if_neg (by decide), escPr_any i p]
theorem esc_two (p : Int) (i c : Nat) (cs : List Nat) : escPr p false i (92 :: c :: cs) = (((i + 1 : Nat) : Int), (⟨#[92, c]⟩ : Str)) :: escPr p false (i + 2) cs := by
  show (if false = true then _ else if (92 : Nat) = 92 then escPr i true (i + 1) (c :: cs) else _) = _
  rw [if_neg Bool.false_ne_true, if_pos rfl]
  show (if true = true then (((i + 1 : Nat) : Int), (⟨#[92, c]⟩ : Str)) :: escPr (i + 1 : Nat) false (i + 1 + 1) cs else _) = _
  rw [if_pos rfl, escPr_any _ p]
theorem esc_its : ∀ (ps : List Pc) (p : Int) (i : Nat), (∀ q ∈ ps, q.kept = true) → (escPr p false i (cpsOf ps)).map (·.2) = itsOf ps
  | [], _, _, _ => rfl
  | q :: ps, p, i, h => by
    have ih := fun i => esc_its ps p i fun r hr => h r (.tail _ hr)
    have hq := h q (.head _)
    rw [cpsOf_cons, itsOf_cons]
    cases q with
    | sg b => show (escPr p false i (br b :: cpsOf ps)).map (·.2) = _; rw [esc_sg, List.map_cons, ih]; rfl
    | b2 => show (escPr p false i (92 :: 92 :: cpsOf ps)).map (·.2) = _; rw [esc_two, List.map_cons, ih]; rfl
    | qu b => cases hq
    | es b => show (escPr p false i (92 :: br b :: cpsOf ps)).map (·.2) = _; rw [esc_two, List.map_cons, ih]; rfl
theorem slice_cps (x : Str) {a b : Nat} (hab : a ≤ b) (hb : b ≤ x.length) : (Txt.slice x (some (a : Int)) (some (b : Int))).cps.toList = (x.cps.toList.drop a).take (b - a) := by
  unfold Txt.slice
  split
  · rename_i h
    have hl := StrLaws.strSliceIndices_plain hab hb
    rw [hl, List.length_map, List.length_range] at h
    simp only [beq_self_eq_true, Bool.true_and, beq_iff_eq] at h
    have ha : a = 0 := by omega
    subst ha
    have hbl : b = x.cps.toList.length := by rw [Array.length_toList]; show b = x.length; omega
    rw [List.drop_zero, Nat.sub_zero, hbl, List.take_length]
  · have := StrLaws.sliced_plain x hab hb
    rw [this]
theorem slice_cps_end (x : Str) {a : Nat} (ha : a ≤ x.length) : (Txt.slice x (some (a : Int)) none).cps.toList = x.cps.toList.drop a := by
  have e : Txt.slice x (some (a : Int)) none = Txt.slice x (some (a : Int)) (some (x.length : Int)) := by
    have : strSliceIndices (some (a : Int)) none 1 x.length = strSliceIndices (some (a : Int)) (some (x.length : Int)) 1 x.length := by
      have h1 : ¬ ((x.length : Int) < 0) := by omega
      simp only [strSliceIndices, show ((1 : Int) > 0) = True from by simp, if_true, h1, if_false]
      congr 1
      omega
    unfold Txt.slice
    rw [this]
  rw [e, slice_cps x ha (Nat.le_refl _)]
  have hl : x.length = x.cps.toList.length := by rw [Array.length_toList]; rfl
  rw [List.take_of_length_le]
  rw [List.length_drop]; omega
theorem glue_cps' : ∀ (l : List Str) (a : Array Nat), (l.foldl (fun acc p => acc ++ (#[] : Array Nat) ++ p.cps) a).toList = a.toList ++ l.flatMap (·.cps.toList)
  | [], a => by simp
  | x :: l, a => by
    rw [List.foldl_cons, glue_cps' l, List.flatMap_cons]
    simp
theorem join_cps' (l : List Str) : (Txt.join ⟨#[]⟩ l).cps.toList = l.flatMap (·.cps.toList) := by
  show (Builtin.Str.glued ⟨#[]⟩ l).cps.toList = _
  unfold Builtin.Str.glued
  cases l with
  | nil => rfl
  | cons x l =>
    show (List.foldl (fun acc p => acc ++ (#[] : Array Nat) ++ p.cps) x.cps l).toList = _
    rw [glue_cps', List.flatMap_cons]
theorem str_ext {x y : Str} (h : x.cps.toList = y.cps.toList) : x = y := by
  obtain ⟨a⟩ := x
  obtain ⟨b⟩ := y
  exact congrArg Str.mk (Array.toList_inj.mp h)
theorem sg_ne_q (b : Bool) : ¬ ((⟨#[br b]⟩ : Str) = ⟨#[34]⟩) := by cases b <;> decide
theorem two_ne_q (c : Nat) : ¬ ((⟨#[92, c]⟩ : Str) = ⟨#[34]⟩) := fun h => by injection h with h; injection h with h; cases h
theorem sg_step (x : Str) {p : Int} {c : Str} (hc : ¬ c = ⟨#[34]⟩) (r : List (Int × Str)) (s : Int) (o : Option Int) (rs : List Str) : stripGo x ((p, c) :: r) s o rs = stripGo x r s o rs := by
  show (if c = ⟨#[34]⟩ then _ else _) = _
  rw [if_neg hc]
theorem q_open (x : Str) {p : Int} (r : List (Int × Str)) (s : Int) (rs : List Str) : stripGo x ((p, ⟨#[34]⟩) :: r) s none rs = stripGo x r s (some p) rs := by
  show (if (⟨#[34]⟩ : Str) = ⟨#[34]⟩ then _ else _) = _
  rw [if_pos rfl]
theorem q_close (x : Str) {p q : Int} (r : List (Int × Str)) (s : Int) (rs : List Str) : stripGo x ((p, ⟨#[34]⟩) :: r) s (some q) rs = stripGo x r (p + 1) none (if s = q then rs else rs ++ [Txt.slice x (some s) (some q)]) := by
  show (if (⟨#[34]⟩ : Str) = ⟨#[34]⟩ then _ else _) = _
  rw [if_pos rfl]
theorem strip_go (x : Str) (p : Int) : ∀ (ps : List Pc) (pre : List Nat) (s : Nat) (rs : List Str), x.cps.toList = pre ++ cpsOf ps → s ≤ pre.length →
    ∃ s' : Nat, s' ≤ x.cps.toList.length ∧ (stripGo x (escPr p false pre.length (cpsOf ps)) s none rs).1 = s' ∧
      (stripGo x (escPr p false pre.length (cpsOf ps)) s none rs).2.flatMap (·.cps.toList) ++ x.cps.toList.drop s' = rs.flatMap (·.cps.toList) ++ pre.drop s ++ cpsOf (noq ps)
  | [], pre, s, rs, hx, hs => by
    refine ⟨s, ?_, rfl, ?_⟩
    · rw [hx, List.length_append]; omega
    · show rs.flatMap (·.cps.toList) ++ x.cps.toList.drop s = rs.flatMap (·.cps.toList) ++ pre.drop s ++ []
      have hx' : x.cps.toList = pre := by rw [hx]; exact List.append_nil _
      rw [hx', List.append_nil]
  | q :: ps, pre, s, rs, hx, hs => by
    rw [cpsOf_cons, ← List.append_assoc] at hx
    have ih := fun (s : Nat) (rs : List Str) (h : s ≤ (pre ++ q.cps).length) => strip_go x p ps (pre ++ q.cps) s rs hx h
    have hd : s ≤ pre.length → (pre ++ q.cps).drop s = pre.drop s ++ q.cps := fun h => List.drop_append_of_le_length h
    have le : s ≤ (pre ++ q.cps).length := by rw [List.length_append]; omega
    rw [cpsOf_cons]
    cases q with
    | sg b =>
      obtain ⟨s', h1, h2, h3⟩ := ih s rs le
      have e : stripGo x (escPr p false pre.length ((Pc.sg b).cps ++ cpsOf ps)) s none rs = stripGo x (escPr p false (pre ++ (Pc.sg b).cps).length (cpsOf ps)) s none rs := by
        show stripGo x (escPr p false pre.length (br b :: cpsOf ps)) s none rs = _
        rw [esc_sg, sg_step x (sg_ne_q b), List.length_append]; rfl
      rw [e]
      refine ⟨s', h1, h2, h3.trans ?_⟩
      rw [hd hs]
      show _ = _ ++ cpsOf (Pc.sg b :: noq ps)
      rw [cpsOf_cons]; simp only [List.append_assoc]
    | b2 =>
      obtain ⟨s', h1, h2, h3⟩ := ih s rs le
      have e : stripGo x (escPr p false pre.length (Pc.b2.cps ++ cpsOf ps)) s none rs = stripGo x (escPr p false (pre ++ Pc.b2.cps).length (cpsOf ps)) s none rs := by
        show stripGo x (escPr p false pre.length (92 :: 92 :: cpsOf ps)) s none rs = _
        rw [esc_two, sg_step x (two_ne_q _), List.length_append]; rfl
      rw [e]
      refine ⟨s', h1, h2, h3.trans ?_⟩
      rw [hd hs]
      show _ = _ ++ cpsOf (Pc.b2 :: noq ps)
      rw [cpsOf_cons]; simp only [List.append_assoc]
    | es b =>
      obtain ⟨s', h1, h2, h3⟩ := ih s rs le
      have e : stripGo x (escPr p false pre.length ((Pc.es b).cps ++ cpsOf ps)) s none rs = stripGo x (escPr p false (pre ++ (Pc.es b).cps).length (cpsOf ps)) s none rs := by
        show stripGo x (escPr p false pre.length (92 :: br b :: cpsOf ps)) s none rs = _
        rw [esc_two, sg_step x (two_ne_q _), List.length_append]; rfl
      rw [e]
      refine ⟨s', h1, h2, h3.trans ?_⟩
      rw [hd hs]
      show _ = _ ++ cpsOf (Pc.es b :: noq ps)
      rw [cpsOf_cons]; simp only [List.append_assoc]
    | qu b =>
      have hlen : (pre ++ (Pc.qu b).cps).length = pre.length + 3 := by rw [List.length_append]; rfl
      obtain ⟨s', h1, h2, h3⟩ := ih (pre.length + 3) (if (s : Int) = (pre.length : Nat) then rs else rs ++ [Txt.slice x (some (s : Int)) (some ((pre.length : Nat) : Int))]) (by omega)
      have e : stripGo x (escPr p false pre.length ((Pc.qu b).cps ++ cpsOf ps)) s none rs = stripGo x (escPr p false (pre ++ (Pc.qu b).cps).length (cpsOf ps)) ((pre.length + 3 : Nat) : Int) none (if (s : Int) = (pre.length : Nat) then rs else rs ++ [Txt.slice x (some (s : Int)) (some ((pre.length : Nat) : Int))]) := by
        show stripGo x (escPr p false pre.length (34 :: br b :: 34 :: cpsOf ps)) s none rs = _
        rw [esc_q, esc_sg, esc_q, q_open, sg_step x (sg_ne_q b), q_close, hlen]; rfl
      rw [e]
      refine ⟨s', h1, h2, h3.trans ?_⟩
      have hz : (pre ++ (Pc.qu b).cps).drop (pre.length + 3) = [] := List.drop_eq_nil_of_le (by omega)
      rw [hz, List.append_nil]
      show _ = _ ++ cpsOf (noq ps)
      congr 1
      by_cases c : s = pre.length
      · rw [if_pos (by rw [c]), c, List.drop_length, List.append_nil]
      · rw [if_neg (by omega), List.flatMap_append, List.flatMap_singleton]
        have hxl : pre.length ≤ x.length := by
          have := congrArg List.length hx
          rw [List.length_append, hlen, Array.length_toList] at this
          show pre.length ≤ x.cps.size
          omega
        rw [slice_cps x (by omega) hxl, hx, List.append_assoc, List.drop_append_of_le_length (by omega)]
        congr 1
        rw [List.take_append_of_le_length (by rw [List.length_drop]; omega), List.take_of_length_le (by rw [List.length_drop]; omega)]
theorem no_quote : ∀ ps : List Pc, 34 ∉ cpsOf ps → noq ps = ps
  | [], _ => rfl
  | q :: ps, h => by
    rw [cpsOf_cons, List.mem_append, not_or] at h
    have ih := no_quote ps h.2
    cases q with
    | qu b => exact absurd (List.Mem.head _) h.1
    | _ => exact congrArg (List.cons _) ih
theorem strip_cps {x : Str} {ps : List Pc} (hx : x.cps.toList = cpsOf ps) : (stripF x).cps.toList = cpsOf (noq ps) := by
  have hf := StrLaws.found_one x 34
  unfold stripF
  by_cases hq : 34 ∈ x.cps.toList
  · rw [decide_eq_true hq] at hf
    rw [if_neg (by intro h; rw [h] at hf; cases hf)]
    obtain ⟨s', h1, h2, h3⟩ := strip_go x 0 ps [] 0 [] hx (Nat.le_refl _)
    have he : escItems x = escPr 0 false ([] : List Nat).length (cpsOf ps) := by unfold escItems; rw [hx]; rfl
    dsimp only
    rw [he]
    change (stripGo x _ 0 none []).1 = _ at h2
    change List.flatMap _ (stripGo x _ 0 none []).2 ++ _ = _ at h3
    rw [join_cps', h2]
    rw [Array.length_toList] at h1
    split
    · rename_i hlt
      rw [List.flatMap_append, List.flatMap_singleton, slice_cps_end x h1, h3]; rfl
    · rename_i hlt
      have e : s' = x.cps.toList.length := by
        rw [Array.length_toList]
        have : ¬ (s' : Int) < (x.cps.size : Nat) := hlt
        omega
      rw [e, List.drop_length, List.append_nil] at h3
      rw [h3]; rfl
  · rw [decide_eq_false hq] at hf
    rw [if_pos (by simpa using hf), hx, no_quote ps (by rw [← hx]; exact hq)]
theorem noq_kept (ps : List Pc) : ∀ q ∈ noq ps, q.kept = true := fun _ h => (List.mem_filter.mp h).2
theorem items_of_text {x : Str} {ps : List Pc} (hx : x.cps.toList = cpsOf ps) : (escItems (stripF x)).map (·.2) = itsOf ps := by
  unfold escItems
  rw [strip_cps hx, esc_its _ _ _ (noq_kept ps), itsOf_noq]
/-- brackets read from the left -/
noncomputable def chk : Int → List Bool → Bool
  | o, [] => decide (o = 0)
  | o, true :: l => chk (o + 1) l
  | o, false :: l => if o - 1 < 0 then false else chk (o - 1) l
theorem checkL_its : ∀ (ps : List Pc) (o : Int), checkL o (itsOf ps) = chk o (ps.flatMap Pc.sign)
  | [], _ => rfl
  | q :: ps, o => by
    have ih := checkL_its ps
    have two : ∀ c, checkL o (⟨#[92, c]⟩ :: itsOf ps) = checkL o (itsOf ps) := fun c => by
      show (if (⟨#[92, c]⟩ : Str) = ⟨#[40]⟩ then _ else if (⟨#[92, c]⟩ : Str) = ⟨#[41]⟩ then _ else _) = _
      rw [if_neg (fun h => by injection h with h; injection h with h; cases h), if_neg (fun h => by injection h with h; injection h with h; cases h)]
    rw [itsOf_cons, List.flatMap_cons]
    cases q with
    | sg b =>
      cases b with
      | true =>
        show (if (⟨#[40]⟩ : Str) = ⟨#[40]⟩ then _ else _) = chk (o + 1) _
        rw [if_pos rfl]
        exact ih _
      | false =>
        show (if (⟨#[41]⟩ : Str) = ⟨#[40]⟩ then _ else if (⟨#[41]⟩ : Str) = ⟨#[41]⟩ then _ else _) = (if o - 1 < 0 then false else chk (o - 1) _)
        rw [if_neg (by decide), if_pos rfl]
        split
        · rfl
        · exact ih _
    | b2 => show checkL o (⟨#[92, 92]⟩ :: itsOf ps) = _; rw [two, ih]; rfl
    | qu b => exact ih o
    | es b => show checkL o (⟨#[92, br b]⟩ :: itsOf ps) = _; rw [two, ih]; rfl
theorem checkF_text {x : Str} {ps : List Pc} (hx : x.cps.toList = cpsOf ps) : checkF x = chk 0 (ps.flatMap Pc.sign) := by
  unfold checkF
  rw [items_of_text hx, checkL_its]
end Mine
end
section
open PySem PySem.W PySem.W.X PyProof.Rows Builtin.Str PySem.SeqAt
set_option Elab.async false
set_option maxRecDepth 100000
namespace Mine
/-- depths that a forest may have -/
structure OkS (ds : List Int) : Prop where
  zero : ds.getD 0 0 = 0
  step : ∀ i, i + 1 < ds.length → 0 ≤ ds.getD (i + 1) 0 ∧ ds.getD (i + 1) 0 ≤ ds.getD i 0 + 1
theorem OkS.bd {ds : List Int} (h : OkS ds) : ∀ i, i < ds.length → 0 ≤ ds.getD i 0 ∧ ds.getD i 0 ≤ i
  | 0, _ => by rw [h.zero]; exact ⟨Int.le_refl _, Int.le_refl _⟩
  | i + 1, hi => by
    have h1 := h.bd i (by omega)
    have h2 := h.step i hi
    omega
noncomputable def cl (ds : List Int) (i : Nat) : List Bool := if i = 0 then [] else List.replicate (ds.getD (i - 1) 0 - ds.getD i 0 + 1).toNat false
noncomputable def sgU (ds : List Int) : Nat → List Bool
  | 0 => []
  | i + 1 => (sgU ds i ++ cl ds i) ++ [true]
noncomputable def sgF (ds : List Int) : List Bool := sgU ds ds.length ++ List.replicate (ds.getD (ds.length - 1) 0 + 1).toNat false
theorem sgU_len {ds : List Int} (h : OkS ds) : ∀ i, i < ds.length → ((sgU ds (i + 1)).length : Int) = 2 * i + 1 - ds.getD i 0
  | 0, _ => by rw [h.zero]; rfl
  | i + 1, hi => by
    have ih := sgU_len h i (by omega)
    have hs := h.step i hi
    show ((((sgU ds (i + 1)) ++ cl ds (i + 1)) ++ [true]).length : Int) = _
    rw [List.length_append, List.length_append, List.length_singleton]
    unfold cl
    rw [if_neg (by omega), List.length_replicate, Nat.add_sub_cancel]
    omega
theorem sgF_len {ds : List Int} (h : OkS ds) (h0 : 0 < ds.length) : (sgF ds).length = 2 * ds.length := by
  have h1 := sgU_len h (ds.length - 1) (by omega)
  have h2 := h.bd (ds.length - 1) (by omega)
  rw [show ds.length - 1 + 1 = ds.length by omega] at h1
  unfold sgF
  rw [List.length_append, List.length_replicate]
  omega
theorem sgU_b {ds : List Int} (h : OkS ds) (h7 : ds.length ≤ 20) {i : Nat} (hi : i < ds.length) : (sgU ds i).length + (cl ds i).length + 1 ≤ 1000 := by
  have h1 := sgU_len h i hi
  have h2 := h.bd i hi
  have e : (sgU ds (i + 1)).length = (sgU ds i).length + (cl ds i).length + 1 := by
    show ((sgU ds i ++ cl ds i) ++ [true]).length = _
    rw [List.length_append, List.length_append, List.length_singleton]
  omega
noncomputable def bStr (l : List Bool) : Str := ⟨(l.map br).toArray⟩
theorem bStr_len (l : List Bool) : (bStr l).length = l.length := by
  show ((l.map br).toArray).size = _
  rw [List.size_toArray, List.length_map]
theorem bStr_app (l l' : List Bool) : bStr l ++ bStr l' = bStr (l ++ l') := by
  show (⟨_⟩ : Str) = ⟨_⟩
  refine congrArg Str.mk (Array.toList_inj.mp ?_)
  show ((l.map br).toArray ++ (l'.map br).toArray).toList = ((l ++ l').map br).toArray.toList
  rw [Array.toList_append, List.map_append]
theorem lit_o : Str.ofString "(" = bStr [true] := lit_open
theorem lit_c : Str.ofString ")" = bStr [false] := lit_close
theorem foldl_rep : ∀ (k : Nat) (a : Array Nat), ((List.replicate k (#[41] : Array Nat)).foldl (· ++ ·) a).toList = a.toList ++ List.replicate k 41
  | 0, a => by simp
  | k + 1, a => by
    rw [List.replicate_succ, List.foldl_cons, foldl_rep k, List.replicate_succ]
    simp
theorem mul_c {r : Int} (h0 : 0 ≤ r) : Txt.mul (Str.ofString ")") r = bStr (List.replicate r.toNat false) := by
  refine str_ext ?_
  rw [lit_close]
  show _ = (List.replicate r.toNat false).map br
  rw [List.map_replicate]
  show (Txt.mul ⟨#[41]⟩ r).cps.toList = List.replicate r.toNat 41
  unfold Txt.mul
  split
  · rw [show r.toNat = 0 by omega]; rfl
  · split
    · rename_i h1 h2
      have : r = 1 := by
        rw [Bool.or_eq_true] at h2
        rcases h2 with h2 | h2
        · exact eq_of_beq h2
        · cases h2
      rw [this]; rfl
    · show ((List.replicate r.toNat (#[41] : Array Nat)).foldl (· ++ ·) #[]).toList = _
      rw [foldl_rep]; rfl
theorem c_ok {r : Int} (h0 : 0 ≤ r) (h1 : r ≤ 100) : MulOk (Str.ofString ")") r := mulOk_of 1 100 (by rw [lit_close]; exact Nat.le_refl _) (by omega) (by omega) (by omega) (by omega)
noncomputable def oth (b : Bool) : Str := bStr [!b]
noncomputable def menuU (b : Bool) : List Str := [⟨#[]⟩, ⟨#[]⟩, ⟨#[]⟩, ⟨#[92, 92]⟩, (⟨#[34]⟩ ++ bStr [!b]) ++ ⟨#[34]⟩, ⟨#[92]⟩ ++ bStr [!b]]
noncomputable def unitU (q : Bool × Int) : Str := (menuU q.1).getD q.2.toNat ⟨#[]⟩ ++ bStr [q.1]
noncomputable def formU (num : List Int) (p : Nat) : Int := ((num.getD p 0).fdiv 7 + (p : Int)).fmod 6
/-- the signs, each with its form -/
noncomputable def bfU (ds num : List Int) : List (Bool × Int) := (List.range (sgF ds).length).map fun p => ((sgF ds).getD p false, formU num p)
theorem menuU_len (b : Bool) : (menuU b).length = 6 := rfl
theorem menuU_le (b : Bool) : ∀ x ∈ menuU b, x.length ≤ 3 := by cases b <;> decide +kernel
theorem formU_bd (num : List Int) (p : Nat) : 0 ≤ formU num p ∧ formU num p < 6 := fmod_bd (by decide)
theorem menuU_get (b : Bool) {f : Int} (h : 0 ≤ f ∧ f < 6) : (menuU b)[f.toNat]? = some ((menuU b).getD f.toNat ⟨#[]⟩) := by
  have hl : f.toNat < (menuU b).length := by rw [menuU_len]; omega
  rw [List.getD_eq_getElem?_getD, List.getElem?_eq_getElem hl]; rfl
theorem unitU_len (q : Bool × Int) (h : 0 ≤ q.2 ∧ q.2 < 6) : (unitU q).length ≤ 4 := by
  have := menuU_le q.1 _ (List.mem_of_getElem? (menuU_get q.1 h))
  unfold unitU
  rw [len_app', bStr_len]
  exact Nat.succ_le_succ this
theorem lit_bs2' : Str.ofString "\\\\" = ⟨#[92, 92]⟩ := by decide +kernel
theorem lit_bs' : Str.ofString "\\" = ⟨#[92]⟩ := by decide +kernel
theorem sidx (l : List Bool) {p : Nat} (h : p < l.length) : (seqIndex? ((p : Nat) : Int) (bStr l).length).bind ((bStr l).cps[·]?) = some (br (l.getD p false)) := by
  rw [bStr_len]
  rw [sidx_pos (k := (p : Int)) (Int.natCast_nonneg p) h, Option.bind_some]
  show ((l.map br).toArray)[p]? = _
  rw [List.getElem?_toArray, List.getElem?_map, List.getD_eq_getElem?_getD, List.getElem?_eq_getElem h]; rfl
end Mine
end
section
open PySem PySem.W PySem.W.X PyProof.Rows Builtin.Str PySem.SeqAt
set_option Elab.async false
set_option maxRecDepth 100000
namespace Mine
theorem int_get (l : List Int) {i : Nat} (h : i < l.length) : (l.map AV.int)[((i : Nat) : Int).toNat]? = some (.int (l.getD i 0)) := by
  rw [Int.toNat_natCast]
  simp [List.getD, h]
theorem last_int (l : List Int) (h : 0 < l.length) : (l.map AV.int)[((-1 : Int) + ((l.map AV.int).length : Int)).toNat]? = some (.int (l.getD (l.length - 1) 0)) := by
  cases l with
  | nil => cases h
  | cons x l =>
    rw [List.length_map, List.length_cons, Int.natCast_succ, Int.add_comm, Int.add_neg_cancel_right, Int.toNat_natCast, List.getElem?_map, List.getD_eq_getElem?_getD, Nat.add_sub_cancel, List.getElem?_eq_getElem (Nat.lt_succ_self l.length)]
    rfl
theorem br_o (b : Bool) : decide ((⟨#[br b]⟩ : Str) = Str.ofString "(") = b := by
  rw [lit_open]; cases b <;> decide
noncomputable def uBody : List Stmt := forBody (nth (bodyOf (stN iUni)) 1)
noncomputable def uBody2 : List Stmt := forBody (nth (bodyOf (stN iUni)) 4)
section
variable {w : World} {hT : Heap} {d : Nat} {K : Frag} {mg mb : Str → Option Value}
set_option maxHeartbeats 4000000 in
theorem fn_units {a : Addr} {ds num : List Int} (T : Tp hT K mg mb) (hf : FnAt hT a (stN iUni) "_law_units" "_law_units") (hrg : mg "range" = none) (hlen : mg "len" = none) (hds : OkS ds) (h0 : 0 < ds.length) (h7 : ds.length ≤ 20) (hn : 2 * ds.length ≤ num.length) (hn2 : num.length ≤ 100) :
    Fn PR w hT (d + 1) (.ref a) [.lst (ds.map .int), .lst (num.map .int)] (.lst ((bfU ds num).map fun q => .str (unitU q))) := by
  obtain ⟨doc, pm, an, cd, ct, oc, od, osl, ho, hcd⟩ := id hf
  refine fn_body (ps := ["depths", "numbers"]) T ho rfl hcd rfl rfl (fun vs h => by obtain ⟨v, u, rfl⟩ := len2 h; rfl) (by decide) (fun p hp => .inl (by
    rcases List.mem_cons.mp hp with rfl | hp
    · rfl
    · rw [List.mem_singleton.mp hp]; rfl)) rfl (fun L => ?_) rfl rfl rfl
  have hL : 1000 ≤ sizeLine := by decide
  have hdl : ds.length ≤ sizeLine := Nat.le_trans h7 (by decide)
  with_unfolding_all refine ex_cons (st_assign (y := .str (bStr (sgU ds 0))) rfl (lit_empty ▸ ev_str) ?_)
  have hrs : Builtin.Range.rangeSize 0 (((ds.map AV.int).length : Nat) : Int) 1 = ((ds.length : Nat) : Int) := by
    rw [List.length_map]; exact rsz0
  refine ex_cons (st_for (evI_range (ev_call (gl_boot T hrg (by decide +kernel)) kr_type (evl_cons (ev_callL (gl_boot T hlen (by decide +kernel)) kr_builtin (lv_val (ev_name rfl)) (fnl_len (by rw [List.length_map]; exact hdl))) evl_nil) fn_range1) (by rw [List.length_map]; exact small_r0 (Nat.le_trans h7 (by decide))) _ hrs) ?_)
  let τ (i : Nat) : Sig := [("depths", .val (.lst (ds.map .int))), ("numbers", .val (.lst (num.map .int))), ("signs", .val (.str (bStr (sgU ds i))))]
  have key : ∀ (k i : Nat), i + k = ds.length → Loop PR w hT d (callEnvC (fdN (stN iUni) "_law_units" "_law_units" .none .none doc pm an cd ct) L a) (Wof (scopeOf (stN iUni))) (forTg (nth (bodyOf (stN iUni)) 1)) uBody (((List.range k).map fun j => AV.int ((i + j : Nat) : Int))) (τ i)
      (fun fl σ' => fl = .next ∧ Sub (τ ds.length) σ') := by
    intro k
    induction k with
    | zero => intro i hi; obtain rfl : i = ds.length := hi; exact ⟨rfl, Sub.refl _⟩
    | succ k ih =>
      intro i hi
      have hlt : i < ds.length := ltE hi
      have hsb := sgU_b hds h7 hlt
      rw [items_succ]
      refine loop_cons (BindT.name rfl) ?_
      have fin : ∀ σ2 : Sig, Sub [("depths", .val (.lst (ds.map .int))), ("numbers", .val (.lst (num.map .int))), ("signs", .val (.str (bStr (sgU ds i ++ cl ds i))))] σ2 → Ex PR w hT d (callEnvC (fdN (stN iUni) "_law_units" "_law_units" .none .none doc pm an cd ct) L a) (Wof (scopeOf (stN iUni))) σ2 [nth uBody 1] (fun fl σ2 => match fl with
          | .next => Loop PR w hT d (callEnvC (fdN (stN iUni) "_law_units" "_law_units" .none .none doc pm an cd ct) L a) (Wof (scopeOf (stN iUni))) (forTg (nth (bodyOf (stN iUni)) 1)) uBody ((List.range k).map fun j => AV.int ((i + 1 + j : Nat) : Int)) σ2 (fun fl σ' => fl = .next ∧ Sub (τ ds.length) σ')
          | .cont => Loop PR w hT d (callEnvC (fdN (stN iUni) "_law_units" "_law_units" .none .none doc pm an cd ct) L a) (Wof (scopeOf (stN iUni))) (forTg (nth (bodyOf (stN iUni)) 1)) uBody ((List.range k).map fun j => AV.int ((i + 1 + j : Nat) : Int)) σ2 (fun fl σ' => fl = .next ∧ Sub (τ ds.length) σ')
          | .brk => AFlow.next = AFlow.next ∧ Sub (τ ds.length) σ2
          | .ret y => AFlow.ret y = AFlow.next ∧ Sub (τ ds.length) σ2) := fun σ2 u => by
        refine Ex.sub ?_ u
        have e2 : bStr (sgU ds i ++ cl ds i) ++ Str.ofString "(" = bStr (sgU ds (i + 1)) := by rw [lit_o, bStr_app]; rfl
        with_unfolding_all refine ex_cons (st_assign (y := .str (bStr (sgU ds (i + 1)))) rfl (e2 ▸ ev_binop (ev_name rfl) ev_str (op_addS (by rw [lit_open, bStr_len, List.length_append]; exact Nat.le_trans hsb hL))) ?_)
        exact ex_nil ((ih (i + 1) (shE hi)).sub (sub_of (all_cons rfl (all_cons rfl (all_cons rfl all_nil)))) keepS)
      with_unfolding_all refine ex_cons (st_if (b := decide (((i : Nat) : Int) > 0)) (ts_cmp (ev_name rfl) ev_int op_gtI) ?_)
      by_cases hi0 : i = 0
      · rw [decide_eq_false (by rw [hi0]; decide), if_neg Bool.false_ne_true]
        refine ex_nil (fin _ ?_)
        have : cl ds i = [] := by unfold cl; rw [if_pos hi0]
        rw [this, List.append_nil]
        exact sub_of (all_cons rfl (all_cons rfl (all_cons rfl all_nil)))
      · have h1i : 1 ≤ i := Nat.pos_of_ne_zero hi0
        rw [decide_eq_true (Int.natCast_pos.mpr h1i), if_pos rfl]
        have hst := hds.step (i - 1) (by rw [Nat.sub_add_cancel h1i]; exact hlt)
        rw [Nat.sub_add_cancel h1i] at hst
        have hlt1 : i - 1 < ds.length := Nat.lt_of_le_of_lt (Nat.sub_le i 1) hlt
        have hb := hds.bd i hlt
        have hb2 := hds.bd (i - 1) hlt1
        have e1 : ((i : Nat) : Int) - 1 = ((i - 1 : Nat) : Int) := (Int.ofNat_sub h1i).symm
        have j0 : 0 ≤ ((i : Nat) : Int) - 1 := by rw [e1]; exact Int.natCast_nonneg _
        have j63 : ((i : Nat) : Int) - 1 < 2 ^ 63 := by rw [e1]; exact nat63 (Nat.le_trans (Nat.le_of_lt hlt1) (Nat.le_trans h7 (by decide)))
        have i0 : (0 : Int) ≤ (i : Nat) := Int.natCast_nonneg i
        have i63 : ((i : Nat) : Int) < 2 ^ 63 := nat63 (Nat.le_trans (Nat.le_of_lt hlt) (Nat.le_trans h7 (by decide)))
        have r0 : 0 ≤ ds.getD (i - 1) 0 - ds.getD i 0 + 1 := by omega
        have r1 : ds.getD (i - 1) 0 - ds.getD i 0 + 1 ≤ 100 := by omega
        have g1 : (ds.map AV.int)[(((i : Nat) : Int) - 1).toNat]? = some (.int (ds.getD (i - 1) 0)) := by
          rw [e1]
          exact int_get ds hlt1
        have ecl : Txt.mul (Str.ofString ")") (ds.getD (i - 1) 0 - ds.getD i 0 + 1) = bStr (cl ds i) := by
          rw [mul_c r0]; unfold cl; rw [if_neg hi0]
        refine ex_cons (st_assign (y := .str (bStr (sgU ds i ++ cl ds i))) rfl (bStr_app (sgU ds i) (cl ds i) ▸ ecl ▸ ev_binop (ev_name rfl) (ev_binop ev_str (ev_binop (ev_binop (ev_item (y := .int (ds.getD (i - 1) 0)) (lv_val (ev_name rfl)) (ev_binop (ev_name rfl) ev_int op_sub) j0 j63 g1) (ev_item (y := .int (ds.getD i 0)) (lv_val (ev_name rfl)) (ev_name rfl) i0 i63 (int_get ds hlt)) op_sub) ev_int op_add) (op_mulS (c_ok r0 r1))) (op_addS (by rw [ecl, bStr_len, bStr_len]; exact Nat.le_trans (Nat.le_of_succ_le hsb) hL))) ?_)
        exact ex_nil (fin _ (sub_of (all_cons rfl (all_cons rfl (all_cons rfl all_nil)))))
  rw [items_nat]
  refine Loop.mono ((key ds.length 0 (Nat.zero_add _)).sub (sub_of (all_cons rfl (all_cons rfl (all_cons rfl all_nil)))) keepS) ?_
  rintro fl σ' ⟨rfl, u⟩
  refine Ex.sub ?_ u
  have hbl := hds.bd (ds.length - 1) (Nat.sub_lt h0 Nat.one_pos)
  have r0 : 0 ≤ ds.getD (ds.length - 1) 0 + 1 := Int.le_trans hbl.1 (Int.le_add_one (Int.le_refl _))
  have r1 : ds.getD (ds.length - 1) 0 + 1 ≤ 100 := by omega
  have hFl := sgF_len hds h0
  have h40 : (sgF ds).length ≤ 40 := by rw [hFl]; exact Nat.mul_le_mul_left 2 h7
  have hsF : (sgU ds ds.length).length + (ds.getD (ds.length - 1) 0 + 1).toNat = (sgF ds).length := by unfold sgF; rw [List.length_append, List.length_replicate]
  have ecl : bStr (sgU ds ds.length) ++ Txt.mul (Str.ofString ")") (ds.getD (ds.length - 1) 0 + 1) = bStr (sgF ds) := by
    rw [mul_c r0, bStr_app]; rfl
  refine ex_cons (st_assign (y := .str (bStr (sgF ds))) rfl (ecl ▸ ev_binop (ev_name rfl) (ev_binop ev_str (ev_binop (ev_item_neg (xs := ds.map .int) (y := .int (ds.getD (ds.length - 1) 0)) (lv_val (ev_name rfl)) (ev_neg ev_int) (by decide) (by rw [List.length_map]; exact neg1 h0) (by decide) (last_int ds h0)) ev_int op_add) (op_mulS (c_ok r0 r1))) (op_addS (by rw [mul_c r0, bStr_len, bStr_len, List.length_replicate, hsF]; exact Nat.le_trans h40 (by decide)))) ?_)
  refine ex_cons (st_assignO (ys := ([] : List (Bool × Int)).map fun q => .str (unitU q)) rfl (evo_list evl_nil) ?_)
  generalize hs : sgF ds = sg at hFl h40
  have hsn : sg.length ≤ num.length := by rw [hFl]; exact hn
  have hsl : sg.length ≤ sizeLine := Nat.le_trans h40 (by decide)
  have hrs2 : Builtin.Range.rangeSize 0 (((bStr sg).length : Nat) : Int) 1 = ((sg.length : Nat) : Int) := by
    rw [bStr_len]; exact rsz0
  refine ex_cons (st_for (evI_range (ev_call (gl_boot T hrg (by decide +kernel)) kr_type (evl_cons (ev_call (gl_boot T hlen (by decide +kernel)) kr_builtin (evl_cons (ev_name rfl) evl_nil) (fn_lenS (by rw [bStr_len]; exact hsl))) evl_nil) fn_range1) (by rw [bStr_len]; exact small_r0 (Nat.le_trans h40 (by decide))) _ hrs2) ?_)
  let ρ (z : List (Bool × Int)) : Sig := [("numbers", .val (.lst (num.map .int))), ("signs", .val (.str (bStr sg))), ("units", .own (z.map fun q => .str (unitU q)))]
  have key2 : ∀ (ps : List Nat) (z : List (Bool × Int)), (∀ p ∈ ps, p < sg.length) → z.length + ps.length ≤ 100 → Loop PR w hT d (callEnvC (fdN (stN iUni) "_law_units" "_law_units" .none .none doc pm an cd ct) L a) (Wof (scopeOf (stN iUni))) (forTg (nth (bodyOf (stN iUni)) 4)) uBody2 (ps.map fun p => AV.int (p : Nat)) (ρ z)
      (fun fl σ' => fl = .next ∧ Sub (ρ (z ++ ps.map fun p => (sg.getD p false, formU num p))) σ') := by
    intro ps
    induction ps with
    | nil => intro z _ _; exact ⟨rfl, by rw [List.map_nil, List.append_nil]; exact Sub.refl _⟩
    | cons p ps ih =>
      intro z hp hl
      have hp1 := hp p (.head _)
      rw [List.length_cons] at hl
      rw [List.map_cons]
      have e2 : z ++ (p :: ps).map (fun p => (sg.getD p false, formU num p)) = (z ++ [(sg.getD p false, formU num p)]) ++ ps.map fun p => (sg.getD p false, formU num p) := by rw [List.map_cons, List.append_assoc]; rfl
      rw [e2]
      have hfb := formU_bd num p
      have hpn : p < num.length := Nat.lt_of_lt_of_le hp1 hsn
      have p0 : (0 : Int) ≤ (p : Nat) := Int.natCast_nonneg p
      have pm : -(2 ^ 63) ≤ ((p : Nat) : Int) := Int.le_trans (by decide) p0
      have p63 : ((p : Nat) : Int) < 2 ^ 63 := nat63 (Nat.le_trans (Nat.le_of_lt hp1) (Nat.le_trans h40 (by decide)))
      refine loop_cons (BindT.name rfl) ?_
      with_unfolding_all refine ex_cons (st_assign (y := .str (oth (sg.getD p false))) rfl (ev_ifexp (b := sg.getD p false) (br_o (sg.getD p false) ▸ ts_cmp (ev_itemS (x := bStr sg) (k := (p : Nat)) (ev_name rfl) (ev_name rfl) pm p63 (sidx sg hp1)) ev_str op_eqS) ?_) ?_)
      · cases sg.getD p false with
        | true => rw [if_pos rfl]; exact lit_c ▸ ev_str
        | false => rw [if_neg Bool.false_ne_true]; exact lit_o ▸ ev_str
      refine ex_cons (st_assign (y := .int (formU num p)) rfl (ev_binop (ev_binop (ev_binop (ev_item (y := .int (num.getD p 0)) (lv_val (ev_name rfl)) (ev_name rfl) p0 p63 (int_get num hpn)) ev_int (op_div (by decide) (PyProof.noPylong_small (by decide)))) (ev_name rfl) op_add) ev_int (op_mod (by decide))) ?_)
      have ho1 : (oth (sg.getD p false)).length = 1 := by unfold oth; rw [bStr_len]; rfl
      have hm := menuU_get (sg.getD p false) hfb
      have hm' : ((menuU (sg.getD p false)).map AV.str)[(formU num p).toNat]? = some (.str ((menuU (sg.getD p false)).getD (formU num p).toNat ⟨#[]⟩)) := by rw [List.getElem?_map, hm]; rfl
      have hml := menuU_le (sg.getD p false) _ (List.mem_of_getElem? hm)
      have l34 : (⟨#[34]⟩ : Str).length = 1 := rfl
      have l92 : (⟨#[92]⟩ : Str).length = 1 := rfl
      have q2 : 1 + 1 ≤ sizeLine := Nat.le_trans (by decide) hL
      have q4 : 3 + 1 ≤ sizeLine := Nat.le_trans (by decide) hL
      have q3 : 1 + 1 + 1 ≤ sizeLine := Nat.le_trans (by decide) hL
      have em : (menuU (sg.getD p false)).map AV.str = [.str (Str.ofString ""), .str (Str.ofString ""), .str (Str.ofString ""), .str (Str.ofString "\\\\"), .str ((Str.ofString "\"" ++ oth (sg.getD p false)) ++ Str.ofString "\""), .str (Str.ofString "\\" ++ oth (sg.getD p false))] := by
        rw [lit_empty, lit_bs2', lit_quote, lit_bs']; rfl
      rw [em] at hm'
      refine ex_cons (st_append (xs := z.map fun q => .str (unitU q)) (y := .str (unitU (sg.getD p false, formU num p))) rfl (ev_binop (ev_item (y := .str ((menuU (sg.getD p false)).getD (formU num p).toNat ⟨#[]⟩)) (k := formU num p) (EvO.lv (evo_list (evl_cons ev_str (evl_cons ev_str (evl_cons ev_str (evl_cons ev_str (evl_cons (ev_binop (ev_binop ev_str (ev_name rfl) (op_addS (by rw [lit_quote, l34, ho1]; exact q2))) ev_str (op_addS (by rw [len_app', lit_quote, l34, ho1]; exact q3))) (evl_cons (ev_binop ev_str (ev_name rfl) (op_addS (by rw [lit_bs', l92, ho1]; exact q2))) evl_nil)))))))) (ev_name rfl) hfb.1 (Int.lt_trans hfb.2 (by decide)) hm') (ev_itemS (x := bStr sg) (k := (p : Nat)) (ev_name rfl) (ev_name rfl) pm p63 (sidx sg hp1)) (op_addS (Nat.le_trans (Nat.succ_le_succ hml) q4))) (by rw [List.length_map]; exact Nat.le_trans (Nat.le_trans (Nat.le_add_right _ _) hl) (by decide)) ?_)
      refine ex_nil ((ih (z ++ [(sg.getD p false, formU num p)]) (fun q hq => hp q (.tail _ hq)) (by rw [List.length_append, List.length_singleton, Nat.add_assoc, Nat.add_comm 1]; exact hl)).sub (sub_of (all_cons rfl (all_cons rfl (all_cons ?_ all_nil)))) keepS)
      exact congrArg (fun z => some (Cell.own z)) (by rw [List.map_append]; rfl)
  have hrl2 : (rangeL 0 1 sg.length).map AV.int = (List.range sg.length).map fun p => AV.int (p : Nat) := by
    unfold rangeL
    rw [List.map_map]
    refine List.map_congr_left fun j _ => ?_
    show AV.int (0 + (j : Int) * 1) = AV.int (j : Nat)
    rw [Int.mul_one, Int.zero_add]
  rw [hrl2]
  refine Loop.mono ((key2 (List.range sg.length) [] (fun p hp => List.mem_range.mp hp) (by rw [List.length_range, List.length_nil, Nat.zero_add]; exact Nat.le_trans h40 (by decide))).sub (sub_of (all_cons rfl (all_cons rfl (all_cons rfl all_nil)))) keepS) ?_
  rintro fl σ' ⟨rfl, u⟩
  refine Ex.sub ?_ u
  rw [List.nil_append]
  refine ex_freeze "units" rfl ?_
  have eb : bfU ds num = (List.range sg.length).map fun p => (sg.getD p false, formU num p) := by unfold bfU; rw [hs]
  rw [eb]
  exact ex_cons (st_return (ev_name rfl) (.inl rfl))
end
end Mine
end
section
open PySem PySem.W PySem.W.X PyProof.Rows Builtin.Str PySem.SeqAt
set_option Elab.async false
set_option maxRecDepth 100000
namespace Mine
noncomputable def grows (ds : List Int) (i : Nat) : Bool := decide (i > 0) && decide (ds.getD i 0 > ds.getD (i - 1) 0)
/-- the leftmost ways -/
noncomputable def wyU (ds : List Int) : Nat → List Int
  | 0 => []
  | i + 1 => if grows ds i then (wyU ds i).dropLast ++ [(wyU ds i).getD ((wyU ds i).length - 1) 0 + 1] else wyU ds i ++ [1]
noncomputable def wyF (ds : List Int) : List Int := wyU ds ds.length
theorem wyU_pos (ds : List Int) (i : Nat) : 0 < (wyU ds (i + 1)).length := by
  show 0 < (if grows ds i then _ else _ : List Int).length
  split
  · rw [List.length_append, List.length_singleton]; omega
  · rw [List.length_append, List.length_singleton]; omega
theorem wyU_len (ds : List Int) : ∀ i, (wyU ds i).length ≤ i
  | 0 => Nat.le_refl _
  | i + 1 => by
    have ih := wyU_len ds i
    show (if grows ds i then _ else _ : List Int).length ≤ _
    by_cases h : grows ds i = true
    · rw [if_pos h, List.length_append, List.length_singleton, List.length_dropLast]
      omega
    · rw [if_neg h, List.length_append, List.length_singleton]; omega
section
variable {w : World} {hT : Heap} {d : Nat} {K : Frag} {mg mb : Str → Option Value}
set_option maxHeartbeats 4000000 in
theorem fn_ways {a : Addr} {ds : List Int} (T : Tp hT K mg mb) (hf : FnAt hT a (stN iWay) "_law_ways" "_law_ways") (hrg : mg "range" = none) (hlen : mg "len" = none) (h7 : ds.length ≤ 20) :
    Fn PR w hT (d + 1) (.ref a) [.lst (ds.map .int)] (.lst ((wyF ds).map .int)) := by
  obtain ⟨doc, pm, an, cd, ct, oc, od, osl, ho, hcd⟩ := id hf
  refine fn_body (ps := ["depths"]) T ho rfl hcd rfl rfl (fun vs h => by obtain ⟨v, rfl⟩ := len1 h; rfl) (by decide) (fun p hp => .inl (by rw [List.mem_singleton.mp hp]; rfl)) rfl (fun L => ?_) rfl rfl rfl
  have hL : 1000 ≤ sizeLine := by decide
  with_unfolding_all refine ex_cons (st_assign (y := .lst ((wyU ds 0).map .int)) rfl (EvO.val (evo_list evl_nil)) ?_)
  have hrs : Builtin.Range.rangeSize 0 (((ds.map AV.int).length : Nat) : Int) 1 = ((ds.length : Nat) : Int) := by
    rw [List.length_map]; exact rsz0
  refine ex_cons (st_for (evI_range (ev_call (gl_boot T hrg (by decide +kernel)) kr_type (evl_cons (ev_callL (gl_boot T hlen (by decide +kernel)) kr_builtin (lv_val (ev_name rfl)) (fnl_len (by rw [List.length_map]; exact Nat.le_trans h7 (by decide)))) evl_nil) fn_range1) (by rw [List.length_map]; exact small_r0 (Nat.le_trans h7 (by decide))) _ hrs) ?_)
  let τ (i : Nat) : Sig := [("depths", .val (.lst (ds.map .int))), ("ways", .val (.lst ((wyU ds i).map .int)))]
  have key : ∀ (k i : Nat), i + k = ds.length → Loop PR w hT d (callEnvC (fdN (stN iWay) "_law_ways" "_law_ways" .none .none doc pm an cd ct) L a) (Wof (scopeOf (stN iWay))) (forTg (nth (bodyOf (stN iWay)) 1)) (forBody (nth (bodyOf (stN iWay)) 1)) (((List.range k).map fun j => AV.int ((i + j : Nat) : Int))) (τ i)
      (fun fl σ' => fl = .next ∧ Sub (τ ds.length) σ') := by
    intro k
    induction k with
    | zero => intro i hi; obtain rfl : i = ds.length := hi; exact ⟨rfl, Sub.refl _⟩
    | succ k ih =>
      intro i hi
      have hlt : i < ds.length := ltE hi
      have hwl := wyU_len ds i
      have hwl1 : (wyU ds i).length + 1 ≤ sizeLine := Nat.le_trans (Nat.succ_le_succ (Nat.le_trans hwl (Nat.le_trans (Nat.le_of_lt hlt) h7))) (by decide)
      have i0 : (0 : Int) ≤ (i : Nat) := Int.natCast_nonneg i
      have i63 : ((i : Nat) : Int) < 2 ^ 63 := nat63 (Nat.le_trans (Nat.le_of_lt hlt) (Nat.le_trans h7 (by decide)))
      rw [items_succ]
      refine loop_cons (BindT.name rfl) ?_
      have go : ∀ σ2 : Sig, Sub (τ (i + 1)) σ2 → Loop PR w hT d (callEnvC (fdN (stN iWay) "_law_ways" "_law_ways" .none .none doc pm an cd ct) L a) (Wof (scopeOf (stN iWay))) (forTg (nth (bodyOf (stN iWay)) 1)) (forBody (nth (bodyOf (stN iWay)) 1)) ((List.range k).map fun j => AV.int ((i + 1 + j : Nat) : Int)) σ2 (fun fl σ' => fl = .next ∧ Sub (τ ds.length) σ') := fun σ2 h =>
        (ih (i + 1) (shE hi)).sub h keepS
      with_unfolding_all refine ex_cons (st_if (b := grows ds i) ?_ ?_)
      · unfold grows
        refine ts_and2 (b := decide (i > 0)) ?_ fun hb => ?_
        · have e : decide (((i : Nat) : Int) > 0) = decide (i > 0) := by
            rw [decide_eq_decide]; omega
          exact e ▸ ts_cmp (ev_name rfl) ev_int op_gtI
        · have hi0 : i > 0 := of_decide_eq_true hb
          have g1 : (ds.map AV.int)[(((i : Nat) : Int) - 1).toNat]? = some (.int (ds.getD (i - 1) 0)) := by
            rw [show (((i : Nat) : Int) - 1) = ((i - 1 : Nat) : Int) by omega]
            exact int_get ds (by omega)
          exact ts_cmp (ev_item (y := .int (ds.getD i 0)) (lv_val (ev_name rfl)) (ev_name rfl) i0 i63 (int_get ds hlt)) (ev_item (y := .int (ds.getD (i - 1) 0)) (lv_val (ev_name rfl)) (ev_binop (ev_name rfl) ev_int op_sub) (by omega) (by omega) g1) op_gtI
      cases hg : grows ds i with
      | true =>
        rw [if_pos rfl]
        have hi0 : i > 0 := by
          unfold grows at hg
          exact of_decide_eq_true (Bool.and_eq_true_iff.mp hg).1
        have hpos : 0 < (wyU ds i).length := by
          have := wyU_pos ds (i - 1)
          rwa [show i - 1 + 1 = i by omega] at this
        have e : (((wyU ds i).map AV.int).dropLast ++ [AV.int ((wyU ds i).getD ((wyU ds i).length - 1) 0 + 1)]) = (wyU ds (i + 1)).map AV.int := by
          show _ = (if grows ds i then _ else _ : List Int).map AV.int
          rw [hg, if_pos rfl, List.map_append, List.map_dropLast]; rfl
        refine ex_cons (st_assign (y := .lst ((wyU ds (i + 1)).map .int)) rfl (EvO.val (e ▸ evo_add (evo_butlast (xs := (wyU ds i).map .int) (lv_val (ev_name rfl)) (ev_neg ev_int) (by rw [List.length_map]; exact Nat.le_of_succ_le hwl1)).lv (evo_list (evl_cons (ev_binop (ev_item_neg (xs := (wyU ds i).map .int) (y := .int ((wyU ds i).getD ((wyU ds i).length - 1) 0)) (lv_val (ev_name rfl)) (ev_neg ev_int) (by decide) (by rw [List.length_map]; exact neg1 hpos) (by decide) (last_int _ hpos)) ev_int op_add) evl_nil)).lv (by rw [List.length_dropLast, List.length_map, List.length_singleton]; exact Nat.le_trans (Nat.succ_le_succ (Nat.sub_le _ _)) hwl1))) ?_)
        exact ex_nil (ex_nil (go _ (sub_of (all_cons rfl (all_cons rfl all_nil)))))
      | false =>
        rw [if_neg Bool.false_ne_true]
        have e : ((wyU ds i).map AV.int ++ [AV.int 1]) = (wyU ds (i + 1)).map AV.int := by
          show _ = (if grows ds i then _ else _ : List Int).map AV.int
          rw [hg, if_neg Bool.false_ne_true, List.map_append]; rfl
        refine ex_cons (st_assign (y := .lst ((wyU ds (i + 1)).map .int)) rfl (EvO.val (e ▸ evo_add (lv_val (ev_name rfl)) (evo_list (evl_cons ev_int evl_nil)).lv (by rw [List.length_map, List.length_singleton]; exact hwl1))) ?_)
        exact ex_nil (ex_nil (go _ (sub_of (all_cons rfl (all_cons rfl all_nil)))))
  rw [items_nat]
  refine Loop.mono ((key ds.length 0 (Nat.zero_add _)).sub (sub_of (all_cons rfl (all_cons rfl all_nil))) keepS) ?_
  rintro fl σ' ⟨rfl, u⟩
  refine Ex.sub ?_ u
  exact ex_cons (st_return (ev_name rfl) (.inl rfl))
end
/-- every beginning behind a closing bracket is taken as it should -/
noncomputable def begOK : Str → Int → List (Bool × Int) → Prop
  | _, _, [] => True
  | t, h, (true, f) :: r => begOK (t ++ unitU (true, f)) (h + 1) r
  | t, h, (false, f) :: r => checkF (t ++ unitU (false, f)) = (h - 1 == 0) ∧ begOK (t ++ unitU (false, f)) (h - 1) r
theorem unit_last (q : Bool × Int) (h : 0 ≤ q.2 ∧ q.2 < 6) : (seqIndex? (-1 : Int) (unitU q).length).bind ((unitU q).cps[·]?) = some (br q.1) := by
  have hl : (unitU q).length = ((menuU q.1).getD q.2.toNat ⟨#[]⟩).length + 1 := by unfold unitU; rw [len_app', bStr_len]; rfl
  have e : seqIndex? (-1 : Int) (unitU q).length = some ((menuU q.1).getD q.2.toNat ⟨#[]⟩).length := by
    unfold seqIndex?
    rw [hl]
    simp
    omega
  rw [e, Option.bind_some]
  show (((menuU q.1).getD q.2.toNat ⟨#[]⟩).cps ++ (bStr [q.1]).cps)[((menuU q.1).getD q.2.toNat ⟨#[]⟩).cps.size]? = _
  rw [Array.getElem?_append_right (Nat.le_refl _), Nat.sub_self]; rfl
section
variable {w : World} {hT : Heap} {d : Nat} {K : Frag} {mg mb : Str → Option Value} {aGen aStrip aCheck : Addr}
set_option maxHeartbeats 4000000 in
theorem fn_begin {a : Addr} {ps : List (Bool × Int)} (T : Tp hT K mg mb) (hf : FnAt hT a (stN iBeg) "_law_beginnings" "_law_beginnings") (hG : FnAt hT aGen (stN iGen) "_iter_escaped_chars" "_iter_escaped_chars") (hS : FnAt hT aStrip (stN iStrip) "_strip_quoted_realnames" "_strip_quoted_realnames") (hC : FnAt hT aCheck (stN iCheck) "_check_parenthesis" "_check_parenthesis")
    (gG : mg "_iter_escaped_chars" = some (.ref aGen)) (gS : mg "_strip_quoted_realnames" = some (.ref aStrip)) (gC : mg "_check_parenthesis" = some (.ref aCheck)) (hen : mg "enumerate" = none) (hlen : mg "len" = none) (hok : begOK ⟨#[]⟩ 0 ps) (hfm : ∀ q ∈ ps, 0 ≤ q.2 ∧ q.2 < 6) (hl : ps.length ≤ 100) :
    Fn PR w hT 5 (.ref a) [.lst (ps.map fun q => .str (unitU q))] (.bool true) := by
  obtain ⟨doc, pm, an, cd, ct, oc, od, osl, ho, hcd⟩ := id hf
  refine fn_body (ps := ["units"]) T ho rfl hcd rfl rfl (fun vs h => by obtain ⟨v, rfl⟩ := len1 h; rfl) (by decide) (fun p hp => .inl (by rw [List.mem_singleton.mp hp]; rfl)) rfl (fun L => ?_) rfl rfl rfl
  have hL : 1000 ≤ sizeLine := by decide
  with_unfolding_all refine ex_cons (st_assign rfl ev_int ?_)
  refine ex_cons (st_assign (y := .str ⟨#[]⟩) rfl (lit_empty ▸ ev_str) ?_)
  refine ex_cons (st_for (evI_list (ev_name rfl)) ?_)
  let τ (t : Str) (h : Int) : Sig := [("height", .val (.int h)), ("text", .val (.str t))]
  have key : ∀ (ps : List (Bool × Int)) (t : Str) (h : Int), begOK t h ps → (∀ q ∈ ps, 0 ≤ q.2 ∧ q.2 < 6) → t.length + 4 * ps.length ≤ 500 → Loop PR w hT 4 (callEnvC (fdN (stN iBeg) "_law_beginnings" "_law_beginnings" .none .none doc pm an cd ct) L a) (Wof (scopeOf (stN iBeg))) (forTg (nth (bodyOf (stN iBeg)) 2)) (forBody (nth (bodyOf (stN iBeg)) 2)) (ps.map fun q => .str (unitU q)) (τ t h)
      (fun fl _ => fl = .next) := by
    intro ps
    induction ps with
    | nil => intro t h _ _ _; exact rfl
    | cons q ps ih =>
      intro t h hok hfm hl
      have hq := hfm q (.head _)
      have hul := unitU_len q hq
      rw [List.length_cons] at hl
      rw [List.map_cons]
      refine loop_cons (BindT.name rfl) ?_
      with_unfolding_all refine ex_cons (st_assign (y := .str (t ++ unitU q)) rfl (ev_binop (ev_name rfl) (ev_name rfl) (op_addS (by omega))) ?_)
      refine ex_cons (st_if (b := q.1) (br_o q.1 ▸ ts_cmp (ev_itemS (x := unitU q) (k := -1) (ev_name rfl) (ev_neg ev_int) (by decide) (by decide) (unit_last q hq)) ev_str op_eqS) ?_)
      have go : ∀ (h' : Int) (σ2 : Sig), begOK (t ++ unitU q) h' ps → Sub (τ (t ++ unitU q) h') σ2 → Loop PR w hT 4 (callEnvC (fdN (stN iBeg) "_law_beginnings" "_law_beginnings" .none .none doc pm an cd ct) L a) (Wof (scopeOf (stN iBeg))) (forTg (nth (bodyOf (stN iBeg)) 2)) (forBody (nth (bodyOf (stN iBeg)) 2)) (ps.map fun q => .str (unitU q)) σ2
          (fun fl _ => fl = .next) := fun h' σ2 hb hs => (ih (t ++ unitU q) h' hb (fun z hz => hfm z (.tail _ hz)) (by rw [len_app']; omega)).sub hs fun _ _ _ q => q
      obtain ⟨b, f⟩ := q
      cases b with
      | true =>
        rw [if_pos rfl]
        refine ex_cons (st_assign rfl (ev_binop (ev_name rfl) ev_int op_add) ?_)
        exact ex_cons (st_continue (go _ _ hok (sub_of (all_cons rfl (all_cons rfl all_nil)))))
      | false =>
        rw [if_neg Bool.false_ne_true]
        obtain ⟨hok1, hok2⟩ := hok
        refine ex_nil (ex_cons (st_assign rfl (ev_binop (ev_name rfl) ev_int op_sub) ?_))
        refine ex_cons (st_if (b := false) (ts_cmp (x := .bool (h - 1 == 0)) (y := .bool (h - 1 == 0)) (hok1 ▸ ev_call (gl_top T gC) (kr_fn hC) (evl_cons (ev_name rfl) evl_nil) (fn_check T hG hS hC gG gS hen hlen (by rw [len_app']; omega))) (ev_cmp (ev_name rfl) ev_int op_eqI) (by have := op_isNot_bool (prog := PR) (w := w) (hT := hT) (d := 4) (b := h - 1 == 0) (c := h - 1 == 0); rwa [bne_self_eq_false] at this)) ?_)
        rw [if_neg Bool.false_ne_true]
        exact ex_nil (ex_nil (go _ _ hok2 (sub_of (all_cons rfl (all_cons rfl all_nil)))))
  refine Loop.mono ((key ps ⟨#[]⟩ 0 hok hfm (by show 0 + _ ≤ _; omega)).sub (sub_of (all_cons rfl (all_cons rfl all_nil))) fun _ _ _ q => q) ?_
  rintro fl σ' rfl
  exact ex_cons (st_return ev_bool (.inl rfl))
end
end Mine
end
section
open PySem PySem.W PySem.W.X PyProof.Rows Builtin.Str
set_option Elab.async false
set_option maxRecDepth 100000
namespace Mine
noncomputable def sizes1 (s s' : WS) : List Int := rangeL 1 1 (max (longF s) (longF s') + 1).toNat
noncomputable def tripA (s s' : WS) (ts : Int) : AV := .tup [.int ts, .int (indF s ts), .int (indF s' ts)]
noncomputable def neF (s s' : WS) : List Int := (sizes1 s s').filter fun ts => indF s ts != indF s' ts
noncomputable def geF (s s' : WS) : List Int := (sizes1 s s').filter fun ts => decide (indF s ts ≥ indF s' ts)
theorem sizes1_bd {s s' : WS} (hs : s.cnt.length ≤ 4000) (hs' : s'.cnt.length ≤ 4000) (hb : s.b ≤ 4000) (hb' : s'.b ≤ 4000) : (∀ i ∈ sizes1 s s', 1 ≤ i ∧ i ≤ 5000) ∧ (sizes1 s s').length ≤ 5000 := by
  have z := rng_bd (top_bd hs hs' hb hb').2
  exact ⟨z.1, z.2.2⟩
section
variable {w : World} {hT : Heap} {d : Nat} {K : Frag} {mg mb : Str → Option Value} {C aI aL aN : Addr} {mN : Str → Option Value}
set_option maxHeartbeats 4000000 in
theorem fn_neW {a : Addr} {x x' : Str} {s s' : WS} (T : Tp hT K mg mb) (hC : Cls hT C mN) (M : ∀ k ∈ wsKs, mN k = none) (hf : FnAt hT a (stC 5) "not_equal_witness" "Whitespace.not_equal_witness") (N : Ms hT mN aL aN) (hlen : mg "len" = none) (hmax : mg "max" = none) (hrg : mg "range" = none)
    (hs : s.cnt.length ≤ 4000) (hs' : s'.cnt.length ≤ 4000) (hb : s.b ≤ 4000) (hb' : s'.b ≤ 4000) :
    Fn PR w hT (d + 2) (.ref a) [wsA C x s, wsA C x' s'] (.lst ((neF s s').map (tripA s s'))) := by
  obtain ⟨doc, pm, an, cd, ct, oc, od, osl, ho, hcd⟩ := id hf
  have hsl : s.cnt.length ≤ sizeLine := Nat.le_trans hs (by decide)
  have hsl' : s'.cnt.length ≤ sizeLine := Nat.le_trans hs' (by decide)
  have hL : 6000 ≤ sizeLine := by decide
  obtain ⟨ofL, hfL, hfcL⟩ := N.long.cls
  obtain ⟨ofN, hfN, hfcN⟩ := N.ind.cls
  refine fn_body (ps := ["self", "other"]) T ho rfl hcd rfl rfl (fun vs h => by obtain ⟨v, u, rfl⟩ := len2 h; rfl) (by decide) (fun p hp => .inl (by
    rcases List.mem_cons.mp hp with rfl | hp
    · rfl
    · rw [List.mem_singleton.mp hp]; rfl)) rfl (fun L => ?_) rfl rfl rfl
  with_unfolding_all refine ex_cons (st_assign rfl (ev_binop (ev_call (gl_boot T hmax (by decide +kernel)) kr_builtin (evl_cons (ev_methC hC (ks := wsKs) (ev_name rfl) N.long.ns hfL hfcL obj_long (by decide) (kr_fn N.long.fn) evl_nil (fn_long T hC M N.long.fn hlen hmax hsl)) (evl_cons (ev_methC hC (ks := wsKs) (ev_name rfl) N.long.ns hfL hfcL obj_long (by decide) (kr_fn N.long.fn) evl_nil (fn_long T hC M N.long.fn hlen hmax hsl')) evl_nil)) fn_max2) ev_int op_add) ?_)
  refine ex_cons (st_assignO (ys := ([] : List Int).map (tripA s s')) rfl (evo_list evl_nil) ?_)
  have tb := top_bd hs hs' hb hb'
  refine ex_cons (st_for (evI_range (ev_call (gl_boot T hrg (by decide +kernel)) kr_type (evl_cons ev_int (evl_cons (ev_binop (ev_name rfl) ev_int op_add) evl_nil)) fn_range2) (small_r ⟨by decide, by decide, top_sm tb⟩) _ (top_rs tb.1)) ?_)
  obtain ⟨hmem, hln⟩ := sizes1_bd hs hs' hb hb'
  let τ (z : List Int) : Sig := [("self", .val (wsA C x s)), ("other", .val (wsA C x' s')), ("a", .own (z.map (tripA s s')))]
  have key : ∀ (is z : List Int), (∀ i ∈ is, 1 ≤ i ∧ i ≤ 5000) → z.length + is.length ≤ 5000 → Loop PR w hT (d + 1) (callEnvC (fdN (stC 5) "not_equal_witness" "Whitespace.not_equal_witness" .none .none doc pm an cd ct) L a) (Wof (scopeOf (stC 5))) (forTg (nth (bodyOf (stC 5)) 2)) (forBody (nth (bodyOf (stC 5)) 2)) (is.map .int) (τ z)
      (fun fl σ' => fl = .next ∧ Sub (τ (z ++ is.filter fun ts => indF s ts != indF s' ts)) σ') := by
    intro is
    induction is with
    | nil => intro z _ _; exact ⟨rfl, by rw [List.filter_nil, List.append_nil]; exact Sub.refl _⟩
    | cons i is ih =>
      intro z hi hz
      obtain ⟨hi1, hi2⟩ := hi i (.head _)
      rw [List.length_cons] at hz
      rw [List.map_cons]
      refine loop_cons (BindT.name rfl) ?_
      with_unfolding_all refine ex_cons (st_if (ts_cmp (ev_methC hC (ks := wsKs) (ev_name rfl) N.ind.ns hfN hfcN obj_ind (by decide) (kr_fn N.ind.fn) (evl_cons (ev_name rfl) evl_nil) (fn_ind T hC M N.ind.fn hlen hrg hs hi1 hi2)) (ev_methC hC (ks := wsKs) (ev_name rfl) N.ind.ns hfN hfcN obj_ind (by decide) (kr_fn N.ind.fn) (evl_cons (ev_name rfl) evl_nil) (fn_ind T hC M N.ind.fn hlen hrg hs' hi1 hi2)) op_neI) ?_)
      have eq1 : (i :: is).filter (fun ts => indF s ts != indF s' ts) = (if (fun ts => indF s ts != indF s' ts) i then [i] else []) ++ is.filter fun ts => indF s ts != indF s' ts := by
        rw [List.filter_cons]
        split <;> rfl
      rw [eq1]
      have go : ∀ (z' : List Int) (σ2 : Sig), z'.length ≤ z.length + 1 → Sub (τ z') σ2 → Loop PR w hT (d + 1) (callEnvC (fdN (stC 5) "not_equal_witness" "Whitespace.not_equal_witness" .none .none doc pm an cd ct) L a) (Wof (scopeOf (stC 5))) (forTg (nth (bodyOf (stC 5)) 2)) (forBody (nth (bodyOf (stC 5)) 2)) (is.map .int) σ2
          (fun fl σ' => fl = .next ∧ Sub (τ (z' ++ is.filter fun ts => indF s ts != indF s' ts)) σ') := fun z' σ2 hz' h => by
        refine (ih z' (fun j hj => hi j (.tail _ hj)) (by omega)).sub h keepS
      cases hc : indF s i != indF s' i with
      | true =>
        rw [if_pos rfl, if_pos (by exact hc), ← List.append_assoc]
        refine ex_cons (st_append (xs := z.map (tripA s s')) (y := tripA s s' i) rfl (ev_tup (evl_cons (ev_name rfl) (evl_cons (ev_methC hC (ks := wsKs) (ev_name rfl) N.ind.ns hfN hfcN obj_ind (by decide) (kr_fn N.ind.fn) (evl_cons (ev_name rfl) evl_nil) (fn_ind T hC M N.ind.fn hlen hrg hs hi1 hi2)) (evl_cons (ev_methC hC (ks := wsKs) (ev_name rfl) N.ind.ns hfN hfcN obj_ind (by decide) (kr_fn N.ind.fn) (evl_cons (ev_name rfl) evl_nil) (fn_ind T hC M N.ind.fn hlen hrg hs' hi1 hi2)) evl_nil)))) (by rw [List.length_map]; omega) ?_)
        refine ex_nil (ex_nil (go (z ++ [i]) _ (by rw [List.length_append, List.length_singleton]; omega) (sub_of (all_cons rfl (all_cons rfl (all_cons ?_ all_nil))))))
        exact congrArg (fun z => some (Cell.own z)) (by rw [List.map_append]; rfl)
      | false =>
        rw [if_neg Bool.false_ne_true, if_neg (by show ¬ (indF s i != indF s' i) = true; rw [hc]; exact Bool.false_ne_true), List.nil_append]
        exact ex_nil (ex_nil (go z _ (by omega) (sub_of (all_cons rfl (all_cons rfl (all_cons rfl all_nil))))))
  refine Loop.mono ((key (sizes1 s s') [] hmem (by rw [List.length_nil]; omega)).sub (sub_of (all_cons rfl (all_cons rfl (all_cons rfl all_nil)))) keepS) ?_
  rintro fl σ' ⟨rfl, u⟩
  refine Ex.sub ?_ u
  refine ex_freeze "a" rfl ?_
  exact ex_cons (st_return (ev_name rfl) (.inl rfl))
set_option maxHeartbeats 4000000 in
theorem fn_geW {a : Addr} {x x' : Str} {s s' : WS} (T : Tp hT K mg mb) (hC : Cls hT C mN) (M : ∀ k ∈ wsKs, mN k = none) (hf : FnAt hT a (stC 7) "not_less_witness" "Whitespace.not_less_witness") (N : Ms hT mN aL aN) (hlen : mg "len" = none) (hmax : mg "max" = none) (hrg : mg "range" = none)
    (hs : s.cnt.length ≤ 4000) (hs' : s'.cnt.length ≤ 4000) (hb : s.b ≤ 4000) (hb' : s'.b ≤ 4000) :
    Fn PR w hT (d + 2) (.ref a) [wsA C x s, wsA C x' s'] (.lst ((geF s s').map (tripA s s'))) := by
  obtain ⟨doc, pm, an, cd, ct, oc, od, osl, ho, hcd⟩ := id hf
  have hsl : s.cnt.length ≤ sizeLine := Nat.le_trans hs (by decide)
  have hsl' : s'.cnt.length ≤ sizeLine := Nat.le_trans hs' (by decide)
  have hL : 6000 ≤ sizeLine := by decide
  obtain ⟨ofL, hfL, hfcL⟩ := N.long.cls
  obtain ⟨ofN, hfN, hfcN⟩ := N.ind.cls
  refine fn_body (ps := ["self", "other"]) T ho rfl hcd rfl rfl (fun vs h => by obtain ⟨v, u, rfl⟩ := len2 h; rfl) (by decide) (fun p hp => .inl (by
    rcases List.mem_cons.mp hp with rfl | hp
    · rfl
    · rw [List.mem_singleton.mp hp]; rfl)) rfl (fun L => ?_) rfl rfl rfl
  with_unfolding_all refine ex_cons (st_assign rfl (ev_binop (ev_call (gl_boot T hmax (by decide +kernel)) kr_builtin (evl_cons (ev_methC hC (ks := wsKs) (ev_name rfl) N.long.ns hfL hfcL obj_long (by decide) (kr_fn N.long.fn) evl_nil (fn_long T hC M N.long.fn hlen hmax hsl)) (evl_cons (ev_methC hC (ks := wsKs) (ev_name rfl) N.long.ns hfL hfcL obj_long (by decide) (kr_fn N.long.fn) evl_nil (fn_long T hC M N.long.fn hlen hmax hsl')) evl_nil)) fn_max2) ev_int op_add) ?_)
  refine ex_cons (st_assignO (ys := ([] : List Int).map (tripA s s')) rfl (evo_list evl_nil) ?_)
  have tb := top_bd hs hs' hb hb'
  refine ex_cons (st_for (evI_range (ev_call (gl_boot T hrg (by decide +kernel)) kr_type (evl_cons ev_int (evl_cons (ev_binop (ev_name rfl) ev_int op_add) evl_nil)) fn_range2) (small_r ⟨by decide, by decide, top_sm tb⟩) _ (top_rs tb.1)) ?_)
  obtain ⟨hmem, hln⟩ := sizes1_bd hs hs' hb hb'
  let τ (z : List Int) : Sig := [("self", .val (wsA C x s)), ("other", .val (wsA C x' s')), ("a", .own (z.map (tripA s s')))]
  have key : ∀ (is z : List Int), (∀ i ∈ is, 1 ≤ i ∧ i ≤ 5000) → z.length + is.length ≤ 5000 → Loop PR w hT (d + 1) (callEnvC (fdN (stC 7) "not_less_witness" "Whitespace.not_less_witness" .none .none doc pm an cd ct) L a) (Wof (scopeOf (stC 7))) (forTg (nth (bodyOf (stC 7)) 2)) (forBody (nth (bodyOf (stC 7)) 2)) (is.map .int) (τ z)
      (fun fl σ' => fl = .next ∧ Sub (τ (z ++ is.filter fun ts => decide (indF s ts ≥ indF s' ts))) σ') := by
    intro is
    induction is with
    | nil => intro z _ _; exact ⟨rfl, by rw [List.filter_nil, List.append_nil]; exact Sub.refl _⟩
    | cons i is ih =>
      intro z hi hz
      obtain ⟨hi1, hi2⟩ := hi i (.head _)
      rw [List.length_cons] at hz
      rw [List.map_cons]
      refine loop_cons (BindT.name rfl) ?_
      with_unfolding_all refine ex_cons (st_if (ts_cmp (ev_methC hC (ks := wsKs) (ev_name rfl) N.ind.ns hfN hfcN obj_ind (by decide) (kr_fn N.ind.fn) (evl_cons (ev_name rfl) evl_nil) (fn_ind T hC M N.ind.fn hlen hrg hs hi1 hi2)) (ev_methC hC (ks := wsKs) (ev_name rfl) N.ind.ns hfN hfcN obj_ind (by decide) (kr_fn N.ind.fn) (evl_cons (ev_name rfl) evl_nil) (fn_ind T hC M N.ind.fn hlen hrg hs' hi1 hi2)) op_geI) ?_)
      have eq1 : (i :: is).filter (fun ts => decide (indF s ts ≥ indF s' ts)) = (if (fun ts => decide (indF s ts ≥ indF s' ts)) i then [i] else []) ++ is.filter fun ts => decide (indF s ts ≥ indF s' ts) := by
        rw [List.filter_cons]
        split <;> rfl
      rw [eq1]
      have go : ∀ (z' : List Int) (σ2 : Sig), z'.length ≤ z.length + 1 → Sub (τ z') σ2 → Loop PR w hT (d + 1) (callEnvC (fdN (stC 7) "not_less_witness" "Whitespace.not_less_witness" .none .none doc pm an cd ct) L a) (Wof (scopeOf (stC 7))) (forTg (nth (bodyOf (stC 7)) 2)) (forBody (nth (bodyOf (stC 7)) 2)) (is.map .int) σ2
          (fun fl σ' => fl = .next ∧ Sub (τ (z' ++ is.filter fun ts => decide (indF s ts ≥ indF s' ts))) σ') := fun z' σ2 hz' h => by
        refine (ih z' (fun j hj => hi j (.tail _ hj)) (by omega)).sub h keepS
      cases hc : decide (indF s i ≥ indF s' i) with
      | true =>
        rw [if_pos rfl, if_pos (by exact hc), ← List.append_assoc]
        refine ex_cons (st_append (xs := z.map (tripA s s')) (y := tripA s s' i) rfl (ev_tup (evl_cons (ev_name rfl) (evl_cons (ev_methC hC (ks := wsKs) (ev_name rfl) N.ind.ns hfN hfcN obj_ind (by decide) (kr_fn N.ind.fn) (evl_cons (ev_name rfl) evl_nil) (fn_ind T hC M N.ind.fn hlen hrg hs hi1 hi2)) (evl_cons (ev_methC hC (ks := wsKs) (ev_name rfl) N.ind.ns hfN hfcN obj_ind (by decide) (kr_fn N.ind.fn) (evl_cons (ev_name rfl) evl_nil) (fn_ind T hC M N.ind.fn hlen hrg hs' hi1 hi2)) evl_nil)))) (by rw [List.length_map]; omega) ?_)
        refine ex_nil (ex_nil (go (z ++ [i]) _ (by rw [List.length_append, List.length_singleton]; omega) (sub_of (all_cons rfl (all_cons rfl (all_cons ?_ all_nil))))))
        exact congrArg (fun z => some (Cell.own z)) (by rw [List.map_append]; rfl)
      | false =>
        rw [if_neg Bool.false_ne_true, if_neg (by show ¬ (decide (indF s i ≥ indF s' i)) = true; rw [hc]; exact Bool.false_ne_true), List.nil_append]
        exact ex_nil (ex_nil (go z _ (by omega) (sub_of (all_cons rfl (all_cons rfl (all_cons rfl all_nil))))))
  refine Loop.mono ((key (sizes1 s s') [] hmem (by rw [List.length_nil]; omega)).sub (sub_of (all_cons rfl (all_cons rfl (all_cons rfl all_nil)))) keepS) ?_
  rintro fl σ' ⟨rfl, u⟩
  refine Ex.sub ?_ u
  refine ex_freeze "a" rfl ?_
  exact ex_cons (st_return (ev_name rfl) (.inl rfl))
end
end Mine
end
section
open PySem PySem.W PySem.W.X PyProof.Rows Builtin.Str
set_option Elab.async false
set_option maxRecDepth 100000
namespace Mine
section
variable {w : World} {hT : Heap} {d : Nat} {K : Frag} {mg mb : Str → Option Value} {C aI aL aN : Addr} {mN : Str → Option Value}
theorem fn_equal {a : Addr} {x x' : Str} {s s' : WS} (T : Tp hT K mg mb) (hC : Cls hT C mN) (M : ∀ k ∈ wsKs, mN k = none) (hf : FnAt hT a (stC 4) "equal" "Whitespace.equal") :
    Fn PR w hT (d + 1) (.ref a) [wsA C x s, wsA C x' s'] (.bool (decide (s.cnt = s'.cnt ∧ s.b = s'.b))) := by
  obtain ⟨doc, pm, an, cd, ct, oc, od, osl, ho, hcd⟩ := id hf
  refine fn_body (ps := ["self", "other"]) T ho rfl hcd rfl rfl (fun vs h => by obtain ⟨v, u, rfl⟩ := len2 h; rfl) (by decide) (fun p hp => .inl (by
    rcases List.mem_cons.mp hp with rfl | hp
    · rfl
    · rw [List.mem_singleton.mp hp]; rfl)) rfl (fun L => ?_) rfl rfl rfl
  have fl : ∀ s : WS, (AV.tup [.tup (s.cnt.map .int), .int s.b]).flat = true := fun s => by simp [AV.flat, AV.flats, flats_ints]
  with_unfolding_all refine ex_cons (st_return (ev_cmp (ev_attr (ks := wsKs) hC (ev_name rfl) rfl (M _ (by decide)) obj_norm) (ev_attr (ks := wsKs) hC (ev_name rfl) rfl (M _ (by decide)) obj_norm) (op_eqD (fl s) (fl s') (by simp [AV.dat, AV.dats, PyData.depth, PyData.depthAll, dats_ints, depth_ints]) (eqv_norm s s'))) (.inl rfl))
end
end Mine
end
section
open PySem PySem.W PySem.W.X PyProof.Rows Builtin.Str
set_option Elab.async false
set_option maxRecDepth 100000
namespace Mine
section
variable {w : World} {hT : Heap} {d : Nat} {K : Frag} {mg mb : Str → Option Value} {C aI aL aN : Addr} {mN : Str → Option Value}
set_option maxHeartbeats 4000000 in
theorem fn_less {a : Addr} {x x' : Str} {s s' : WS} (T : Tp hT K mg mb) (hC : Cls hT C mN) (M : ∀ k ∈ wsKs, mN k = none) (hf : FnAt hT a (stC 6) "less" "Whitespace.less") (N : Ms hT mN aL aN) (hlen : mg "len" = none) (hmax : mg "max" = none) (hrg : mg "range" = none)
    (hs : s.cnt.length ≤ 4000) (hs' : s'.cnt.length ≤ 4000) (hb : s.b ≤ 4000) (hb' : s'.b ≤ 4000) :
    Fn PR w hT (d + 2) (.ref a) [wsA C x s, wsA C x' s'] (.bool (lessF s s')) := by
  obtain ⟨doc, pm, an, cd, ct, oc, od, osl, ho, hcd⟩ := id hf
  have hsl : s.cnt.length ≤ sizeLine := Nat.le_trans hs (by decide)
  have hsl' : s'.cnt.length ≤ sizeLine := Nat.le_trans hs' (by decide)
  obtain ⟨ofL, hfL, hfcL⟩ := N.long.cls
  obtain ⟨ofN, hfN, hfcN⟩ := N.ind.cls
  refine fn_body (ps := ["self", "other"]) T ho rfl hcd rfl rfl (fun vs h => by obtain ⟨v, u, rfl⟩ := len2 h; rfl) (by decide) (fun p hp => .inl (by
    rcases List.mem_cons.mp hp with rfl | hp
    · rfl
    · rw [List.mem_singleton.mp hp]; rfl)) rfl (fun L => ?_) rfl rfl rfl
  with_unfolding_all refine ex_cons (st_if (ts_cmp (ev_attr (ks := wsKs) hC (ev_name rfl) rfl (M _ (by decide)) obj_n) (ev_attr (ks := wsKs) hC (ev_name rfl) rfl (M _ (by decide)) obj_n) op_geI) ?_)
  unfold lessF
  by_cases c1 : (s.n : Int) ≥ s'.n
  · rw [decide_eq_true c1, if_pos rfl]
    refine ex_cons (st_return ev_bool (.inl ?_))
    rw [if_pos c1]
  rw [decide_eq_false c1, if_neg Bool.false_ne_true]
  refine ex_nil ?_
  refine ex_cons (st_if (ts_and2 (b := simpleW s) (c := simpleW s') (ts_ev (ev_attr (ks := wsKs) hC (ev_name rfl) rfl (M _ (by decide)) obj_simple)) (fun _ => ts_ev (ev_attr (ks := wsKs) hC (ev_name rfl) rfl (M _ (by decide)) obj_simple))) ?_)
  cases c2 : simpleW s && simpleW s' with
  | true =>
    rw [if_pos rfl]
    refine ex_cons (st_return (ev_cmp (ev_attr (ks := wsKs) hC (ev_name rfl) rfl (M _ (by decide)) obj_nt) (ev_attr (ks := wsKs) hC (ev_name rfl) rfl (M _ (by decide)) obj_nt) op_leI) (.inl ?_))
    rw [if_neg c1, if_pos rfl]
  | false =>
    rw [if_neg Bool.false_ne_true]
    refine ex_nil ?_
    refine ex_cons (st_assign rfl (ev_binop (ev_call (gl_boot T hmax (by decide +kernel)) kr_builtin (evl_cons (ev_methC hC (ks := wsKs) (ev_name rfl) N.long.ns hfL hfcL obj_long (by decide) (kr_fn N.long.fn) evl_nil (fn_long T hC M N.long.fn hlen hmax hsl)) (evl_cons (ev_methC hC (ks := wsKs) (ev_name rfl) N.long.ns hfL hfcL obj_long (by decide) (kr_fn N.long.fn) evl_nil (fn_long T hC M N.long.fn hlen hmax hsl')) evl_nil)) fn_max2) ev_int op_add) ?_)
    have tb := top_bd hs hs' hb hb'
    refine ex_cons (st_for (evI_range (ev_call (gl_boot T hrg (by decide +kernel)) kr_type (evl_cons ev_int (evl_cons (ev_binop (ev_name rfl) ev_int op_add) evl_nil)) fn_range2) (small_r ⟨by decide, by decide, top_sm tb⟩) _ (top_rs2 _)) ?_)
    have hmem : ∀ i ∈ sizesW s s', 1 ≤ i ∧ i ≤ 5000 := (rng_bd tb.2).2.1
    have key : ∀ (is : List Int), (∀ i ∈ is, 1 ≤ i ∧ i ≤ 5000) → Loop PR w hT (d + 1) (callEnvC (fdN (stC 6) "less" "Whitespace.less" .none .none doc pm an cd ct) L a) (Wof (scopeOf (stC 6))) (forTg (nth (bodyOf (stC 6)) 3)) (forBody (nth (bodyOf (stC 6)) 3)) (is.map .int) [("self", .val (wsA C x s)), ("other", .val (wsA C x' s'))]
        (fun fl σ' => match fl with | .next => (is.all fun ts => decide (¬ indF s ts ≥ indF s' ts)) = true | .ret y => y = .bool false ∧ (is.all fun ts => decide (¬ indF s ts ≥ indF s' ts)) = false | _ => False) := by
      intro is
      induction is with
      | nil => intro _; rfl
      | cons i is ih =>
        intro hi
        obtain ⟨hi1, hi2⟩ := hi i (.head _)
        rw [List.map_cons]
        refine loop_cons (BindT.name rfl) ?_
        with_unfolding_all refine ex_cons (st_if (ts_cmp (ev_methC hC (ks := wsKs) (ev_name rfl) N.ind.ns hfN hfcN obj_ind (by decide) (kr_fn N.ind.fn) (evl_cons (ev_name rfl) evl_nil) (fn_ind T hC M N.ind.fn hlen hrg hs hi1 hi2)) (ev_methC hC (ks := wsKs) (ev_name rfl) N.ind.ns hfN hfcN obj_ind (by decide) (kr_fn N.ind.fn) (evl_cons (ev_name rfl) evl_nil) (fn_ind T hC M N.ind.fn hlen hrg hs' hi1 hi2)) op_geI) ?_)
        by_cases hc : indF s i ≥ indF s' i
        · rw [decide_eq_true hc, if_pos rfl]
          refine ex_cons (st_return ev_bool ⟨rfl, ?_⟩)
          rw [List.all_cons, decide_eq_false (fun h => h hc), Bool.false_and]
        · rw [decide_eq_false hc, if_neg Bool.false_ne_true]
          refine ex_nil (ex_nil ?_)
          rw [List.all_cons, decide_eq_true hc, Bool.true_and]
          exact (ih fun j hj => hi j (.tail _ hj)).sub (sub_of (all_cons rfl (all_cons rfl all_nil))) fun τ' σ' u q => q
    refine Loop.mono ((key _ hmem).sub (sub_of (all_cons rfl (all_cons rfl all_nil))) fun τ' σ' u q => q) ?_
    intro fl σ' h
    cases fl with
    | next =>
      refine Ex.sub (τ := []) ?_ (sub_of all_nil)
      refine ex_cons (st_return ev_bool (.inl ?_))
      rw [if_neg c1, if_neg Bool.false_ne_true, h]
    | brk => exact h.elim
    | cont => exact h.elim
    | ret y =>
      obtain ⟨rfl, h⟩ := h
      refine .inl ?_
      rw [if_neg c1, if_neg Bool.false_ne_true, h]
end
end Mine
end
section
open PySem PySem.W PySem.W.X PyProof.Rows Builtin.Str
set_option Elab.async false
set_option maxRecDepth 100000
namespace Mine
section
variable {w : World} {hT : Heap} {d : Nat} {K : Frag} {mg mb : Str → Option Value} {C aI N : Addr}
theorem fnAt_K {a : Addr} {st : Stmt} {nm qn : Str} {doc pm cd ct : Value} {an : Option Addr} {oc : Value} {od : Option Addr} {osl : Array (Option Value)} (X : K.In hT) (e : K.lookup a = some ⟨oc, od, .func (fdN st nm qn .none .none doc pm an cd ct), osl⟩) (hc : codeIn K cd qn = true) : FnAt hT a st nm qn :=
  ⟨doc, pm, an, cd, ct, oc, od, osl, X _ _ e, codeRec_of X hc⟩
noncomputable def strKeysB (es : Array DictEntry) : Bool := es.toList.all fun e => match e.key with | .str _ _ => true | _ => false
theorem strKeys_of {es : Array DictEntry} (h : strKeysB es = true) : StrKeys es := fun e he => by
  have := List.all_eq_true.mp h e (by simpa using he)
  cases q : e.key with
  | str n t => exact ⟨n, t, rfl⟩
  | _ => rw [q] at this; cases this
theorem ns_K {oc : Value} {od : Option Addr} {osl : Array (Option Value)} {es : Array DictEntry} {ep : Nat} (X : K.In hT) (e : K.lookup N = some ⟨oc, od, .dict es ep, osl⟩) (h : strKeysB es = true) : hT.Ns N (nsFind es) :=
  ⟨_, es, ep, X _ _ e, rfl, strKeys_of h, fun _ => rfl⟩
theorem ns_some {m : Str → Option Value} {n : Str} {v : Value} (X : K.In hT) (G : hT.Ns N m) (e : nsIn K N n = some (some v)) : m n = some v := by
  obtain ⟨o, es, ep, ho, hd, _, hf⟩ := G
  unfold nsIn at e
  split at e
  · rename_i c d es' n' sl q
    have := X _ _ q
    rw [ho] at this
    cases this
    cases hd
    split at e
    · rename_i en hen
      cases e
      rw [← hf]
      unfold nsFind findBy
      rw [← Array.find?_toList, hen]
      rfl
    · split at e <;> cases e
  · cases e
theorem ca_K {name : Str} {mc : Value} {y : Str} {t : Tok} (X : K.In hT) (hr : readsIn K C mc = true) (e : findCls K (.ref C) mc name = some (.val (.str y t))) : CA w hT C name (.str y t) := fun A s E Q k q =>
  cls_value (X.keeps k) hr e rfl q
/-- the end of a law -/
theorem law_end {c : ClaimW} {cl : Str → Option Addr} {mean : ExcName → Option Value} {args : List WData} {s₁ : Shared} {f a : Addr} {vs : List Value} {ns : List Int} {its : Array Value} (hf : Fn PR w s₁.heap d (.ref f) [.lst (ns.map .int)] (.bool true)) (ok : OkA d callerA) (hl : s₁.heap.get? a = some { cls := .type "list", data := .seq its }) (hi : its = vs.toArray) (hv : IntsAre vs ns)
    (hg : s₁.gens = #[]) (hr : ∀ cls, c.raises args cls = false) (hp : c.post args (.bool true) args = true) :
    wpAny (model PR w) callerA (call (.ref f) [.ref a]) (fun v s' => GoodWG c cl mean args s₁ (.ok (.ret v)) s') (fun e s' => GoodWG c cl mean args s₁ (.error e) s') s₁ := by
  subst hi
  have r : Rep s₁.heap.get? (.lst (ns.map .int)) (.ref a) := by
    unfold Rep
    exact ⟨a, vs, 0, rfl, hl, repL_ints hv⟩
  refine wpAny_mono (hf callerA s₁.heap.get? s₁ [.ref a] ok (fun _ _ e => e) (fun _ _ e => e) (RepL.cons r RepL.nil)) (fun v s' hpat => ?_) fun _ _ q => q.elim
  obtain ⟨kp, F', ex, rv⟩ := hpat
  unfold Rep at rv
  subst rv
  exact ⟨.inl ⟨_, _, [], rfl, hr, ReadsW.bool true, hp, fun _ => ⟨List.nodup_nil, fun _ hm => nomatch hm⟩⟩, .of_keep kp.heap, kp.os, kp.bare (.of_eq hg)⟩
end
end Mine
end
section
open PySem PySem.W PySem.W.X PyProof.Rows Builtin.Str PySem.SeqAt
set_option Elab.async false
set_option maxRecDepth 100000
namespace Mine
/-- a lone opening bracket gives a blank, a lone closing one a tab -/
noncomputable def lnStep (l u : Str) : Str := if u = ⟨#[40]⟩ then l ++ ⟨#[32]⟩ else if u = ⟨#[41]⟩ then l ++ ⟨#[9]⟩ else l
noncomputable def lnGo (us : List Str) (l : Str) : Str := us.foldl lnStep l
noncomputable def joinU (ps : List (Bool × Int)) : Str := Txt.join ⟨#[]⟩ (ps.map unitU)
noncomputable def lineF (ps : List (Bool × Int)) : Str := lnGo ((escItems (stripF (joinU ps))).map (·.2)) ⟨#[]⟩ ++ ⟨#[120]⟩
theorem lit_sp : Str.ofString " " = ⟨#[32]⟩ := by decide +kernel
theorem lit_tab : Str.ofString "\t" = ⟨#[9]⟩ := by decide +kernel
theorem lit_x : Str.ofString "x" = ⟨#[120]⟩ := by decide +kernel
theorem lnStep_len (l u : Str) : (lnStep l u).length ≤ l.length + 1 := by
  unfold lnStep
  split
  · rw [len_app']; exact Nat.le_refl _
  · split
    · rw [len_app']; exact Nat.le_refl _
    · omega
theorem lnGo_len : ∀ (us : List Str) (l : Str), (lnGo us l).length ≤ l.length + us.length
  | [], l => Nat.le_refl _
  | u :: us, l => by
    have h1 := lnGo_len us (lnStep l u)
    have h2 := lnStep_len l u
    rw [List.length_cons]
    show (lnGo us (lnStep l u)).length ≤ _
    omega
theorem joinU_len {ps : List (Bool × Int)} (h : ∀ q ∈ ps, 0 ≤ q.2 ∧ q.2 < 6) : (joinU ps).length ≤ 4 * ps.length := by
  unfold joinU
  have e : (Txt.join ⟨#[]⟩ (ps.map unitU)).length = (Txt.join ⟨#[]⟩ (ps.map unitU)).cps.toList.length := by rw [Array.length_toList]; rfl
  rw [e, join_cps', List.length_flatMap, List.map_map]
  clear e
  induction ps with
  | nil => exact Nat.le_refl _
  | cons q ps ih =>
    rw [List.map_cons, List.sum_cons, List.length_cons]
    have h1 := unitU_len q (h q (.head _))
    have h2 := ih fun z hz => h z (.tail _ hz)
    have h3 : ((fun x : Str => x.cps.toList.length) ∘ unitU) q = (unitU q).length := by show (unitU q).cps.toList.length = _; rw [Array.length_toList]; rfl
    rw [h3]; omega
section
variable {w : World} {hT : Heap} {d : Nat} {K : Frag} {mg mb : Str → Option Value} {C aI aGen aStrip : Addr} {mN : Str → Option Value}
set_option maxHeartbeats 4000000 in
theorem fn_typed {a : Addr} {ps : List (Bool × Int)} (T : Tp hT K mg mb) (hf : FnAt hT a (stN iTyp) "_law_typed" "_law_typed") (hG : FnAt hT aGen (stN iGen) "_iter_escaped_chars" "_iter_escaped_chars") (hS : FnAt hT aStrip (stN iStrip) "_strip_quoted_realnames" "_strip_quoted_realnames") (M : Mk w hT mg C aI mN) (hkC : Kr PR w hT (.ref C))
    (gG : mg "_iter_escaped_chars" = some (.ref aGen)) (gS : mg "_strip_quoted_realnames" = some (.ref aStrip)) (hen : mg "enumerate" = none) (hlen : mg "len" = none) (htup : mg "tuple" = none) (hfm : ∀ q ∈ ps, 0 ≤ q.2 ∧ q.2 < 6) (hl : ps.length ≤ 100) (hst : (stripF (joinU ps)).length ≤ 1000) :
    Fn PR w hT 5 (.ref a) [.lst (ps.map fun q => .str (unitU q))] (wsAV C (lineF ps)) := by
  obtain ⟨doc, pm, an, cd, ct, oc, od, osl, ho, hcd⟩ := id hf
  refine fn_body (ps := ["units"]) T ho rfl hcd rfl rfl (fun vs h => by obtain ⟨v, rfl⟩ := len1 h; rfl) (by decide) (fun p hp => .inl (by rw [List.mem_singleton.mp hp]; rfl)) rfl (fun L => ?_) rfl rfl rfl
  have hL : 2000 ≤ sizeLine := by decide
  have hjl := joinU_len hfm
  have hj : JoinOk ⟨#[]⟩ (ps.map unitU) = true := joinOk_of (n := 4) (fun y hy => by
    obtain ⟨q, hq, rfl⟩ := List.mem_map.mp hy
    exact unitU_len q (hfm q hq)) (by rw [List.length_map]; omega)
  have hjn := fn_join (prog := PR) (w := w) (hT := hT) (d := 4) hj
  rw [List.map_map] at hjn
  with_unfolding_all refine ex_cons (st_assign (y := .str ⟨#[]⟩) rfl (lit_empty ▸ ev_str) ?_)
  refine ex_cons (st_for (evI_esc (d := 2) T hG hen (gl_top T gG) (ev_call (gl_top T gS) (kr_fn hS) (evl_cons (x := .str (joinU ps)) (ev_meth PySem.F.plainAttrs_str PySem.F.slot_str_join PySem.F.type_str_join ev_str ty_str (evl_cons (ev_name rfl) evl_nil) (r := .str (joinU ps)) hjn) evl_nil) ((fn_strip T hG hS gG hen hlen (by omega)).up (by decide)))) ?_)
  have key : ∀ (is : List (Int × Str)) (l : Str), l.length + is.length ≤ 1500 → Loop PR w hT 4 (callEnvC (fdN (stN iTyp) "_law_typed" "_law_typed" .none .none doc pm an cd ct) L a) (Wof (scopeOf (stN iTyp))) (forTg (nth (bodyOf (stN iTyp)) 1)) (forBody (nth (bodyOf (stN iTyp)) 1)) (is.map prAV) [("line", .val (.str l))]
      (fun fl σ' => fl = .next ∧ Sub [("line", .val (.str (lnGo (is.map (·.2)) l)))] σ') := by
    intro is
    induction is with
    | nil => intro l _; exact ⟨rfl, Sub.refl _⟩
    | cons q is ih =>
      intro l hl
      rw [List.length_cons] at hl
      rw [List.map_cons, List.map_cons]
      have hsl := lnStep_len l q.2
      refine loop_cons (BindT.pair rfl rfl) ?_
      have go : ∀ (l' : Str) (σ2 : Sig), lnStep l q.2 = l' → Sub [("line", .val (.str l'))] σ2 → Loop PR w hT 4 (callEnvC (fdN (stN iTyp) "_law_typed" "_law_typed" .none .none doc pm an cd ct) L a) (Wof (scopeOf (stN iTyp))) (forTg (nth (bodyOf (stN iTyp)) 1)) (forBody (nth (bodyOf (stN iTyp)) 1)) (is.map prAV) σ2
          (fun fl σ' => fl = .next ∧ Sub [("line", .val (.str (lnGo (q.2 :: is.map (·.2)) l)))] σ') := fun l' σ2 e h => by
        have := (ih (lnStep l q.2) (by omega)).sub (e ▸ h) keepS
        exact this
      with_unfolding_all refine ex_cons (st_if (ts_cmp (ev_name rfl) ev_str op_eqS) ?_)
      unfold lnStep at go
      by_cases h1 : q.2 = ⟨#[40]⟩
      · rw [if_pos h1] at go
        rw [lit_open, decide_eq_true h1, if_pos rfl]
        refine ex_cons (st_assign (y := .str (l ++ ⟨#[32]⟩)) rfl (lit_sp ▸ ev_binop (ev_name rfl) ev_str (op_addS (by rw [lit_sp]; show _ + 1 ≤ _; omega))) ?_)
        exact ex_nil (ex_nil (go _ _ rfl (sub_of (all_cons rfl all_nil))))
      rw [if_neg h1] at go
      rw [lit_open, decide_eq_false h1, if_neg Bool.false_ne_true]
      refine ex_cons (st_if (ts_cmp (ev_name rfl) ev_str op_eqS) ?_)
      by_cases h2 : q.2 = ⟨#[41]⟩
      · rw [if_pos h2] at go
        rw [lit_close, decide_eq_true h2, if_pos rfl]
        refine ex_cons (st_assign (y := .str (l ++ ⟨#[9]⟩)) rfl (lit_tab ▸ ev_binop (ev_name rfl) ev_str (op_addS (by rw [lit_tab]; show _ + 1 ≤ _; omega))) ?_)
        exact ex_nil (ex_nil (ex_nil (go _ _ rfl (sub_of (all_cons rfl all_nil)))))
      · rw [if_neg h2] at go
        rw [lit_close, decide_eq_false h2, if_neg Bool.false_ne_true]
        exact ex_nil (ex_nil (ex_nil (go _ _ rfl (sub_of (all_cons rfl all_nil)))))
  have hil := escItems_length (stripF (joinU ps))
  refine Loop.mono ((key (escItems (stripF (joinU ps))) ⟨#[]⟩ (by show 0 + _ ≤ _; omega)).sub (sub_of (all_cons rfl all_nil)) keepS) ?_
  rintro fl σ' ⟨rfl, u⟩
  refine Ex.sub ?_ u
  have hgl := lnGo_len ((escItems (stripF (joinU ps))).map (·.2)) ⟨#[]⟩
  have hz : (⟨#[]⟩ : Str).length = 0 := rfl
  rw [List.length_map, hz] at hgl
  have hfl : (lineF ps).length ≤ 1001 := by unfold lineF; rw [len_app']; show _ + 1 ≤ _; omega
  refine ex_cons (st_return (y := wsAV C (lineF ps)) (ev_call (gl_top T M.glob) hkC (evl_cons (x := .str (lineF ps)) (show Ev PR w hT 4 _ _ _ _ (.str (lnGo ((escItems (stripF (joinU ps))).map (·.2)) ⟨#[]⟩ ++ ⟨#[120]⟩)) from lit_x ▸ ev_binop (ev_name rfl) ev_str (op_addS (by rw [lit_x]; show _ + 1 ≤ _; omega))) evl_nil) (fn_make (d := 2) T M hlen htup (by omega))) (.inl rfl))
end
end Mine
end
section
open PySem PySem.W PySem.W.X PyProof.Rows Builtin.Str PySem.SeqAt
set_option Elab.async false
set_option maxRecDepth 100000
namespace Mine
noncomputable def maxI : List Int → Int
  | [] => 0
  | [x] => x
  | x :: y :: l => max x (maxI (y :: l))
theorem maxI_mem : ∀ {l : List Int}, l ≠ [] → maxI l ∈ l
  | [], h => absurd rfl h
  | [x], _ => .head _
  | x :: y :: l, _ => by
    have ih := maxI_mem (l := y :: l) (by simp)
    show max x (maxI (y :: l)) ∈ _
    by_cases c : x ≤ maxI (y :: l)
    · rw [Int.max_eq_right c]; exact .tail _ ih
    · rw [Int.max_eq_left (Int.le_of_lt (Int.not_le.mp c))]; exact .head _
theorem maxI_le : ∀ {l : List Int}, ∀ a ∈ l, a ≤ maxI l
  | [], _, h => nomatch h
  | [x], a, h => by rw [List.mem_singleton.mp h]; exact Int.le_refl _
  | x :: y :: l, a, h => by
    show a ≤ max x (maxI (y :: l))
    rcases List.mem_cons.mp h with rfl | h
    · exact Int.le_max_left _ _
    · exact Int.le_trans (maxI_le (l := y :: l) a h) (Int.le_max_right _ _)
structure Fig3 where
  num : List Int
noncomputable def Fig3.cnt (g : Fig3) (k : Nat) : Int := if k = 0 then 5 + g.num.sum.fmod 3 else 5 + (g.num.sum.fdiv 3).fmod 3
noncomputable def Fig3.dep (g : Fig3) (k : Nat) : List Int := depF g.num (8 * (k : Int)) (g.cnt k)
noncomputable def Fig3.bf (g : Fig3) (k : Nat) : List (Bool × Int) := bfU (g.dep k) g.num
noncomputable def Fig3.wy (g : Fig3) (k : Nat) : List Int := wyF (g.dep k)
noncomputable def Fig3.line (g : Fig3) (k : Nat) : Str := lineF (g.bf k)
noncomputable def Fig3.ws (g : Fig3) (k : Nat) : WS := wsOf (g.line k)
noncomputable def Fig3.rows (g : Fig3) (k : Nat) : List Int := (g.cnt k - (g.wy k).length) :: (rangeL 1 1 (maxI (g.wy k)).toNat).map fun s => (((g.wy k).count s : Nat) : Int)
noncomputable def Fig3.mx (g : Fig3) : Int := maxI (g.wy 0 ++ g.wy 1)
noncomputable def Fig3.szs (g : Fig3) : List Int := rangeL 1 1 (g.mx + 1).toNat
noncomputable def Fig3.colv (g : Fig3) (k : Nat) (s : Int) : Int := s * (g.cnt k + ((g.wy k).map fun w => w.fdiv s).sum)
noncomputable def Fig3.trip (g : Fig3) (a b : Nat) (s : Int) : AV := .tup [.int s, .int (g.colv a s), .int (g.colv b s)]
noncomputable def Fig3.gel (g : Fig3) (a b : Nat) : List Int := g.szs.filter fun s => decide (g.colv a s ≥ g.colv b s)
noncomputable def Fig3.nel (g : Fig3) (a b : Nat) : List Int := g.szs.filter fun s => g.colv a s != g.colv b s
/-- what the plain law must give -/
structure Plain3 (g : Fig3) : Prop where
  num : g.num.length = 16
  cnt : ∀ k, k < 2 → 5 ≤ g.cnt k ∧ g.cnt k ≤ 7
  ok : ∀ k, k < 2 → OkS (g.dep k) ∧ (g.dep k).length = (g.cnt k).toNat
  beg : ∀ k, k < 2 → begOK ⟨#[]⟩ 0 (g.bf k)
  str : ∀ k, k < 2 → (stripF (joinU (g.bf k))).length ≤ 1000
  way : ∀ k, k < 2 → g.wy k ≠ [] ∧ ∀ x ∈ g.wy k, 1 ≤ x ∧ x ≤ 7
  n : ∀ k, k < 2 → ((g.ws k).n : Int) = 2 * g.cnt k
  nt : ∀ k, k < 2 → ((g.ws k).nt : Int) = g.cnt k
  long : ∀ k, k < 2 → longF (g.ws k) = maxI (g.wy k)
  norm : ∀ k, k < 2 → (g.ws k).cnt = g.rows k ∧ (g.ws k).b = 0
  ge : ∀ a b, a < 2 → b < 2 → a ≠ b → (geF (g.ws a) (g.ws b)).map (tripA (g.ws a) (g.ws b)) = (g.gel a b).map (g.trip a b)
  ne : ∀ a b, a < 2 → b < 2 → a ≠ b → (neF (g.ws a) (g.ws b)).map (tripA (g.ws a) (g.ws b)) = (g.nel a b).map (g.trip a b)
  less : ∀ a b, a < 2 → b < 2 → a ≠ b → lessF (g.ws a) (g.ws b) = decide (g.gel a b = [])
  eq : ∀ a b, a < 2 → b < 2 → decide ((g.ws a).cnt = (g.ws b).cnt ∧ (g.ws a).b = (g.ws b).b) = decide ((g.wy a).mergeSort = (g.wy b).mergeSort)
/-- the top of the text -/
structure Top3 (w : World) (hT : Heap) (K : Frag) (mg mb : Str → Option Value) (C aI aL aN aE aS aQ aZ aGen aStrip aCheck aNum aDep aUni aWay aBeg aTyp : Addr) (mN : Str → Option Value) : Prop where
  T : Tp hT K mg mb
  gen : FnAt hT aGen (stN iGen) "_iter_escaped_chars" "_iter_escaped_chars"
  strip : FnAt hT aStrip (stN iStrip) "_strip_quoted_realnames" "_strip_quoted_realnames"
  check : FnAt hT aCheck (stN iCheck) "_check_parenthesis" "_check_parenthesis"
  num : FnAt hT aNum (stN iNum) "_law_numbers" "_law_numbers"
  dep : FnAt hT aDep (stN iDep) "_law_depths" "_law_depths"
  uni : FnAt hT aUni (stN iUni) "_law_units" "_law_units"
  wayf : FnAt hT aWay (stN iWay) "_law_ways" "_law_ways"
  beg : FnAt hT aBeg (stN iBeg) "_law_beginnings" "_law_beginnings"
  typ : FnAt hT aTyp (stN iTyp) "_law_typed" "_law_typed"
  gGen : mg "_iter_escaped_chars" = some (.ref aGen)
  gStrip : mg "_strip_quoted_realnames" = some (.ref aStrip)
  gCheck : mg "_check_parenthesis" = some (.ref aCheck)
  gNum : mg "_law_numbers" = some (.ref aNum)
  gDep : mg "_law_depths" = some (.ref aDep)
  gUni : mg "_law_units" = some (.ref aUni)
  gWay : mg "_law_ways" = some (.ref aWay)
  gBeg : mg "_law_beginnings" = some (.ref aBeg)
  gTyp : mg "_law_typed" = some (.ref aTyp)
  mak : Mk w hT mg C aI mN
  krC : Kr PR w hT (.ref C)
  kys : ∀ k ∈ wsKs, mN k = none
  ms : Ms hT mN aL aN
  ne : Mt hT mN 5 "not_equal_witness" "Whitespace.not_equal_witness" aE
  ge : Mt hT mN 7 "not_less_witness" "Whitespace.not_less_witness" aS
  eq : Mt hT mN 4 "equal" "Whitespace.equal" aQ
  less : Mt hT mN 6 "less" "Whitespace.less" aZ
  bLen : mg "len" = none
  bEnum : mg "enumerate" = none
  bMax : mg "max" = none
  bMin : mg "min" = none
  bRange : mg "range" = none
  bSum : mg "sum" = none
  bTuple : mg "tuple" = none
  bSorted : mg "sorted" = none
theorem obj_ne : typeLookup (.type "object") "not_equal_witness" = pure none := by rw [typeLookup_type, builtinLookup_eq_fast]; kernel_rfl
theorem obj_ge : typeLookup (.type "object") "not_less_witness" = pure none := by rw [typeLookup_type, builtinLookup_eq_fast]; kernel_rfl
theorem eqv_tri (a b c : Int) : PyData.eqv (AV.tup [.int a, .int b, .int c]).dat (AV.tup [.int a, .int b, .int c]).dat = true := by
  simp [AV.dat, AV.dats, PyData.eqv, PyData.eqvAll]
noncomputable def wayA (g : Fig3) (k : Nat) : AV := .lst ((g.wy k).map .int)
noncomputable def sP (C : Addr) (g : Fig3) (n : Nat) : Sig := [("numbers", .val (.lst (g.num.map .int))), ("counts", .val (.lst [.int (g.cnt 0), .int (g.cnt 1)])), ("ways", .own ((List.range n).map (wayA g))), ("leads", .own ((List.range n).map fun k => wsAV C (g.line k)))]
theorem cnt_get (g : Fig3) {k : Nat} (hk : k < 2) : ([AV.int (g.cnt 0), AV.int (g.cnt 1)])[((k : Nat) : Int).toNat]? = some (.int (g.cnt k)) := by
  match k, hk with
  | 0, _ => rfl
  | 1, _ => rfl
theorem dlen {g : Fig3} (hp : Plain3 g) {k : Nat} (hk : k < 2) : 5 ≤ (g.dep k).length ∧ (g.dep k).length ≤ 7 := by
  have h2 := hp.cnt k hk
  rw [(hp.ok k hk).2]
  exact ⟨Int.ofNat_le.mp (Int.le_trans h2.1 (Int.self_le_toNat _)), Int.toNat_le.mpr h2.2⟩
theorem wy_len {g : Fig3} (hp : Plain3 g) {k : Nat} (hk : k < 2) : (g.wy k).length ≤ 7 := Nat.le_trans (wyU_len (g.dep k) (g.dep k).length) (dlen hp hk).2
theorem bf_len {g : Fig3} (hp : Plain3 g) {k : Nat} (hk : k < 2) : (g.bf k).length ≤ 14 := by
  have h2 := dlen hp hk
  unfold Fig3.bf bfU
  rw [List.length_map, List.length_range, sgF_len (hp.ok k hk).1 (Nat.lt_of_lt_of_le (by decide) h2.1)]
  exact Nat.mul_le_mul_left 2 h2.2
theorem bf_form (g : Fig3) (k : Nat) : ∀ q ∈ g.bf k, 0 ≤ q.2 ∧ q.2 < 6 := fun q hq => by
  obtain ⟨p, _, rfl⟩ := List.mem_map.mp hq
  exact formU_bd g.num p
theorem line_le {g : Fig3} (hp : Plain3 g) {k : Nat} (hk : k < 2) : (g.ws k).cnt.length ≤ 4000 ∧ (g.ws k).b ≤ 4000 := by
  have h1 := hp.norm k hk
  have h2 := hp.way k hk
  have h3 := h2.2 _ (maxI_mem h2.1)
  rw [h1.1, h1.2]
  unfold Fig3.rows rangeL
  rw [List.length_cons, List.length_map, List.length_map, List.length_range]
  exact ⟨Nat.succ_le_of_lt (Nat.lt_of_le_of_lt (Int.toNat_le.mpr h3.2) (by decide)), Nat.zero_le _⟩
section
variable {w : World} {hT : Heap} {K : Frag} {mg mb : Str → Option Value} {C aI aL aN aE aS aQ aZ aGen aStrip aCheck aNum aDep aUni aWay aBeg aTyp : Addr} {mN : Str → Option Value}
variable {g : Fig3} {doc pm : Value} {an : Option Addr} {cd ct : Value} {L a : Addr}
noncomputable def kBody : List Stmt := forBody (nth (bodyOf (stN iLaw)) 5)
set_option maxHeartbeats 8000000 in
theorem k_step {k : Nat} (X : Top3 w hT K mg mb C aI aL aN aE aS aQ aZ aGen aStrip aCheck aNum aDep aUni aWay aBeg aTyp mN) (hp : Plain3 g) (hk : k < 2) :
    Ex PR w hT 5 (callEnvC (fdN (stN iLaw) "law" "law" .none .none doc pm an cd ct) L a) (Wof (scopeOf (stN iLaw))) (put (sP C g k) "k" (.val (.int k))) kBody (fun fl σ' => fl = .next ∧ Sub (sP C g (k + 1)) σ') := by
  have T := X.T
  have hL : 1000 ≤ sizeLine := by decide
  have hnum := hp.num
  have hc := hp.cnt k hk
  have hok := hp.ok k hk
  have hwy := hp.way k hk
  have k0 : (0 : Int) ≤ (k : Nat) := Int.natCast_nonneg k
  have k63 : ((k : Nat) : Int) < 2 ^ 63 := nat63 (Nat.le_trans (Nat.le_of_lt hk) (by decide))
  have hd := dlen hp hk
  have hn0 : g.num.length ≤ 100 := Nat.le_trans (Nat.le_of_eq hnum) (by decide)
  have hM := hwy.2 _ (maxI_mem hwy.1)
  have hb := bf_len hp hk
  have hle := line_le hp hk
  obtain ⟨ofL, hfL, hfcL⟩ := X.ms.long.cls
  have hwl := wy_len hp hk
  have hm0 : 0 ≤ maxI (g.wy k) := Int.le_trans (by decide) hM.1
  with_unfolding_all refine ex_cons (st_assign (y := .lst ((g.dep k).map .int)) rfl (ev_call (gl_top T X.gDep) (kr_fn X.dep) (evl_cons (ev_name rfl) (evl_cons (ev_binop ev_int (ev_name rfl) (op_mul (mulOkL (by decide)))) (evl_cons (ev_item (y := .int (g.cnt k)) (lv_val (ev_name rfl)) (ev_name rfl) k0 k63 (cnt_get g hk)) evl_nil))) (fn_depths (d := 4) T X.dep X.bRange (Int.mul_nonneg (by decide) k0) (Int.le_trans (by decide) hc.1) (by omega) hn0)) ?_)
  refine ex_cons (st_assign (y := .lst ((g.bf k).map fun q => .str (unitU q))) rfl (ev_call (gl_top T X.gUni) (kr_fn X.uni) (evl_cons (ev_name rfl) (evl_cons (ev_name rfl) evl_nil)) (fn_units (d := 4) T X.uni X.bRange X.bLen hok.1 (Nat.lt_of_lt_of_le (by decide) hd.1) (Nat.le_trans hd.2 (by decide)) (Nat.le_trans (Nat.mul_le_mul_left 2 hd.2) (Nat.le_trans (by decide) (Nat.le_of_eq hnum.symm))) hn0)) ?_)
  refine ex_cons (st_if (b := !true) (ts_not (ts_ev (ev_call (gl_top T X.gBeg) (kr_fn X.beg) (evl_cons (ev_name rfl) evl_nil) (fn_begin T X.beg X.gen X.strip X.check X.gGen X.gStrip X.gCheck X.bEnum X.bLen (hp.beg k hk) (bf_form g k) (Nat.le_trans hb (by decide)))))) ?_)
  refine ex_nil ?_
  refine ex_cons (st_assign (y := wayA g k) rfl (ev_call (gl_top T X.gWay) (kr_fn X.wayf) (evl_cons (ev_name rfl) evl_nil) (fn_ways (d := 4) T X.wayf X.bRange X.bLen (Nat.le_trans hd.2 (by decide)))) ?_)
  refine ex_cons (st_assign (y := wsAV C (g.line k)) rfl (ev_call (gl_top T X.gTyp) (kr_fn X.typ) (evl_cons (ev_name rfl) evl_nil) (fn_typed T X.typ X.gen X.strip X.mak X.krC X.gGen X.gStrip X.bEnum X.bLen X.bTuple (bf_form g k) (Nat.le_trans hb (by decide)) (hp.str k hk))) ?_)
  refine ex_cons (st_if (b := false) (ts_cmp (x := .tup [.int (2 * g.cnt k), .int (g.cnt k), .int (maxI (g.wy k))]) (y := .tup [.int (2 * g.cnt k), .int (g.cnt k), .int (maxI (g.wy k))]) (ev_tup (evl_cons (x := .int (2 * g.cnt k)) (hp.n k hk ▸ ev_attr (ks := wsKs) X.mak.cls (ev_name rfl) rfl (X.kys _ (by decide)) obj_n) (evl_cons (x := .int (g.cnt k)) (hp.nt k hk ▸ ev_attr (ks := wsKs) X.mak.cls (ev_name rfl) rfl (X.kys _ (by decide)) obj_nt) (evl_cons (x := .int (maxI (g.wy k))) (hp.long k hk ▸ ev_methC X.mak.cls (ks := wsKs) (ev_name rfl) X.ms.long.ns hfL hfcL obj_long (by decide) (kr_fn X.ms.long.fn) evl_nil (fn_long (d := 4) T X.mak.cls X.kys X.ms.long.fn X.bLen X.bMax (Nat.le_trans hle.1 (by decide)))) evl_nil)))) (ev_tup (evl_cons (ev_binop ev_int (ev_item (y := .int (g.cnt k)) (lv_val (ev_name rfl)) (ev_name rfl) k0 k63 (cnt_get g hk)) (op_mul (mulOkL (by decide)))) (evl_cons (ev_item (y := .int (g.cnt k)) (lv_val (ev_name rfl)) (ev_name rfl) k0 k63 (cnt_get g hk)) (evl_cons (ev_callL (f := .builtin "max") (gl_boot T X.bMax (by decide +kernel)) kr_builtin (lv_val (ev_name rfl)) (fnl_max (maxI_mem hwy.1) maxI_le)) evl_nil)))) (op_neD rfl rfl (by simp [AV.dat, AV.dats, PyData.depth, PyData.depthAll]) (by rw [eqv_tri]; rfl))) ?_)
  rw [if_neg Bool.false_ne_true]
  refine ex_nil ?_
  have hrs : Builtin.Range.rangeSize 1 (maxI (g.wy k) + 1) 1 = (((maxI (g.wy k)).toNat : Nat) : Int) := by
    exact rsz (by rw [Int.toNat_of_nonneg hm0, Int.add_comm])
  have erow : [AV.int (g.cnt k - (((g.wy k).map AV.int).length : Nat))] ++ (rangeL 1 1 (maxI (g.wy k)).toNat).map (fun s => AV.int (((g.wy k).count s : Nat) : Int)) = (g.rows k).map .int := by
    unfold Fig3.rows
    rw [List.map_cons, List.map_map, List.length_map]; rfl
  have hrl : (rangeL 1 1 (maxI (g.wy k)).toNat).length ≤ 7 := by unfold rangeL; rw [List.length_map, List.length_range]; exact Int.toNat_le.mpr hM.2
  refine ex_cons (st_assignO (ys := (g.rows k).map .int) rfl ?_ ?_)
  · rw [← erow]
    refine evo_add (EvO.lv (evo_list (evl_cons (ev_binop (ev_item (y := .int (g.cnt k)) (lv_val (ev_name rfl)) (ev_name rfl) k0 k63 (cnt_get g hk)) (ev_callL (f := .builtin "len") (gl_boot T X.bLen (by decide +kernel)) kr_builtin (lv_val (ev_name rfl)) (fnl_len (by rw [List.length_map]; exact Nat.le_trans hwl (by decide)))) op_sub) evl_nil))) (EvO.lv (evo_map (rangeL 1 1 (maxI (g.wy k)).toNat) (g := .int) (f := fun s => AV.int (((g.wy k).count s : Nat) : Int)) (cap1 rfl ⟨rfl, rfl, rfl⟩ (by decide +kernel)) (evJ_range (ev_call (gl_boot T X.bRange (by decide +kernel)) kr_type (evl_cons ev_int (evl_cons (ev_binop (ev_callL (f := .builtin "max") (gl_boot T X.bMax (by decide +kernel)) kr_builtin (lv_val (ev_name rfl)) (fnl_max (maxI_mem hwy.1) maxI_le)) ev_int op_add) evl_nil)) fn_range2) (small_r ⟨by decide, by decide, Int.add_nonneg hm0 (by decide), Int.le_trans (Int.add_le_add_right hM.2 1) (by decide)⟩) _ hrs) (caps_cons (n := "here") (y := wayA g k) rfl rfl rfl caps_nil) (Nat.le_trans hrl (by decide)) (fun s _ L zs => ⟨_, .name rfl, ev_count (ev_name rfl) (ev_name rfl)⟩))) (Nat.le_trans (Nat.add_le_add_left (Nat.le_trans (Nat.le_of_eq (List.length_map _)) hrl) 1) (by decide))
  refine ex_freeze "rows" rfl ?_
  have hn := hp.norm k hk
  have en : (AV.tup [.tup ((g.ws k).cnt.map .int), .int ((g.ws k).b : Nat)]) = AV.tup [.tup ((g.rows k).map .int), .int 0] := by rw [hn.1, hn.2]; rfl
  have eq1 := eqv_norm (g.ws k) (g.ws k)
  rw [en, decide_eq_true ⟨rfl, rfl⟩] at eq1
  have hrw : ((g.rows k).map AV.int).length ≤ sizeLine := by
    unfold Fig3.rows
    rw [List.length_map, List.length_cons, List.length_map]; exact Nat.le_trans (Nat.succ_le_succ hrl) (by decide)
  refine ex_cons (st_if (b := false) (ts_cmp (x := .tup [.tup ((g.rows k).map .int), .int 0]) (y := .tup [.tup ((g.rows k).map .int), .int 0]) (en ▸ ev_attr (ks := wsKs) X.mak.cls (ev_name rfl) rfl (X.kys _ (by decide)) obj_norm) (ev_tup (evl_cons (ev_callL (f := .type "tuple") (gl_boot T X.bTuple (by decide +kernel)) kr_type (lv_val (ev_name rfl)) (fnl_tuple hrw)) (evl_cons ev_int evl_nil))) (op_neD (by simp only [AV.flat, AV.flats, flats_ints, Bool.and_true]) (by simp only [AV.flat, AV.flats, flats_ints, Bool.and_true]) (by simp [AV.dat, AV.dats, dats_ints, PyData.depth, PyData.depthAll, depth_ints]) (by rw [eq1]; rfl))) ?_)
  rw [if_neg Bool.false_ne_true]
  refine ex_nil ?_
  refine ex_cons (st_append (xs := (List.range k).map (wayA g)) (y := wayA g k) rfl (ev_name rfl) (by rw [List.length_map, List.length_range]; exact Nat.le_trans (Nat.le_of_lt hk) (by decide)) ?_)
  refine ex_cons (st_append (xs := (List.range k).map fun k => wsAV C (g.line k)) (y := wsAV C (g.line k)) rfl (ev_name rfl) (by rw [List.length_map, List.length_range]; exact Nat.le_trans (Nat.le_of_lt hk) (by decide)) ?_)
  refine ex_nil ⟨rfl, sub_of (all_cons rfl (all_cons rfl (all_cons ?_ (all_cons ?_ all_nil))))⟩
  all_goals exact congrArg (fun z => some (Cell.own z)) (by rw [List.range_succ, List.map_append]; rfl)
end
end Mine
end
section
open PySem PySem.W PySem.W.X PyProof.Rows Builtin.Str PySem.SeqAt
set_option Elab.async false
set_option maxRecDepth 100000
namespace Mine
noncomputable def colA (g : Fig3) (k : Nat) : AV := .lst ((g.szs.map (g.colv k)).map .int)
noncomputable def leadA (C : Addr) (g : Fig3) (k : Nat) : AV := wsAV C (g.line k)
noncomputable def sQ (C : Addr) (g : Fig3) : Sig := [("ways", .val (.lst ((List.range 2).map (wayA g)))), ("leads", .val (.lst ((List.range 2).map (leadA C g)))), ("sizes", .val (.rng 1 (g.mx + 2) 1)), ("columns", .val (.lst ((List.range 2).map (colA g))))]
noncomputable def sQ2 (C : Addr) (g : Fig3) (a b : Nat) : Sig := [("ways", .val (.lst ((List.range 2).map (wayA g)))), ("leads", .val (.lst ((List.range 2).map (leadA C g)))), ("sizes", .val (.rng 1 (g.mx + 2) 1)), ("columns", .val (.lst ((List.range 2).map (colA g)))), ("a", .val (.int a)), ("b", .val (.int b))]
theorem mem_szs {g : Fig3} {s : Int} (h : s ∈ g.szs) : 1 ≤ s ∧ s < 1 + (g.mx + 1).toNat := by
  unfold Fig3.szs rangeL at h
  obtain ⟨k, hk, rfl⟩ := List.mem_map.mp h
  have := List.mem_range.mp hk
  omega
theorem col_get (g : Fig3) (k : Nat) {s : Int} (h : s ∈ g.szs) : ((g.szs.map (g.colv k)).map AV.int)[(s - 1).toNat]? = some (.int (g.colv k s)) := by
  have hs := mem_szs h
  rw [List.getElem?_map, List.getElem?_map]
  unfold Fig3.szs rangeL
  rw [List.getElem?_map, List.getElem?_range (by omega)]
  show some (AV.int (g.colv k (1 + ((s - 1).toNat : Int) * 1))) = _
  rw [show (1 + ((s - 1).toNat : Int) * 1) = s by omega]
theorem mx_bd {g : Fig3} (hp : Plain3 g) : 1 ≤ g.mx ∧ g.mx ≤ 7 := by
  have h0 := hp.way 0 (by decide)
  have h1 := hp.way 1 (by decide)
  have hne : g.wy 0 ++ g.wy 1 ≠ [] := fun h => h0.1 (List.append_eq_nil_iff.mp h).1
  have hm := maxI_mem hne
  unfold Fig3.mx
  rcases List.mem_append.mp hm with h | h
  · exact h0.2 _ h
  · exact h1.2 _ h
theorem szs_len {g : Fig3} (hp : Plain3 g) : g.szs.length ≤ 8 := by
  have := mx_bd hp
  unfold Fig3.szs rangeL
  rw [List.length_map, List.length_range]; exact Int.toNat_le.mpr (Int.add_le_add_right this.2 1)
theorem mx_rs {g : Fig3} (hp : Plain3 g) : Builtin.Range.rangeSize 1 (g.mx + 2) 1 = (((g.mx + 1).toNat : Nat) : Int) := by
  have h := (mx_bd hp).1
  exact rsz (by omega)
theorem mx_sm {g : Fig3} (hp : Plain3 g) : Builtin.Range.small 1 (g.mx + 2) 1 = true :=
  small_r ⟨by decide, by decide, Int.add_nonneg (Int.le_trans (by decide) (mx_bd hp).1) (by decide), Int.le_trans (Int.add_le_add_right (mx_bd hp).2 2) (by decide)⟩
theorem szs_bd {g : Fig3} (hp : Plain3 g) {s : Int} (hs : s ∈ g.szs) : 0 ≤ s - 1 ∧ s - 1 < 2 ^ 63 ∧ s ≠ 0 ∧ s.natAbs < 1073741824 := by
  have h := mem_szs hs
  have h9 : s < 9 := Int.lt_of_lt_of_le h.2 (Int.add_le_add_left (Int.ofNat_le.mpr (Int.toNat_le.mpr (Int.add_le_add_right (mx_bd hp).2 1))) 1)
  refine ⟨Int.sub_nonneg_of_le h.1, Int.lt_of_le_of_lt (Int.sub_le_self s (by decide)) (Int.lt_trans h9 (by decide)), fun e => ?_, Int.ofNat_lt.mp ?_⟩
  · rw [e] at h; exact absurd h.1 (by decide)
  · rw [Int.natAbs_of_nonneg (Int.le_trans (by decide) h.1)]; exact Int.lt_trans h9 (by decide)
theorem eqvAll_trip (g : Fig3) (a b : Nat) : ∀ l : List Int, PyData.eqvAll (AV.dats (l.map (g.trip a b))) (AV.dats (l.map (g.trip a b))) = true
  | [] => rfl
  | s :: l => by
    rw [List.map_cons]
    show (PyData.eqv (g.trip a b s).dat (g.trip a b s).dat && PyData.eqvAll (AV.dats (l.map (g.trip a b))) (AV.dats (l.map (g.trip a b)))) = true
    rw [eqvAll_trip g a b l, Bool.and_true]
    exact eqv_tri _ _ _
theorem flats_trip (g : Fig3) (a b : Nat) : ∀ l : List Int, AV.flats (l.map (g.trip a b)) = true
  | [] => rfl
  | s :: l => by
    rw [List.map_cons]
    show (AV.flat (g.trip a b s) && AV.flats (l.map (g.trip a b))) = true
    rw [flats_trip g a b l]; rfl
theorem depth_trip (g : Fig3) (a b : Nat) : ∀ l : List Int, PyData.depthAll (AV.dats (l.map (g.trip a b))) ≤ 1
  | [] => by simp [AV.dats, PyData.depthAll]
  | s :: l => by
    rw [List.map_cons]
    show max (PyData.depth (g.trip a b s).dat) (PyData.depthAll (AV.dats (l.map (g.trip a b)))) ≤ 1
    have := depth_trip g a b l
    have h2 : PyData.depth (g.trip a b s).dat = 1 := by simp [Fig3.trip, AV.dat, AV.dats, PyData.depth, PyData.depthAll]
    exact Nat.max_le.mpr ⟨Nat.le_of_eq h2, this⟩
theorem eqv_nil (g : Fig3) (a b : Nat) (l : List Int) : PyData.eqv (AV.lst (l.map (g.trip a b))).dat (AV.lst []).dat = decide (l = []) := by
  cases l with
  | nil => rfl
  | cons s l => rw [decide_eq_false (by simp)]; rfl
section
variable {prog : Program} {w : World} {hT : Heap} {d : Nat}
theorem op_neTrip {g : Fig3} {a b : Nat} {l : List Int} : Op2 prog w hT d (compareOp .NotEq) (.lst (l.map (g.trip a b))) (.lst (l.map (g.trip a b))) (.bool false) :=
  op_neD (flats_trip g a b l) (flats_trip g a b l) (by
    have := depth_trip g a b l
    show PyData.depth (.list (AV.dats (l.map (g.trip a b)))) ≤ 40
    unfold PyData.depth
    exact Nat.le_trans (Nat.succ_le_succ this) (by decide)) (by
    show (!PyData.eqvAll (AV.dats (l.map (g.trip a b))) (AV.dats (l.map (g.trip a b)))) = false
    rw [eqvAll_trip]; rfl)
theorem op_eqTripNil {g : Fig3} {a b : Nat} {l : List Int} : Op2 prog w hT d (compareOp .Eq) (.lst (l.map (g.trip a b))) (.lst []) (.bool (decide (l = []))) :=
  op_eqD (flats_trip g a b l) rfl (by
    have := depth_trip g a b l
    show PyData.depth (.list (AV.dats (l.map (g.trip a b)))) ≤ 40
    unfold PyData.depth
    exact Nat.le_trans (Nat.succ_le_succ this) (by decide)) (eqv_nil g a b l)
end
section
variable {w : World} {hT : Heap} {K : Frag} {mg mb : Str → Option Value} {C aI aL aN aE aS aQ aZ aGen aStrip aCheck aNum aDep aUni aWay aBeg aTyp : Addr} {mN : Str → Option Value}
variable {g : Fig3} {doc pm : Value} {an : Option Addr} {cd ct : Value} {L a : Addr}
noncomputable def pBody : List Stmt := forBody (nth (bodyOf (stN iLaw)) 8)
set_option maxHeartbeats 8000000 in
theorem p_step {x y : Nat} (X : Top3 w hT K mg mb C aI aL aN aE aS aQ aZ aGen aStrip aCheck aNum aDep aUni aWay aBeg aTyp mN) (hp : Plain3 g) (hx : x < 2) (hy : y < 2) (hxy : x ≠ y) :
    Ex PR w hT 5 (callEnvC (fdN (stN iLaw) "law" "law" .none .none doc pm an cd ct) L a) (Wof (scopeOf (stN iLaw))) (sQ2 C g x y) pBody (fun fl σ' => fl = .next ∧ Sub (sQ C g) σ') := by
  have T := X.T
  have hL : 1000 ≤ sizeLine := by decide
  have hmx := mx_bd hp
  have hsl := szs_len hp
  obtain ⟨ofE, hfE, hfcE⟩ := X.ne.cls
  obtain ⟨ofS, hfS, hfcS⟩ := X.ge.cls
  obtain ⟨ofQ, hfQ, hfcQ⟩ := X.eq.cls
  obtain ⟨ofZ, hfZ, hfcZ⟩ := X.less.cls
  have hx0 : (0 : Int) ≤ (x : Nat) := Int.natCast_nonneg x
  have hx63 : ((x : Nat) : Int) < 2 ^ 63 := nat63 (Nat.le_trans (Nat.le_of_lt hx) (by decide))
  have hy0 : (0 : Int) ≤ (y : Nat) := Int.natCast_nonneg y
  have hy63 : ((y : Nat) : Int) < 2 ^ 63 := nat63 (Nat.le_trans (Nat.le_of_lt hy) (by decide))
  have hszl : g.szs.length ≤ sizeLine := Nat.le_trans hsl (by decide)
  have c1 := range_get (colA g) hx
  have c2 := range_get (colA g) hy
  have l1 := range_get (leadA C g) hx
  have l2 := range_get (leadA C g) hy
  have w1 := range_get (wayA g) hx
  have w2 := range_get (wayA g) hy
  have b1 := line_le hp hx
  have b2 := line_le hp hy
  have wl1 : (g.wy x).length < 64 := Nat.lt_of_le_of_lt (wy_len hp hx) (by decide)
  have wl2 : (g.wy y).length < 64 := Nat.lt_of_le_of_lt (wy_len hp hy) (by decide)
  have hrs := mx_rs hp
  have hsm := mx_sm hp
  with_unfolding_all refine ex_cons (st_mapS g.szs (g := .int) (f := g.trip x y) rfl (cap3 rfl (by decide) ⟨rfl, rfl, rfl⟩ ⟨rfl, rfl, rfl⟩ ⟨rfl, rfl, rfl⟩ (by decide +kernel)) (evJ_range (ev_name rfl) hsm _ hrs) (caps_cons (n := "a") (y := .int x) rfl rfl rfl (caps_cons (n := "b") (y := .int y) rfl rfl rfl (caps_cons (n := "columns") (y := .lst ((List.range 2).map (colA g))) rfl rfl rfl caps_nil))) hszl (fun s hs L zs => ⟨_, .name rfl, ?_⟩) ?_)
  · obtain ⟨s0, s63, _⟩ := szs_bd hp hs
    exact ev_tup (evl_cons (ev_name rfl) (evl_cons (ev_item (xs := (g.szs.map (g.colv x)).map .int) (y := .int (g.colv x s)) (lv_val (ev_item (y := colA g x) (lv_val (ev_name rfl)) (ev_name rfl) hx0 hx63 c1)) (ev_binop (ev_name rfl) ev_int op_sub) s0 s63 (col_get g x hs)) (evl_cons (ev_item (xs := (g.szs.map (g.colv y)).map .int) (y := .int (g.colv y s)) (lv_val (ev_item (y := colA g y) (lv_val (ev_name rfl)) (ev_name rfl) hy0 hy63 c2)) (ev_binop (ev_name rfl) ev_int op_sub) s0 s63 (col_get g y hs)) evl_nil)))
  refine ex_freeze "table" rfl ?_
  have hge := hp.ge x y hx hy hxy
  have hne := hp.ne x y hx hy hxy
  have hle := hp.less x y hx hy hxy
  have heq := hp.eq x y hx hy
  have o1 : Op2 PR w hT 5 (compareOp .NotEq) (.lst ((geF (g.ws x) (g.ws y)).map (tripA (g.ws x) (g.ws y)))) (.lst ((g.gel x y).map (g.trip x y))) (.bool false) := by rw [hge]; exact op_neTrip
  have o2 : Op2 PR w hT 5 (compareOp .NotEq) (.lst ((neF (g.ws x) (g.ws y)).map (tripA (g.ws x) (g.ws y)))) (.lst ((g.nel x y).map (g.trip x y))) (.bool false) := by rw [hne]; exact op_neTrip
  have o3 : Op2 PR w hT 5 (compareOp .IsNot) (.bool (lessF (g.ws x) (g.ws y))) (.bool (decide (g.gel x y = []))) (.bool false) := by
    rw [hle]
    have := op_isNot_bool (prog := PR) (w := w) (hT := hT) (d := 5) (b := decide (g.gel x y = [])) (c := decide (g.gel x y = []))
    rwa [bne_self_eq_false] at this
  have o4 : Op2 PR w hT 5 (compareOp .IsNot) (.bool (decide ((g.ws x).cnt = (g.ws y).cnt ∧ (g.ws x).b = (g.ws y).b))) (.bool (decide ((g.wy x).mergeSort = (g.wy y).mergeSort))) (.bool false) := by
    rw [heq]
    have := op_isNot_bool (prog := PR) (w := w) (hT := hT) (d := 5) (b := decide ((g.wy x).mergeSort = (g.wy y).mergeSort)) (c := decide ((g.wy x).mergeSort = (g.wy y).mergeSort))
    rwa [bne_self_eq_false] at this
  clear hge hne hle heq
  refine ex_cons (st_if (b := false) (ts_cmp (x := .lst ((geF (g.ws x) (g.ws y)).map (tripA (g.ws x) (g.ws y)))) (y := .lst ((g.gel x y).map (g.trip x y))) (ev_methC X.mak.cls (ks := wsKs) (ev_item (y := leadA C g x) (lv_val (ev_name rfl)) (ev_name rfl) hx0 hx63 l1) X.ge.ns hfS hfcS obj_ge (by decide) (kr_fn X.ge.fn) (evl_cons (ev_item (y := leadA C g y) (lv_val (ev_name rfl)) (ev_name rfl) hy0 hy63 l2) evl_nil) (fn_geW (d := 3) T X.mak.cls X.kys X.ge.fn X.ms X.bLen X.bMax X.bRange b1.1 b2.1 b1.2 b2.2)) (EvO.val (evo_filter g.szs (g := g.trip x y) (f := g.trip x y) (fun s => decide (g.colv x s ≥ g.colv y s)) (cap0 rfl (by decide +kernel)) (evJ_list (ev_name rfl)) caps_nil hszl (fun s _ L zs => ⟨_, .name rfl, ts_cmp (ev_itemT (ev_name rfl) ev_int (by decide) (by decide) rfl) (ev_itemT (ev_name rfl) ev_int (by decide) (by decide) rfl) op_geI, fun _ => ev_name rfl⟩))) o1) ?_)
  rw [if_neg Bool.false_ne_true]
  refine ex_nil ?_
  refine ex_cons (st_if (b := false) (ts_cmp (x := .lst ((neF (g.ws x) (g.ws y)).map (tripA (g.ws x) (g.ws y)))) (y := .lst ((g.nel x y).map (g.trip x y))) (ev_methC X.mak.cls (ks := wsKs) (ev_item (y := leadA C g x) (lv_val (ev_name rfl)) (ev_name rfl) hx0 hx63 l1) X.ne.ns hfE hfcE obj_ne (by decide) (kr_fn X.ne.fn) (evl_cons (ev_item (y := leadA C g y) (lv_val (ev_name rfl)) (ev_name rfl) hy0 hy63 l2) evl_nil) (fn_neW (d := 3) T X.mak.cls X.kys X.ne.fn X.ms X.bLen X.bMax X.bRange b1.1 b2.1 b1.2 b2.2)) (EvO.val (evo_filter g.szs (g := g.trip x y) (f := g.trip x y) (fun s => g.colv x s != g.colv y s) (cap0 rfl (by decide +kernel)) (evJ_list (ev_name rfl)) caps_nil hszl (fun s _ L zs => ⟨_, .name rfl, ts_cmp (ev_itemT (ev_name rfl) ev_int (by decide) (by decide) rfl) (ev_itemT (ev_name rfl) ev_int (by decide) (by decide) rfl) op_neI, fun _ => ev_name rfl⟩))) o2) ?_)
  rw [if_neg Bool.false_ne_true]
  refine ex_nil ?_
  refine ex_cons (st_if (b := false) (ts_cmp (x := .bool (lessF (g.ws x) (g.ws y))) (y := .bool (decide (g.gel x y = []))) (ev_methC X.mak.cls (ks := wsKs) (ev_item (y := leadA C g x) (lv_val (ev_name rfl)) (ev_name rfl) hx0 hx63 l1) X.less.ns hfZ hfcZ obj_less (by decide) (kr_fn X.less.fn) (evl_cons (ev_item (y := leadA C g y) (lv_val (ev_name rfl)) (ev_name rfl) hy0 hy63 l2) evl_nil) (fn_less (d := 3) T X.mak.cls X.kys X.less.fn X.ms X.bLen X.bMax X.bRange b1.1 b2.1 b1.2 b2.2)) (ev_cmp (EvO.val (evo_filter g.szs (g := g.trip x y) (f := g.trip x y) (fun s => decide (g.colv x s ≥ g.colv y s)) (cap0 rfl (by decide +kernel)) (evJ_list (ev_name rfl)) caps_nil hszl (fun s _ L zs => ⟨_, .name rfl, ts_cmp (ev_itemT (ev_name rfl) ev_int (by decide) (by decide) rfl) (ev_itemT (ev_name rfl) ev_int (by decide) (by decide) rfl) op_geI, fun _ => ev_name rfl⟩))) (EvO.val (evo_list evl_nil)) op_eqTripNil) o3) ?_)
  rw [if_neg Bool.false_ne_true]
  refine ex_nil ?_
  refine ex_cons (st_if (b := false) (ts_cmp (x := .bool (decide ((g.ws x).cnt = (g.ws y).cnt ∧ (g.ws x).b = (g.ws y).b))) (y := .bool (decide ((g.wy x).mergeSort = (g.wy y).mergeSort))) (ev_methC X.mak.cls (ks := wsKs) (ev_item (y := leadA C g x) (lv_val (ev_name rfl)) (ev_name rfl) hx0 hx63 l1) X.eq.ns hfQ hfcQ obj_equal (by decide) (kr_fn X.eq.fn) (evl_cons (ev_item (y := leadA C g y) (lv_val (ev_name rfl)) (ev_name rfl) hy0 hy63 l2) evl_nil) (fn_equal (d := 4) T X.mak.cls X.kys X.eq.fn)) (ev_cmp (ev_callL (f := .builtin "sorted") (xs := (g.wy x).map .int) (gl_boot T X.bSorted (by decide +kernel)) kr_builtin (lv_val (ev_item (y := wayA g x) (lv_val (ev_name rfl)) (ev_name rfl) hx0 hx63 w1)) (fnl_sorted wl1)) (ev_callL (f := .builtin "sorted") (xs := (g.wy y).map .int) (gl_boot T X.bSorted (by decide +kernel)) kr_builtin (lv_val (ev_item (y := wayA g y) (lv_val (ev_name rfl)) (ev_name rfl) hy0 hy63 w2)) (fnl_sorted wl2)) op_eqInts) o4) ?_)
  rw [if_neg Bool.false_ne_true]
  exact ex_nil (ex_nil ⟨rfl, sub_of (all_cons rfl (all_cons rfl (all_cons rfl (all_cons rfl all_nil))))⟩)
end
end Mine
end
section
open PySem PySem.W PySem.W.X PyProof.Rows Builtin.Str PySem.SeqAt
set_option Elab.async false
set_option maxRecDepth 100000
namespace Mine
noncomputable def pairN (q : Nat × Nat) : AV := .tup [.int q.1, .int q.2]
noncomputable def figOf3 (ns : List Int) : Fig3 := ⟨numsF ns 16⟩
section
variable {w : World} {hT : Heap} {K : Frag} {mg mb : Str → Option Value} {C aI aL aN aE aS aQ aZ aGen aStrip aCheck aNum aDep aUni aWay aBeg aTyp : Addr} {mN : Str → Option Value}
variable {g : Fig3} {doc pm : Value} {an : Option Addr} {cd ct : Value} {L a : Addr}
theorem k_loop (X : Top3 w hT K mg mb C aI aL aN aE aS aQ aZ aGen aStrip aCheck aNum aDep aUni aWay aBeg aTyp mN) (hp : Plain3 g) : ∀ (k n : Nat), n + k = 2 →
    Loop PR w hT 5 (callEnvC (fdN (stN iLaw) "law" "law" .none .none doc pm an cd ct) L a) (Wof (scopeOf (stN iLaw))) (forTg (nth (bodyOf (stN iLaw)) 5)) kBody ((List.range k).map fun j => AV.int ((n + j : Nat) : Int)) (sP C g n) (fun fl σ' => fl = .next ∧ Sub (sP C g 2) σ') := by
  intro k
  induction k with
  | zero => intro n h; have : n = 2 := h
            subst this; exact ⟨rfl, Sub.refl _⟩
  | succ k ih =>
    intro n h
    rw [items_succ]
    refine loop_cons (BindT.name rfl) ?_
    refine Ex.mono (k_step (k := n) X hp (ltE h)) fun fl σ' ⟨h1, h2⟩ => ?_
    subst h1
    exact (ih (n + 1) (shE h)).sub h2 keepS
theorem p_loop (X : Top3 w hT K mg mb C aI aL aN aE aS aQ aZ aGen aStrip aCheck aNum aDep aUni aWay aBeg aTyp mN) (hp : Plain3 g) : ∀ (qs : List (Nat × Nat)), (∀ q ∈ qs, q.1 < 2 ∧ q.2 < 2 ∧ q.1 ≠ q.2) →
    Loop PR w hT 5 (callEnvC (fdN (stN iLaw) "law" "law" .none .none doc pm an cd ct) L a) (Wof (scopeOf (stN iLaw))) (forTg (nth (bodyOf (stN iLaw)) 8)) pBody (qs.map pairN) (sQ C g) (fun fl σ' => fl = .next ∧ Sub (sQ C g) σ') := by
  intro qs
  induction qs with
  | nil => intro _; exact ⟨rfl, Sub.refl _⟩
  | cons q qs ih =>
    intro h
    obtain ⟨h1, h2, h3⟩ := h q (.head _)
    rw [List.map_cons]
    refine loop_cons (BindT.pair rfl rfl) ?_
    refine Ex.mono (Ex.sub (p_step (x := q.1) (y := q.2) (C := C) X hp h1 h2 h3) (sub_of (all_cons rfl (all_cons rfl (all_cons rfl (all_cons rfl (all_cons rfl (all_cons rfl all_nil)))))))) fun fl σ' ⟨e1, e2⟩ => ?_
    subst e1
    exact (ih fun z hz => h z (.tail _ hz)).sub e2 keepS
set_option maxHeartbeats 8000000 in
theorem fn_law {a : Addr} {ns : List Int} (X : Top3 w hT K mg mb C aI aL aN aE aS aQ aZ aGen aStrip aCheck aNum aDep aUni aWay aBeg aTyp mN) (hf : FnAt hT a (stN iLaw) "law" "law") (hns : ns.length ≤ 100) (hp : Plain3 (figOf3 ns)) :
    Fn PR w hT 6 (.ref a) [.lst (ns.map .int)] (.bool true) := by
  obtain ⟨doc, pm, an, cd, ct, oc, od, osl, ho, hcd⟩ := id hf
  have T := X.T
  refine fn_body (ps := ["script"]) T ho rfl hcd rfl rfl (fun vs h => by obtain ⟨v, rfl⟩ := len1 h; rfl) (by decide) (fun p hp => .inl (by rw [List.mem_singleton.mp hp]; rfl)) rfl (fun L => ?_) rfl rfl rfl
  have hL : 1000 ≤ sizeLine := by decide
  generalize hg : figOf3 ns = g at hp
  have g1 : numsF ns 16 = g.num := by rw [← hg]; rfl
  with_unfolding_all refine ex_cons (st_assign (y := .lst (g.num.map .int)) rfl (g1 ▸ ev_call (gl_top T X.gNum) (kr_fn X.num) (evl_cons (ev_name rfl) (evl_cons ev_int evl_nil)) (fn_numbers (d := 4) T X.num X.bLen X.bMin X.bRange hns (by decide) (by decide))) ?_)
  refine ex_cons (st_assign (y := .int g.num.sum) rfl (ev_callL (f := .builtin "sum") (gl_boot T X.bSum (by decide +kernel)) kr_builtin (lv_val (ev_name rfl)) fnl_sum) ?_)
  refine ex_cons (st_assign (y := .lst [.int (g.cnt 0), .int (g.cnt 1)]) rfl (EvO.val (evo_list (evl_cons (x := .int (g.cnt 0)) (ev_binop ev_int (ev_binop (ev_name rfl) ev_int (op_mod (by decide))) op_add) (evl_cons (x := .int (g.cnt 1)) (ev_binop ev_int (ev_binop (ev_binop (ev_name rfl) ev_int (op_div (by decide) (PyProof.noPylong_small (by decide)))) ev_int (op_mod (by decide))) op_add) evl_nil)))) ?_)
  refine ex_cons (st_assignO rfl (evo_list evl_nil) ?_)
  refine ex_cons (st_assignO rfl (evo_list evl_nil) ?_)
  have c2 : Builtin.Range.rangeSize 0 2 1 = ((2 : Nat) : Int) := by decide
  refine ex_cons (st_for (evI_range (ev_call (gl_boot T X.bRange (by decide +kernel)) kr_type (evl_cons ev_int evl_nil) fn_range1) (by decide) 2 c2) ?_)
  rw [items_nat]
  refine Loop.mono ((k_loop (C := C) X hp 2 0 rfl).sub (sub_of (all_cons rfl (all_cons rfl (all_cons rfl (all_cons rfl all_nil))))) keepS) ?_
  rintro fl σ' ⟨rfl, u⟩
  refine Ex.sub ?_ u
  refine ex_freeze "ways" rfl ?_
  refine ex_freeze "leads" rfl ?_
  have hmx := mx_bd hp
  have hsl := szs_len hp
  have h0 := hp.way 0 (by decide)
  have hne : g.wy 0 ++ g.wy 1 ≠ [] := fun h => h0.1 (List.append_eq_nil_iff.mp h).1
  have w1 := range_get (wayA g) (n := 2) (k := 0) (by decide)
  have w2 := range_get (wayA g) (n := 2) (k := 1) (by decide)
  have e2 : g.mx + 2 = maxI (g.wy 0 ++ g.wy 1) + 2 := rfl
  have hap : (g.wy 0).map AV.int ++ (g.wy 1).map AV.int = (g.wy 0 ++ g.wy 1).map AV.int := List.map_append.symm
  refine ex_cons (st_assign (y := .rng 1 (g.mx + 2) 1) rfl (ev_call (gl_boot T X.bRange (by decide +kernel)) kr_type (evl_cons ev_int (evl_cons (ev_binop (ev_callL (f := .builtin "max") (xs := (g.wy 0 ++ g.wy 1).map .int) (r := .int g.mx) (gl_boot T X.bMax (by decide +kernel)) kr_builtin (EvO.lv (hap ▸ evo_add (lv_val (ev_item (y := wayA g 0) (lv_val (ev_name rfl)) ev_int (by decide) (by decide) w1)) (lv_val (ev_item (y := wayA g 1) (lv_val (ev_name rfl)) ev_int (by decide) (by decide) w2)) (by rw [List.length_map, List.length_map]; exact Nat.le_trans (Nat.add_le_add (wy_len hp (by decide)) (wy_len hp (by decide))) (by decide)))) (fnl_max (maxI_mem hne) maxI_le)) ev_int op_add) evl_nil)) fn_range2) ?_)
  have hrs := mx_rs hp
  have hsm := mx_sm hp
  have hcol : (rangeL 0 1 2).map (fun k : Int => colA g k.toNat) = (List.range 2).map (colA g) := rfl
  refine ex_cons (st_assignO (ys := (List.range 2).map (colA g)) rfl ?_ ?_)
  · rw [← hcol]
    refine evo_map (rangeL 0 1 2) (g := .int) (f := fun k : Int => colA g k.toNat) (cap3 rfl (by decide) ⟨rfl, rfl, rfl⟩ ⟨rfl, rfl, rfl⟩ ⟨rfl, rfl, rfl⟩ (by decide +kernel)) (evJ_range (ev_call (gl_boot T X.bRange (by decide +kernel)) kr_type (evl_cons ev_int evl_nil) fn_range1) (by decide) 2 c2) (caps_cons (n := "counts") (y := .lst [.int (g.cnt 0), .int (g.cnt 1)]) rfl rfl rfl (caps_cons (n := "sizes") (y := .rng 1 (g.mx + 2) 1) rfl rfl rfl (caps_cons (n := "ways") (y := .lst ((List.range 2).map (wayA g))) rfl rfl rfl caps_nil))) (by decide) (fun k hk L zs => ⟨_, .name rfl, ?_⟩)
    obtain ⟨k', hk', rfl⟩ := List.mem_map.mp hk
    have hk2 : k' < 2 := List.mem_range.mp hk'
    have e0 : (0 : Int) + (k' : Int) * 1 = (k' : Nat) := by rw [Int.zero_add, Int.mul_one]
    rw [e0, Int.toNat_natCast]
    have wk := range_get (wayA g) hk2
    have k0 : (0 : Int) ≤ (k' : Nat) := Int.natCast_nonneg k'
    have k63 : ((k' : Nat) : Int) < 2 ^ 63 := nat63 (Nat.le_trans (Nat.le_of_lt hk2) (by decide))
    have hcs : g.szs.map (fun s => AV.int (g.colv k' s)) = (g.szs.map (g.colv k')).map .int := by rw [List.map_map]; rfl
    refine EvO.val (xs := (g.szs.map (g.colv k')).map .int) ?_
    rw [← hcs]
    refine evo_map g.szs (g := .int) (f := fun s => AV.int (g.colv k' s)) (cap3 rfl (by decide) ⟨rfl, rfl, rfl⟩ ⟨rfl, rfl, rfl⟩ ⟨rfl, rfl, rfl⟩ (by decide +kernel)) (evJ_range (ev_name rfl) hsm _ hrs) (caps_cons (n := "counts") (y := .lst [.int (g.cnt 0), .int (g.cnt 1)]) rfl rfl rfl (caps_cons (n := "k") (y := .int (k' : Nat)) rfl rfl rfl (caps_cons (n := "ways") (y := .lst ((List.range 2).map (wayA g))) rfl rfl rfl caps_nil))) (Nat.le_trans hsl (by decide)) (fun s hs L zs => ⟨_, .name rfl, ?_⟩)
    obtain ⟨_, _, sz, sn⟩ := szs_bd hp hs
    refine ev_binop (ev_name rfl) (ev_binop (ev_item (y := .int (g.cnt k')) (lv_val (ev_name rfl)) (ev_name rfl) k0 k63 (cnt_get g hk2)) (ev_callL (f := .builtin "sum") (r := .int ((g.wy k').map fun w => w.fdiv s).sum) (gl_boot T X.bSum (by decide +kernel)) kr_builtin (EvO.lv (evo_map (g.wy k') (g := .int) (f := fun w => .int (w.fdiv s)) (τ := [("size", .val (.int s))]) (cap1 rfl ⟨rfl, rfl, rfl⟩ (by decide +kernel)) (evJ_list (ev_item (y := wayA g k') (lv_val (ev_name rfl)) (ev_name rfl) k0 k63 wk)) (caps_cons rfl rfl rfl caps_nil) (Nat.le_trans (wy_len hp hk2) (by decide)) (fun w hw L' zs' => ⟨_, .name rfl, ev_binop (ev_name rfl) (ev_name rfl) (op_div sz (PyProof.noPylong_small sn))⟩))) ?_) op_add) (op_mul (mulOkL (Nat.lt_trans sn (by decide))))
    have := fnl_sum (prog := PR) (w := w) (hT := hT) (d := 5) (ns := (g.wy k').map fun w => w.fdiv s)
    rw [List.map_map] at this
    exact this
  refine ex_freeze "columns" rfl ?_
  refine ex_cons (st_for (evI_list (EvO.val (evo_list (evl_cons (x := pairN (0, 1)) (ev_tup (evl_cons ev_int (evl_cons ev_int evl_nil))) (evl_cons (x := pairN (1, 0)) (ev_tup (evl_cons ev_int (evl_cons ev_int evl_nil))) evl_nil))))) ?_)
  refine Loop.mono ((p_loop (C := C) X hp [(0, 1), (1, 0)] (by decide)).sub (sub_of (all_cons rfl (all_cons rfl (all_cons rfl (all_cons rfl all_nil))))) keepS) ?_
  rintro fl σ' ⟨rfl, u⟩
  exact ex_cons (st_return ev_bool (.inl rfl))
end
end Mine
end
section
open PySem PySem.W PySem.W.X PyProof.Rows Builtin.Str
set_option Elab.async false
namespace Mine
noncomputable def runCps (r : Nat) : List Nat := List.replicate r 32 ++ [9]
noncomputable def runsCps (rs : List Nat) : List Nat := rs.flatMap runCps
theorem wsGo_blanks : ∀ (k : Nat) (cs : List Nat) (c : List Int) (b n nt : Nat), wsGo (List.replicate k 32 ++ cs) ⟨c, b, n, nt⟩ = wsGo cs ⟨c, b + k, n + k, nt⟩
  | 0, _, _, _, _, _ => rfl
  | k + 1, cs, c, b, n, nt => by
    rw [List.replicate_succ, List.cons_append]
    show (if (32 : Nat) = 32 then _ else _) = _
    rw [if_pos rfl, wsGo_blanks k, show b + (k + 1) = b + 1 + k by omega, show n + (k + 1) = n + 1 + k by omega]
theorem wsGo_runs : ∀ (rs cs : List Nat) (c : List Int) (n nt : Nat), wsGo (runsCps rs ++ cs) ⟨c, 0, n, nt⟩ = wsGo cs ⟨rs.foldl bump c, 0, n + (rs.map (· + 1)).sum, nt + rs.length⟩
  | [], _, _, _, _ => rfl
  | r :: rs, cs, c, n, nt => by
    unfold runsCps
    rw [List.flatMap_cons, List.append_assoc]
    unfold runCps
    rw [List.append_assoc, wsGo_blanks, Nat.zero_add]
    show wsGo (9 :: (runsCps rs ++ cs)) _ = _
    have h : wsGo (9 :: (runsCps rs ++ cs)) ⟨c, r, n + r, nt⟩ = wsGo (runsCps rs ++ cs) ⟨bump c r, 0, n + r + 1, nt + 1⟩ := by
      show (if (9 : Nat) = 32 then _ else if (9 : Nat) = 9 then _ else _) = _
      rw [if_neg (by decide), if_pos rfl]
    rw [h, wsGo_runs rs cs]
    rw [List.foldl_cons, List.map_cons, List.sum_cons, List.length_cons]
    congr 2 <;> omega
/-- an object made of runs of blanks, a tab behind each, and blanks behind all -/
noncomputable def wsR (rs : List Nat) (t : Nat) : WS := ⟨rs.foldl bump [], t, (rs.map (· + 1)).sum + t, rs.length⟩
theorem wsGo_stop {cs : List Nat} {s : WS} (h : ∀ c ∈ cs.head?, c ≠ 32 ∧ c ≠ 9) : wsGo cs s = s := by
  cases cs with
  | nil => rfl
  | cons c cs =>
    obtain ⟨h1, h2⟩ := h c rfl
    show (if c = 32 then _ else if c = 9 then _ else _) = _
    rw [if_neg h1, if_neg h2]
theorem wsGo_text {rs : List Nat} {t : Nat} {cs : List Nat} (h : ∀ c ∈ cs.head?, c ≠ 32 ∧ c ≠ 9) : wsGo (runsCps rs ++ (List.replicate t 32 ++ cs)) ⟨[], 0, 0, 0⟩ = wsR rs t := by
  rw [wsGo_runs, wsGo_blanks, wsGo_stop h]
  unfold wsR
  congr 1 <;> omega
theorem getD_set {l : List Int} {b i : Nat} {x : Int} (h : b < l.length) : (l.set b x).getD i 0 = if i = b then x else l.getD i 0 := by
  rw [List.getD_eq_getElem?_getD, List.getElem?_set]
  by_cases e : b = i
  · subst e; rw [if_pos rfl, if_pos rfl, if_pos h]; rfl
  · rw [if_neg e, if_neg (Ne.symm e), ← List.getD_eq_getElem?_getD]
theorem getD_pad {l : List Int} {k i : Nat} : (l ++ List.replicate k 0).getD i 0 = l.getD i 0 := by
  rw [List.getD_eq_getElem?_getD, List.getD_eq_getElem?_getD, List.getElem?_append]
  split
  · rfl
  · rename_i h
    rw [List.getElem?_replicate, List.getElem?_eq_none (l := l) (by omega)]
    split <;> rfl
noncomputable def padTo (l : List Int) (b : Nat) : List Int := if l.length ≤ b then l ++ List.replicate (b - l.length + 1) 0 else l
theorem bump_eq (l : List Int) (b : Nat) : bump l b = (padTo l b).set b ((padTo l b).getD b 0 + 1) := rfl
theorem padTo_len (l : List Int) (b : Nat) : b < (padTo l b).length := by
  unfold padTo
  split
  · rw [List.length_append, List.length_replicate]; omega
  · omega
theorem padTo_getD (l : List Int) (b i : Nat) : (padTo l b).getD i 0 = l.getD i 0 := by
  unfold padTo
  split
  · exact getD_pad
  · rfl
theorem bump_getD (l : List Int) (b i : Nat) : (bump l b).getD i 0 = l.getD i 0 + if i = b then 1 else 0 := by
  rw [bump_eq, getD_set (padTo_len l b), padTo_getD, padTo_getD]
  split
  · rename_i h; rw [h]
  · omega
theorem cnt_getD : ∀ (rs : List Nat) (l : List Int) (i : Nat), (rs.foldl bump l).getD i 0 = l.getD i 0 + (rs.count i : Nat)
  | [], l, i => by simp
  | r :: rs, l, i => by
    rw [List.foldl_cons, cnt_getD rs, bump_getD, List.count_cons]
    by_cases h : i = r
    · subst h; simp; omega
    · rw [if_neg h, if_neg (by simpa using Ne.symm h)]; omega
/-- one more than the longest run -/
noncomputable def mx (rs : List Nat) (m : Nat) : Nat := rs.foldl (fun m r => max m (r + 1)) m
theorem cnt_length : ∀ (rs : List Nat) (l : List Int), (rs.foldl bump l).length = mx rs l.length
  | [], _ => rfl
  | r :: rs, l => by
    rw [List.foldl_cons, cnt_length rs, bump_length]; rfl
theorem mx_ge : ∀ (rs : List Nat) (m : Nat), m ≤ mx rs m ∧ ∀ r ∈ rs, r < mx rs m
  | [], m => ⟨Nat.le_refl _, fun _ h => nomatch h⟩
  | r :: rs, m => by
    have := mx_ge rs (max m (r + 1))
    refine ⟨?_, fun x hx => ?_⟩
    · show m ≤ mx rs (max m (r + 1)); omega
    · show x < mx rs (max m (r + 1))
      rcases List.mem_cons.mp hx with rfl | hx
      · omega
      · exact this.2 x hx
theorem mx_le : ∀ (rs : List Nat) (m k : Nat), m ≤ k → (∀ r ∈ rs, r < k) → mx rs m ≤ k
  | [], _, _, h, _ => h
  | r :: rs, m, k, h, hr => mx_le rs (max m (r + 1)) k (by have := hr r (.head _); omega) fun x hx => hr x (.tail _ hx)
/-- the sum of the parts of each run -/
noncomputable def S (rs : List Nat) (ts : Nat) : Nat := (rs.map (· / ts)).sum
noncomputable def Wt (ts : Nat) : Nat → List Int → Int
  | _, [] => 0
  | i, x :: l => ((i / ts : Nat) : Int) * x + Wt ts (i + 1) l
theorem Wt_set (ts : Nat) : ∀ (l : List Int) (i b : Nat), b < l.length → Wt ts i (l.set b (l.getD b 0 + 1)) = Wt ts i l + ((i + b) / ts : Nat)
  | [], _, _, h => nomatch h
  | x :: l, i, 0, _ => by
    show ((i / ts : Nat) : Int) * (x + 1) + Wt ts (i + 1) l = ((i / ts : Nat) : Int) * x + Wt ts (i + 1) l + _
    rw [Int.mul_add]; simp; omega
  | x :: l, i, b + 1, h => by
    have := Wt_set ts l (i + 1) b (by rw [List.length_cons] at h; omega)
    show ((i / ts : Nat) : Int) * x + Wt ts (i + 1) (l.set b (l.getD b 0 + 1)) = ((i / ts : Nat) : Int) * x + Wt ts (i + 1) l + _
    rw [this, show i + (b + 1) = i + 1 + b by omega]; omega
theorem Wt_zeros (ts : Nat) : ∀ (k i : Nat), Wt ts i (List.replicate k 0) = 0
  | 0, _ => rfl
  | k + 1, i => by
    show ((i / ts : Nat) : Int) * 0 + Wt ts (i + 1) (List.replicate k 0) = 0
    rw [Wt_zeros ts k]; simp
theorem Wt_append (ts : Nat) : ∀ (l l' : List Int) (i : Nat), Wt ts i (l ++ l') = Wt ts i l + Wt ts (i + l.length) l'
  | [], l', i => by show _ = (0 : Int) + _; simp
  | x :: l, l', i => by
    show ((i / ts : Nat) : Int) * x + Wt ts (i + 1) (l ++ l') = ((i / ts : Nat) : Int) * x + Wt ts (i + 1) l + _
    rw [Wt_append ts l, List.length_cons, show i + (l.length + 1) = i + 1 + l.length by omega]; omega
theorem Wt_bump (ts : Nat) (l : List Int) (b : Nat) : Wt ts 0 (bump l b) = Wt ts 0 l + (b / ts : Nat) := by
  rw [bump_eq, Wt_set ts _ _ _ (padTo_len l b), Nat.zero_add]
  congr 1
  unfold padTo
  split
  · rw [Wt_append, Wt_zeros]; omega
  · rfl
theorem Wt_cnt (ts : Nat) : ∀ (rs : List Nat) (l : List Int), Wt ts 0 (rs.foldl bump l) = Wt ts 0 l + (S rs ts : Nat)
  | [], l => by simp [S]
  | r :: rs, l => by
    rw [List.foldl_cons, Wt_cnt ts rs, Wt_bump]
    unfold S
    rw [List.map_cons, List.sum_cons]; omega
theorem Wt_low (ts : Nat) : ∀ (k i : Nat) (l : List Int), i + k ≤ ts → Wt ts i l = Wt ts (i + k) (l.drop k)
  | 0, _, _, _ => rfl
  | k + 1, i, [], _ => rfl
  | k + 1, i, x :: l, h => by
    have := Wt_low ts k (i + 1) l (by omega)
    show ((i / ts : Nat) : Int) * x + Wt ts (i + 1) l = _
    rw [this, Nat.div_eq_of_lt (by omega), show i + 1 + k = i + (k + 1) by omega]
    simp
theorem rangeL_succ (a c : Int) (n : Nat) : rangeL a c (n + 1) = a :: rangeL (a + c) c n := by
  unfold rangeL
  rw [List.range_succ_eq_map, List.map_cons, List.map_map]
  congr 1
  · simp
  · refine List.map_congr_left fun i _ => ?_
    show a + ((i + 1 : Nat) : Int) * c = a + c + (i : Int) * c
    rw [Int.natCast_add, Int.add_mul]; simp; omega
theorem indSum_Wt (ts : Nat) (cnt : List Int) : ∀ (n j : Nat) (z : Int), j + n = cnt.length → indSum cnt ts (rangeL j 1 n) z = z + Wt ts j (cnt.drop j)
  | 0, j, z, h => by
    rw [List.drop_eq_nil_of_le (by omega)]
    show z = z + 0
    omega
  | n + 1, j, z, h => by
    rw [rangeL_succ]
    have ih := indSum_Wt ts cnt n (j + 1) (z + (j : Int).fdiv ts * cnt.getD j 0) (by omega)
    have e : cnt.drop j = cnt.getD j 0 :: cnt.drop (j + 1) := by
      rw [List.drop_eq_getElem_cons (by omega)]
      congr 1
      rw [List.getD_eq_getElem?_getD, List.getElem?_eq_getElem (by omega)]; rfl
    rw [e]
    show indSum cnt ts (rangeL ((j : Int) + 1) 1 n) (z + (j : Int).fdiv ts * cnt.getD (j : Int).toNat 0) = z + (((j / ts : Nat) : Int) * cnt.getD j 0 + Wt ts (j + 1) (cnt.drop (j + 1)))
    rw [Int.toNat_natCast, show ((j : Int) + 1) = ((j + 1 : Nat) : Int) by omega, ih, Int.fdiv_eq_ediv_of_nonneg _ (by omega), Int.natCast_ediv]
    omega
theorem indF_wsR (rs : List Nat) (t ts : Nat) : indF (wsR rs t) ts = t + ts * ((S rs ts : Nat) + (rs.length : Nat)) := by
  unfold indF wsR
  dsimp only
  congr 3
  rw [Int.toNat_natCast]
  have hz : indSum (rs.foldl bump []) ts (rangeL ts 1 ((rs.foldl bump []).length - ts)) 0 = Wt ts 0 (rs.foldl bump []) := by
    by_cases hl : ts ≤ (rs.foldl bump []).length
    · rw [indSum_Wt ts _ _ ts 0 (by omega), Wt_low ts ts 0 _ (by omega), Nat.zero_add, Int.zero_add]
    · have e : (rs.foldl bump []).length - ts = 0 := by omega
      rw [e, Wt_low ts (rs.foldl bump []).length 0 _ (by omega), List.drop_length]; rfl
  rw [hz, Wt_cnt]
  show (0 : Int) + _ = _
  omega
theorem longF_wsR (rs : List Nat) (t : Nat) : longF (wsR rs t) = max ((mx rs 0 : Int) - 1) t := by
  unfold longF wsR
  dsimp only
  rw [cnt_length]; rfl
theorem cnt_ext {rs rs' : List Nat} (h : ∀ i, rs.count i = rs'.count i) : rs.foldl bump [] = rs'.foldl bump [] := by
  have hl : mx rs 0 = mx rs' 0 := by
    have mem : ∀ i, i ∈ rs ↔ i ∈ rs' := fun i => by rw [← List.count_pos_iff, ← List.count_pos_iff, h]
    refine Nat.le_antisymm (mx_le _ _ _ (Nat.zero_le _) fun r hr => (mx_ge rs' 0).2 r ((mem r).mp hr)) (mx_le _ _ _ (Nat.zero_le _) fun r hr => (mx_ge rs 0).2 r ((mem r).mpr hr))
  refine List.ext_getElem? fun i => ?_
  by_cases hi : i < mx rs 0
  · have e1 : i < (rs.foldl bump []).length := by rw [cnt_length]; exact hi
    have e2 : i < (rs'.foldl bump []).length := by rw [cnt_length]; show i < mx rs' 0; omega
    have d1 := cnt_getD rs [] i
    have d2 := cnt_getD rs' [] i
    rw [List.getD_eq_getElem?_getD, List.getElem?_eq_getElem e1] at d1
    rw [List.getD_eq_getElem?_getD, List.getElem?_eq_getElem e2] at d2
    rw [List.getElem?_eq_getElem e1, List.getElem?_eq_getElem e2]
    simp only [Option.getD_some] at d1 d2
    rw [d1, d2, h]
  · rw [List.getElem?_eq_none (by rw [cnt_length]; show mx rs 0 ≤ i; omega), List.getElem?_eq_none (by rw [cnt_length]; show mx rs' 0 ≤ i; omega)]
theorem cnt_eq_iff (rs rs' : List Nat) : rs.foldl bump [] = rs'.foldl bump [] ↔ ∀ i, rs.count i = rs'.count i := by
  refine ⟨fun h i => ?_, cnt_ext⟩
  have d1 := cnt_getD rs [] i
  have d2 := cnt_getD rs' [] i
  rw [h] at d1
  omega
end Mine
end
section
open PySem PySem.W PySem.W.X PyProof.Rows Builtin.Str
set_option Elab.async false
namespace Mine
/-- where a word begins at a tab size -/
noncomputable def colN (rs : List Nat) (t ts : Nat) : Nat := t + ts * (S rs ts + rs.length)
/-- the last size that is asked -/
noncomputable def topN (a : List Nat) (t : Nat) (b : List Nat) (t' : Nat) : Nat := max (max (mx a 0 - 1) t) (max (mx b 0 - 1) t') + 1
theorem indF_col (rs : List Nat) (t ts : Nat) : indF (wsR rs t) ts = (colN rs t ts : Nat) := by
  rw [indF_wsR]; unfold colN
  rw [Int.natCast_add, Int.natCast_mul, Int.natCast_add]
theorem S_one (rs : List Nat) : S rs 1 = rs.sum := by
  unfold S
  rw [List.map_congr_left (g := id) fun r _ => Nat.div_one r, List.map_id]
theorem sum_succ : ∀ rs : List Nat, (rs.map (· + 1)).sum = rs.sum + rs.length
  | [] => rfl
  | r :: rs => by rw [List.map_cons, List.sum_cons, List.sum_cons, List.length_cons, sum_succ rs]; omega
theorem n_col (rs : List Nat) (t : Nat) : (wsR rs t).n = colN rs t 1 := by
  unfold wsR colN
  rw [S_one]
  show (rs.map (· + 1)).sum + t = _
  rw [sum_succ]; omega
theorem S_big {rs : List Nat} {ts : Nat} (h : ∀ r ∈ rs, r < ts) : S rs ts = 0 := by
  unfold S
  rw [List.map_congr_left (g := fun _ => 0) fun r hr => Nat.div_eq_of_lt (h r hr)]
  clear h
  induction rs with
  | nil => rfl
  | cons r rs ih => rw [List.map_cons, List.sum_cons, ih]
theorem max_cast (x y : Nat) : max (x : Int) y = ((max x y : Nat) : Int) := by omega
theorem mx_cast (m t : Nat) : max ((m : Int) - 1) t = ((max (m - 1) t : Nat) : Int) := by
  cases m with
  | zero =>
    rw [Nat.zero_sub, Nat.zero_max]
    exact Int.max_eq_right (by show (0 : Int) - 1 ≤ t; omega)
  | succ m =>
    rw [← max_cast, Nat.add_sub_cancel, Int.natCast_succ, Int.add_sub_cancel]
theorem long_top (a : List Nat) (t : Nat) (b : List Nat) (t' : Nat) : max (longF (wsR a t)) (longF (wsR b t')) + 1 = (topN a t b t' : Nat) := by
  rw [longF_wsR, longF_wsR, mx_cast, mx_cast, max_cast]
  rfl
theorem mem_rangeL (a : Int) (n : Nat) (i : Int) : i ∈ rangeL a 1 n ↔ a ≤ i ∧ i < a + n := by
  unfold rangeL
  rw [List.mem_map]
  constructor
  · rintro ⟨k, hk, rfl⟩
    rw [Int.mul_one]
    exact ⟨Int.le_add_of_nonneg_right (Int.natCast_nonneg k), Int.add_lt_add_left (Int.ofNat_lt.mpr (List.mem_range.mp hk)) a⟩
  · intro h
    obtain ⟨k, hk⟩ := Int.eq_ofNat_of_zero_le (Int.sub_nonneg_of_le h.1)
    have e : a + (k : Int) = i := by rw [← hk, Int.add_comm, Int.sub_add_cancel]
    exact ⟨k, List.mem_range.mpr (Int.ofNat_lt.mp (Int.lt_of_add_lt_add_left (e.symm ▸ h.2))), by rw [Int.mul_one]; exact e⟩
theorem simple_iff (rs : List Nat) (t : Nat) : simpleW (wsR rs t) = true ↔ ∀ r ∈ rs, r = 0 := by
  unfold simpleW wsR
  dsimp only
  rw [decide_eq_true_iff, cnt_length]
  show ((mx rs 0 : Nat) : Int) ≤ 1 ↔ _
  constructor
  · intro h r hr
    have := (mx_ge rs 0).2 r hr
    omega
  · intro h
    have := mx_le rs 0 1 (by omega) fun r hr => by rw [h r hr]; omega
    omega
theorem S_zero {rs : List Nat} {ts : Nat} (h : ∀ r ∈ rs, r = 0) : S rs ts = 0 := by
  cases ts with
  | zero =>
    unfold S
    rw [List.map_congr_left (g := fun _ => 0) fun r _ => Nat.div_zero r]
    clear h
    induction rs with
    | nil => rfl
    | cons r rs ih => rw [List.map_cons, List.sum_cons, ih]
  | succ ts => exact S_big fun r hr => by rw [h r hr]; omega
theorem lessF_wsR (a : List Nat) (t : Nat) (b : List Nat) (t' : Nat) : lessF (wsR a t) (wsR b t') = true ↔ ∀ ts, 1 ≤ ts → ts ≤ topN a t b t' → colN a t ts < colN b t' ts := by
  have htop : 1 ≤ topN a t b t' := Nat.le_add_left 1 _
  unfold lessF
  rw [n_col, n_col]
  split
  · rename_i h
    constructor
    · intro q; cases q
    · intro q
      exact absurd (Int.ofNat_lt.mpr (q 1 (Nat.le_refl _) htop)) (Int.not_lt.mpr h)
  · rename_i h
    have h1 : colN a t 1 < colN b t' 1 := Nat.lt_of_not_le fun q => h (Int.ofNat_le.mpr q)
    split
    · rename_i hs
      rw [Bool.and_eq_true, simple_iff, simple_iff] at hs
      obtain ⟨ha, hb⟩ := hs
      have ea : ∀ ts, colN a t ts = t + ts * a.length := fun ts => by unfold colN; rw [S_zero ha, Nat.zero_add]
      have eb : ∀ ts, colN b t' ts = t' + ts * b.length := fun ts => by unfold colN; rw [S_zero hb, Nat.zero_add]
      rw [decide_eq_true_iff]
      show ((a.length : Nat) : Int) ≤ ((b.length : Nat) : Int) ↔ _
      rw [ea, eb] at h1
      constructor
      · intro q ts hts _
        rw [ea, eb]
        have hm := fun k => Nat.mul_le_mul_left k (Int.ofNat_le.mp q)
        obtain ⟨k, rfl⟩ := Nat.exists_eq_add_of_le' hts
        rw [Nat.add_mul k 1 a.length, Nat.add_mul k 1 b.length, Nat.add_left_comm t, Nat.add_left_comm t']
        exact Nat.add_lt_add_of_le_of_lt (hm k) h1
      · intro q
        have := q (topN a t b t') htop (Nat.le_refl _)
        rw [ea, eb] at this
        have hT : t' < topN a t b t' := Nat.lt_succ_of_le (Nat.le_trans (Nat.le_max_right _ _) (Nat.le_max_right _ _))
        generalize topN a t b t' = T at this hT
        refine Int.ofNat_le.mpr (Nat.le_of_not_lt fun hlt => ?_)
        have hm : T * (b.length + 1) ≤ T * a.length := Nat.mul_le_mul_left _ hlt
        rw [Nat.mul_add, Nat.mul_one] at hm
        exact absurd this (Nat.not_lt.mpr (Nat.le_trans (by rw [Nat.add_comm]; exact Nat.le_of_lt (Nat.add_lt_add_left hT _)) (Nat.le_trans hm (Nat.le_add_left _ _))))
    · rw [List.all_eq_true]
      unfold sizesW
      rw [long_top]
      constructor
      · intro q ts h2 h3
        by_cases e1 : ts = 1
        · rw [e1]; exact h1
        · have := q ts ((mem_rangeL _ _ _).mpr (by omega))
          rw [decide_eq_true_iff, indF_col, indF_col] at this
          omega
      · intro q i hi
        have hi := (mem_rangeL _ _ _).mp hi
        obtain ⟨ts, rfl⟩ : ∃ ts : Nat, i = ts := ⟨i.toNat, by omega⟩
        have := q ts (by omega) (by omega)
        rw [decide_eq_true_iff, indF_col, indF_col]
        omega
end Mine
end
section
open PySem PySem.W PySem.W.X PyProof.Rows Builtin.Str
set_option Elab.async false
namespace Mine
theorem getD_snoc (ds : List Int) (x : Int) (i : Nat) : (ds ++ [x]).getD i 0 = if i < ds.length then ds.getD i 0 else if i = ds.length then x else 0 := by
  rw [List.getD_eq_getElem?_getD, List.getElem?_append]
  split
  · rw [List.getD_eq_getElem?_getD]
  · split
    · rename_i h; rw [h, Nat.sub_self]; rfl
    · rw [List.getElem?_eq_none (by simp; omega)]; rfl
theorem lastD (ds : List Int) (h : ds ≠ []) : ds.getLastD 0 = ds.getD (ds.length - 1) 0 := by
  obtain ⟨l, hl⟩ := snoc_last ds h
  generalize ds.getLastD 0 = x at hl
  subst hl
  rw [getD_snoc, List.length_append, List.length_singleton, if_neg (by omega), if_pos (by omega)]
theorem OkS.snoc {ds : List Int} (h : OkS ds) (hne : ds ≠ []) {x : Int} (h0 : 0 ≤ x) (h1 : x ≤ ds.getD (ds.length - 1) 0 + 1) : OkS (ds ++ [x]) := by
  have hl : 0 < ds.length := List.length_pos_iff.mpr hne
  refine ⟨by rw [getD_snoc, if_pos hl]; exact h.zero, fun i hi => ?_⟩
  rw [List.length_append, List.length_singleton] at hi
  rw [getD_snoc, getD_snoc, if_pos (show i < ds.length by omega)]
  by_cases c : i + 1 < ds.length
  · rw [if_pos c]; exact h.step i c
  · rw [if_neg c, if_pos (by omega)]
    rw [show ds.length - 1 = i by omega] at h1
    exact ⟨h0, h1⟩
theorem OkS.go (num : List Int) : ∀ (ps ds : List Int), OkS ds → ds ≠ [] → OkS (depGo num ds ps)
  | [], _, h, _ => h
  | p :: ps, ds, h, hne => by
    have hl : 0 < ds.length := List.length_pos_iff.mpr hne
    have hb := h.bd (ds.length - 1) (by omega)
    have hf := fmod_bd (a := num.getD p.toNat 0 + p * p) (b := ds.getD (ds.length - 1) 0 + 2) (by omega)
    refine OkS.go num ps _ ?_ (by simp)
    rw [lastD ds hne]
    exact h.snoc hne hf.1 (by omega)
theorem dep_ok (num : List Int) (b c : Int) (hc : 1 ≤ c) : OkS (depF num b c) ∧ (depF num b c).length = c.toNat := by
  refine ⟨OkS.go num _ [0] ⟨rfl, fun i hi => by simp at hi⟩ (by simp), ?_⟩
  unfold depF rangeL
  rw [dep_len, List.length_map, List.length_range, List.length_singleton, Int.pred_toNat]
  exact Nat.add_sub_of_le ((Int.le_toNat (Int.le_trans (by decide) hc)).mpr hc)
/-- a block: as many signs as a way is long, then the closing ones -/
noncomputable def blk (q : Nat × Nat) : List Bool := List.replicate q.1 true ++ List.replicate q.2 false
theorem ways_blocks {ds : List Int} (h : OkS ds) : ∀ i, i < ds.length → ∃ (ps : List (Nat × Nat)) (c : Nat), sgU ds (i + 1) = ps.flatMap blk ++ List.replicate c true ∧ wyU ds (i + 1) = (ps.map fun q => (q.1 : Int)) ++ [(c : Int)] ∧ (∀ q ∈ ps, 1 ≤ q.1 ∧ 1 ≤ q.2) ∧ 1 ≤ c ∧ (ps.map (·.1)).sum + c = i + 1
  | 0, _ => ⟨[], 1, rfl, rfl, fun _ h => (nomatch h), Nat.le_refl _, rfl⟩
  | i + 1, hi => by
    obtain ⟨ps, c, e1, e2, e3, e4, e5⟩ := ways_blocks h i (by omega)
    have hs := h.step i hi
    have hcl : cl ds (i + 1) = List.replicate (ds.getD i 0 - ds.getD (i + 1) 0 + 1).toNat false := by unfold cl; rw [if_neg (by omega), Nat.add_sub_cancel]
    have eS : sgU ds (i + 1 + 1) = (sgU ds (i + 1) ++ cl ds (i + 1)) ++ [true] := rfl
    have eW : wyU ds (i + 1 + 1) = if grows ds (i + 1) then (wyU ds (i + 1)).dropLast ++ [(wyU ds (i + 1)).getD ((wyU ds (i + 1)).length - 1) 0 + 1] else wyU ds (i + 1) ++ [1] := rfl
    have hgr : grows ds (i + 1) = decide (ds.getD (i + 1) 0 > ds.getD i 0) := by
      unfold grows
      rw [decide_eq_true (by omega), Bool.true_and, Nat.add_sub_cancel]
    by_cases hg : ds.getD (i + 1) 0 > ds.getD i 0
    · refine ⟨ps, c + 1, ?_, ?_, e3, by omega, by omega⟩
      · rw [eS, hcl, e1, show (ds.getD i 0 - ds.getD (i + 1) 0 + 1).toNat = 0 by omega, List.replicate_zero, List.append_nil, List.append_assoc, List.replicate_succ']
      · rw [eW, hgr, decide_eq_true hg, if_pos rfl, e2, List.dropLast_concat]
        congr 2
        rw [getD_snoc, List.length_append, List.length_singleton, if_neg (by omega), if_pos (by omega)]; rfl
    · refine ⟨ps ++ [(c, (ds.getD i 0 - ds.getD (i + 1) 0 + 1).toNat)], 1, ?_, ?_, fun q hq => ?_, Nat.le_refl _, ?_⟩
      · rw [eS, hcl, e1, List.flatMap_append, List.flatMap_singleton]
        unfold blk
        simp only [List.append_assoc]; rfl
      · rw [eW, hgr, decide_eq_false hg, if_neg Bool.false_ne_true, e2, List.map_append]; rfl
      · rcases List.mem_append.mp hq with hq | hq
        · exact e3 q hq
        · rw [List.mem_singleton.mp hq]; exact ⟨e4, by show 1 ≤ (ds.getD i 0 - ds.getD (i + 1) 0 + 1).toNat; omega⟩
      · rw [List.map_append, List.sum_append]
        show _ + (c + 0) + 1 = _
        omega
theorem forest_blocks {ds : List Int} (h : OkS ds) (h0 : 0 < ds.length) : ∃ qs : List (Nat × Nat), qs ≠ [] ∧ sgF ds = qs.flatMap blk ∧ wyF ds = (qs.map (·.1)).map (fun n : Nat => (n : Int)) ∧ (∀ q ∈ qs, 1 ≤ q.1 ∧ 1 ≤ q.2) ∧ (qs.map (·.1)).sum = ds.length := by
  obtain ⟨ps, c, e1, e2, e3, e4, e5⟩ := ways_blocks h (ds.length - 1) (by omega)
  have hb := h.bd (ds.length - 1) (by omega)
  rw [show ds.length - 1 + 1 = ds.length by omega] at e1 e2 e5
  refine ⟨ps ++ [(c, (ds.getD (ds.length - 1) 0 + 1).toNat)], by simp, ?_, ?_, fun q hq => ?_, ?_⟩
  · unfold sgF
    rw [e1, List.flatMap_append, List.flatMap_singleton]
    unfold blk
    simp only [List.append_assoc]
  · unfold wyF
    rw [e2, List.map_append, List.map_append, List.map_map]; rfl
  · rcases List.mem_append.mp hq with hq | hq
    · exact e3 q hq
    · rw [List.mem_singleton.mp hq]; exact ⟨e4, by show 1 ≤ (ds.getD (ds.length - 1) 0 + 1).toNat; omega⟩
  · rw [List.map_append, List.sum_append]
    show _ + (c + 0) = _
    omega
noncomputable def step1 (h : Int) (b : Bool) : Int := if b then h + 1 else h - 1
noncomputable def good : Int → List Bool → Prop
  | _, [] => True
  | h, b :: l => 0 ≤ step1 h b ∧ good (step1 h b) l
noncomputable def netF : Int → List Bool → Int
  | h, [] => h
  | h, b :: l => netF (step1 h b) l
theorem good_append : ∀ (l l' : List Bool) (h : Int), good h l → good (netF h l) l' → good h (l ++ l')
  | [], _, _, _, g => g
  | b :: l, l', h, g1, g2 => ⟨g1.1, good_append l l' (step1 h b) g1.2 g2⟩
theorem netF_append : ∀ (l l' : List Bool) (h : Int), netF h (l ++ l') = netF (netF h l) l'
  | [], _, _ => rfl
  | b :: l, l', h => netF_append l l' (step1 h b)
theorem good_close : ∀ (k : Nat) (h : Int), (k : Int) ≤ h → good h (List.replicate k false) ∧ netF h (List.replicate k false) = h - k
  | 0, h, _ => ⟨trivial, by show h = h - (0 : Nat); omega⟩
  | k + 1, h, hk => by
    have := good_close k (h - 1) (by omega)
    rw [List.replicate_succ]
    exact ⟨⟨by show 0 ≤ h - 1; omega, this.1⟩, by show netF (h - 1) (List.replicate k false) = _; rw [this.2]; omega⟩
theorem chk_good : ∀ (l : List Bool) (o : Int), 0 ≤ o → good o l → chk o l = decide (netF o l = 0)
  | [], _, _, _ => rfl
  | true :: l, o, h, g => chk_good l (o + 1) (by omega) g.2
  | false :: l, o, h, g => by
    have h1 : 0 ≤ o - 1 := g.1
    show (if o - 1 < 0 then false else chk (o - 1) l) = _
    rw [if_neg (by omega)]
    exact chk_good l (o - 1) h1 g.2
theorem good_sgU {ds : List Int} (h : OkS ds) : ∀ i, i < ds.length → good 0 (sgU ds (i + 1)) ∧ netF 0 (sgU ds (i + 1)) = ds.getD i 0 + 1
  | 0, _ => ⟨⟨by decide, trivial⟩, by rw [h.zero]; rfl⟩
  | i + 1, hi => by
    have ih := good_sgU h i (by omega)
    have hs := h.step i hi
    have hcl : cl ds (i + 1) = List.replicate (ds.getD i 0 - ds.getD (i + 1) 0 + 1).toNat false := by unfold cl; rw [if_neg (by omega), Nat.add_sub_cancel]
    have gc := good_close (ds.getD i 0 - ds.getD (i + 1) 0 + 1).toNat (ds.getD i 0 + 1) (by omega)
    rw [← hcl] at gc
    have eS : sgU ds (i + 1 + 1) = (sgU ds (i + 1) ++ cl ds (i + 1)) ++ [true] := rfl
    have n1 : netF 0 (sgU ds (i + 1) ++ cl ds (i + 1)) = ds.getD (i + 1) 0 := by rw [netF_append, ih.2, gc.2]; omega
    rw [eS]
    refine ⟨good_append _ _ _ (good_append _ _ _ ih.1 (by rw [ih.2]; exact gc.1)) (by rw [n1]; exact ⟨by show 0 ≤ _ + 1; omega, trivial⟩), ?_⟩
    rw [netF_append, n1]; rfl
theorem good_sgF {ds : List Int} (h : OkS ds) (h0 : 0 < ds.length) : good 0 (sgF ds) := by
  have ih := good_sgU h (ds.length - 1) (by omega)
  rw [show ds.length - 1 + 1 = ds.length by omega] at ih
  have hb := h.bd (ds.length - 1) (by omega)
  unfold sgF
  exact good_append _ _ _ ih.1 (by rw [ih.2]; exact (good_close _ _ (by omega)).1)
theorem cpsOf_append (p q : List Pc) : cpsOf (p ++ q) = cpsOf p ++ cpsOf q := List.flatMap_append
theorem cps_app (x y : Str) : (x ++ y).cps.toList = x.cps.toList ++ y.cps.toList := Array.toList_append
theorem unitU_pcs (q : Bool × Int) (h : 0 ≤ q.2 ∧ q.2 < 6) : ∃ ps, (unitU q).cps.toList = cpsOf ps ∧ ps.flatMap Pc.sign = [q.1] := by
  obtain ⟨b, f⟩ := q
  obtain ⟨n, rfl⟩ := Int.eq_ofNat_of_zero_le h.1
  have h : n < 6 := Int.ofNat_lt.mp h.2
  rcases n with _ | _ | _ | _ | _ | _ | n
  · exact ⟨[.sg b], by cases b <;> rfl, rfl⟩
  · exact ⟨[.sg b], by cases b <;> rfl, rfl⟩
  · exact ⟨[.sg b], by cases b <;> rfl, rfl⟩
  · exact ⟨[.b2, .sg b], by cases b <;> rfl, rfl⟩
  · exact ⟨[.qu (!b), .sg b], by cases b <;> rfl, rfl⟩
  · exact ⟨[.es (!b), .sg b], by cases b <;> rfl, rfl⟩
  · exact absurd h (Nat.not_lt.mpr (Nat.le_add_left 6 n))
theorem beg_of : ∀ (qs : List (Bool × Int)) (t : Str) (ps : List Pc), (∀ q ∈ qs, 0 ≤ q.2 ∧ q.2 < 6) → t.cps.toList = cpsOf ps → good 0 (ps.flatMap Pc.sign) → good (netF 0 (ps.flatMap Pc.sign)) (qs.map (·.1)) → begOK t (netF 0 (ps.flatMap Pc.sign)) qs
  | [], _, _, _, _, _, _ => trivial
  | (b, f) :: qs, t, ps, hf, ht, g1, g2 => by
    obtain ⟨us, u1, u2⟩ := unitU_pcs (b, f) (hf _ (.head _))
    have ht' : (t ++ unitU (b, f)).cps.toList = cpsOf (ps ++ us) := by rw [cps_app, cpsOf_append, ht, u1]
    have hs' : (ps ++ us).flatMap Pc.sign = ps.flatMap Pc.sign ++ [b] := by rw [List.flatMap_append, u2]
    have g1' : good 0 ((ps ++ us).flatMap Pc.sign) := by rw [hs']; exact good_append _ _ _ g1 ⟨g2.1, trivial⟩
    have n' : netF 0 ((ps ++ us).flatMap Pc.sign) = step1 (netF 0 (ps.flatMap Pc.sign)) b := by rw [hs', netF_append]; rfl
    have ih := beg_of qs (t ++ unitU (b, f)) (ps ++ us) (fun q hq => hf q (.tail _ hq)) ht' g1' (by rw [n']; exact g2.2)
    rw [n'] at ih
    cases b with
    | true => exact ih
    | false =>
      refine ⟨?_, ih⟩
      rw [checkF_text ht', chk_good _ _ (Int.le_refl 0) g1', n']
      show decide (netF 0 (ps.flatMap Pc.sign) - 1 = 0) = (netF 0 (ps.flatMap Pc.sign) - 1 == 0)
      rw [Bool.eq_iff_iff, decide_eq_true_iff, beq_iff_eq]
theorem bf_fst (ds num : List Int) : (bfU ds num).map (·.1) = sgF ds := by
  unfold bfU
  rw [List.map_map]
  refine List.ext_getElem (by rw [List.length_map, List.length_range]) fun i h1 h2 => ?_
  rw [List.getElem_map, List.getElem_range]
  show (sgF ds).getD i false = _
  rw [List.getD_eq_getElem?_getD, List.getElem?_eq_getElem h2]; rfl
/-- the whole text in pieces -/
theorem join_pcs : ∀ (qs : List (Bool × Int)), (∀ q ∈ qs, 0 ≤ q.2 ∧ q.2 < 6) → ∃ ps, (joinU qs).cps.toList = cpsOf ps ∧ ps.flatMap Pc.sign = qs.map (·.1)
  | [], _ => ⟨[], by unfold joinU; rw [join_cps']; rfl, rfl⟩
  | q :: qs, hf => by
    obtain ⟨ps, h1, h2⟩ := join_pcs qs fun z hz => hf z (.tail _ hz)
    obtain ⟨us, u1, u2⟩ := unitU_pcs q (hf _ (.head _))
    refine ⟨us ++ ps, ?_, ?_⟩
    · unfold joinU at h1 ⊢
      rw [join_cps'] at h1 ⊢
      rw [List.map_cons, List.flatMap_cons, h1, u1, cpsOf_append]
    · rw [List.flatMap_append, u2, h2]; rfl
theorem noq_len : ∀ ps : List Pc, (cpsOf (noq ps)).length ≤ (cpsOf ps).length
  | [] => Nat.le_refl _
  | p :: ps => by
    have ih := noq_len ps
    rw [cpsOf_cons, List.length_append]
    unfold noq at ih ⊢
    rw [List.filter_cons]
    split
    · rw [cpsOf_cons, List.length_append]; omega
    · omega
noncomputable def tw (b : Bool) : Nat := if b then 32 else 9
theorem ln_its : ∀ (ps : List Pc) (l : Str), (lnGo (itsOf ps) l).cps.toList = l.cps.toList ++ (ps.flatMap Pc.sign).map tw
  | [], l => by show l.cps.toList = _ ++ []; rw [List.append_nil]
  | p :: ps, l => by
    have ih := ln_its ps
    have two : ∀ c, lnGo (⟨#[92, c]⟩ :: itsOf ps) l = lnGo (itsOf ps) l := fun c => by
      show lnGo (itsOf ps) (lnStep l ⟨#[92, c]⟩) = _
      unfold lnStep
      rw [if_neg (fun h => by injection h with h; injection h with h; cases h), if_neg (fun h => by injection h with h; injection h with h; cases h)]
    rw [itsOf_cons, List.flatMap_cons]
    cases p with
    | sg b =>
      cases b with
      | true =>
        show (lnGo (itsOf ps) (l ++ ⟨#[32]⟩)).cps.toList = _
        rw [ih, cps_app]
        show (l.cps.toList ++ [32]) ++ _ = l.cps.toList ++ (32 :: _)
        rw [List.append_assoc]; rfl
      | false =>
        show (lnGo (itsOf ps) (l ++ ⟨#[9]⟩)).cps.toList = _
        rw [ih, cps_app]
        show (l.cps.toList ++ [9]) ++ _ = l.cps.toList ++ (9 :: _)
        rw [List.append_assoc]; rfl
    | b2 => show (lnGo (⟨#[92, 92]⟩ :: itsOf ps) l).cps.toList = _; rw [two, ih]; rfl
    | qu b => exact ih l
    | es b => show (lnGo (⟨#[92, br b]⟩ :: itsOf ps) l).cps.toList = _; rw [two, ih]; rfl
/-- the runs of the typed line -/
noncomputable def rsOf (qs : List (Nat × Nat)) : List Nat := qs.flatMap fun q => q.1 :: List.replicate (q.2 - 1) 0
theorem zeros_cps : ∀ k : Nat, runsCps (List.replicate k 0) = List.replicate k 9
  | 0 => rfl
  | k + 1 => by
    have := zeros_cps k
    unfold runsCps at this ⊢
    rw [List.replicate_succ, List.flatMap_cons, this]; rfl
theorem blk_cps {q : Nat × Nat} (h : 1 ≤ q.2) : (blk q).map tw = runsCps (q.1 :: List.replicate (q.2 - 1) 0) := by
  have e : runsCps (q.1 :: List.replicate (q.2 - 1) 0) = runCps q.1 ++ runsCps (List.replicate (q.2 - 1) 0) := by unfold runsCps; rw [List.flatMap_cons]
  rw [e, zeros_cps]
  unfold blk runCps
  rw [List.map_append, List.map_replicate, List.map_replicate, List.append_assoc]
  show List.replicate q.1 32 ++ List.replicate q.2 9 = _
  congr 1
  conv => lhs; rw [show q.2 = q.2 - 1 + 1 by omega, List.replicate_succ]
  rfl
theorem blocks_cps : ∀ qs : List (Nat × Nat), (∀ q ∈ qs, 1 ≤ q.1 ∧ 1 ≤ q.2) → (qs.flatMap blk).map tw = runsCps (rsOf qs)
  | [], _ => rfl
  | q :: qs, h => by
    have ih := blocks_cps qs fun z hz => h z (.tail _ hz)
    rw [List.flatMap_cons, List.map_append, ih, blk_cps (h q (.head _)).2]
    unfold rsOf
    rw [List.flatMap_cons]
    unfold runsCps
    rw [List.flatMap_append]
end Mine
end
section
open PySem PySem.W PySem.W.X PyProof.Rows Builtin.Str
set_option Elab.async false
namespace Mine
theorem sum_zeros (f : Nat → Nat) (hf : f 0 = 0) : ∀ k : Nat, ((List.replicate k 0).map f).sum = 0
  | 0 => rfl
  | k + 1 => by rw [List.replicate_succ, List.map_cons, List.sum_cons, hf, sum_zeros f hf k]
theorem rs_sum (f : Nat → Nat) (hf : f 0 = 0) : ∀ qs : List (Nat × Nat), ((rsOf qs).map f).sum = ((qs.map (·.1)).map f).sum
  | [] => rfl
  | q :: qs => by
    have ih := rs_sum f hf qs
    unfold rsOf at ih ⊢
    rw [List.flatMap_cons, List.map_append, List.sum_append, ih, List.map_cons, List.sum_cons, sum_zeros f hf, List.map_cons, List.map_cons, List.sum_cons]; omega
theorem rs_len : ∀ qs : List (Nat × Nat), (∀ q ∈ qs, 1 ≤ q.1 ∧ 1 ≤ q.2) → (rsOf qs).length = (qs.map (·.2)).sum
  | [], _ => rfl
  | q :: qs, h => by
    have ih := rs_len qs fun z hz => h z (.tail _ hz)
    have hq := (h q (.head _)).2
    unfold rsOf at ih ⊢
    rw [List.flatMap_cons, List.length_append, ih, List.length_cons, List.length_replicate, List.map_cons, List.sum_cons]; omega
theorem rs_mem {qs : List (Nat × Nat)} {r : Nat} (h : r ∈ rsOf qs) : r = 0 ∨ r ∈ qs.map (·.1) := by
  unfold rsOf at h
  obtain ⟨q, hq, hr⟩ := List.mem_flatMap.mp h
  rcases List.mem_cons.mp hr with rfl | hr
  · exact .inr (List.mem_map.mpr ⟨q, hq, rfl⟩)
  · exact .inl (List.eq_of_mem_replicate hr)
theorem rs_has {qs : List (Nat × Nat)} {r : Nat} (h : r ∈ qs.map (·.1)) : r ∈ rsOf qs := by
  obtain ⟨q, hq, rfl⟩ := List.mem_map.mp h
  exact List.mem_flatMap.mpr ⟨q, hq, .head _⟩
theorem rs_count {i : Nat} (hi : i ≠ 0) : ∀ qs : List (Nat × Nat), (rsOf qs).count i = (qs.map (·.1)).count i
  | [] => rfl
  | q :: qs => by
    have ih := rs_count hi qs
    unfold rsOf at ih ⊢
    rw [List.flatMap_cons, List.count_append, ih, List.count_cons, List.map_cons, List.count_cons, List.count_replicate, if_neg (by simpa using Ne.symm hi)]; omega
theorem rs_zero : ∀ qs : List (Nat × Nat), (∀ q ∈ qs, 1 ≤ q.1 ∧ 1 ≤ q.2) → (rsOf qs).count 0 + qs.length = (rsOf qs).length
  | [], _ => rfl
  | q :: qs, h => by
    have ih := rs_zero qs fun z hz => h z (.tail _ hz)
    have hq := h q (.head _)
    unfold rsOf at ih ⊢
    rw [List.flatMap_cons, List.count_append, List.length_append, List.count_cons, List.length_cons, List.length_cons, List.length_replicate, List.count_replicate, if_pos (beq_self_eq_true 0), if_neg (by simp; omega)]; omega
theorem blk_len : ∀ qs : List (Nat × Nat), (qs.flatMap blk).length = (qs.map (·.1)).sum + (qs.map (·.2)).sum
  | [] => rfl
  | q :: qs => by
    rw [List.flatMap_cons, List.length_append, blk_len qs, List.map_cons, List.map_cons, List.sum_cons, List.sum_cons]
    unfold blk
    rw [List.length_append, List.length_replicate, List.length_replicate]; omega
/-- a forest in plain terms -/
structure Frst (g : Fig3) (k : Nat) (qs : List (Nat × Nat)) : Prop where
  ne : qs ≠ []
  one : ∀ q ∈ qs, 1 ≤ q.1 ∧ 1 ≤ q.2
  wy : g.wy k = (qs.map (·.1)).map fun n : Nat => (n : Int)
  ws : g.ws k = wsR (rsOf qs) 0
  len : (((rsOf qs).length : Nat) : Int) = g.cnt k
  sum : (((rsOf qs).sum : Nat) : Int) = g.cnt k
theorem cnt_bd (g : Fig3) (k : Nat) : 5 ≤ g.cnt k ∧ g.cnt k ≤ 7 := by
  have h1 := fmod_bd (a := g.num.sum) (b := 3) (by decide)
  have h2 := fmod_bd (a := g.num.sum.fdiv 3) (b := 3) (by decide)
  unfold Fig3.cnt
  split <;> omega
theorem line_cps (g : Fig3) (k : Nat) : (g.line k).cps.toList = (sgF (g.dep k)).map tw ++ [120] := by
  obtain ⟨ps, h1, h2⟩ := join_pcs (g.bf k) (bf_form g k)
  unfold Fig3.line lineF
  rw [cps_app, items_of_text h1, ln_its, h2]
  have e : (g.bf k).map (·.1) = sgF (g.dep k) := bf_fst _ _
  rw [e]; rfl
theorem frst (g : Fig3) (k : Nat) : ∃ qs, Frst g k qs := by
  have hc := cnt_bd g k
  have hd := dep_ok g.num (8 * (k : Int)) (g.cnt k) (by omega)
  have h0 : 0 < (g.dep k).length := by unfold Fig3.dep; rw [hd.2]; omega
  obtain ⟨qs, e1, e2, e3, e4, e5⟩ := forest_blocks (ds := g.dep k) hd.1 h0
  have hl := sgF_len (ds := g.dep k) hd.1 h0
  have hdl : ((g.dep k).length : Int) = g.cnt k := by unfold Fig3.dep; rw [hd.2]; omega
  rw [e2, blk_len] at hl
  refine ⟨qs, e1, e4, e3, ?_, ?_, ?_⟩
  · unfold Fig3.ws wsOf
    rw [line_cps, e2, blocks_cps qs e4]
    have := wsGo_text (rs := rsOf qs) (t := 0) (cs := [120]) (fun c hc => by
      have : c = 120 := by simpa using hc.symm
      subst this; decide)
    exact this
  · rw [rs_len qs e4]; omega
  · have := rs_sum id rfl qs
    rw [List.map_id, List.map_id] at this
    rw [this]; omega
section
variable {g : Fig3} {k : Nat} {qs : List (Nat × Nat)}
theorem Frst.ways (F : Frst g k qs) : g.wy k ≠ [] ∧ ∀ x ∈ g.wy k, 1 ≤ x ∧ x ≤ 7 := by
  have hc := cnt_bd g k
  refine ⟨?_, fun x hx => ?_⟩
  · rw [F.wy]
    intro h
    exact F.ne (List.map_eq_nil_iff.mp (List.map_eq_nil_iff.mp h))
  · rw [F.wy] at hx
    obtain ⟨n, hn, rfl⟩ := List.mem_map.mp hx
    obtain ⟨q, hq, rfl⟩ := List.mem_map.mp hn
    have h1 := (F.one q hq).1
    have h2 : q.1 ≤ (rsOf qs).sum := by
      have hm := rs_has hn
      have : ∀ l : List Nat, ∀ x ∈ l, x ≤ l.sum := by
        intro l
        induction l with
        | nil => intro x hx; cases hx
        | cons y l ih =>
          intro x hx
          rw [List.sum_cons]
          rcases List.mem_cons.mp hx with rfl | hx
          · omega
          · have := ih x hx; omega
      exact this _ _ hm
    have h3 := F.sum
    omega
theorem Frst.top (F : Frst g k qs) : ((mx (rsOf qs) 0 : Nat) : Int) = maxI (g.wy k) + 1 := by
  have hw := F.ways
  have hm := maxI_mem hw.1
  have h1 := hw.2 _ hm
  have hmem : ∀ x ∈ g.wy k, x ∈ (qs.map (·.1)).map (fun n : Nat => (n : Int)) := fun x hx => by rw [F.wy] at hx; exact hx
  obtain ⟨n, hn, hne⟩ := List.mem_map.mp (hmem _ hm)
  have h2 := (mx_ge (rsOf qs) 0).2 n (rs_has hn)
  have h3 := mx_le (rsOf qs) 0 (n + 1) (Nat.zero_le _) fun r hr => by
    rcases rs_mem hr with rfl | hr
    · omega
    · have : ((r : Nat) : Int) ≤ maxI (g.wy k) := maxI_le _ (by rw [F.wy]; exact List.mem_map.mpr ⟨r, hr, rfl⟩)
      omega
  omega
theorem cnt_cast (l : List Nat) (n : Nat) : (l.map fun k : Nat => (k : Int)).count (n : Int) = l.count n := by
  induction l with
  | nil => rfl
  | cons k l ih =>
    rw [List.map_cons, List.count_cons, List.count_cons, ih]
    by_cases h : k = n
    · subst h; simp
    · rw [if_neg (by rw [beq_iff_eq]; omega), if_neg (by rw [beq_iff_eq]; omega)]
theorem list_ext {l l' : List Int} (h : l.length = l'.length) (e : ∀ i, i < l.length → l.getD i 0 = l'.getD i 0) : l = l' := by
  refine List.ext_getElem h fun i h1 h2 => ?_
  have := e i h1
  rwa [List.getD_eq_getElem?_getD, List.getD_eq_getElem?_getD, List.getElem?_eq_getElem h1, List.getElem?_eq_getElem h2] at this
theorem Frst.norm (F : Frst g k qs) : (g.ws k).cnt = g.rows k ∧ (g.ws k).b = 0 := by
  have hmx := F.top
  have hw := F.ways
  have hM := hw.2 _ (maxI_mem hw.1)
  rw [F.ws]
  refine ⟨?_, rfl⟩
  show (rsOf qs).foldl bump [] = _
  have hl : ((rsOf qs).foldl bump []).length = mx (rsOf qs) 0 := cnt_length _ _
  have hr : (g.rows k).length = mx (rsOf qs) 0 := by
    unfold Fig3.rows rangeL
    rw [List.length_cons, List.length_map, List.length_map, List.length_range]; omega
  refine list_ext (by rw [hl, hr]) fun i hi => ?_
  rw [cnt_getD]
  have z := rs_zero qs F.one
  have ln := F.len
  have e0 : (([] : List Int).getD i 0) = 0 := rfl
  rw [e0, Int.zero_add]
  cases i with
  | zero =>
    show _ = g.cnt k - ((g.wy k).length : Nat)
    rw [F.wy, List.length_map, List.length_map]; omega
  | succ i =>
    have hi' : i < (maxI (g.wy k)).toNat := by rw [hl] at hi; omega
    show _ = ((rangeL 1 1 (maxI (g.wy k)).toNat).map fun s => (((g.wy k).count s : Nat) : Int)).getD i 0
    unfold rangeL
    rw [List.getD_eq_getElem?_getD, List.getElem?_map, List.getElem?_map, List.getElem?_range hi']
    show _ = (((g.wy k).count (1 + (i : Int) * 1) : Nat) : Int)
    rw [show (1 + (i : Int) * 1) = ((i + 1 : Nat) : Int) by omega, F.wy, cnt_cast, rs_count (by omega)]
theorem Frst.n (F : Frst g k qs) : ((g.ws k).n : Int) = 2 * g.cnt k := by
  rw [F.ws]
  show ((((rsOf qs).map (· + 1)).sum + 0 : Nat) : Int) = _
  rw [sum_succ]
  have h1 := F.len
  have h2 := F.sum
  omega
theorem Frst.nt (F : Frst g k qs) : ((g.ws k).nt : Int) = g.cnt k := by rw [F.ws]; exact F.len
theorem Frst.pos (F : Frst g k qs) : 0 ≤ maxI (g.wy k) := Int.le_trans (by decide) (F.ways.2 _ (maxI_mem F.ways.1)).1
theorem Frst.mxN (F : Frst g k qs) : mx (rsOf qs) 0 - 1 = (maxI (g.wy k)).toNat := by
  rw [← Int.add_sub_cancel (maxI (g.wy k)) 1, ← F.top, Int.pred_toNat, Int.toNat_natCast]
theorem Frst.long (F : Frst g k qs) : longF (g.ws k) = maxI (g.wy k) := by
  rw [F.ws, longF_wsR, F.top, Int.add_sub_cancel]
  exact Int.max_eq_left F.pos
theorem Frst.col (F : Frst g k qs) (ts : Nat) : indF (g.ws k) (ts : Int) = g.colv k (ts : Int) ∧ g.colv k (ts : Int) = ((colN (rsOf qs) 0 ts : Nat) : Int) := by
  have e : g.colv k (ts : Int) = ((colN (rsOf qs) 0 ts : Nat) : Int) := by
    have hS : ((g.wy k).map fun w => w.fdiv (ts : Int)).sum = ((S (rsOf qs) ts : Nat) : Int) := by
      have h1 : S (rsOf qs) ts = ((qs.map (·.1)).map (· / ts)).sum := rs_sum (· / ts) (Nat.zero_div ts) qs
      rw [h1, F.wy]
      generalize qs.map (·.1) = l
      induction l with
      | nil => rfl
      | cons x l ih =>
        rw [List.map_cons, List.map_cons, List.sum_cons, ih, List.map_cons, List.sum_cons, Int.natCast_add, Int.natCast_ediv]
        congr 1
        rw [Int.fdiv_eq_ediv_of_nonneg _ (by omega)]
    unfold Fig3.colv colN
    rw [hS, ← F.len, Int.natCast_add, Int.natCast_mul, Int.natCast_add]
    rw [Int.add_comm (((rsOf qs).length : Nat) : Int)]
    omega
  refine ⟨?_, e⟩
  rw [F.ws, indF_col, e]
end
section
variable {g : Fig3} {a b : Nat} {qa qb : List (Nat × Nat)}
theorem maxI_app {l l' : List Int} (h : l ≠ []) (h' : l' ≠ []) : maxI (l ++ l') = max (maxI l) (maxI l') := by
  have hne : l ++ l' ≠ [] := fun e => h (List.append_eq_nil_iff.mp e).1
  have h1 := maxI_mem hne
  have h2 := maxI_le (l := l ++ l') _ (List.mem_append_left l' (maxI_mem h))
  have h3 := maxI_le (l := l ++ l') _ (List.mem_append_right l (maxI_mem h'))
  rcases List.mem_append.mp h1 with q | q
  · have := maxI_le _ q; omega
  · have := maxI_le _ q; omega
theorem szs_eq (Fa : Frst g a qa) (Fb : Frst g b qb) (ha : a < 2) (hb : b < 2) (hab : a ≠ b) : sizes1 (g.ws a) (g.ws b) = g.szs ∧ ((topN (rsOf qa) 0 (rsOf qb) 0 : Nat) : Int) = g.mx + 1 := by
  have hmx : g.mx = max (maxI (g.wy a)) (maxI (g.wy b)) := by
    unfold Fig3.mx
    have : ∀ a, a < 2 → ∀ b, b < 2 → a ≠ b → (a = 0 ∧ b = 1) ∨ (a = 1 ∧ b = 0) := by decide
    rcases this a ha b hb hab with ⟨rfl, rfl⟩ | ⟨rfl, rfl⟩
    · exact maxI_app Fa.ways.1 Fb.ways.1
    · rw [maxI_app Fb.ways.1 Fa.ways.1]; exact Int.max_comm _ _
  constructor
  · unfold sizes1 Fig3.szs
    rw [Fa.long, Fb.long, hmx]
  · unfold topN
    rw [Nat.max_zero, Nat.max_zero, Fa.mxN, Fb.mxN, hmx, Int.natCast_succ, ← max_cast, Int.toNat_of_nonneg Fa.pos, Int.toNat_of_nonneg Fb.pos]
theorem mem_szs' {s : Int} (h : s ∈ g.szs) : ∃ ts : Nat, s = ts ∧ 1 ≤ ts ∧ (ts : Int) ≤ g.mx + 1 := by
  have := mem_szs h
  exact ⟨s.toNat, by omega, by omega, by omega⟩
theorem plain_ge (Fa : Frst g a qa) (Fb : Frst g b qb) (ha : a < 2) (hb : b < 2) (hab : a ≠ b) : (geF (g.ws a) (g.ws b)).map (tripA (g.ws a) (g.ws b)) = (g.gel a b).map (g.trip a b) := by
  unfold geF Fig3.gel
  rw [(szs_eq Fa Fb ha hb hab).1]
  have e : g.szs.filter (fun ts => decide (indF (g.ws a) ts ≥ indF (g.ws b) ts)) = g.szs.filter fun s => decide (g.colv a s ≥ g.colv b s) := List.filter_congr fun s hs => by
    obtain ⟨ts, rfl, _⟩ := mem_szs' hs
    rw [(Fa.col ts).1, (Fb.col ts).1]
  rw [e]
  refine List.map_congr_left fun s hs => ?_
  obtain ⟨ts, rfl, _⟩ := mem_szs' (List.mem_filter.mp hs).1
  unfold tripA Fig3.trip
  rw [(Fa.col ts).1, (Fb.col ts).1]
theorem plain_ne (Fa : Frst g a qa) (Fb : Frst g b qb) (ha : a < 2) (hb : b < 2) (hab : a ≠ b) : (neF (g.ws a) (g.ws b)).map (tripA (g.ws a) (g.ws b)) = (g.nel a b).map (g.trip a b) := by
  unfold neF Fig3.nel
  rw [(szs_eq Fa Fb ha hb hab).1]
  have e : g.szs.filter (fun ts => indF (g.ws a) ts != indF (g.ws b) ts) = g.szs.filter fun s => g.colv a s != g.colv b s := List.filter_congr fun s hs => by
    obtain ⟨ts, rfl, _⟩ := mem_szs' hs
    rw [(Fa.col ts).1, (Fb.col ts).1]
  rw [e]
  refine List.map_congr_left fun s hs => ?_
  obtain ⟨ts, rfl, _⟩ := mem_szs' (List.mem_filter.mp hs).1
  unfold tripA Fig3.trip
  rw [(Fa.col ts).1, (Fb.col ts).1]
theorem plain_less (Fa : Frst g a qa) (Fb : Frst g b qb) (ha : a < 2) (hb : b < 2) (hab : a ≠ b) : lessF (g.ws a) (g.ws b) = decide (g.gel a b = []) := by
  have ht := (szs_eq Fa Fb ha hb hab).2
  rw [Fa.ws, Fb.ws, Bool.eq_iff_iff, lessF_wsR, decide_eq_true_iff]
  unfold Fig3.gel
  rw [List.filter_eq_nil_iff]
  constructor
  · intro h s hs
    obtain ⟨ts, rfl, h1, h2⟩ := mem_szs' hs
    have := h ts h1 (by omega)
    rw [decide_eq_true_iff, (Fa.col ts).2, (Fb.col ts).2]
    omega
  · intro h ts h1 h2
    have hm : (ts : Int) ∈ g.szs := by
      unfold Fig3.szs
      rw [mem_rangeL]; omega
    have := h _ hm
    rw [decide_eq_true_iff, (Fa.col ts).2, (Fb.col ts).2] at this
    omega
theorem sort_iff (l l' : List Int) : l.mergeSort = l'.mergeSort ↔ l.Perm l' := by
  have tr : ∀ a b c : Int, decide (a ≤ b) = true → decide (b ≤ c) = true → decide (a ≤ c) = true := fun a b c h1 h2 => by
    rw [decide_eq_true_iff] at *; omega
  have tot : ∀ a b : Int, (decide (a ≤ b) || decide (b ≤ a)) = true := fun a b => by
    rw [Bool.or_eq_true, decide_eq_true_iff, decide_eq_true_iff]; omega
  constructor
  · intro h
    exact ((List.mergeSort_perm l _).symm.trans (by rw [h])).trans (List.mergeSort_perm l' _)
  · intro h
    refine sorted_uniq ((List.mergeSort_perm l _).trans h) ?_
    exact (List.pairwise_mergeSort tr tot l).imp fun h => of_decide_eq_true h
theorem plain_eq (Fa : Frst g a qa) (Fb : Frst g b qb) : decide ((g.ws a).cnt = (g.ws b).cnt ∧ (g.ws a).b = (g.ws b).b) = decide ((g.wy a).mergeSort = (g.wy b).mergeSort) := by
  rw [decide_eq_decide, Fa.ws, Fb.ws, sort_iff, Fa.wy, Fb.wy]
  have hz : ∀ (qs : List (Nat × Nat)), (∀ q ∈ qs, 1 ≤ q.1 ∧ 1 ≤ q.2) → (qs.map (·.1)).count 0 = 0 := fun qs h => List.count_eq_zero.mpr fun hm => by
    obtain ⟨q, hq, e⟩ := List.mem_map.mp hm
    have := (h q hq).1
    omega
  have hcnt : ((wsR (rsOf qa) 0).cnt = (wsR (rsOf qb) 0).cnt ∧ (wsR (rsOf qa) 0).b = (wsR (rsOf qb) 0).b) ↔ ∀ i, (rsOf qa).count i = (rsOf qb).count i :=
    ⟨fun h => (cnt_eq_iff (rsOf qa) (rsOf qb)).mp h.1, fun h => ⟨cnt_ext h, rfl⟩⟩
  rw [hcnt]
  constructor
  · intro h
    refine List.Perm.map _ (List.perm_iff_count.mpr fun i => ?_)
    by_cases hi : i = 0
    · rw [hi, hz qa Fa.one, hz qb Fb.one]
    · rw [← rs_count hi, ← rs_count hi, h]
  · intro h
    have hc : ∀ i : Nat, (qa.map (·.1)).count i = (qb.map (·.1)).count i := fun i => by
      have := List.perm_iff_count.mp h (i : Int)
      rwa [cnt_cast, cnt_cast] at this
    have hp : (qa.map (·.1)).Perm (qb.map (·.1)) := List.perm_iff_count.mpr hc
    intro i
    by_cases hi : i = 0
    · have z1 := rs_zero qa Fa.one
      have z2 := rs_zero qb Fb.one
      have l1 := Fa.len
      have l2 := Fb.len
      have s1 := Fa.sum
      have s2 := Fb.sum
      have t1 := rs_sum id rfl qa
      have t2 := rs_sum id rfl qb
      rw [List.map_id, List.map_id] at t1 t2
      have hs : (qa.map (·.1)).sum = (qb.map (·.1)).sum := hp.sum_nat
      have hl := hp.length_eq
      rw [List.length_map, List.length_map] at hl
      rw [hi]
      omega
    · rw [rs_count hi, rs_count hi, hc]
end
theorem plain_of (ns : List Int) : Plain3 (figOf3 ns) := by
  generalize hg : figOf3 ns = g
  have hn : g.num.length = 16 := by rw [← hg]; exact numsF_length ns 16
  have hok : ∀ k, OkS (g.dep k) ∧ (g.dep k).length = (g.cnt k).toNat := fun k => dep_ok g.num _ _ (by have := cnt_bd g k; omega)
  have hpos : ∀ k, 0 < (g.dep k).length := fun k => by
    have := cnt_bd g k
    rw [(hok k).2]; omega
  refine ⟨hn, fun k _ => cnt_bd g k, fun k _ => hok k, fun k _ => ?_, fun k _ => ?_, fun k _ => ?_, fun k _ => ?_, fun k _ => ?_, fun k _ => ?_, fun k _ => ?_, fun a b ha hb hab => ?_, fun a b ha hb hab => ?_, fun a b ha hb hab => ?_, fun a b _ _ => ?_⟩
  · have e : (g.bf k).map (·.1) = sgF (g.dep k) := bf_fst _ _
    exact beg_of (g.bf k) ⟨#[]⟩ [] (bf_form g k) rfl trivial (by rw [e]; exact good_sgF (hok k).1 (hpos k))
  · obtain ⟨ps, h1, _⟩ := join_pcs (g.bf k) (bf_form g k)
    have h2 := strip_cps h1
    have h3 := noq_len ps
    have h4 := joinU_len (bf_form g k)
    have hc := cnt_bd g k
    have hb : (g.bf k).length ≤ 14 := by
      unfold Fig3.bf bfU
      rw [List.length_map, List.length_range, sgF_len (hok k).1 (hpos k), (hok k).2]; omega
    have e1 : (stripF (joinU (g.bf k))).length = (cpsOf (noq ps)).length := by rw [← h2, Array.length_toList]; rfl
    have e2 : (joinU (g.bf k)).length = (cpsOf ps).length := by rw [← h1, Array.length_toList]; rfl
    omega
  · obtain ⟨qs, F⟩ := frst g k; exact F.ways
  · obtain ⟨qs, F⟩ := frst g k; exact F.n
  · obtain ⟨qs, F⟩ := frst g k; exact F.nt
  · obtain ⟨qs, F⟩ := frst g k; exact F.long
  · obtain ⟨qs, F⟩ := frst g k; exact F.norm
  · obtain ⟨qa, Fa⟩ := frst g a; obtain ⟨qb, Fb⟩ := frst g b; exact plain_ge Fa Fb ha hb hab
  · obtain ⟨qa, Fa⟩ := frst g a; obtain ⟨qb, Fb⟩ := frst g b; exact plain_ne Fa Fb ha hb hab
  · obtain ⟨qa, Fa⟩ := frst g a; obtain ⟨qb, Fb⟩ := frst g b; exact plain_less Fa Fb ha hb hab
  · obtain ⟨qa, Fa⟩ := frst g a; obtain ⟨qb, Fb⟩ := frst g b; exact plain_eq Fa Fb
end Mine
end
open PySem PySem.W PyProof.Rows PySem.W.X PySem.W.ZRun
set_option Elab.async false
namespace Mine
theorem callerA_ok : OkA 6 callerA := ⟨rfl, by decide, by decide⟩
end Mine
open Mine
set_option maxRecDepth 100000 in
set_option maxHeartbeats 0 in
theorem PySem.Challenge.cw_pe0174_03_holds : PySem.Challenge.rw_pe0174_03.Holds := by
  w_on; o_law; z_head
  (case hw => w_witness2)
  k_fill
  intro w s₀ s₁ mg mb G y fa o pm cd doc dV kV ho hd hcd hD hmg hg args vals as L hpre hlay hrd hwl hlo
  z_open y L KX ZH ZN ZT
  refine Ground.open G ?_
  intro T B D TE TW
  wrow_args hpre hlay hrd hwl hlo
  obtain ⟨hat, hsz⟩ := script_at L
  rw [ZN] at hat hsz
  subst hat
  x_fa T KX hmg
  have hIL := ‹Heap.IsList _ _ _›
  have hII := ‹IntsAre _ _›
  have hobj := script_obj L hIL
  have tp : Tp s₁.heap _ mg mb := ⟨T.g, T.b, T.nolimit, T.builtins, KX⟩
  have hN := ns_K (N := 75) KX (by with_unfolding_all rfl) (by with_unfolding_all rfl)
  have hCls : Cls s₁.heap 76 _ := ⟨⟨_, _, 75, _, _, _, _, _, _, _, _, _, _, _, _, KX 76 _ (by with_unfolding_all rfl), hN⟩, ns_none_of KX hN (by with_unfolding_all rfl), ns_none_of KX hN (by with_unfolding_all rfl), ns_none_of KX hN (by with_unfolding_all rfl)⟩
  have hky : ∀ k ∈ wsKs, _ = none := List.forall_mem_cons.mpr ⟨ns_none_of KX hN (by with_unfolding_all rfl), List.forall_mem_cons.mpr ⟨ns_none_of KX hN (by with_unfolding_all rfl), List.forall_mem_cons.mpr ⟨ns_none_of KX hN (by with_unfolding_all rfl), List.forall_mem_cons.mpr ⟨ns_none_of KX hN (by with_unfolding_all rfl), List.forall_mem_cons.mpr ⟨ns_none_of KX hN (by with_unfolding_all rfl), List.forall_mem_nil _⟩⟩⟩⟩⟩
  have hMk : Mk w s₁.heap mg 76 31 _ := {
    cls := hCls
    makes := fun h k => makes_of (KX.keeps k) (by with_unfolding_all rfl)
    ini := fun h k => looks_findIn (KX.keeps k) (by with_unfolding_all rfl)
    bnd := fun h k self => bind_fn (KX.keeps k) self (by with_unfolding_all rfl)
    fn := fnAt_K KX (by with_unfolding_all rfl) (by with_unfolding_all rfl)
    glob := ns_some KX T.g (by with_unfolding_all rfl)
    S := ⟨_, ca_K (mc := .type "type") KX (by with_unfolding_all rfl) (by with_unfolding_all rfl)⟩
    T := ⟨_, ca_K (mc := .type "type") KX (by with_unfolding_all rfl) (by with_unfolding_all rfl)⟩
    names := hky }
  have hX : Top3 w s₁.heap _ mg mb 76 31 38 45 59 73 52 66 87 94 101 108 115 122 129 136 143 _ := {
    T := tp
    gen := fnAt_K KX (by with_unfolding_all rfl) (by with_unfolding_all rfl)
    strip := fnAt_K KX (by with_unfolding_all rfl) (by with_unfolding_all rfl)
    check := fnAt_K KX (by with_unfolding_all rfl) (by with_unfolding_all rfl)
    num := fnAt_K KX (by with_unfolding_all rfl) (by with_unfolding_all rfl)
    dep := fnAt_K KX (by with_unfolding_all rfl) (by with_unfolding_all rfl)
    uni := fnAt_K KX (by with_unfolding_all rfl) (by with_unfolding_all rfl)
    wayf := fnAt_K KX (by with_unfolding_all rfl) (by with_unfolding_all rfl)
    beg := fnAt_K KX (by with_unfolding_all rfl) (by with_unfolding_all rfl)
    typ := fnAt_K KX (by with_unfolding_all rfl) (by with_unfolding_all rfl)
    gGen := ns_some KX T.g (by with_unfolding_all rfl)
    gStrip := ns_some KX T.g (by with_unfolding_all rfl)
    gCheck := ns_some KX T.g (by with_unfolding_all rfl)
    gNum := ns_some KX T.g (by with_unfolding_all rfl)
    gDep := ns_some KX T.g (by with_unfolding_all rfl)
    gUni := ns_some KX T.g (by with_unfolding_all rfl)
    gWay := ns_some KX T.g (by with_unfolding_all rfl)
    gBeg := ns_some KX T.g (by with_unfolding_all rfl)
    gTyp := ns_some KX T.g (by with_unfolding_all rfl)
    mak := hMk
    krC := kr_K tp (by with_unfolding_all rfl)
    kys := hky
    ms := ⟨⟨fnAt_K KX (by with_unfolding_all rfl) (by with_unfolding_all rfl), ns_some KX hN (by with_unfolding_all rfl), ⟨_, KX 38 _ (by with_unfolding_all rfl), rfl⟩⟩, ⟨fnAt_K KX (by with_unfolding_all rfl) (by with_unfolding_all rfl), ns_some KX hN (by with_unfolding_all rfl), ⟨_, KX 45 _ (by with_unfolding_all rfl), rfl⟩⟩⟩
    ne := ⟨fnAt_K KX (by with_unfolding_all rfl) (by with_unfolding_all rfl), ns_some KX hN (by with_unfolding_all rfl), ⟨_, KX 59 _ (by with_unfolding_all rfl), rfl⟩⟩
    ge := ⟨fnAt_K KX (by with_unfolding_all rfl) (by with_unfolding_all rfl), ns_some KX hN (by with_unfolding_all rfl), ⟨_, KX 73 _ (by with_unfolding_all rfl), rfl⟩⟩
    eq := ⟨fnAt_K KX (by with_unfolding_all rfl) (by with_unfolding_all rfl), ns_some KX hN (by with_unfolding_all rfl), ⟨_, KX 52 _ (by with_unfolding_all rfl), rfl⟩⟩
    less := ⟨fnAt_K KX (by with_unfolding_all rfl) (by with_unfolding_all rfl), ns_some KX hN (by with_unfolding_all rfl), ⟨_, KX 66 _ (by with_unfolding_all rfl), rfl⟩⟩
    bLen := ns_none_of KX T.g (by with_unfolding_all rfl)
    bEnum := ns_none_of KX T.g (by with_unfolding_all rfl)
    bMax := ns_none_of KX T.g (by with_unfolding_all rfl)
    bMin := ns_none_of KX T.g (by with_unfolding_all rfl)
    bRange := ns_none_of KX T.g (by with_unfolding_all rfl)
    bSum := ns_none_of KX T.g (by with_unfolding_all rfl)
    bTuple := ns_none_of KX T.g (by with_unfolding_all rfl)
    bSorted := ns_none_of KX T.g (by with_unfolding_all rfl) }
  refine law_end (d := 6) ?_ callerA_ok hobj rfl hII hg (fun _ => rfl) (by first | with_unfolding_all rfl | wrow_post)
  exact fn_law hX (fnAt_K KX (by with_unfolding_all rfl) (by with_unfolding_all rfl)) (by omega) (plain_of _)
