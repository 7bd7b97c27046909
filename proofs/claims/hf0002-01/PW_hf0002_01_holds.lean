import PyProof.Rows.All
import Wide.All
import OpenK.AllK
import Wide.FinOn
import PySem.Challenge.RW_hf0002_01
set_option Elab.async false

section
open PySem PySem.W PyProof.Rows
namespace Hf
set_option maxRecDepth 100000 in
set_option maxHeartbeats 8000000 in
open_top hfHead for PySem.Challenge.rw_hf0002_01
end Hf
end

section
open PySem PySem.W PyProof.Rows PySem.Calls PySem.Spec
namespace Hf
set_option autoImplicit false
set_option linter.unusedSectionVars false

/-- the names of the program's variables, by number -/
noncomputable def nmT : List Str := [Str.ofString "", Str.ofString "script", Str.ofString "many", Str.ofString "plan", Str.ofString "whole", Str.ofString "news",
  Str.ofString "pairs", Str.ofString "short", Str.ofString "turn", Str.ofString "calls", Str.ofString "pair", Str.ofString "person", Str.ofString "number",
  Str.ofString "one", Str.ofString "other", Str.ofString "table", Str.ofString "before", Str.ofString "k", Str.ofString "here", Str.ofString "first",
  Str.ofString "reached", Str.ofString "back", Str.ofString "word", Str.ofString "left", Str.ofString "right", Str.ofString "both", Str.ofString "rest",
  Str.ofString "whose", Str.ofString "figure", Str.ofString "target", Str.ofString "source", Str.ofString "new_callers", Str.ofString "func",
  Str.ofString "caller", Str.ofString "callers", Str.ofString "nc", Str.ofString "a", Str.ofString "n", Str.ofString "a_digits", Str.ofString "inner",
  Str.ofString "x", Str.ofString "L", Str.ofString "R", Str.ofString "mid", Str.ofString "shift", Str.ofString "upper", Str.ofString "lower", Str.ofString "digits"]
noncomputable def nm (i : Nat) : Str := nmT.getD i (Str.ofString "")
theorem nm_inj : ∀ i, i < 48 → ∀ j, j < 48 → nm i = nm j → i = j := by decide +kernel

noncomputable abbrev Le (Z h : Heap) : Prop := ∀ b o, Z.get? b = some o → h.get? b = some o
theorem Le.refl (h : Heap) : Le h h := fun _ _ e => e
theorem Le.trans {a b c : Heap} (x : Le a b) (y : Le b c) : Le a c := fun d o e => y d o (x d o e)

noncomputable def mkZ (n : Nat) (f : Nat → Option Obj) : Heap := ⟨Array.ofFn (n := n) fun i => (f i).getD { cls := .none, data := .freed }, {}⟩
theorem mkZ_get {n : Nat} {f : Nat → Option Obj} (hf : ∀ i o, f i = some o → o.isFreed = false) (hn : ∀ i o, f i = some o → i < n) (i : Nat) : (mkZ n f).get? i = f i := by
  unfold mkZ Heap.get?
  by_cases hi : i < n
  · have e : (Array.ofFn (n := n) fun i => (f i).getD { cls := .none, data := .freed })[i]? = some ((f i).getD { cls := .none, data := .freed }) := by simp [hi]
    cases h : f i with
    | none => simp [hi, h]
    | some o =>
      have h2 := hf i o h
      simp only [e, h, Option.getD_some]
      obtain ⟨c, d, dt, sl⟩ := o
      cases dt <;> first | rfl | cases h2
  · cases h : f i with
    | none => simp [hi]
    | some o => exact absurd (hn i o h) hi
theorem get_freed {h : Heap} {a : Addr} {o : Obj} (e : h.get? a = some o) : o.isFreed = false := by
  unfold Heap.get? at e
  split at e
  · cases e
  · rename_i x hx
    obtain ⟨c, d, dt, sl⟩ := o
    cases dt <;> first | rfl | exact absurd e (hx c d sl)

theorem exists_put {Z h : Heap} (le : Le Z h) {a : Addr} {o : Obj} (e : h.get? a = some o) :
    ∃ Z', Le Z' h ∧ Z'.get? a = some o ∧ ∀ b, b ≠ a → Z'.get? b = Z.get? b := by
  refine ⟨mkZ h.objs.size fun i => if i = a then some o else Z.get? i, ?_, ?_, ?_⟩
  all_goals
    have key := mkZ_get (n := h.objs.size) (f := fun i => if i = a then some o else Z.get? i)
      (fun i o' e' => by
        by_cases hi : i = a
        · subst hi; simp at e'; subst e'; exact get_freed e
        · simp [hi] at e'; exact get_freed e')
      (fun i o' e' => by
        by_cases hi : i = a
        · subst hi; exact Heap.lt_size e
        · simp [hi] at e'; exact Heap.lt_size (le _ _ e'))
  · intro b o' e'
    rw [key] at e'
    by_cases hb : b = a
    · subst hb; simp at e'; subst e'; exact e
    · simp [hb] at e'; exact le _ _ e'
  · rw [key]; simp
  · intro b hb; rw [key]; simp [hb]

/-- a code table: it grows once, by the one def made in the body -/
noncomputable def TabI (Z h : Heap) (pos : Pos) (qual : Str) (P : Addr) : Prop :=
  Z.get? P = none ∧ ∃ ps, h.get? P = some (tabObj ps) ∧ TriplesOk ps.toList ∧ (codeAmong pos ps.toList = none ∨ ∃ c', codeAmong pos ps.toList = some (.ref c') ∧ Z.CodeRec (.ref c') qual)

noncomputable def pos1 : Pos := ⟨5, 4, 14, 28⟩
noncomputable def pos2 : Pos := ⟨20, 4, 25, 55⟩
noncomputable def qual1 : Str := Str.ofString "_int2digits.<locals>.inner"
noncomputable def qual2 : Str := Str.ofString "_digits2int.<locals>.inner"

/-- the world of the whole proof -/
class TheW where
  w : World

noncomputable abbrev prog : Program := PySem.Challenge.pw_hf0002_01

/-- words and numbers, as parts of a key -/
noncomputable abbrev Sc := Str ⊕ Int
noncomputable def Sc.d : Sc → PyData
  | .inl x => .str x
  | .inr i => .int i
theorem Sc.d_inj {a b : Sc} (h : a.d = b.d) : a = b := by
  cases a <;> cases b <;> simp [Sc.d] at h <;> rw [h]
noncomputable def Sc.is : Sc → Value → Bool
  | .inl x, v => v.isStrOf x
  | .inr i, v => v.isInt i
theorem Sc.is_inl {x : Str} {v : Value} (h : Sc.is (.inl x) v = true) : ∃ t, v = .str x t := Value.isStrOf_shape h
theorem Sc.is_inr {x : Int} {v : Value} (h : Sc.is (.inr x) v = true) : ∃ t, v = .int x t := Value.isInt_shape h
theorem Sc.is_str (x : Str) (t : Tok) : Sc.is (.inl x) (.str x t) = true := by simp [Sc.is, Value.isStrOf]
theorem Sc.is_int (x : Int) (t : Tok) : Sc.is (.inr x) (.int x t) = true := by simp [Sc.is, Value.isInt]
section
variable [TheW]
noncomputable def sik : KeyKind prog TheW.w Sc where
  is := Sc.is
  hash := fun k => match k with
    | .inl x => hashStr TheW.w x
    | .inr i => hashInt i
  inj := fun v a b h1 h2 => by
    cases a with
    | inl x =>
      obtain ⟨t, rfl⟩ := Sc.is_inl h1
      cases b with
      | inl y => obtain ⟨u, hu⟩ := Sc.is_inl h2; cases hu; rfl
      | inr y => obtain ⟨u, hu⟩ := Sc.is_inr h2; cases hu
    | inr x =>
      obtain ⟨t, rfl⟩ := Sc.is_inr h1
      cases b with
      | inl y => obtain ⟨u, hu⟩ := Sc.is_inl h2; cases hu
      | inr y => obtain ⟨u, hu⟩ := Sc.is_inr h2; cases hu; rfl
  byValue := fun k v h => by
    cases k with
    | inl x => obtain ⟨t, rfl⟩ := Sc.is_inl h; rfl
    | inr x => obtain ⟨t, rfl⟩ := Sc.is_inr h; rfl
  pyHash := fun {A E s k v Q} hv h => by
    cases k with
    | inl x => obtain ⟨t, rfl⟩ := Sc.is_inl hv; exact wpAny_pyHash_str h
    | inr x => obtain ⟨t, rfl⟩ := Sc.is_inr hv; exact wpAny_pyHash_int h
  eqBool := fun {A E s a b u v Q} hu hv h => by
    cases a with
    | inl x =>
      obtain ⟨t, rfl⟩ := Sc.is_inl hu
      cases b with
      | inl y =>
        obtain ⟨u, rfl⟩ := Sc.is_inl hv
        refine wpAny_eqBool_str ?_
        rw [show decide (x = y) = decide ((Sum.inl x : Sc) = Sum.inl y) by simp]; exact h
      | inr y =>
        obtain ⟨u, rfl⟩ := Sc.is_inr hv
        exact SeqAt.EqAt.str_int _ _ _ _ _ _ _ _ (by simpa using h)
    | inr x =>
      obtain ⟨t, rfl⟩ := Sc.is_inr hu
      cases b with
      | inl y =>
        obtain ⟨u, rfl⟩ := Sc.is_inl hv
        exact SeqAt.EqAt.int_str _ _ _ _ _ _ _ _ (by simpa using h)
      | inr y =>
        obtain ⟨u, rfl⟩ := Sc.is_inr hv
        refine wpAny_eqBool_int ?_
        rw [show (x == y) = decide ((Sum.inr x : Sc) = Sum.inr y) by by_cases q : x = y <;> simp [q]]; exact h
  «strs» := fun k x t v h => by
    cases k with
    | inl y =>
      obtain ⟨u, hu⟩ := Sc.is_inl h
      injection hu with hx
      subst hx
      cases v <;> rfl
    | inr y =>
      obtain ⟨u, hu⟩ := Sc.is_inr h
      cases hu
noncomputable abbrev kn : HeapKind prog TheW.w (List Sc) := tupleKind sik

/-- a dict that stands at an address, its keys frozen -/
noncomputable def DOf (Z h : Heap) (a : Addr) (xs : List (List Sc × Addr × Value)) : Prop :=
  ∃ o es ep, h.get? a = some o ∧ o.ExactDict ∧ o.data = .dict es ep ∧ es.toList = xs.map (entryOfKey kn) ∧ (∀ x ∈ xs, kn.is Z x.1 x.2.1) ∧ (xs.map (·.1)).Nodup
noncomputable def DGood (Z : Heap) (a : Addr) : Prop := ∃ o, Z.get? a = some o ∧ ∀ es n, o.data = .dict es n → (a == sysModules) = false ∧ ∃ xs, DOf Z Z a xs
theorem is_le {Z Z' : Heap} (k : Le Z Z') {ks : List Sc} {a : Addr} (h : kn.is Z ks a) : kn.is Z' ks a := by
  obtain ⟨o, items, n, e, r⟩ := h
  exact ⟨o, items, n, k _ _ e, r⟩
theorem DOf.le {Z Z' h h' : Heap} {a : Addr} {xs : List (List Sc × Addr × Value)} (x : DOf Z h a xs) (k : Le Z Z') (e : ∀ o, h.get? a = some o → h'.get? a = some o) : DOf Z' h' a xs := by
  obtain ⟨o, es, ep, h1, h2, h3, h4, h5, h6⟩ := x
  exact ⟨o, es, ep, e _ h1, h2, h3, h4, fun y hy => is_le k (h5 y hy), h6⟩
theorem DGood.le {Z Z' : Heap} {a : Addr} (x : DGood Z a) (k : Le Z Z') : DGood Z' a := by
  obtain ⟨o, e, h⟩ := x
  refine ⟨o, k _ _ e, fun es n hd => ?_⟩
  obtain ⟨h1, xs, h2⟩ := h es n hd
  exact ⟨h1, xs, h2.le k (fun o e => k _ _ e)⟩

/-- what stands through the whole call -/
structure Cx where
  h0 : Heap
  loose : List Str
  mean : ExcName → Option Value
  mg : Str → Option Value
  mb : Str → Option Value
  X : (hfHead.heap_39 TheW.w.params).In h0
  T : Top topProg loose mean mg mb h0
  C1 : CodeHd h0 20 16
  C2 : CodeHd h0 27 23

noncomputable abbrev Cx.w (_ : Cx) : World := TheW.w

structure Inv (c : Cx) (Z h : Heap) : Prop where
  le : Le Z h
  gnd : Le c.h0 Z
  t1 : TabI Z h pos1 qual1 16
  t2 : TabI Z h pos2 qual2 23

/-- nothing that stood is turned, but the two tables -/
noncomputable def Ext (h h' : Heap) : Prop := ∀ b o, b ≠ 16 → b ≠ 23 → h.get? b = some o → h'.get? b = some o
/-- what is frozen grows by new objects alone -/
noncomputable def Gr (h Z Z' : Heap) : Prop := Le Z Z' ∧ ∀ b o o', h.get? b = some o → Z'.get? b = some o' → Z.get? b = some o'
theorem Ext.refl (h : Heap) : Ext h h := fun _ _ _ _ e => e
theorem Ext.trans {a b c : Heap} (x : Ext a b) (y : Ext b c) : Ext a c := fun d o h1 h2 e => y d o h1 h2 (x d o h1 h2 e)
theorem Gr.refl (h Z : Heap) : Gr h Z Z := ⟨Le.refl Z, fun _ _ _ _ e => e⟩

noncomputable def Rep (Z : Heap) (v : Value) (d : PyData) : Prop := ∃ as, Reads Z v d as ∧ ∀ a ∈ as, DGood Z a
noncomputable def RepA (Z : Heap) (vs : List Value) (ds : List PyData) : Prop := ∃ as, ReadsAll Z vs ds as ∧ ∀ a ∈ as, DGood Z a
theorem Rep.le {Z Z' : Heap} {v : Value} {d : PyData} (r : Rep Z v d) (k : Le Z Z') : Rep Z' v d := let ⟨as, x, g⟩ := r; ⟨as, Reads.keeps k x, fun a ha => (g a ha).le k⟩
theorem RepA.le {Z Z' : Heap} {v : List Value} {d : List PyData} (r : RepA Z v d) (k : Le Z Z') : RepA Z' v d := let ⟨as, x, g⟩ := r; ⟨as, ReadsAll.keeps k x, fun a ha => (g a ha).le k⟩
end
end Hf
end

section
open PySem PySem.W PyProof.Rows PySem.Calls PySem.Spec
namespace Hf
set_option autoImplicit false
set_option linter.unusedSectionVars false
variable [TheW]

/-- room for what is to come -/
noncomputable def Room (b : Nat) (A : Around) : Prop := A.handled = none ∧ A.depth + b < 800 ∧ A.units + 10 * b < 8000
theorem Room.mono {a b : Nat} {A : Around} (r : Room b A) (h : a ≤ b) : Room a A := by
  obtain ⟨h1, h2, h3⟩ := r
  exact ⟨h1, by omega, by omega⟩
theorem Room.in1 {b : Nat} {A : Around} (r : Room (b + 1) A) : Room b A.in1 := by
  obtain ⟨h1, h2, h3⟩ := r
  exact ⟨h1, by simp only [Around.in1_depth]; omega, by simp only [Around.in1_units]; omega⟩
theorem Room.deeper {b : Nat} {A : Around} {env : Env} (r : Room (b + 1) A) : Room b (A.deeper env) := by
  obtain ⟨h1, h2, h3⟩ := r
  exact ⟨h1, by show A.depth + 1 + b < 800; omega, by rw [Around.deeper_units]; omega⟩
theorem Room.units {b : Nat} {A : Around} (r : Room b A) : A.units + 1000 < cLine := by
  have := r.2.2
  have : cLine = 9900 := rfl
  omega
theorem Room.depth {b : Nat} {A : Around} (r : Room b A) : A.depth < recursionLimit := by
  have := r.2.1
  have : recursionLimit = 1000 := rfl
  omega

noncomputable abbrev Sg := Nat → Option PyData
noncomputable def Sg.put (σ : Sg) (i : Nat) (d : PyData) : Sg := fun j => if j = i then some d else σ j

/-- the one list or dict that is being made -/
noncomputable def OwnAt (Z h : Heap) (a : Addr) (d : PyData) : Prop :=
  (∃ xs vs, d = .list xs ∧ PlainL h a vs ∧ RepA Z vs.toList xs) ∨
  (∃ kvs xs, d = .dict kvs ∧ (a == sysModules) = false ∧ DOf Z h a xs ∧ RepA Z (xs.map fun x => .ref x.2.1) (kvs.map (·.1)) ∧ RepA Z (xs.map fun x => x.2.2) (kvs.map (·.2)))

noncomputable def ValO (Z h : Heap) (o : Nat) (oa : Addr) (i : Nat) (v : Value) (d : PyData) : Prop :=
  (i ≠ o ∧ Rep Z v d) ∨ (i = o ∧ v = .ref oa ∧ OwnAt Z h oa d)

/-- a cell that the frame may turn -/
noncomputable def Mine (env : Env) (x : Str) (a : Addr) : Prop := env.kindOf x = some .cell ∧ env.cells.lookup x = some a

structure Fm (c : Cx) (Z h : Heap) (env : Env) (σ : Sg) (o : Nat) (oa : Addr) : Prop where
  inv : Inv c Z h
  dom : ∀ i d, σ i = some d → 0 < i ∧ i < 48
  nL : Z.get? env.locals = none
  loc : ∃ m, h.Ns env.locals m ∧ ∀ i d, σ i = some d → env.kindOf (nm i) = some .local → ∃ v, m (nm i) = some v ∧ ValO Z h o oa i v d
  cel : ∀ i d, σ i = some d → env.kindOf (nm i) = some .cell → ∃ a v, env.cells.lookup (nm i) = some a ∧ h.IsCell a (some v) ∧ ValO Z h o oa i v d
  fre : ∀ i d, σ i = some d → env.kindOf (nm i) = some .free → ∃ a v, env.cells.lookup (nm i) = some a ∧ Z.IsCell a (some v) ∧ ValO Z h o oa i v d
  cells : ∀ x a, Mine env x a → Z.get? a = none ∧ a ≠ env.locals ∧ (o ≠ 0 → a ≠ oa) ∧ ∃ v, h.IsCell a v
  apart : ∀ x y a, Mine env x a → Mine env y a → x = y
  own : o ≠ 0 → Z.get? oa = none ∧ oa ≠ env.locals ∧ ∃ d, OwnAt Z h oa d

structure EnvOK (env : Env) : Prop where
  kind : env.scope.kind = .function
  globals : env.globals = mainGlobals
  builtins : env.builtins = builtinsNs
  cov : ∀ x, (env.kindOf x = some .cell ∨ env.kindOf x = some .free) → ∃ a, env.cells.lookup x = some a

theorem Inv.tab16 {c : Cx} {Z h : Heap} (I : Inv c Z h) : ∃ ps, h.get? 16 = some (tabObj ps) := let ⟨_, ps, e, _⟩ := I.t1; ⟨ps, e⟩
theorem Inv.tab23 {c : Cx} {Z h : Heap} (I : Inv c Z h) : ∃ ps, h.get? 23 = some (tabObj ps) := let ⟨_, ps, e, _⟩ := I.t2; ⟨ps, e⟩
theorem Inv.not_tab {c : Cx} {Z h : Heap} (I : Inv c Z h) {a : Addr} {o : Obj} (e : h.get? a = some o) (hn : ∀ ps, o ≠ tabObj ps) : a ≠ 16 ∧ a ≠ 23 := by
  constructor
  · rintro rfl; obtain ⟨ps, e'⟩ := I.tab16; rw [e] at e'; exact hn ps (Option.some.inj e')
  · rintro rfl; obtain ⟨ps, e'⟩ := I.tab23; rw [e] at e'; exact hn ps (Option.some.inj e')
theorem Inv.ns_not {c : Cx} {Z h : Heap} (I : Inv c Z h) {L : Addr} {m : Str → Option Value} (n : h.Ns L m) : L ≠ 16 ∧ L ≠ 23 := by
  obtain ⟨o, es, ep, e, hd, _⟩ := n
  exact I.not_tab e fun ps q => by rw [q] at hd; cases hd
theorem Inv.cell_not {c : Cx} {Z h : Heap} (I : Inv c Z h) {a : Addr} {v : Option Value} (n : h.IsCell a v) : a ≠ 16 ∧ a ≠ 23 := by
  obtain ⟨o, e, hd⟩ := n
  exact I.not_tab e fun ps q => by rw [q] at hd; cases hd
theorem OwnAt.there {Z h : Heap} {a : Addr} {d : PyData} (x : OwnAt Z h a d) : ∃ o, h.get? a = some o ∧ ∀ ps, o ≠ tabObj ps := by
  rcases x with ⟨xs, vs, _, ⟨ob, n, e, hc, _, hd⟩, _⟩ | ⟨kvs, xs, _, _, ⟨ob, es, ep, e, hx, hd, _⟩, _⟩
  · exact ⟨_, e, fun ps q => by rw [q] at hd; cases hd⟩
  · exact ⟨_, e, fun ps q => by rw [q] at hd; cases hd⟩
theorem OwnAt.keep {Z Z' h h' : Heap} {a : Addr} {d : PyData} (x : OwnAt Z h a d) (k : Le Z Z') (e : ∀ o, h.get? a = some o → h'.get? a = some o) : OwnAt Z' h' a d := by
  rcases x with ⟨xs, vs, h1, ⟨ob, n, h2, hr⟩, h3⟩ | ⟨kvs, xs, h1, hs, h2, h3, h4⟩
  · exact .inl ⟨xs, vs, h1, ⟨ob, n, e _ h2, hr⟩, h3.le k⟩
  · exact .inr ⟨kvs, xs, h1, hs, h2.le k e, h3.le k, h4.le k⟩
theorem ValO.keep {Z Z' h h' : Heap} {o : Nat} {oa : Addr} {i : Nat} {v : Value} {d : PyData} (x : ValO Z h o oa i v d) (k : Le Z Z') (e : o ≠ 0 → ∀ ob, h.get? oa = some ob → h'.get? oa = some ob) (h0 : 0 < i) : ValO Z' h' o oa i v d := by
  rcases x with ⟨h1, h2⟩ | ⟨h1, h2, h3⟩
  · exact .inl ⟨h1, h2.le k⟩
  · exact .inr ⟨h1, h2, h3.keep k (e (by omega))⟩

/-- a frame stands when nothing of it is turned -/
theorem Fm.move {c : Cx} {Z Z' h h' : Heap} {env : Env} {σ : Sg} {o : Nat} {oa : Addr} (F : Fm c Z h env σ o oa) (I : Inv c Z' h') (k : Le Z Z')
    (zL : Z'.get? env.locals = none) (zC : ∀ x a, Mine env x a → Z'.get? a = none) (zO : o ≠ 0 → Z'.get? oa = none)
    (kL : ∀ ob, h.get? env.locals = some ob → h'.get? env.locals = some ob) (kC : ∀ x a ob, Mine env x a → h.get? a = some ob → h'.get? a = some ob)
    (kO : o ≠ 0 → ∀ ob, h.get? oa = some ob → h'.get? oa = some ob) : Fm c Z' h' env σ o oa := by
  obtain ⟨m, hn, hv⟩ := F.loc
  have hn' : h'.Ns env.locals m := hn.at' fun ob e => kL ob e
  have hcell : ∀ x a v, Mine env x a → h.IsCell a v → h'.IsCell a v := fun x a v hx hc => by
    obtain ⟨ob, e, hd⟩ := hc
    exact ⟨ob, kC x a ob hx e, hd⟩
  refine ⟨I, F.dom, zL, ⟨m, hn', fun i d e hk => ?_⟩, fun i d e hk => ?_, fun i d e hk => ?_, fun y a e => ?_, F.apart, fun ho => ?_⟩
  · obtain ⟨v, e1, e2⟩ := hv i d e hk
    exact ⟨v, e1, e2.keep k kO (F.dom i d e).1⟩
  · obtain ⟨a, v, e1, e2, e3⟩ := F.cel i d e hk
    exact ⟨a, v, e1, hcell _ _ _ ⟨hk, e1⟩ e2, e3.keep k kO (F.dom i d e).1⟩
  · obtain ⟨a, v, e1, ⟨ob, e2, e4⟩, e3⟩ := F.fre i d e hk
    exact ⟨a, v, e1, ⟨ob, k _ _ e2, e4⟩, e3.keep k kO (F.dom i d e).1⟩
  · obtain ⟨e1, e2, e3, v, e4⟩ := F.cells y a e
    exact ⟨zC y a e, e2, e3, v, hcell _ _ _ e e4⟩
  · obtain ⟨e1, e2, d, e3⟩ := F.own ho
    exact ⟨zO ho, e2, d, e3.keep k (kO ho)⟩
theorem Fm.L_some {c : Cx} {Z h : Heap} {env : Env} {σ : Sg} {o : Nat} {oa : Addr} (F : Fm c Z h env σ o oa) : ∃ ob, h.get? env.locals = some ob ∧ ∀ ps, ob ≠ tabObj ps := by
  obtain ⟨m, ⟨ob, _, _, e, hd, _⟩, _⟩ := F.loc
  exact ⟨ob, e, fun ps q => by rw [q] at hd; cases hd⟩
theorem Fm.C_some {c : Cx} {Z h : Heap} {env : Env} {σ : Sg} {o : Nat} {oa : Addr} (F : Fm c Z h env σ o oa) : ∀ x a, Mine env x a → ∃ ob, h.get? a = some ob ∧ ∀ ps, ob ≠ tabObj ps := fun x a e => by
  obtain ⟨_, _, _, v, ob, e1, hd⟩ := F.cells x a e
  exact ⟨ob, e1, fun ps q => by rw [q] at hd; cases hd⟩
theorem Fm.O_some {c : Cx} {Z h : Heap} {env : Env} {σ : Sg} {o : Nat} {oa : Addr} (F : Fm c Z h env σ o oa) : o ≠ 0 → ∃ ob, h.get? oa = some ob ∧ ∀ ps, ob ≠ tabObj ps := fun ho => by
  obtain ⟨_, _, d, hd⟩ := F.own ho
  exact hd.there
/-- a frame stands when what is turned lies off it -/
theorem Fm.off {c : Cx} {Z Z' h h' : Heap} {env : Env} {σ : Sg} {o : Nat} {oa : Addr} (F : Fm c Z h env σ o oa) {wr : List Addr} (I : Inv c Z' h') (g : Gr h Z Z')
    (x : ∀ b ob, b ∉ wr → b ≠ 16 → b ≠ 23 → h.get? b = some ob → h'.get? b = some ob) (nL : env.locals ∉ wr) (nC : ∀ x a, Mine env x a → a ∉ wr) (nO : o ≠ 0 → oa ∉ wr) : Fm c Z' h' env σ o oa := by
  have hz : ∀ a, Z.get? a = none → (∃ ob, h.get? a = some ob ∧ ∀ ps, ob ≠ tabObj ps) → Z'.get? a = none := fun a hz ⟨ob, e, _⟩ => by
    cases q : Z'.get? a with
    | none => rfl
    | some o' => rw [g.2 a ob o' e q] at hz; cases hz
  have hk : ∀ a, a ∉ wr → (∃ ob, h.get? a = some ob ∧ ∀ ps, ob ≠ tabObj ps) → ∀ ob, h.get? a = some ob → h'.get? a = some ob := fun a hw ⟨ob', e', hn⟩ ob e => by
    have nt := F.inv.not_tab e' hn
    exact x a ob hw nt.1 nt.2 e
  exact F.move I g.1 (hz _ F.nL F.L_some) (fun y a e => hz a (F.cells y a e).1 (F.C_some y a e)) (fun ho => hz _ (F.own ho).1 (F.O_some ho))
    (hk _ nL F.L_some) (fun y a ob e => hk a (nC y a e) (F.C_some y a e) ob) fun ho => hk _ (nO ho) (F.O_some ho)
theorem Fm.ext {c : Cx} {Z Z' h h' : Heap} {env : Env} {σ : Sg} {o : Nat} {oa : Addr} (F : Fm c Z h env σ o oa) (I : Inv c Z' h') (g : Gr h Z Z') (x : Ext h h') : Fm c Z' h' env σ o oa :=
  F.off (wr := []) I g (fun b ob _ h1 h2 e => x b ob h1 h2 e) (by simp) (by simp) (by simp)

noncomputable abbrev noE : Value → Shared → Prop := fun _ _ => False

/-- an expression, and what it comes to -/
noncomputable def PostE (c : Cx) (Z : Heap) (s : Shared) (d : PyData) (Q : Value → Shared → Prop) : Prop :=
  ∀ v Z' h' tk', Inv c Z' h' → Gr s.heap Z Z' → Ext s.heap h' → Rep Z' v d → Q v { s with heap := h', toks := tk' }
noncomputable abbrev Fe := Nat → Sg → Option PyData
noncomputable abbrev Fl := Nat → Sg → Option (List PyData)
noncomputable abbrev Fb := Nat → Sg → Option Bool

noncomputable def EvOK (b : Nat) (sc : Scope) (e : Expr) (f : Fe) : Prop :=
  ∀ (c : Cx) (A : Around) (env : Env) (Z : Heap) (oa : Addr) (s : Shared) (o : Nat) (σ : Sg) (d : PyData) (Q : Value → Shared → Prop),
    Room b A → env.scope = sc → EnvOK env → Fm c Z s.heap env σ o oa → f o σ = some d → PostE c Z s d Q → wpAny (model prog c.w) A (eval e env) Q noE s

noncomputable def TsOK (b : Nat) (sc : Scope) (e : Expr) (f : Fb) : Prop :=
  ∀ (c : Cx) (A : Around) (env : Env) (Z : Heap) (oa : Addr) (s : Shared) (o : Nat) (σ : Sg) (d : Bool) (Q : Bool → Shared → Prop),
    Room b A → env.scope = sc → EnvOK env → Fm c Z s.heap env σ o oa → f o σ = some d →
    (∀ Z' h' tk', Inv c Z' h' → Gr s.heap Z Z' → Ext s.heap h' → Q d { s with heap := h', toks := tk' }) → wpAny (model prog c.w) A (isTrue e env (eval e env)) Q noE s

theorem Gr.trans {h h' Z Z' Z'' : Heap} (x : Gr h Z Z') (e : Ext h h') (y : Gr h' Z' Z'') (t : ∀ b, (b = 16 ∨ b = 23) → Z''.get? b = none) : Gr h Z Z'' :=
  ⟨x.1.trans y.1, fun b ob o' hb hz => by
    by_cases q1 : b = 16
    · rw [t b (.inl q1)] at hz; cases hz
    · by_cases q2 : b = 23
      · rw [t b (.inr q2)] at hz; cases hz
      · exact x.2 b ob o' hb (y.2 b ob o' (e b ob q1 q2 hb) hz)⟩
theorem Inv.noTab {c : Cx} {Z h : Heap} (I : Inv c Z h) : ∀ b, (b = 16 ∨ b = 23) → Z.get? b = none := fun b hb => by
  rcases hb with rfl | rfl
  · exact I.t1.1
  · exact I.t2.1

theorem EvOK.mono {a b : Nat} {sc : Scope} {e : Expr} {f : Fe} (x : EvOK a sc e f) (h : a ≤ b) : EvOK b sc e f := fun c A env Z oa s o σ d Q r => x c A env Z oa s o σ d Q (r.mono h)
theorem TsOK.mono {a b : Nat} {sc : Scope} {e : Expr} {f : Fb} (x : TsOK a sc e f) (h : a ≤ b) : TsOK b sc e f := fun c A env Z oa s o σ d Q r => x c A env Z oa s o σ d Q (r.mono h)
end Hf
end

section
open PySem PySem.W PyProof.Rows PySem.Calls PySem.Spec
namespace Hf
set_option autoImplicit false
set_option linter.unusedSectionVars false
variable [TheW]

theorem Inv.keep {c : Cx} {Z h h' : Heap} (I : Inv c Z h) (k : Le h h') : Inv c Z h' := by
  refine ⟨I.le.trans k, I.gnd, ?_, ?_⟩
  · obtain ⟨a, ps, e, r⟩ := I.t1; exact ⟨a, ps, k _ _ e, r⟩
  · obtain ⟨a, ps, e, r⟩ := I.t2; exact ⟨a, ps, k _ _ e, r⟩
theorem Ext.of_le {h h' : Heap} (k : Le h h') : Ext h h' := fun b o _ _ e => k b o e

theorem TabI.put {Z Z' h : Heap} {pos : Pos} {q : Str} {P a : Addr} (t : TabI Z h pos q P) (k : Le Z Z') (e : ∀ b, b ≠ a → Z'.get? b = Z.get? b) (n : P ≠ a) : TabI Z' h pos q P := by
  obtain ⟨h1, ps, h2, h3, h4⟩ := t
  refine ⟨(e P n).trans h1, ps, h2, h3, h4.imp id ?_⟩
  rintro ⟨c', h5, c2, o, vs, t, e1, e2, e3⟩
  exact ⟨c', h5, c2, o, vs, t, e1, k _ _ e2, e3⟩

/-- freeze one object -/
theorem Inv.put {c : Cx} {Z h : Heap} (I : Inv c Z h) {a : Addr} {o : Obj} (e : h.get? a = some o) (hz : Z.get? a = none) (n : ∀ ps, o ≠ tabObj ps) :
    ∃ Z', Inv c Z' h ∧ Le Z Z' ∧ Z'.get? a = some o ∧ ∀ b, b ≠ a → Z'.get? b = Z.get? b := by
  obtain ⟨Z', h1, h2, h3⟩ := exists_put I.le e
  have k : Le Z Z' := fun b ob eb => by
    by_cases hb : b = a
    · subst hb; rw [hz] at eb; cases eb
    · rw [h3 b hb]; exact eb
  obtain ⟨n1, n2⟩ := I.not_tab e n
  exact ⟨Z', ⟨h1, I.gnd.trans k, I.t1.put k h3 (Ne.symm n1), I.t2.put k h3 (Ne.symm n2)⟩, k, h2, h3⟩

theorem get_new (h : Heap) : h.get? h.objs.size = none := by
  cases q : h.get? h.objs.size with
  | none => rfl
  | some o => exact absurd (Heap.lt_size q) (Nat.lt_irrefl _)
theorem Inv.noZ {c : Cx} {Z h : Heap} (I : Inv c Z h) {a : Addr} (e : h.get? a = none) : Z.get? a = none := by
  cases q : Z.get? a with
  | none => rfl
  | some o => rw [I.le _ _ q] at e; cases e

/-- freeze a new object -/
theorem Inv.newObj {c : Cx} {Z h h' : Heap} (I : Inv c Z h) (k : Le h h') {a : Addr} {o : Obj} (e : h'.get? a = some o) (f : h.get? a = none) (n : ∀ ps, o ≠ tabObj ps) :
    ∃ Z', Inv c Z' h' ∧ Gr h Z Z' ∧ Z'.get? a = some o := by
  obtain ⟨Z', h1, h2, h3, h4⟩ := (I.keep k).put e (I.noZ f) n
  refine ⟨Z', h1, ⟨h2, fun b o1 o2 hb hz => ?_⟩, h3⟩
  by_cases q : b = a
  · subst q; rw [f] at hb; cases hb
  · rw [← h4 b q]; exact hz

section post
variable {c : Cx} {Z : Heap} {s : Shared} {d : PyData} {Q : Value → Shared → Prop}
theorem PostE.imm (P : PostE c Z s d Q) (I : Inv c Z s.heap) {v : Value} (r : Rep Z v d) (tk : Nat) : Q v { s with toks := tk } := P v Z s.heap tk I (Gr.refl _ _) (Ext.refl _) r
theorem PostE.keepH (P : PostE c Z s d Q) (I : Inv c Z s.heap) {h' : Heap} (k : Le s.heap h') {v : Value} (r : Rep Z v d) (tk : Nat) : Q v { s with heap := h', toks := tk } := P v Z h' tk (I.keep k) (Gr.refl _ _) (Ext.of_le k) r
theorem PostE.newV (P : PostE c Z s d Q) (I : Inv c Z s.heap) {h' : Heap} (k : Le s.heap h') {a : Addr} {o : Obj} (e : h'.get? a = some o) (f : s.heap.get? a = none) (n : ∀ ps, o ≠ tabObj ps)
    (r : ∀ Z', Le Z Z' → Z'.get? a = some o → Rep Z' (.ref a) d) (tk : Nat) : Q (.ref a) { s with heap := h', toks := tk } := by
  obtain ⟨Z', h1, h2, h3⟩ := I.newObj k e f n
  exact P _ Z' h' tk h1 h2 (Ext.of_le k) (r Z' h2.1 h3)
/-- a post handed on behind a first part -/
theorem PostE.after (P : PostE c Z s d Q) {Z' h' : Heap} {tk : Nat} (I : Inv c Z' h') (g : Gr s.heap Z Z') (x : Ext s.heap h') : PostE c Z' { s with heap := h', toks := tk } d Q :=
  fun v Z'' h'' tk'' I' g' x' r => P v Z'' h'' tk'' I' (g.trans x g' I'.noTab) (x.trans x') r
end post

theorem push_le (h : Heap) (o : Obj) : Le h (h.push o) := fun _ _ e => Heap.get?_push_of_some _ e
theorem Rep.int {Z : Heap} (i : Int) (t : Tok) : Rep Z (.int i t) (.int i) := ⟨_, .int i t, by simp⟩
theorem Rep.bool {Z : Heap} (b : Bool) : Rep Z (.bool b) (.bool b) := ⟨_, .bool b, by simp⟩
theorem Rep.str {Z : Heap} (x : Str) (t : Tok) : Rep Z (.str x t) (.str x) := ⟨_, .str x t, by simp⟩
theorem RepA.nil {Z : Heap} : RepA Z [] [] := ⟨_, .nil, by simp⟩
theorem RepA.cons {Z : Heap} {v : Value} {d : PyData} {vs : List Value} {ds : List PyData} (r : Rep Z v d) (rs : RepA Z vs ds) : RepA Z (v :: vs) (d :: ds) :=
  let ⟨_, a, g⟩ := r; let ⟨_, b, g'⟩ := rs; ⟨_, .cons a b, fun x hx => (List.mem_append.mp hx).elim (g x) (g' x)⟩
theorem RepA.nil_inv {Z : Heap} {ds : List PyData} (r : RepA Z [] ds) : ds = [] := by obtain ⟨_, h, _⟩ := r; cases h; rfl
theorem RepA.inv {Z : Heap} {v : Value} {vs : List Value} {ds : List PyData} (r : RepA Z (v :: vs) ds) : ∃ d ds', ds = d :: ds' ∧ Rep Z v d ∧ RepA Z vs ds' := by
  obtain ⟨as, h, g⟩ := r
  cases h with
  | cons a b => exact ⟨_, _, rfl, ⟨_, a, fun x hx => g x (List.mem_append_left _ hx)⟩, ⟨_, b, fun x hx => g x (List.mem_append_right _ hx)⟩⟩
theorem RepA.cons_inv {Z : Heap} {v : Value} {d : PyData} {vs : List Value} {ds : List PyData} (r : RepA Z (v :: vs) (d :: ds)) : Rep Z v d ∧ RepA Z vs ds := by
  obtain ⟨_, _, e, a, b⟩ := r.inv
  cases e
  exact ⟨a, b⟩
theorem RepA.length {Z : Heap} {vs : List Value} {ds : List PyData} (r : RepA Z vs ds) : vs.length = ds.length := by
  induction vs generalizing ds with
  | nil => rw [r.nil_inv]; rfl
  | cons v vs ih => obtain ⟨_, _, rfl, _, b⟩ := r.inv; simp [ih b]
theorem RepA.append {Z : Heap} {vs ws : List Value} {ds es : List PyData} (r : RepA Z vs ds) (q : RepA Z ws es) : RepA Z (vs ++ ws) (ds ++ es) := by
  induction vs generalizing ds with
  | nil => rw [r.nil_inv]; exact q
  | cons v vs ih => obtain ⟨_, _, rfl, a, b⟩ := r.inv; exact .cons a (ih b)
theorem RepA.get {Z : Heap} {vs : List Value} {ds : List PyData} (r : RepA Z vs ds) : ∀ {i : Nat} {d : PyData}, ds[i]? = some d → ∃ v, vs[i]? = some v ∧ Rep Z v d := by
  induction vs generalizing ds with
  | nil => rw [r.nil_inv]; intro i d e; simp at e
  | cons v vs ih =>
    obtain ⟨_, _, rfl, a, b⟩ := r.inv
    intro i d e
    cases i with
    | zero => simp at e; subst e; exact ⟨v, by simp, a⟩
    | succ i => simp at e; obtain ⟨w, h1, h2⟩ := ih b e; exact ⟨w, by simpa using h1, h2⟩
theorem RepA.take {Z : Heap} {vs : List Value} {ds : List PyData} (r : RepA Z vs ds) : ∀ n, RepA Z (vs.take n) (ds.take n) := by
  induction vs generalizing ds with
  | nil => rw [r.nil_inv]; intro n; simp only [List.take_nil]; exact .nil
  | cons v vs ih =>
    obtain ⟨_, _, rfl, a, b⟩ := r.inv
    intro n
    cases n with
    | zero => exact .nil
    | succ n => exact .cons a (ih b n)
theorem RepA.rev {Z : Heap} {vs : List Value} {ds : List PyData} (r : RepA Z vs ds) : RepA Z vs.reverse ds.reverse := by
  induction vs generalizing ds with
  | nil => rw [r.nil_inv]; exact .nil
  | cons v vs ih => obtain ⟨_, _, rfl, a, b⟩ := r.inv; simp only [List.reverse_cons]; exact (ih b).append (.cons a .nil)
theorem RepA.set {Z : Heap} {vs : List Value} {ds : List PyData} {v : Value} {d : PyData} (r : RepA Z vs ds) (q : Rep Z v d) : ∀ n, RepA Z (vs.set n v) (ds.set n d) := by
  induction vs generalizing ds with
  | nil => rw [r.nil_inv]; intro n; exact .nil
  | cons v' vs ih =>
    obtain ⟨_, _, rfl, a, b⟩ := r.inv
    intro n
    cases n with
    | zero => exact .cons q b
    | succ n => exact .cons a (ih b n)

theorem Rep.list_of {Z : Heap} {a : Addr} {o : Obj} {vs : Array Value} {n : Nat} {xs : List PyData} (e : Z.get? a = some o) (hc : o.cls = .type "list") (hd : o.data = .seq vs n) (r : RepA Z vs.toList xs) : Rep Z (.ref a) (.list xs) :=
  let ⟨_, q, g⟩ := r
  ⟨_, .list e hc hd q, fun x hx => by
    rcases List.mem_cons.mp hx with rfl | hx
    · exact ⟨o, e, fun es n h => by rw [hd] at h; cases h⟩
    · exact g x hx⟩
theorem Rep.tuple_of {Z : Heap} {a : Addr} {o : Obj} {vs : Array Value} {n : Nat} {xs : List PyData} (e : Z.get? a = some o) (hc : o.cls = .type "tuple") (hd : o.data = .seq vs n) (r : RepA Z vs.toList xs) : Rep Z (.ref a) (.tuple xs) :=
  let ⟨_, q, g⟩ := r; ⟨_, .tuple e hc hd q, g⟩
theorem entries_key (xs : List (List Sc × Addr × Value)) : (xs.map (entryOfKey kn)).map (·.key) = xs.map fun x => .ref x.2.1 := by simp [entryOfKey, Function.comp_def]
theorem entries_val (xs : List (List Sc × Addr × Value)) : (xs.map (entryOfKey kn)).map (·.val) = xs.map fun x => x.2.2 := by simp [entryOfKey, Function.comp_def]
theorem Rep.dict_of {Z : Heap} {a : Addr} {kvs : List (PyData × PyData)} {xs : List (List Sc × Addr × Value)} (hs : (a == sysModules) = false) (x : DOf Z Z a xs)
    (r : RepA Z (xs.map fun x => .ref x.2.1) (kvs.map (·.1))) (q : RepA Z (xs.map fun x => x.2.2) (kvs.map (·.2))) : Rep Z (.ref a) (.dict kvs) := by
  obtain ⟨_, r1, g1⟩ := r
  obtain ⟨_, r2, g2⟩ := q
  obtain ⟨o, es, ep, h1, h2, h3, h4, h5, h6⟩ := id x
  refine ⟨_, .dict h1 h2.1 h3 (by rw [h4, entries_key]; exact r1) (by rw [h4, entries_val]; exact r2), fun y hy => ?_⟩
  rcases List.mem_append.mp hy with hy | hy
  · rcases List.mem_cons.mp hy with rfl | hy
    · exact ⟨o, h1, fun _ _ _ => ⟨hs, xs, x⟩⟩
    · exact g1 y hy
  · exact g2 y hy
theorem Rep.int_inv {Z : Heap} {v : Value} {i : Int} (r : Rep Z v (.int i)) : ∃ t, v = .int i t := by
  obtain ⟨_, h, _⟩ := r; cases h; exact ⟨_, rfl⟩
theorem Rep.str_inv {Z : Heap} {v : Value} {i : Str} (r : Rep Z v (.str i)) : ∃ t, v = .str i t := by
  obtain ⟨_, h, _⟩ := r; cases h; exact ⟨_, rfl⟩
theorem Rep.bool_inv {Z : Heap} {v : Value} {b : Bool} (r : Rep Z v (.bool b)) : v = .bool b := by
  obtain ⟨_, h, _⟩ := r; cases h; rfl
theorem Rep.list_inv {Z : Heap} {v : Value} {xs : List PyData} (r : Rep Z v (.list xs)) : ∃ a o vs n, v = .ref a ∧ Z.get? a = some o ∧ o.cls = .type "list" ∧ o.data = .seq vs n ∧ RepA Z vs.toList xs := by
  obtain ⟨_, h, g⟩ := r
  cases h with
  | list e hc hd q => exact ⟨_, _, _, _, rfl, e, hc, hd, ⟨_, q, fun x hx => g x (List.mem_cons_of_mem _ hx)⟩⟩
theorem Rep.tuple_inv {Z : Heap} {v : Value} {xs : List PyData} (r : Rep Z v (.tuple xs)) : ∃ a o vs n, v = .ref a ∧ Z.get? a = some o ∧ o.cls = .type "tuple" ∧ o.data = .seq vs n ∧ RepA Z vs.toList xs := by
  obtain ⟨_, h, g⟩ := r
  cases h with
  | tuple e hc hd q => exact ⟨_, _, _, _, rfl, e, hc, hd, ⟨_, q, g⟩⟩
theorem Rep.dict_inv {Z : Heap} {v : Value} {kvs : List (PyData × PyData)} (r : Rep Z v (.dict kvs)) : ∃ a xs, v = .ref a ∧ (a == sysModules) = false ∧ DOf Z Z a xs ∧
    RepA Z (xs.map fun x => .ref x.2.1) (kvs.map (·.1)) ∧ RepA Z (xs.map fun x => x.2.2) (kvs.map (·.2)) := by
  obtain ⟨_, h, g⟩ := r
  cases h with
  | dict e hc hd q1 q2 =>
    obtain ⟨o, e', h'⟩ := g _ (List.mem_append_left _ List.mem_cons_self)
    rw [e] at e'; cases e'
    obtain ⟨hs, xs, hx⟩ := h' _ _ hd
    obtain ⟨o, es, ep, h1, h2, h3, h4, h5, h6⟩ := id hx
    rw [e] at h1; cases h1
    rw [hd] at h3; cases h3
    rw [h4, entries_key] at q1
    rw [h4, entries_val] at q2
    exact ⟨_, xs, rfl, hs, hx, ⟨_, q1, fun x hx => g x (List.mem_append_left _ (List.mem_cons_of_mem _ hx))⟩, ⟨_, q2, fun x hx => g x (List.mem_append_right _ hx)⟩⟩

section expr
variable {b : Nat} {sc : Scope} {pos : Pos} {k : Nat}

noncomputable def eVar (i : Nat) : Fe := fun o σ => if i = o then none else σ i
noncomputable def eLit (d : PyData) : Fe := fun _ _ => some d

theorem ev_local {x : Str} (i : Nat) (hx : nm i = x) (hl : sc.names.lookup x = some .local) (hd : (x == ("__debug__" : Str)) = false) : EvOK b sc (.Name x pos) (eVar i) := by
  intro c A env Z oa s o σ d Q r he ho F hf P
  subst hx he
  unfold eVar at hf
  split at hf
  · cases hf
  · rename_i hi
    obtain ⟨m, hn, hv⟩ := F.loc
    obtain ⟨v, h1, h2⟩ := hv i d hf hl
    rcases h2 with ⟨_, h2⟩ | ⟨h2, _⟩
    · exact wpAny_Name (wpAny_loadName_local ho.kind hl hn h1 (P.imm F.inv h2 s.toks)) hd
    · exact absurd h2 hi
theorem ev_cell {x : Str} (i : Nat) (hx : nm i = x) (hl : sc.names.lookup x = some .cell) (hd : (x == ("__debug__" : Str)) = false) : EvOK b sc (.Name x pos) (eVar i) := by
  intro c A env Z oa s o σ d Q r he ho F hf P
  subst hx he
  unfold eVar at hf
  split at hf
  · cases hf
  · rename_i hi
    obtain ⟨a, v, h1, h2, h3⟩ := F.cel i d hf hl
    rcases h3 with ⟨_, h3⟩ | ⟨h3, _⟩
    · exact wpAny_Name (wpAny_loadName_cell ho.kind hl h1 h2 (P.imm F.inv h3 s.toks)) hd
    · exact absurd h3 hi
theorem ev_free {x : Str} (i : Nat) (hx : nm i = x) (hl : sc.names.lookup x = some .free) (hd : (x == ("__debug__" : Str)) = false) (hd2 : (x == ("__classdict__" : Str)) = false) : EvOK b sc (.Name x pos) (eVar i) := by
  intro c A env Z oa s o σ d Q r he ho F hf P
  subst hx he
  unfold eVar at hf
  split at hf
  · cases hf
  · rename_i hi
    obtain ⟨a, v, h1, ⟨ob, h2, h2'⟩, h3⟩ := F.fre i d hf hl
    rcases h3 with ⟨_, h3⟩ | ⟨h3, _⟩
    · exact wpAny_Name (wpAny_loadName_free ho.kind hl h1 ⟨ob, F.inv.le _ _ h2, h2'⟩ (P.imm F.inv h3 s.toks) hd2) hd
    · exact absurd h3 hi
theorem ev_int (i : Int) : EvOK b sc (.Constant (.int i) k pos) (eLit (.int i)) := by
  intro c A env Z oa s o σ d Q r he ho F hf P
  cases hf
  exact wpAny_Constant_int (P.imm F.inv (.int i _) _)
theorem ev_str (x : Str) : EvOK b sc (.Constant (.str x) k pos) (eLit (.str x)) := by
  intro c A env Z oa s o σ d Q r he ho F hf P
  cases hf
  exact wpAny_Constant_str (P.imm F.inv (.str x _) _)
theorem ev_bool (x : Bool) : EvOK b sc (.Constant (.bool x) k pos) (eLit (.bool x)) := by
  intro c A env Z oa s o σ d Q r he ho F hf P
  cases hf
  exact wpAny_Constant_bool (P.imm F.inv (.bool x) s.toks)

/-- two operands, one behind the other -/
noncomputable def eBin (g : PyData → PyData → Option PyData) (l r : Fe) : Fe := fun o σ => (l o σ).bind fun a => (r o σ).bind fun b => g a b
theorem eBin_some {g : PyData → PyData → Option PyData} {l r : Fe} {o : Nat} {σ : Sg} {d : PyData} (h : eBin g l r o σ = some d) : ∃ a b, l o σ = some a ∧ r o σ = some b ∧ g a b = some d := by
  unfold eBin at h
  cases hl : l o σ with
  | none => rw [hl] at h; cases h
  | some a =>
    rw [hl] at h
    cases hr : r o σ with
    | none => rw [hr] at h; cases h
    | some b => rw [hr] at h; exact ⟨a, b, rfl, rfl, h⟩

/-- one behind the other: the values of two expressions at hand -/
theorem two {l r : Expr} {f g : Fe} (hl : EvOK b sc l f) (hr : EvOK b sc r g) {c : Cx} {A : Around} {env : Env} {Z : Heap} {oa : Addr} {s : Shared} {o : Nat} {σ : Sg} {x y : PyData} {Q : Value → Value → Shared → Prop}
    (rm : Room b A) (he : env.scope = sc) (ho : EnvOK env) (F : Fm c Z s.heap env σ o oa) (hf : f o σ = some x) (hg : g o σ = some y)
    (h : ∀ v u Z' h' tk', Inv c Z' h' → Gr s.heap Z Z' → Ext s.heap h' → Rep Z' v x → Rep Z' u y → Q v u { s with heap := h', toks := tk' }) :
    wpAny (model prog c.w) A (eval l env) (fun v s₁ => wpAny (model prog c.w) A (eval r env) (fun u s₂ => Q v u s₂) noE s₁) noE s := by
  refine hl c A env Z oa s o σ x _ rm he ho F hf fun v Z1 h1 t1 I1 g1 x1 r1 => ?_
  refine hr c A env Z1 oa _ o σ y _ rm he ho (F.ext I1 g1 x1) hg fun u Z2 h2 t2 I2 g2 x2 r2 => ?_
  exact h v u Z2 h2 t2 I2 (g1.trans x1 g2 I2.noTab) (x1.trans x2) (r1.le g2.1) r2

noncomputable def BinOK (op : Operator) (g : PyData → PyData → Option PyData) : Prop :=
  ∀ (c : Cx) (A : Around) (Z : Heap) (s : Shared) (v u : Value) (x y d : PyData) (Q : Value → Shared → Prop), Room 0 A → Inv c Z s.heap → Rep Z v x → Rep Z u y → g x y = some d → PostE c Z s d Q →
    wpAny (model prog c.w) A (binaryOp op v u) Q noE s
theorem ev_bin {l r : Expr} {f g : Fe} {op : Operator} {φ : PyData → PyData → Option PyData} (hop : BinOK op φ) (hl : EvOK b sc l f) (hr : EvOK b sc r g) : EvOK b sc (.BinOp l op r pos) (eBin φ f g) := by
  intro c A env Z oa s o σ d Q rm he ho F hf P
  obtain ⟨x, y, h1, h2, h3⟩ := eBin_some hf
  refine wpAny_BinOp (two hl hr rm he ho F h1 h2 fun v u Z' h' tk' I g' x' r1 r2 => ?_)
  exact hop c A Z' _ v u x y d Q (rm.mono (Nat.zero_le _)) I r1 r2 h3 (P.after I g' x')
end expr
end Hf
end

section
open PySem PySem.W PyProof.Rows PySem.Calls PySem.Spec
namespace Hf
set_option autoImplicit false
set_option linter.unusedSectionVars false
variable [TheW]

noncomputable def lenOK (n : Nat) : Bool := Nat.ble n 1000000
theorem lenOK_le {n : Nat} (h : lenOK n = true) : n ≤ sizeLine := by
  have h1 := Nat.le_of_ble_eq_true h
  have : sizeLine = 16777216 := rfl
  omega

noncomputable def addD : PyData → PyData → Option PyData
  | .int a, .int b => some (.int (a + b))
  | .list a, .list b => if lenOK (a.length + b.length) then some (.list (a ++ b)) else none
  | _, _ => none
theorem add_ok : BinOK .Add addD := by
  intro c A Z s v u x y d Q rm I r1 r2 h P
  unfold addD at h
  split at h
  · cases h
    obtain ⟨t, rfl⟩ := r1.int_inv
    obtain ⟨t', rfl⟩ := r2.int_inv
    exact add_int (P.imm I (.int _ _) _)
  · rename_i xs ys
    split at h
    · rename_i hsz
      cases h
      obtain ⟨l, ⟨cls, dd, data, sl⟩, vs, n, rfl, e1, hc, hd, q1⟩ := r1.list_inv
      obtain ⟨m, ⟨cls2, dd2, data2, sl2⟩, ws, n2, rfl, e2, hc2, hd2, q2⟩ := r2.list_inv
      simp only at hc hd hc2 hd2
      subst hc hd hc2 hd2
      have z1 := q1.length
      have z2 := q2.length
      have ho := I.le _ _ e1
      have ho2 := I.le _ _ e2
      have hs : vs.size + ws.size ≤ sizeLine := by
        have := lenOK_le hsz
        rw [← z1, ← z2, Array.length_toList, Array.length_toList] at this
        exact this
      refine concat_meets ⟨_, ho, rfl⟩ ⟨_, ho2, rfl⟩ noFill_list_add seq_list_add PySem.F.slot_list_add PySem.F.entry_list_add (PySem.F.args_list_add_2 _ _) (list_addW l m vs ws n n2 dd dd2 sl sl2 hs) ⟨ho, ho2, ?_⟩
      refine P.newV I (push_le _ _) (Heap.get?_push_size _ rfl) (get_new _) (fun ps q => by cases q) (fun Z' k e => ?_) s.toks
      exact .list_of e rfl rfl (by rw [Array.toList_append]; exact (q1.le k).append (q2.le k))
    · cases h
  · cases h

noncomputable def subD : PyData → PyData → Option PyData
  | .int a, .int b => some (.int (a - b))
  | _, _ => none
theorem sub_ok : BinOK .Sub subD := by
  intro c A Z s v u x y d Q rm I r1 r2 h P
  unfold subD at h
  split at h
  · cases h
    obtain ⟨t, rfl⟩ := r1.int_inv
    obtain ⟨t', rfl⟩ := r2.int_inv
    exact sub_int (P.imm I (.int _ _) _)
  · cases h
noncomputable def smallI (a : Int) : Bool := Nat.ble a.natAbs 1000000
theorem smallI_le {a : Int} (h : smallI a = true) : a.natAbs ≤ 1000000 := Nat.le_of_ble_eq_true h
noncomputable def mulD : PyData → PyData → Option PyData
  | .int a, .int b => if smallI a && smallI b then some (.int (a * b)) else none
  | _, _ => none
theorem mul_ok : BinOK .Mult mulD := by
  intro c A Z s v u x y d Q rm I r1 r2 h P
  unfold mulD at h
  split at h
  · rename_i a b
    split at h
    · rename_i hs
      cases h
      rw [Bool.and_eq_true] at hs
      have h1 := smallI_le hs.1
      have h2 := smallI_le hs.2
      obtain ⟨t, rfl⟩ := r1.int_inv
      obtain ⟨t', rfl⟩ := r2.int_inv
      refine mul_int (P.imm I (.int _ _) _) ?_
      have h3 : Builtin.Int.intBits a ≤ 64 := intBits_le_64 (by omega) (by omega)
      unfold IntMulOk
      rw [decide_eq_false (by have : shortFactorBits = 64 := rfl; omega)]
      simp
    · cases h
  · cases h
noncomputable def fdivD : PyData → PyData → Option PyData
  | .int a, .int b => if b == 0 || !smallI b then none else some (.int (Int.fdiv a b))
  | _, _ => none
noncomputable def modD : PyData → PyData → Option PyData
  | .int a, .int b => if b == 0 then none else some (.int (Int.fmod a b))
  | _, _ => none
theorem mod_ok : BinOK .Mod modD := by
  intro c A Z s v u x y d Q rm I r1 r2 h P
  unfold modD at h
  split at h
  · rename_i a b
    split at h
    · cases h
    · rename_i hb
      cases h
      obtain ⟨t, rfl⟩ := r1.int_inv
      obtain ⟨t', rfl⟩ := r2.int_inv
      exact mod_int' (by simpa using hb) (P.imm I (.int _ _) _)
  · cases h
theorem Cx.noLim (c : Cx) {Z h : Heap} (I : Inv c Z h) : h.NoLimit := c.T.nolimit.keeps (I.gnd.trans I.le)
theorem fdiv_ok : BinOK .FloorDiv fdivD := by
  intro c A Z s v u x y d Q rm I r1 r2 h P
  unfold fdivD at h
  split at h
  · rename_i a b
    split at h
    · cases h
    · rename_i hb
      cases h
      obtain ⟨t, rfl⟩ := r1.int_inv
      obtain ⟨t', rfl⟩ := r2.int_inv
      simp only [Bool.or_eq_true, beq_iff_eq, Bool.not_eq_true', not_or, Bool.not_eq_false] at hb
      have h1 := smallI_le hb.2
      exact floordiv_int hb.1 (P.imm I (.int _ _) _) (.inl (PyProof.noPylong_small (by omega)))
  · cases h
noncomputable def powD : PyData → PyData → Option PyData
  | .int a, .int b => if smallI a && decide (0 ≤ b) && decide (b ≤ 1000) then some (.int (a ^ b.toNat)) else none
  | _, _ => none
theorem pow_ok : BinOK .Pow powD := by
  intro c A Z s v u x y d Q rm I r1 r2 h P
  unfold powD at h
  split at h
  · rename_i a b
    split at h
    · rename_i hs
      cases h
      simp only [Bool.and_eq_true, decide_eq_true_eq] at hs
      obtain ⟨⟨h1, h2⟩, h3⟩ := hs
      have h1 := smallI_le h1
      obtain ⟨t, rfl⟩ := r1.int_inv
      obtain ⟨t', rfl⟩ := r2.int_inv
      refine pow_int h2 ?_ (P.imm I (.int _ _) _)
      have h4 : Builtin.Int.intBits a ≤ 64 := intBits_le_64 (by omega) (by omega)
      have h5 : (Builtin.Int.intBits a : Int) * b ≤ 64 * b := Int.mul_le_mul_of_nonneg_right (by omega) h2
      omega
    · cases h
  · cases h

/-! comparisons -/
noncomputable def cmpD (op : CmpOp) (a b : PyData) : Option Bool := match op with
  | .Eq => if SeqAt.shaped a && SeqAt.shaped b then some (PyData.eqv a b) else none
  | .NotEq => if SeqAt.shaped a && SeqAt.shaped b then some (!PyData.eqv a b) else none
  | .Lt => (match a, b with | .int i, .int j => some (decide (i < j)) | _, _ => none)
  | .Gt => (match a, b with | .int i, .int j => some (decide (j < i)) | _, _ => none)
  | .GtE => (match a, b with | .int i, .int j => some (decide (j ≤ i)) | _, _ => none)
  | .In => (match b with
    | .list xs => if SeqAt.shaped a && SeqAt.shaped b then some (xs.any fun y => PyData.eqv y a) else none
    | .tuple xs => if SeqAt.shaped a && SeqAt.shaped b then some (xs.any fun y => PyData.eqv y a) else none
    | _ => none)
  | .NotIn => (match b with
    | .list xs => if SeqAt.shaped a && SeqAt.shaped b then some (!xs.any fun y => PyData.eqv y a) else none
    | _ => none)
  | _ => none
noncomputable def CmpOK (op : CmpOp) (g : PyData → PyData → Option Bool) : Prop :=
  ∀ (c : Cx) (A : Around) (Z : Heap) (s : Shared) (v u : Value) (x y : PyData) (d : Bool) (Q : Value → Shared → Prop), Room 0 A → Inv c Z s.heap → Rep Z v x → Rep Z u y → g x y = some d →
    (∀ tk, Q (.bool d) { s with toks := tk }) → wpAny (model prog c.w) A (compareOp op v u) Q noE s
theorem cmp_ok (op : CmpOp) : CmpOK op (cmpD op) := by
  intro c A Z s v u x y d Q rm I r1 r2 h P
  have hu := rm.units
  unfold cmpD at h
  split at h
  · split at h
    · rename_i q
      cases h
      rw [Bool.and_eq_true] at q
      obtain ⟨_, r1, _⟩ := r1.le I.le
      obtain ⟨_, r2, _⟩ := r2.le I.le
      exact eq_dataH r1 r2 q.1 q.2 (by omega) (P s.toks)
    · cases h
  · split at h
    · rename_i q
      cases h
      rw [Bool.and_eq_true] at q
      obtain ⟨_, r1, _⟩ := r1.le I.le
      obtain ⟨_, r2, _⟩ := r2.le I.le
      exact ne_dataH r1 r2 q.1 q.2 (by omega) (P s.toks)
    · cases h
  · split at h
    · cases h
      obtain ⟨t, rfl⟩ := r1.int_inv
      obtain ⟨t', rfl⟩ := r2.int_inv
      exact lt_int (P s.toks)
    · cases h
  · split at h
    · cases h
      obtain ⟨t, rfl⟩ := r1.int_inv
      obtain ⟨t', rfl⟩ := r2.int_inv
      exact gt_int (P s.toks)
    · cases h
  · split at h
    · cases h
      obtain ⟨t, rfl⟩ := r1.int_inv
      obtain ⟨t', rfl⟩ := r2.int_inv
      exact ge_int (P s.toks)
    · cases h
  · split at h
    · split at h
      · rename_i q
        cases h
        rw [Bool.and_eq_true] at q
        obtain ⟨_, r1, _⟩ := r1.le I.le
        obtain ⟨_, r2, _⟩ := r2.le I.le
        exact SeqAt.in_list_reads r2 r1 (SeqAt.canLay_of_shaped q.2) (SeqAt.canLay_of_shaped q.1) (room_in_shaped q.1 (by omega)) (P s.toks)
      · cases h
    · split at h
      · rename_i q
        cases h
        rw [Bool.and_eq_true] at q
        obtain ⟨_, r1, _⟩ := r1.le I.le
        obtain ⟨_, r2, _⟩ := r2.le I.le
        exact SeqAt.in_tuple_reads r2 r1 (SeqAt.canLay_of_shaped q.2) (SeqAt.canLay_of_shaped q.1) (room_in_shaped q.1 (by omega)) (P s.toks)
      · cases h
    · cases h
  · split at h
    · split at h
      · rename_i q
        cases h
        rw [Bool.and_eq_true] at q
        obtain ⟨_, r1, _⟩ := r1.le I.le
        obtain ⟨_, r2, _⟩ := r2.le I.le
        exact SeqAt.notIn_list_reads r2 r1 (SeqAt.canLay_of_shaped q.2) (SeqAt.canLay_of_shaped q.1) (room_in_shaped q.1 (by omega)) (P s.toks)
      · cases h
    · cases h
  · cases h

section cmp
variable {b : Nat} {sc : Scope} {pos : Pos} {l r : Expr} {f g : Fe} {op : CmpOp}
noncomputable def bCmp (φ : PyData → PyData → Option Bool) (f g : Fe) : Fb := fun o σ => (f o σ).bind fun x => (g o σ).bind fun y => φ x y
theorem bCmp_some {φ : PyData → PyData → Option Bool} {l r : Fe} {o : Nat} {σ : Sg} {d : Bool} (h : bCmp φ l r o σ = some d) : ∃ a b, l o σ = some a ∧ r o σ = some b ∧ φ a b = some d := by
  unfold bCmp at h
  cases hl : l o σ with
  | none => rw [hl] at h; cases h
  | some a =>
    rw [hl] at h
    cases hr : r o σ with
    | none => rw [hr] at h; cases h
    | some b => rw [hr] at h; exact ⟨a, b, rfl, rfl, h⟩
noncomputable def eOfB (t : Fb) : Fe := fun o σ => (t o σ).map .bool
/-- a comparison as a value -/
theorem ev_cmp {φ : PyData → PyData → Option Bool} (hop : CmpOK op φ) (hl : EvOK b sc l f) (hr : EvOK b sc r g) (hm : behindInMarks op r = false) : EvOK b sc (.Compare l [op] [r] pos) (eOfB (bCmp φ f g)) := by
  intro c A env Z oa s o σ d Q rm he ho F hf P
  unfold eOfB at hf
  obtain ⟨t, ht, rfl⟩ := Option.map_eq_some_iff.mp hf
  obtain ⟨x, y, h1, h2, h3⟩ := bCmp_some ht
  refine wpAny_Compare1 (two hl hr rm he ho F h1 h2 fun v u Z' h' tk' I g' x' r1 r2 => ?_) hm
  exact hop c A Z' _ v u x y t Q (rm.mono (Nat.zero_le _)) I r1 r2 h3 fun tk => P _ Z' h' tk I g' x' (.bool t)
/-- a comparison as a test -/
theorem ts_cmp {φ : PyData → PyData → Option Bool} (hop : CmpOK op φ) (hl : EvOK b sc l f) (hr : EvOK b sc r g) (hm : behindInMarks op r = false) : TsOK b sc (.Compare l [op] [r] pos) (bCmp φ f g) := by
  intro c A env Z oa s o σ d Q rm he ho F hf P
  obtain ⟨x, y, h1, h2, h3⟩ := bCmp_some hf
  refine wpAny_isTrue_Compare1 (two hl hr rm he ho F h1 h2 fun v u Z' h' tk' I g' x' r1 r2 => ?_) hm
  exact hop c A Z' _ v u x y d _ (rm.mono (Nat.zero_le _)) I r1 r2 h3 fun tk => wpAny_truthy_bool (P Z' h' tk I g' x')

/-- and, or -/
noncomputable def AllOK (b : Nat) (sc : Scope) (bo : BoolOp) (es : List Expr) (f : Fb) : Prop :=
  ∀ (c : Cx) (A : Around) (env : Env) (Z : Heap) (oa : Addr) (s : Shared) (o : Nat) (σ : Sg) (d : Bool) (Q : Bool → Shared → Prop),
    Room b A → env.scope = sc → EnvOK env → Fm c Z s.heap env σ o oa → f o σ = some d →
    (∀ Z' h' tk', Inv c Z' h' → Gr s.heap Z Z' → Ext s.heap h' → Q d { s with heap := h', toks := tk' }) → wpAny (model prog c.w) A (allTrue bo es env) Q noE s
noncomputable def bLit (x : Bool) : Fb := fun _ _ => some x
noncomputable def bAnd (f g : Fb) : Fb := fun o σ => (f o σ).bind fun x => if x then g o σ else some false
noncomputable def bOr (f g : Fb) : Fb := fun o σ => (f o σ).bind fun x => if x then some true else g o σ
theorem all_nil_and : AllOK b sc .And [] (bLit true) := by
  intro c A env Z oa s o σ d Q rm he ho F hf P
  cases hf
  exact wpAny_allTrue_And_nil (P Z s.heap s.toks F.inv (Gr.refl _ _) (Ext.refl _))
theorem all_nil_or : AllOK b sc .Or [] (bLit false) := by
  intro c A env Z oa s o σ d Q rm he ho F hf P
  cases hf
  exact wpAny_allTrue_Or_nil (P Z s.heap s.toks F.inv (Gr.refl _ _) (Ext.refl _))
theorem all_and {e : Expr} {es : List Expr} {f g : Fb} (h1 : TsOK b sc e f) (h2 : AllOK b sc .And es g) : AllOK b sc .And (e :: es) (bAnd f g) := by
  intro c A env Z oa s o σ d Q rm he ho F hf P
  unfold bAnd at hf
  cases hx : f o σ with
  | none => rw [hx] at hf; cases hf
  | some x =>
    rw [hx] at hf
    refine wpAny_allTrue_And_cons (h1 c A env Z oa s o σ x _ rm he ho F hx fun Z1 h1' t1 I1 g1 x1 => ?_)
    cases x with
    | true =>
      simp only [if_true]
      exact h2 c A env Z1 oa _ o σ d Q rm he ho (F.ext I1 g1 x1) hf fun Z2 h2' t2 I2 g2 x2 => P Z2 h2' t2 I2 (g1.trans x1 g2 I2.noTab) (x1.trans x2)
    | false =>
      cases hf
      exact P Z1 h1' t1 I1 g1 x1
theorem all_or {e : Expr} {es : List Expr} {f g : Fb} (h1 : TsOK b sc e f) (h2 : AllOK b sc .Or es g) : AllOK b sc .Or (e :: es) (bOr f g) := by
  intro c A env Z oa s o σ d Q rm he ho F hf P
  unfold bOr at hf
  cases hx : f o σ with
  | none => rw [hx] at hf; cases hf
  | some x =>
    rw [hx] at hf
    refine wpAny_allTrue_Or_cons (h1 c A env Z oa s o σ x _ rm he ho F hx fun Z1 h1' t1 I1 g1 x1 => ?_)
    cases x with
    | false =>
      simp only [Bool.false_eq_true, if_false]
      exact h2 c A env Z1 oa _ o σ d Q rm he ho (F.ext I1 g1 x1) hf fun Z2 h2' t2 I2 g2 x2 => P Z2 h2' t2 I2 (g1.trans x1 g2 I2.noTab) (x1.trans x2)
    | true =>
      cases hf
      exact P Z1 h1' t1 I1 g1 x1
theorem ts_bool {bo : BoolOp} {es : List Expr} {f : Fb} (h : AllOK b sc bo es f) : TsOK b sc (.BoolOp bo es pos) f := by
  intro c A env Z oa s o σ d Q rm he ho F hf P
  exact wpAny_isTrue_BoolOp (h c A env Z oa s o σ d Q rm he ho F hf P)
end cmp
end Hf
end

section
open PySem PySem.W PyProof.Rows PySem.Calls PySem.Spec
namespace Hf
set_option autoImplicit false
set_option linter.unusedSectionVars false
variable [TheW]

/-! lists of expressions -/
noncomputable def EvsOK (b : Nat) (sc : Scope) (es : List Expr) (f : Fl) : Prop :=
  ∀ (c : Cx) (A : Around) (env : Env) (Z : Heap) (oa : Addr) (s : Shared) (o : Nat) (σ : Sg) (ds : List PyData) (pos : Pos) (Q : List Value → Shared → Prop),
    Room b A → env.scope = sc → EnvOK env → Fm c Z s.heap env σ o oa → f o σ = some ds →
    (∀ vs Z' h' tk', Inv c Z' h' → Gr s.heap Z Z' → Ext s.heap h' → RepA Z' vs ds → Q vs { s with heap := h', toks := tk' }) →
    wpAny (model prog c.w) A (spliced (backTo pos (starEach es env))) Q noE s
noncomputable def lNil : Fl := fun _ _ => some []
noncomputable def lCons (f : Fe) (g : Fl) : Fl := fun o σ => (f o σ).bind fun x => (g o σ).bind fun xs => some (x :: xs)
theorem lCons_some {f : Fe} {g : Fl} {o : Nat} {σ : Sg} {ds : List PyData} (h : lCons f g o σ = some ds) : ∃ x xs, f o σ = some x ∧ g o σ = some xs ∧ ds = x :: xs := by
  unfold lCons at h
  cases hl : f o σ with
  | none => rw [hl] at h; cases h
  | some a =>
    rw [hl] at h
    cases hr : g o σ with
    | none => rw [hr] at h; cases h
    | some b => rw [hr] at h; cases h; exact ⟨a, b, rfl, rfl, rfl⟩

section
variable {b : Nat} {sc : Scope} {pos : Pos} {k : Nat}
theorem evs_nil : EvsOK b sc [] lNil := by
  intro c A env Z oa s o σ ds pos Q rm he ho F hf P
  cases hf
  exact args_nil (P [] Z s.heap s.toks F.inv (Gr.refl _ _) (Ext.refl _) .nil)
theorem evs_cons {e : Expr} {es : List Expr} {f : Fe} {g : Fl} (h1 : EvOK b sc e f) (h2 : EvsOK b sc es g) (hs : ∀ env, starEach (e :: es) env = (false, eval e env) :: starEach es env) : EvsOK b sc (e :: es) (lCons f g) := by
  intro c A env Z oa s o σ ds pos Q rm he ho F hf P
  obtain ⟨x, xs, q1, q2, rfl⟩ := lCons_some hf
  refine args_cons (h1 c A env Z oa s o σ x _ rm he ho F q1 fun v Z1 h1' t1 I1 g1 x1 r1 => ?_) (hs env)
  refine h2 c A env Z1 oa _ o σ xs pos _ rm he ho (F.ext I1 g1 x1) q2 fun vs Z2 h2' t2 I2 g2 x2 r2 => ?_
  exact P (v :: vs) Z2 h2' t2 I2 (g1.trans x1 g2 I2.noTab) (x1.trans x2) (.cons (r1.le g2.1) r2)

noncomputable def eTup (f : Fl) : Fe := fun o σ => (f o σ).bind fun ds => if lenOK ds.length then some (.tuple ds) else none
theorem ev_tup {es : List Expr} {f : Fl} (h : EvsOK b sc es f) : EvOK b sc (.Tuple es k pos) (eTup f) := by
  intro c A env Z oa s o σ d Q rm he ho F hf P
  unfold eTup at hf
  obtain ⟨ds, h1, h2⟩ := Option.bind_eq_some_iff.mp hf
  split at h2
  · rename_i hsz
    cases h2
    refine wpAny_Tuple (h c A env Z oa s o σ ds pos _ rm he ho F h1 fun vs Z' h' tk' I g x r => ⟨by rw [r.length]; exact lenOK_le hsz, ?_⟩)
    exact (P.after I g x).newV I (push_le _ _) (Heap.get?_push_size _ rfl) (get_new _) (fun ps q => by cases q) (fun Z'' k e => .tuple_of e rfl rfl (r.le k)) tk'
  · cases h2

/-! a fresh list or dict -/
noncomputable def PostN (c : Cx) (Z : Heap) (s : Shared) (d : PyData) (Q : Value → Shared → Prop) : Prop :=
  ∀ a Z' h' tk', Inv c Z' h' → Gr s.heap Z Z' → Ext s.heap h' → s.heap.get? a = none → Z'.get? a = none → OwnAt Z' h' a d → Q (.ref a) { s with heap := h', toks := tk' }
noncomputable def EvN (b : Nat) (sc : Scope) (e : Expr) (f : Fe) : Prop :=
  ∀ (c : Cx) (A : Around) (env : Env) (Z : Heap) (oa : Addr) (s : Shared) (o : Nat) (σ : Sg) (d : PyData) (Q : Value → Shared → Prop),
    Room b A → env.scope = sc → EnvOK env → Fm c Z s.heap env σ o oa → f o σ = some d → PostN c Z s d Q → wpAny (model prog c.w) A (eval e env) Q noE s
/-- an own object, frozen -/
theorem OwnAt.freeze {c : Cx} {Z h : Heap} {a : Addr} {d : PyData} (I : Inv c Z h) (x : OwnAt Z h a d) (hz : Z.get? a = none) :
    ∃ Z', Inv c Z' h ∧ Le Z Z' ∧ Rep Z' (.ref a) d ∧ ∀ b, b ≠ a → Z'.get? b = Z.get? b := by
  rcases x with ⟨xs, vs, rfl, ⟨ob, n, e, hc, _, hd⟩, r⟩ | ⟨kvs, ys, rfl, hs, ⟨ob, es, ep, e, hx, hd, hr⟩, r1, r2⟩
  · obtain ⟨Z', h1, h2, h3, h4⟩ := I.put e hz (fun ps q => by rw [q] at hd; cases hd)
    exact ⟨Z', h1, h2, .list_of h3 hc hd (r.le h2), h4⟩
  · obtain ⟨Z', h1, h2, h3, h4⟩ := I.put e hz (fun ps q => by rw [q] at hd; cases hd)
    exact ⟨Z', h1, h2, .dict_of hs ⟨ob, es, ep, h3, hx, hd, hr.1, fun y hy => is_le h2 (hr.2.1 y hy), hr.2.2⟩ (r1.le h2) (r2.le h2), h4⟩
theorem EvN.ev {e : Expr} {f : Fe} (h : EvN b sc e f) : EvOK b sc e f := by
  intro c A env Z oa s o σ d Q rm he ho F hf P
  refine h c A env Z oa s o σ d _ rm he ho F hf fun a Z' h' tk' I g x hn hz w => ?_
  obtain ⟨Z'', h1, h2, h3, h4⟩ := w.freeze I hz
  refine P _ Z'' h' tk' h1 ⟨g.1.trans h2, fun b ob o' hb hq => ?_⟩ x h3
  by_cases hba : b = a
  · subst hba; rw [hn] at hb; cases hb
  · rw [h4 b hba] at hq; exact g.2 b ob o' hb hq

noncomputable def eLst (f : Fl) : Fe := fun o σ => (f o σ).bind fun ds => if lenOK ds.length then some (.list ds) else none
theorem evn_lst {es : List Expr} {f : Fl} (h : EvsOK b sc es f) : EvN b sc (.List es pos) (eLst f) := by
  intro c A env Z oa s o σ d Q rm he ho F hf P
  unfold eLst at hf
  obtain ⟨ds, h1, h2⟩ := Option.bind_eq_some_iff.mp hf
  split at h2
  · rename_i hsz
    cases h2
    refine wpAny_List (h c A env Z oa s o σ ds pos _ rm he ho F h1 fun vs Z' h' tk' I g x r => ⟨by rw [r.length]; exact lenOK_le hsz, ?_⟩)
    have hn : s.heap.get? h'.objs.size = none := by
      cases q : s.heap.get? h'.objs.size with
      | none => rfl
      | some ob =>
        have nt : h'.objs.size ≠ 16 ∧ h'.objs.size ≠ 23 := by
          obtain ⟨ps, e1⟩ := I.tab16
          obtain ⟨ps', e2⟩ := I.tab23
          exact ⟨Nat.ne_of_gt (Heap.lt_size e1), Nat.ne_of_gt (Heap.lt_size e2)⟩
        exact absurd (Heap.lt_size (x _ _ nt.1 nt.2 q)) (Nat.lt_irrefl _)
    exact P _ Z' _ tk' (I.keep (push_le _ _)) g (x.trans (Ext.of_le (push_le _ _))) hn (I.noZ (get_new _)) (.inl ⟨ds, vs.toArray, rfl, ⟨_, 0, Heap.get?_push_size _ rfl, rfl, rfl, rfl⟩, r⟩)
  · cases h2
theorem ev_lst {es : List Expr} {f : Fl} (h : EvsOK b sc es f) : EvOK b sc (.List es pos) (eLst f) := (evn_lst h).ev
theorem evn_dict0 : EvN b sc (.Dict [] [] pos) (eLit (.dict [])) := by
  intro c A env Z oa s o σ d Q rm he ho F hf P
  cases hf
  exact wpAny_Dict_empty (P _ Z _ s.toks (F.inv.keep (push_le _ _)) (Gr.refl _ _) (Ext.of_le (push_le _ _)) (get_new _) (F.inv.noZ (get_new _)) (.inr ⟨[], [], rfl, beq_eq_false_iff_ne.mpr (by obtain ⟨ps, e⟩ := F.inv.tab16; exact fun q => absurd (Heap.lt_size e) (by rw [q]; decide)), ⟨_, #[], 0, Heap.get?_push_size _ rfl, ⟨rfl, rfl, rfl⟩, rfl, rfl, by simp, by simp⟩, .nil, .nil⟩))
theorem ev_dict0 : EvOK b sc (.Dict [] [] pos) (eLit (.dict [])) := evn_dict0.ev

/-! calls of the text's own defs -/
noncomputable def GlobF (x : Str) (fa : Addr) : Prop := ∀ P, nsIn (hfHead.heap_39 P) mainGlobals x = some (some (.ref fa))
noncomputable def FnObj (fa : Addr) : Prop := ∀ P, ∃ o fd, (hfHead.heap_39 P).lookup fa = some o ∧ o.data = .func fd
noncomputable def FnOK (b : Nat) (fa : Addr) (f : List PyData → Option PyData) : Prop :=
  ∀ (c : Cx) (A : Around) (Z : Heap) (s : Shared) (vs : List Value) (ds : List PyData) (d : PyData) (Q : Value → Shared → Prop),
    Room b A → Inv c Z s.heap → RepA Z vs ds → f ds = some d → PostE c Z s d Q → wpAny (model prog c.w) A (call (.ref fa) vs) Q noE s
theorem FnOK.mono {a b : Nat} {fa : Addr} {f : List PyData → Option PyData} (x : FnOK a fa f) (h : a ≤ b) : FnOK b fa f := fun c A Z s vs ds d Q r => x c A Z s vs ds d Q (r.mono h)
theorem Inv.kin {c : Cx} {Z h : Heap} (I : Inv c Z h) : (hfHead.heap_39 c.w.params).In h := c.X.keeps (I.gnd.trans I.le)
theorem name_glob {x : Str} {v : Value} (hg : ∀ P, nsIn (hfHead.heap_39 P) mainGlobals x = some (some v)) (hx : sc.names.lookup x = some .globalImplicit) (hd : (x == ("__debug__" : Str)) = false)
    {c : Cx} {A : Around} {env : Env} {Z : Heap} {s : Shared} {Q : Value → Shared → Prop} (I : Inv c Z s.heap) (he : env.scope = sc) (ho : EnvOK env) (h : Q v s) : wpAny (model prog c.w) A (eval (.Name x pos) env) Q noE s := by
  subst he
  refine Name_function_global ho.kind hx (loadGlobal_global (mg := c.mg) ?_ (mg_of c.X c.T.g (hg _)) h) hd
  rw [ho.globals]
  exact c.T.g.keeps (I.gnd.trans I.le)
theorem name_boot {x : Str} {v : Value} (hg : ∀ P, nsIn (hfHead.heap_39 P) mainGlobals x = some none) (hv : bootBuiltins x = some v) (hn : x ≠ "__name__") (hx : sc.names.lookup x = some .globalImplicit) (hd : (x == ("__debug__" : Str)) = false)
    {c : Cx} {A : Around} {env : Env} {Z : Heap} {s : Shared} {Q : Value → Shared → Prop} (I : Inv c Z s.heap) (he : env.scope = sc) (ho : EnvOK env) (h : Q v s) : wpAny (model prog c.w) A (eval (.Name x pos) env) Q noE s := by
  subst he
  refine Name_function_global ho.kind hx (loadGlobal_builtin (mg := c.mg) (mb := c.mb) ?_ (mg_none_of c.X c.T.g (hg _)) ?_ ((c.T.builtins x hn).trans hv) h) hd
  · rw [ho.globals]
    exact c.T.g.keeps (I.gnd.trans I.le)
  · rw [ho.builtins]
    exact c.T.b.keeps (I.gnd.trans I.le)

noncomputable def eCall (F : List PyData → Option PyData) (f : Fl) : Fe := fun o σ => (f o σ).bind F
theorem ev_call {x : Str} {np : Pos} {fa : Addr} {F : List PyData → Option PyData} {e : Expr} {es : List Expr} {f : Fl} (hf : FnOK b fa F) (hg : GlobF x fa) (hfo : FnObj fa) (hx : sc.names.lookup x = some .globalImplicit)
    (hd : (x == ("__debug__" : Str)) = false) (ha : EvsOK b sc (e :: es) f) (hs : ∀ env, starEach (e :: es) env = (false, eval e env) :: starEach es env) :
    EvOK b sc (.Call (.Name x np) (e :: es) [] pos) (eCall F f) := by
  intro c A env Z oa s o σ d Q rm he ho Fr hv P
  unfold eCall at hv
  obtain ⟨ds, h1, h2⟩ := Option.bind_eq_some_iff.mp hv
  refine wpAny_Call_ofName (name_glob hg hx hd Fr.inv he ho ?_)
  obtain ⟨ob, fd, l1, l2⟩ := hfo c.w.params
  show wpAny _ A (callWith pos (.ref fa) [] (backTo pos (starEach (e :: es) env)) []) _ _ _
  refine callWith_def l2 (ha c A env Z oa s o σ ds pos _ rm he ho Fr h1 fun vs Z' h' tk' I g x r => ⟨I.kin _ _ l1, ?_⟩) (hs env)
  exact hf c A Z' _ vs ds d Q rm I r h2 (P.after I g x)

/-! calls of built-ins -/
noncomputable def BiOK (b : Nat) (id : String) (f : List PyData → Option PyData) : Prop :=
  ∀ (c : Cx) (A : Around) (Z : Heap) (s : Shared) (vs : List Value) (ds : List PyData) (d : PyData) (Q : Value → Shared → Prop),
    Room b A → Inv c Z s.heap → RepA Z vs ds → f ds = some d → PostE c Z s d Q → wpAny (model prog c.w) A (call (.builtin id) vs) Q noE s
theorem BiOK.mono {a b : Nat} {id : String} {f : List PyData → Option PyData} (x : BiOK a id f) (h : a ≤ b) : BiOK b id f := fun c A Z s vs ds d Q r => x c A Z s vs ds d Q (r.mono h)
theorem ev_bi {x : Str} {np : Pos} {id : String} {F : List PyData → Option PyData} {e : Expr} {es : List Expr} {f : Fl} (hf : BiOK b id F) (hg : ∀ P, nsIn (hfHead.heap_39 P) mainGlobals x = some none) (hv : bootBuiltins x = some (.builtin id)) (hn : x ≠ "__name__")
    (hx : sc.names.lookup x = some .globalImplicit)
    (hd : (x == ("__debug__" : Str)) = false) (ha : EvsOK b sc (e :: es) f) (hs : ∀ env, starEach (e :: es) env = (false, eval e env) :: starEach es env) (hp : ∀ env, (backTo pos (starEach es env)).any (·.1) = false) :
    EvOK b sc (.Call (.Name x np) (e :: es) [] pos) (eCall F f) := by
  intro c A env Z oa s o σ d Q rm he ho Fr hv' P
  unfold eCall at hv'
  obtain ⟨ds, h1, h2⟩ := Option.bind_eq_some_iff.mp hv'
  refine wpAny_Call_ofName (name_boot hg hv hn hx hd Fr.inv he ho ?_)
  show wpAny _ A (callWith pos (.builtin id) [] (backTo pos (starEach (e :: es) env)) []) _ _ _
  refine callWith_builtin1 (ha c A env Z oa s o σ ds pos _ rm he ho Fr h1 fun vs Z' h' tk' I g x r => ?_) (hs env) (hp env)
  exact hf c A Z' _ vs ds d Q rm I r h2 (P.after I g x)

noncomputable def lenD : List PyData → Option PyData
  | [.list xs] => if lenOK xs.length then some (.int xs.length) else none
  | _ => none
theorem len_ok : BiOK 0 "len" lenD := by
  intro c A Z s vs ds d Q rm I r h P
  unfold lenD at h
  split at h
  · rename_i xs
    split at h
    · rename_i hsz
      cases h
      obtain ⟨v, rfl⟩ : ∃ v, vs = [v] := by
        have := r.length
        match vs, this with
        | [v], _ => exact ⟨v, rfl⟩
      obtain ⟨a, ob, ws, n, rfl, e, hc, hd, q⟩ := r.cons_inv.1.list_inv
      have hl : ws.size = xs.length := by rw [← q.length, Array.length_toList]
      have hs := lenOK_le hsz
      have : sizeLine = 16777216 := rfl
      refine call_len_list ⟨ob, I.le _ _ e, hc, n, hd⟩ (by omega) ?_
      rw [hl]
      exact P.imm I (.int _ _) _
    · cases h
  · cases h
noncomputable def maxD : List PyData → Option PyData
  | [.int a, .int b] => some (.int (if b > a then b else a))
  | _ => none
theorem max_ok : BiOK 0 "max" maxD := by
  intro c A Z s vs ds d Q rm I r h P
  unfold maxD at h
  split at h
  · rename_i x y
    cases h
    obtain ⟨v, u, rfl⟩ : ∃ v u, vs = [v, u] := by
      have := r.length
      match vs, this with
      | [v, u], _ => exact ⟨v, u, rfl⟩
    obtain ⟨t, rfl⟩ := r.cons_inv.1.int_inv
    obtain ⟨t', rfl⟩ := r.cons_inv.2.cons_inv.1.int_inv
    refine max_two_ints rm.1 fun h' tk hk => ?_
    refine P.keepH I hk ?_ tk
    split <;> exact .int _ _
  · cases h

/-! subscripts -/
noncomputable def subD' (a b : PyData) : Option PyData := match a, b with
  | .list xs, .int i => if decide (0 ≤ i) && smallI i then xs[i.toNat]? else none
  | .tuple xs, .int i => if decide (0 ≤ i) && smallI i then xs[i.toNat]? else none
  | _, _ => none
noncomputable def notSlice : Expr → Bool
  | .Slice .. => false
  | _ => true
theorem subscripted_plain {slice : Expr} (h : notSlice slice = true) (o i : Value) : subscripted slice false o i = operate [o, i] (getItem o i) := by
  cases slice <;> first | rfl | cases h
theorem ev_sub {v i : Expr} {f g : Fe} (h1 : EvOK b sc v f) (h2 : EvOK b sc i g) (hn : notSlice i = true) : EvOK b sc (.Subscript v i pos) (eBin subD' f g) := by
  intro c A env Z oa s o σ d Q rm he ho F hf P
  obtain ⟨x, y, q1, q2, q3⟩ := eBin_some hf
  refine Subscript_ (two h1 h2 rm he ho F q1 q2 fun a k Z' h' tk' I g' x' r1 r2 => ?_)
  have P' := P.after (tk := tk') I g' x'
  unfold subD' at q3
  split at q3
  · rename_i xs j
    split at q3
    · rename_i hj
      rw [Bool.and_eq_true, decide_eq_true_eq] at hj
      have hs := smallI_le hj.2
      obtain ⟨t, rfl⟩ := r2.int_inv
      obtain ⟨a, ob, ws, n, rfl, e, hc, hd, q⟩ := r1.list_inv
      obtain ⟨w, e1, e2⟩ := q.get q3
      have hl : h'.IsList a ws := ⟨ob, I.le _ _ e, hc, n, hd⟩
      exact tail_any hl.typeIs slot_list_getitem.lookup (wpAny_getItem_list hl hj.1 (by omega) (by simpa using e1) (P'.imm I e2 tk')) (subscripted_plain hn _ _)
    · cases q3
  · rename_i xs j
    split at q3
    · rename_i hj
      rw [Bool.and_eq_true, decide_eq_true_eq] at hj
      have hs := smallI_le hj.2
      obtain ⟨t, rfl⟩ := r2.int_inv
      obtain ⟨a, ob, ws, n, rfl, e, hc, hd, q⟩ := r1.tuple_inv
      obtain ⟨w, e1, e2⟩ := q.get q3
      have hlt : j.toNat < ws.size := by
        have := (List.getElem?_eq_some_iff.mp e1).1
        simpa using this
      have ht : IsTup h' a ws := ⟨ob, I.le _ _ e, hc, n, hd⟩
      refine item_tupleT (l := ws.toList) (j := j.toNat) (by simpa using ht) (by omega) (by omega) ?_ e1 (P'.imm I e2 tk') (subscripted_plain hn _ _)
      rw [Array.length_toList]
      unfold seqIndex?
      have h3 : ¬ j < 0 := by omega
      have h4 : j < (ws.size : Int) := by omega
      simp [h3, h4, hj.1]
    · cases q3
  · cases q3

noncomputable def takeD (a b : PyData) : Option PyData := match a, b with
  | .list xs, .int i => if decide (0 ≤ i) && smallI i && lenOK xs.length then some (.list (xs.take i.toNat)) else none
  | _, _ => none
theorem ev_take {v n : Expr} {f g : Fe} {p : Pos} (h1 : EvOK b sc v f) (h2 : EvOK b sc n g) : EvOK b sc (.Subscript v (.Slice none (some n) none p) pos) (eBin takeD f g) := by
  intro c A env Z oa s o σ d Q rm he ho F hf P
  obtain ⟨x, y, q1, q2, q3⟩ := eBin_some hf
  unfold takeD at q3
  split at q3
  · rename_i xs j
    split at q3
    · rename_i hj
      cases q3
      simp only [Bool.and_eq_true, decide_eq_true_eq] at hj
      obtain ⟨⟨hj0, hj1⟩, hj2⟩ := hj
      have hs := smallI_le hj1
      refine Subscript_ (h1 c A env Z oa s o σ _ _ rm he ho F q1 fun a Z1 h1' t1 I1 g1 x1 r1 => ?_)
      refine wpAny_Slice (wpAny_evalPart_none (wpAny_evalPart_some (h2 c A env Z1 oa _ o σ _ _ rm he ho (F.ext I1 g1 x1) q2 fun u Z2 h2' t2 I2 g2 x2 r2 => wpAny_evalPart_none ?_)))
      obtain ⟨t, rfl⟩ := r2.int_inv
      obtain ⟨a, ob, ws, n, rfl, e, hc, hd, q⟩ := (r1.le g2.1).list_inv
      have hl : h2'.IsList a ws := ⟨ob, I2.le _ _ e, hc, n, hd⟩
      have hl' : (h2'.push { cls := .type "slice", data := .fields #[Value.none, Value.int j t, Value.none] }).IsList a ws := ⟨ob, push_le _ _ _ _ (I2.le _ _ e), hc, n, hd⟩
      have hz : ws.size ≤ sizeLine := by
        have := lenOK_le hj2
        rw [← q.length, Array.length_toList] at this
        exact this
      refine tail_any (ops := [_, _]) hl'.typeIs slot_list_getitem.lookup (wpAny_getItem_list_slice hl' ⟨_, Heap.get?_push_size _ rfl, rfl, rfl⟩ .none (.int j t) .none (by simp) ?_ hz) rfl
      have ej : j = (j.toNat : Int) := by omega
      have ep : slicePick ws none (some j) none = (ws.toList.take j.toNat).toArray := by
        rw [ej, slicePick_upto' ws j.toNat]
        simp
        omega
      have P2 := (P.after (tk := t1) I1 g1 x1).after (tk := t2) I2 g2 x2
      have P3 := P2.after (h' := h2'.push { cls := .type "slice", data := .fields #[Value.none, Value.int j t, Value.none] }) (tk := t2) (I2.keep (push_le _ _)) (Gr.refl _ _) (Ext.of_le (push_le _ _))
      refine P3.newV (I2.keep (push_le _ _)) (push_le _ _) (Heap.get?_push_size _ rfl) (get_new _) (fun ps q => by cases q) (fun Z' k e' => ?_) t2
      refine .list_of e' rfl rfl ?_
      rw [ep]
      exact (q.take _).le k
    · cases q3
  · cases q3

noncomputable def revD (a : PyData) : Option PyData := match a with
  | .list xs => if lenOK xs.length then some (.list xs.reverse) else none
  | _ => none
noncomputable def eUn (g : PyData → Option PyData) (f : Fe) : Fe := fun o σ => (f o σ).bind g
theorem ev_rev {v : Expr} {f : Fe} {p p1 p2 : Pos} (h1 : EvOK b sc v f) : EvOK b sc (.Subscript v (.Slice none none (some (.UnaryOp .USub (.Constant (.int 1) k p1) p2)) p) pos) (eUn revD f) := by
  intro c A env Z oa s o σ d Q rm he ho F hf P
  unfold eUn at hf
  obtain ⟨x, q1, q3⟩ := Option.bind_eq_some_iff.mp hf
  unfold revD at q3
  split at q3
  · rename_i xs
    split at q3
    · rename_i hj
      cases q3
      refine Subscript_ (h1 c A env Z oa s o σ _ _ rm he ho F q1 fun a Z1 h1' t1 I1 g1 x1 r1 => ?_)
      refine wpAny_Slice (wpAny_evalPart_none (wpAny_evalPart_none (wpAny_evalPart_some (wpAny_UnaryOp (wpAny_Constant_int (neg_int ?_))))))
      obtain ⟨a, ob, ws, n, rfl, e, hc, hd, q⟩ := r1.list_inv
      have hl' : ∀ ob2, (h1'.push ob2).IsList a ws := fun ob2 => ⟨ob, push_le _ _ _ _ (I1.le _ _ e), hc, n, hd⟩
      have hz : ws.size ≤ sizeLine := by
        have := lenOK_le hj
        rw [← q.length, Array.length_toList] at this
        exact this
      refine tail_any (ops := [_, _]) (hl' _).typeIs slot_list_getitem.lookup (wpAny_getItem_list_slice (hl' _) ⟨_, Heap.get?_push_size _ rfl, rfl, rfl⟩ .none .none (.int (-1) _) (by simp) ?_ hz) rfl
      have P2 := P.after (tk := t1) I1 g1 x1
      have P3 := P2.after (h' := h1'.push { cls := .type "slice", data := .fields #[Value.none, Value.none, Value.int (-1) (t1 + 1)] }) (tk := t1 + 1 + 1) (I1.keep (push_le _ _)) (Gr.refl _ _) (Ext.of_le (push_le _ _))
      refine P3.newV (I1.keep (push_le _ _)) (push_le _ _) (Heap.get?_push_size _ rfl) (get_new _) (fun ps q => by cases q) (fun Z' k e' => ?_) _
      refine .list_of e' rfl rfl ?_
      rw [krv_pick]
      exact q.rev.le k
    · cases q3
  · cases q3
end
end Hf
end

section
open PySem PySem.W PyProof.Rows PySem.Calls PySem.Spec
namespace Hf
set_option autoImplicit false
set_option linter.unusedSectionVars false
variable [TheW]

/-- what a frame may turn -/
noncomputable def Mut (env : Env) (o : Nat) (oa : Addr) (b : Addr) : Prop := b = env.locals ∨ (∃ x, Mine env x b) ∨ (o ≠ 0 ∧ b = oa)
noncomputable def KeepF (env : Env) (o : Nat) (oa : Addr) (h h' : Heap) : Prop := ∀ b ob, ¬ Mut env o oa b → b ≠ 16 → b ≠ 23 → h.get? b = some ob → h'.get? b = some ob
noncomputable def GrF (o : Nat) (oa : Addr) (h Z Z' : Heap) : Prop := Le Z Z' ∧ ∀ b ob o', (o ≠ 0 → b ≠ oa) → h.get? b = some ob → Z'.get? b = some o' → Z.get? b = some o'
/-- the own object is the one it was, or new -/
noncomputable def OwnS (h : Heap) (o : Nat) (oa : Addr) (o' : Nat) (oa' : Addr) : Prop := o' ≠ 0 → (o ≠ 0 ∧ oa' = oa) ∨ h.get? oa' = none
theorem KeepF.of_ext {env : Env} {o : Nat} {oa : Addr} {h h' : Heap} (x : Ext h h') : KeepF env o oa h h' := fun b ob _ h1 h2 e => x b ob h1 h2 e
theorem KeepF.refl (env : Env) (o : Nat) (oa : Addr) (h : Heap) : KeepF env o oa h h := fun _ _ _ _ _ e => e
theorem GrF.of_gr {o : Nat} {oa : Addr} {h Z Z' : Heap} (x : Gr h Z Z') : GrF o oa h Z Z' := ⟨x.1, fun b ob o' _ e1 e2 => x.2 b ob o' e1 e2⟩
theorem GrF.refl (o : Nat) (oa : Addr) (h Z : Heap) : GrF o oa h Z Z := .of_gr (.refl _ _)
theorem OwnS.refl (h : Heap) (o : Nat) (oa : Addr) : OwnS h o oa o oa := fun e => .inl ⟨e, rfl⟩
theorem KeepF.trans {env : Env} {o o1 : Nat} {oa oa1 : Addr} {h h1 h2 : Heap} (x : KeepF env o oa h h1) (w : OwnS h o oa o1 oa1) (y : KeepF env o1 oa1 h1 h2) : KeepF env o oa h h2 := fun b ob hm n1 n2 e => by
  refine y b ob (fun hm' => ?_) n1 n2 (x b ob hm n1 n2 e)
  rcases hm' with q | q | ⟨q1, q2⟩
  · exact hm (.inl q)
  · exact hm (.inr (.inl q))
  · subst q2
    rcases w q1 with ⟨w1, w2⟩ | w2
    · exact hm (.inr (.inr ⟨w1, w2⟩))
    · rw [w2] at e; cases e
theorem OwnS.trans {env : Env} {o o1 o2 : Nat} {oa oa1 oa2 : Addr} {c : Cx} {Z1 h h1 : Heap} (I : Inv c Z1 h1) (k : KeepF env o oa h h1) (hL : ∃ ob, h1.get? env.locals = some ob) (hC : ∀ x a, Mine env x a → ∃ ob, h1.get? a = some ob) (hO : o ≠ 0 → ∃ ob, h1.get? oa = some ob)
    (x : OwnS h o oa o1 oa1) (y : OwnS h1 o1 oa1 o2 oa2) : OwnS h o oa o2 oa2 := fun e => by
  rcases y e with ⟨q1, q2⟩ | q
  · rw [q2]; exact x q1
  · right
    cases q' : h.get? oa2 with
    | none => rfl
    | some ob =>
      by_cases n1 : oa2 = 16
      · obtain ⟨ps, e1⟩ := I.tab16; rw [n1, e1] at q; cases q
      by_cases n2 : oa2 = 23
      · obtain ⟨ps, e1⟩ := I.tab23; rw [n2, e1] at q; cases q
      by_cases hm : Mut env o oa oa2
      · rcases hm with r | ⟨r, r1⟩ | ⟨r1, r2⟩
        · obtain ⟨ob', e'⟩ := hL; rw [r, e'] at q; cases q
        · obtain ⟨ob', e'⟩ := hC r _ r1; rw [e'] at q; cases q
        · obtain ⟨ob', e'⟩ := hO r1; rw [r2, e'] at q; cases q
      · rw [k _ _ hm n1 n2 q'] at q; cases q
theorem GrF.trans {env : Env} {o o1 : Nat} {oa oa1 : Addr} {c : Cx} {h h1 Z Z1 Z2 h2 : Heap} (I : Inv c Z2 h2) (k : KeepF env o oa h h1) (w : OwnS h o oa o1 oa1)
    (hL : Z2.get? env.locals = none) (hC : ∀ x a, Mine env x a → Z2.get? a = none) (x : GrF o oa h Z Z1) (y : GrF o1 oa1 h1 Z1 Z2) : GrF o oa h Z Z2 :=
  ⟨x.1.trans y.1, fun b ob o' hb e1 e2 => by
    by_cases n1 : b = 16
    · rw [I.noTab b (.inl n1)] at e2; cases e2
    by_cases n2 : b = 23
    · rw [I.noTab b (.inr n2)] at e2; cases e2
    by_cases q1 : b = env.locals
    · rw [q1, hL] at e2; cases e2
    by_cases q2 : ∃ x, Mine env x b
    · obtain ⟨x, hx⟩ := q2; rw [hC x b hx] at e2; cases e2
    have hm : ¬ Mut env o oa b := fun hm => by
      rcases hm with r | r | ⟨r1, r2⟩
      · exact q1 r
      · exact q2 r
      · exact hb r1 r2
    refine x.2 b ob o' hb e1 (y.2 b ob o' (fun r => ?_) (k b ob hm n1 n2 e1) e2)
    rintro rfl
    rcases w r with ⟨w1, w2⟩ | w2
    · exact hb w1 w2
    · rw [w2] at e1; cases e1⟩

/-- the one heap that differs at an address that the frame may turn -/
theorem Inv.turn {c : Cx} {Z h h' : Heap} (I : Inv c Z h) {a : Addr} (s : Heap.SameBut a h h') (hz : Z.get? a = none) (n1 : a ≠ 16) (n2 : a ≠ 23) : Inv c Z h' := by
  have k : ∀ b o, b ≠ a → h.get? b = some o → h'.get? b = some o := fun b o hb e => (s.2 b hb).trans e
  refine ⟨fun b o e => k b o (fun q => by rw [q, hz] at e; cases e) (I.le b o e), I.gnd, ?_, ?_⟩
  · obtain ⟨q, ps, e, r⟩ := I.t1; exact ⟨q, ps, k _ _ (Ne.symm n1) e, r⟩
  · obtain ⟨q, ps, e, r⟩ := I.t2; exact ⟨q, ps, k _ _ (Ne.symm n2) e, r⟩

noncomputable def StoreOK (sc : Scope) (x : Str) (i : Nat) : Prop :=
  ∀ (c : Cx) (A : Around) (env : Env) (Z : Heap) (oa : Addr) (s : Shared) (o : Nat) (σ : Sg) (v : Value) (d : PyData) (Q : Unit → Shared → Prop),
    env.scope = sc → EnvOK env → Fm c Z s.heap env σ o oa → Rep Z v d → i ≠ o →
    (∀ h' tk a, Fm c Z h' env (σ.put i d) o oa → (a = env.locals ∨ Mine env x a) → Heap.SameBut a s.heap h' → Q () { s with heap := h', toks := tk }) → wpAny (model prog c.w) A (storeName env x v) Q noE s
theorem keepF_of_same {env : Env} {o : Nat} {oa a : Addr} {x : Str} {h h' : Heap} (ha : a = env.locals ∨ Mine env x a) (s : Heap.SameBut a h h') : KeepF env o oa h h' := fun b ob hm _ _ e =>
  (s.2 b fun q => hm (by rcases ha with r | r; exact .inl (q.trans r); exact .inr (.inl ⟨x, q ▸ r⟩))).trans e

theorem store_local {sc : Scope} {x : Str} (i : Nat) (hx : nm i = x) (hi : 0 < i ∧ i < 48) (hl : sc.names.lookup x = some .local) : StoreOK sc x i := by
  intro c A env Z oa s o σ v d Q he ho F r hio P
  subst hx he
  obtain ⟨m, hn, hv⟩ := F.loc
  have nt := F.inv.ns_not hn
  refine wpAny_storeName_local hl hn (fun h' hn' hs' => P h' _ _ ?_ (.inl rfl) hs') (by rw [ho.kind]; rfl)
  · have I' := F.inv.turn hs' F.nL nt.1 nt.2
    have hown : o ≠ 0 → ∀ ob, s.heap.get? oa = some ob → h'.get? oa = some ob := fun q ob e => (hs'.2 oa (F.own q).2.1).trans e
    refine ⟨I', fun j e hj => ?_, F.nL, ⟨_, hn', fun j e hj hk => ?_⟩, fun j e hj hk => ?_, fun j e hj hk => ?_, fun y a e => ?_, F.apart, fun q => ?_⟩
    · unfold Sg.put at hj
      by_cases hji : j = i
      · rw [hji]; exact hi
      · rw [if_neg hji] at hj; exact F.dom j e hj
    · unfold Sg.put at hj
      by_cases hji : j = i
      · subst hji
        rw [if_pos rfl] at hj; cases hj
        exact ⟨v, by simp, .inl ⟨hio, r⟩⟩
      · rw [if_neg hji] at hj
        obtain ⟨v', e1, e2⟩ := hv j e hj hk
        have d1 := F.dom j e hj
        have hne : ¬ nm j = nm i := fun q => hji (nm_inj j d1.2 i hi.2 q)
        exact ⟨v', by simp [hne, e1], e2.keep (Le.refl _) hown d1.1⟩
    · unfold Sg.put at hj
      by_cases hji : j = i
      · subst hji
        exact absurd hk (by rw [show env.kindOf (nm j) = some .local from hl]; simp)
      · rw [if_neg hji] at hj
        obtain ⟨a, v', e1, e2, e3⟩ := F.cel j e hj hk
        exact ⟨a, v', e1, e2.sameBut hs' (F.cells _ _ ⟨hk, e1⟩).2.1, e3.keep (Le.refl _) hown (F.dom j e hj).1⟩
    · unfold Sg.put at hj
      by_cases hji : j = i
      · subst hji
        exact absurd hk (by rw [show env.kindOf (nm j) = some .local from hl]; simp)
      · rw [if_neg hji] at hj
        obtain ⟨a, v', e1, e2, e3⟩ := F.fre j e hj hk
        exact ⟨a, v', e1, e2, e3.keep (Le.refl _) hown (F.dom j e hj).1⟩
    · obtain ⟨e1, e2, e3, v', e4⟩ := F.cells y a e
      exact ⟨e1, e2, e3, v', e4.sameBut hs' e2⟩
    · obtain ⟨e1, e2, d', e3⟩ := F.own q
      exact ⟨e1, e2, d', e3.keep (Le.refl _) (hown q)⟩

theorem store_cell {sc : Scope} {x : Str} (i : Nat) (hx : nm i = x) (hi : 0 < i ∧ i < 48) (hl : sc.names.lookup x = some .cell) : StoreOK sc x i := by
  intro c A env Z oa s o σ v d Q he ho F r hio P
  subst hx he
  obtain ⟨a, ha⟩ := ho.cov (nm i) (.inl hl)
  have hm : Mine env (nm i) a := ⟨hl, ha⟩
  obtain ⟨c1, c2, c3, v₀, c4⟩ := F.cells _ _ hm
  have nt := F.inv.cell_not c4
  refine wpAny_storeName_cell ho.kind hl ha c4 fun h' hc' hs' => P h' s.toks _ ?_ (.inr hm) hs'
  · have I' := F.inv.turn hs' c1 nt.1 nt.2
    have hown : o ≠ 0 → ∀ ob, s.heap.get? oa = some ob → h'.get? oa = some ob := fun q ob e => (hs'.2 oa (Ne.symm (c3 q))).trans e
    obtain ⟨m, hn, hv⟩ := F.loc
    refine ⟨I', fun j e hj => ?_, F.nL, ⟨m, hn.sameBut hs' (Ne.symm c2), fun j e hj hk => ?_⟩, fun j e hj hk => ?_, fun j e hj hk => ?_, fun y a' e => ?_, F.apart, fun q => ?_⟩
    · unfold Sg.put at hj
      by_cases hji : j = i
      · rw [hji]; exact hi
      · rw [if_neg hji] at hj; exact F.dom j e hj
    · unfold Sg.put at hj
      by_cases hji : j = i
      · subst hji
        rw [show env.kindOf (nm j) = some .cell from hl] at hk; cases hk
      · rw [if_neg hji] at hj
        obtain ⟨v', e1, e2⟩ := hv j e hj hk
        exact ⟨v', e1, e2.keep (Le.refl _) hown (F.dom j e hj).1⟩
    · unfold Sg.put at hj
      by_cases hji : j = i
      · subst hji
        rw [if_pos rfl] at hj; cases hj
        exact ⟨a, v, ha, hc', .inl ⟨hio, r⟩⟩
      · rw [if_neg hji] at hj
        obtain ⟨a', v', e1, e2, e3⟩ := F.cel j e hj hk
        have d1 := F.dom j e hj
        have hne : a' ≠ a := fun q => hji (nm_inj j d1.2 i hi.2 (F.apart _ _ _ (q ▸ (⟨hk, e1⟩ : Mine env (nm j) a')) hm))
        exact ⟨a', v', e1, e2.sameBut hs' hne, e3.keep (Le.refl _) hown d1.1⟩
    · unfold Sg.put at hj
      by_cases hji : j = i
      · subst hji
        rw [show env.kindOf (nm j) = some .cell from hl] at hk; cases hk
      · rw [if_neg hji] at hj
        obtain ⟨a', v', e1, e2, e3⟩ := F.fre j e hj hk
        exact ⟨a', v', e1, e2, e3.keep (Le.refl _) hown (F.dom j e hj).1⟩
    · obtain ⟨e1, e2, e3, v', e4⟩ := F.cells y a' e
      by_cases q : a' = a
      · subst q; exact ⟨e1, e2, e3, _, hc'⟩
      · exact ⟨e1, e2, e3, v', e4.sameBut hs' q⟩
    · obtain ⟨e1, e2, d', e3⟩ := F.own q
      exact ⟨e1, e2, d', e3.keep (Le.refl _) (hown q)⟩
end Hf
end

section
open PySem PySem.W PyProof.Rows PySem.Calls PySem.Spec
namespace Hf
set_option autoImplicit false
set_option linter.unusedSectionVars false
variable [TheW]

noncomputable def NextT (c : Cx) (A : Around) (tgt : Expr) (it : Value) (N : Shared → Prop) (S : Value → Shared → Prop) (s : Shared) : Prop :=
  wpAny (model prog c.w) A (pyNext it) (fun r s₁ => match r with | none => N s₁ | some v => wpAny (model prog c.w) A (letOwnedTupleGo tgt it v) (fun _ s₂ => S v s₂) noE s₁) noE s

noncomputable def isNm : Expr → Bool
  | .Name _ _ => true
  | _ => false
/-- an iterator that has these data to give -/
structure Src (c : Cx) (A : Around) (tgt : Expr) (Z : Heap) (I : Addr) (wr : List Addr) (St : Nat → Heap → Prop) (ds : List PyData) : Prop where
  frame : ∀ i h h', St i h → Le Z h' → (∀ b ∈ wr, ∀ o, h.get? b = some o → h'.get? b = some o) → St i h'
  live : ∀ i h, St i h → ∀ b ∈ wr, ∃ o, h.get? b = some o ∧ (∀ ps, o ≠ tabObj ps) ∧ (∀ es n, o.data ≠ .dict es n) ∧ (∀ v, o.data ≠ .cell v)
  turn : ∀ i d s Z₁ (S : Value → Shared → Prop) (N : Shared → Prop), ds[i]? = some d → St i s.heap → Le Z Z₁ → Inv c Z₁ s.heap → (∀ b ∈ wr, Z₁.get? b = none) →
    (∀ v Z' h' tk, St (i + 1) h' → Inv c Z' h' → Gr s.heap Z₁ Z' → (∀ b o, b ∉ wr → s.heap.get? b = some o → h'.get? b = some o) → Rep Z' v d → S v { s with heap := h', toks := tk }) →
    NextT c A tgt (.ref I) N S s
  done : ∀ s Z₁ (S : Value → Shared → Prop) (N : Shared → Prop), St ds.length s.heap → Le Z Z₁ → Inv c Z₁ s.heap → (∀ b ∈ wr, Z₁.get? b = none) →
    (∀ h' tk, Inv c Z₁ h' → (∀ b o, b ∉ wr → s.heap.get? b = some o → h'.get? b = some o) → N { s with heap := h', toks := tk }) → NextT c A tgt (.ref I) N S s
  self : isNm tgt = true → ∀ i s (Q : Value → Shared → Prop), St i s.heap → Q (.ref I) s → wpAny (model prog c.w) A (pyIter (.ref I)) Q noE s

theorem Inv.turnL {c : Cx} {Z h h' : Heap} (I : Inv c Z h) {wr : List Addr} (k : ∀ b o, b ∉ wr → h.get? b = some o → h'.get? b = some o) (hz : ∀ b ∈ wr, Z.get? b = none)
    (nt : ∀ b ∈ wr, ∃ o, h.get? b = some o ∧ ∀ ps, o ≠ tabObj ps) : Inv c Z h' := by
  have n1 : (16 : Nat) ∉ wr := fun q => by
    obtain ⟨o, e, hn⟩ := nt _ q
    exact (I.not_tab e hn).1 rfl
  have n2 : (23 : Nat) ∉ wr := fun q => by
    obtain ⟨o, e, hn⟩ := nt _ q
    exact (I.not_tab e hn).2 rfl
  refine ⟨fun b o e => k b o (fun q => by rw [hz b q] at e; cases e) (I.le b o e), I.gnd, ?_, ?_⟩
  · obtain ⟨q, ps, e, r⟩ := I.t1; exact ⟨q, ps, k _ _ n1 e, r⟩
  · obtain ⟨q, ps, e, r⟩ := I.t2; exact ⟨q, ps, k _ _ n2 e, r⟩

/-- from the library's walks -/
theorem src_of_walks {c : Cx} {A : Around} {tgt : Expr} {Z : Heap} {I : Addr} {fp wr : List Addr} {P : Nat → Value → Prop} {St : Nat → Heap → Prop} {ds : List PyData}
    (W : Walks prog c.w A I fp wr ds.length P St) (hP : ∀ i v d, P i v → ds[i]? = some d → Rep Z v d) (hfp : ∀ b ∈ fp, b ∈ wr ∨ ∃ o, Z.get? b = some o)
    (hl : ∀ i h, St i h → ∀ b ∈ wr, ∃ o, h.get? b = some o ∧ (∀ ps, o ≠ tabObj ps) ∧ (∀ es n, o.data ≠ .dict es n) ∧ (∀ v, o.data ≠ .cell v))
    (hgo : ∀ i v d s (Q : Unit → Shared → Prop), ds[i]? = some d → Rep Z v d → St (i + 1) s.heap → Q () s → wpAny (model prog c.w) A (letOwnedTupleGo tgt (.ref I) v) Q noE s) :
    Src c A tgt Z I wr (fun i h => St i h ∧ Le Z h) ds where
  frame := fun i h h' st k e => ⟨W.frame i h h' st.1 fun b hb o ho => by
    rcases hfp b hb with q | ⟨oz, q⟩
    · exact e b q o ho
    · have := st.2 b oz q; rw [ho] at this; cases this; exact k b _ q, k⟩
  live := fun i h st => hl i h st.1
  turn := fun i d s Z₁ S N hd st k Iv hz h => by
    have hlt : i < ds.length := (List.getElem?_eq_some_iff.mp hd).1
    refine W.item i s _ _ hlt st.1 fun v h' tk hPv st' keep => ?_
    have r := hP i v d hPv hd
    have Iv' : Inv c Z₁ h' := Iv.turnL keep hz fun b hb => by obtain ⟨o, e1, e2, _⟩ := hl i _ st.1 b hb; exact ⟨o, e1, e2⟩
    exact hgo i v d _ _ hd r st' (h v Z₁ h' tk ⟨st', k.trans Iv'.le⟩ Iv' (Gr.refl _ _) keep (r.le k))
  done := fun s Z₁ S N st k Iv hz h => by
    refine W.done s _ _ st.1 fun h' tk keep => ?_
    exact h h' tk (Iv.turnL keep hz fun b hb => by obtain ⟨o, e1, e2, _⟩ := hl _ _ st.1 b hb; exact ⟨o, e1, e2⟩) keep
  self := fun _ i s Q st h => W.self i s Q _ st.1 h

section
variable {c : Cx} {A : Around} {Z h : Heap} {I ax : Addr} {ds : List PyData}
theorem Rep.isList (r : Rep Z (.ref ax) (.list ds)) : ∃ items : Array Value, (∀ h, Le Z h → h.IsList ax items) ∧ RepA Z items.toList ds ∧ ∃ o, Z.get? ax = some o := by
  obtain ⟨a, o, vs, n, e0, e, hc, hd, q⟩ := r.list_inv
  cases e0
  exact ⟨vs, fun h k => ⟨o, k _ _ e, hc, n, hd⟩, q, o, e⟩
theorem Rep.isTuple (r : Rep Z (.ref ax) (.tuple ds)) : ∃ items : Array Value, (∀ h, Le Z h → h.IsTuple ax items) ∧ RepA Z items.toList ds ∧ ∃ o, Z.get? ax = some o := by
  obtain ⟨a, o, vs, n, e0, e, hc, hd, q⟩ := r.tuple_inv
  cases e0
  exact ⟨vs, fun h k => ⟨o, k _ _ e, hc, n, hd⟩, q, o, e⟩
theorem live_fields {h : Heap} {b : Addr} {o : Obj} {cl : String} {fs : Array Value} (e : h.get? b = some o) (hc : o.cls = .type cl) (hd : o.data = .fields fs) :
    ∃ o, h.get? b = some o ∧ (∀ ps, o ≠ tabObj ps) ∧ (∀ es n, o.data ≠ .dict es n) ∧ (∀ v, o.data ≠ .cell v) :=
  ⟨o, e, fun ps q => (by rw [q] at hc; cases hc), fun es n q => (by rw [hd] at q; cases q), fun v q => (by rw [hd] at q; cases q)⟩

theorem src_list {tgt : Expr} (hh : A.handled = none) (hI : Z.get? I = none) (r : Rep Z (.ref ax) (.list ds))
    (hgo : ∀ i v d s (Q : Unit → Shared → Prop), ds[i]? = some d → Rep Z v d → (s.heap.IsListIter I ax (i + 1)) → Q () s → wpAny (model prog c.w) A (letOwnedTupleGo tgt (.ref I) v) Q noE s) :
    ∃ St, Src c A tgt Z I [I] St ds ∧ ∀ h, Le Z h → h.IsListIter I ax 0 → St 0 h := by
  obtain ⟨items, hl, q, o, e⟩ := r.isList
  have hne : ax ≠ I := fun x => by rw [x, hI] at e; cases e
  have hz : items.size = ds.length := by rw [← q.length, Array.length_toList]
  have W := Walks.list (prog := prog) (w := c.w) hh I ax hne items
  rw [hz] at W
  refine ⟨_, src_of_walks W (fun i v d hP hd => ?_) (fun b hb => ?_) (fun i h st b hb => ?_) fun i v d s Q hd rv st hq => hgo i v d s Q hd rv st.1 hq, fun h k hi => ⟨⟨hi, hl h k⟩, k⟩⟩
  · obtain ⟨v', e1, e2⟩ := q.get hd
    rw [Array.getElem?_toList] at e1
    have : items[i]? = some v := hP
    rw [this] at e1; cases e1; exact e2
  · rcases List.mem_cons.mp hb with x | x
    · exact .inl (by simp [x])
    · rw [List.mem_singleton.mp x]; exact .inr ⟨o, e⟩
  · rw [List.mem_singleton.mp hb]
    obtain ⟨oi, e1, e2, e3⟩ := st.1
    exact live_fields e1 e2 e3
theorem src_tuple {x : Str} {px : Pos} (hh : A.handled = none) (hI : Z.get? I = none) (r : Rep Z (.ref ax) (.tuple ds)) :
    ∃ St, Src c A (.Name x px) Z I [I] St ds ∧ ∀ h, Le Z h → h.IsTupleIter I ax 0 → St 0 h := by
  obtain ⟨items, hl, q, o, e⟩ := r.isTuple
  have hne : ax ≠ I := fun x => by rw [x, hI] at e; cases e
  have hz : items.size = ds.length := by rw [← q.length, Array.length_toList]
  have W := Walks.tuple (prog := prog) (w := c.w) hh I ax hne items
  rw [hz] at W
  refine ⟨_, src_of_walks W (fun i v d hP hd => ?_) (fun b hb => ?_) (fun i h st b hb => ?_) fun i v d s Q hd rv st hq => wpAny_pure hq, fun h k hi => ⟨⟨hi, hl h k⟩, k⟩⟩
  · obtain ⟨v', e1, e2⟩ := q.get hd
    rw [Array.getElem?_toList] at e1
    have : items[i]? = some v := hP
    rw [this] at e1; cases e1; exact e2
  · rcases List.mem_cons.mp hb with x | x
    · exact .inl (by simp [x])
    · rw [List.mem_singleton.mp x]; exact .inr ⟨o, e⟩
  · rw [List.mem_singleton.mp hb]
    obtain ⟨oi, e1, e2, e3⟩ := st.1
    exact live_fields e1 e2 e3
noncomputable def rangeL (a c : Int) (n : Nat) : List PyData := (List.range n).map fun (i : Nat) => .int (a + (i : Int) * c)
theorem src_range {x : Str} {px : Pos} (hh : A.handled = none) (a st : Int) (n : Nat) :
    ∃ St, Src c A (.Name x px) Z I [I] St (rangeL a st n) ∧ ∀ h, Le Z h → IsRangeIter h I a n st → St 0 h := by
  have hz : n = (rangeL a st n).length := by simp [rangeL]
  have W := Walks.range (prog := prog) (w := c.w) hh I a st n
  rw [hz] at W
  refine ⟨_, src_of_walks W (fun i v d hP hd => ?_) (fun b hb => .inl hb) (fun i h st b hb => ?_) fun i v d s Q hd rv st hq => wpAny_pure hq, fun h k hi => ⟨by simpa [rangeL] using hi, k⟩⟩
  · obtain ⟨t, rfl⟩ := hP
    simp only [rangeL, List.getElem?_map] at hd
    obtain ⟨j, e1, rfl⟩ := Option.map_eq_some_iff.mp hd
    have := List.getElem?_eq_some_iff.mp e1
    obtain ⟨h1, h2⟩ := this
    simp at h2
    subst h2
    exact .int _ _
  · rw [List.mem_singleton.mp hb]
    exact live_fields (cl := "range_iterator") st rfl rfl
end
end Hf
end

section
open PySem PySem.W PyProof.Rows PySem.Calls PySem.Spec
namespace Hf
set_option autoImplicit false
set_option linter.unusedSectionVars false
variable [TheW]

noncomputable def relabelS (scope sc : Scope) : Scope :=
  { scope with names := scope.names.map fun (n, k) => if (k == .free && sc.kind == .function && sc.names.lookup n == some .cell) then (n, .cell) else (n, k) }
theorem relabel_eq (scope : Scope) (env : Env) : relabel scope env = relabelS scope env.scope := rfl

noncomputable def clOf (env : Env) : List (Str × NameKind) → List (Str × Addr) → List (Str × Addr)
  | [], acc => acc
  | (x, k) :: r, acc => if k == .free then (match env.cells.lookup x with | some a => clOf env r ((x, a) :: acc) | none => clOf env r acc) else clOf env r acc
theorem clOf_some {env : Env} : ∀ (names : List (Str × NameKind)) (acc : List (Str × Addr)), (∀ x a, acc.lookup x = some a → env.cells.lookup x = some a) →
    ∀ x a, (clOf env names acc).lookup x = some a → env.cells.lookup x = some a
  | [], acc, h, x, a, e => h x a e
  | (y, k) :: r, acc, h, x, a, e => by
    unfold clOf at e
    split at e
    · split at e
      · rename_i a' ha'
        refine clOf_some r _ (fun x' a'' e' => ?_) x a e
        rw [List.lookup_cons] at e'
        cases hb : x' == y with
        | true => rw [hb] at e'; cases e'; rw [eq_of_beq hb]; exact ha'
        | false => rw [hb] at e'; exact h x' a'' e'
      · exact clOf_some r acc h x a e
    · exact clOf_some r acc h x a e
theorem clOf_mono {env : Env} : ∀ (names : List (Str × NameKind)) (acc : List (Str × Addr)), (∀ x a, acc.lookup x = some a → env.cells.lookup x = some a) →
    ∀ x, (∃ a, acc.lookup x = some a) → ∃ a, (clOf env names acc).lookup x = some a
  | [], acc, _, x, e => e
  | (y, k) :: r, acc, h, x, e => by
    unfold clOf
    split
    · split
      · rename_i a' ha'
        refine clOf_mono r _ (fun x' a'' e' => ?_) x ?_
        · rw [List.lookup_cons] at e'
          cases hb : x' == y with
          | true => rw [hb] at e'; cases e'; rw [eq_of_beq hb]; exact ha'
          | false => rw [hb] at e'; exact h x' a'' e'
        · rw [List.lookup_cons]
          cases hb : x == y with
          | true => exact ⟨a', rfl⟩
          | false => exact e
      · exact clOf_mono r acc h x e
    · exact clOf_mono r acc h x e
theorem clOf_has {env : Env} : ∀ (names : List (Str × NameKind)) (acc : List (Str × Addr)), (∀ x a, acc.lookup x = some a → env.cells.lookup x = some a) →
    (∀ x ∈ names, x.2 = .free → ∃ a, env.cells.lookup x.1 = some a) → ∀ x ∈ names, x.2 = .free → ∃ a, (clOf env names acc).lookup x.1 = some a
  | [], _, _, _, x, hx, _ => nomatch hx
  | (y, k) :: r, acc, h, hc, x, hx, hf => by
    unfold clOf
    rcases List.mem_cons.mp hx with q | q
    · subst q
      obtain ⟨a, ha⟩ := hc _ (.head _) hf
      have hk : (k == NameKind.free) = true := by rw [show k = .free from hf]; rfl
      rw [if_pos hk]
      simp only [] at ha
      rw [ha]
      refine clOf_mono r _ (fun x' a'' e' => ?_) y ⟨a, by simp⟩
      rw [List.lookup_cons] at e'
      cases hb : x' == y with
      | true => rw [hb] at e'; cases e'; rw [eq_of_beq hb]; exact ha
      | false => rw [hb] at e'; exact h x' a'' e'
    · have ih := fun acc h => clOf_has r acc h (fun z hz => hc z (List.mem_cons_of_mem _ hz)) x q hf
      split
      · split
        · rename_i a' ha'
          refine ih _ (fun x' a'' e' => ?_)
          rw [List.lookup_cons] at e'
          cases hb : x' == y with
          | true => rw [hb] at e'; cases e'; rw [eq_of_beq hb]; exact ha'
          | false => rw [hb] at e'; exact h x' a'' e'
        · exact ih _ h
      · exact ih _ h
theorem closure_eq {scope : Scope} {env : Env} (h : ∀ x ∈ scope.names, x.2 = .free → ∃ a, env.cells.lookup x.1 = some a) : closureFor scope env = pure (clOf env scope.names []) := by
  unfold closureFor
  have key : ∀ (names : List (Str × NameKind)) (acc : List (Str × Addr)), (∀ x ∈ names, x.2 = .free → ∃ a, env.cells.lookup x.1 = some a) →
      (forIn names acc fun x cs => (if (x.2 == NameKind.free) = true then do let a ← cellOf env x.1; pure (ForInStep.yield ((x.1, a) :: cs)) else pure (ForInStep.yield cs)) : Sem _) = pure (clOf env names acc) := by
    intro names
    induction names with
    | nil => intro acc _; rfl
    | cons y r ih =>
      intro acc hc
      obtain ⟨y, k⟩ := y
      rw [List.forIn_cons]
      unfold clOf
      by_cases hk : (k == NameKind.free) = true
      · obtain ⟨a, ha⟩ := hc _ (.head _) (by simpa using hk)
        simp only [] at ha
        simp only [hk, if_true, ha]
        have e : cellOf env y = pure a := by unfold cellOf; rw [ha]
        rw [e]
        exact ih _ fun z hz => hc z (List.mem_cons_of_mem _ hz)
      · simp only [hk, if_false, Bool.false_eq_true]
        exact ih _ fun z hz => hc z (List.mem_cons_of_mem _ hz)
  have := key scope.names [] h
  exact (congrArg (fun t : Sem (List (Str × Addr)) => Sem.bind t fun cs => pure cs) this).trans rfl

theorem cellsFrom_append : ∀ (names : List (Str × NameKind)) (n : Nat) (acc : List (Str × Addr)), cellsFrom n names acc = cellsFrom n names [] ++ acc
  | [], _, _ => rfl
  | (x, k) :: r, n, acc => by
    unfold cellsFrom
    split
    · rw [cellsFrom_append r (n + 1) ((x, n) :: acc), cellsFrom_append r (n + 1) [(x, n)], List.append_assoc]; rfl
    · exact cellsFrom_append r n acc
theorem cellsFrom_mem : ∀ (names : List (Str × NameKind)) (n : Nat) (acc : List (Str × Addr)) (x : Str) (a : Addr), (x, a) ∈ cellsFrom n names acc → (x, a) ∈ acc ∨ (x, NameKind.cell) ∈ names
  | [], _, _, _, _, h => .inl h
  | (y, k) :: r, n, acc, x, a, h => by
    unfold cellsFrom at h
    split at h
    · rename_i hk
      rcases cellsFrom_mem r (n + 1) _ x a h with q | q
      · rcases List.mem_cons.mp q with q | q
        · cases q
          have : k = .cell := by simpa using hk
          exact .inr (by rw [this]; exact .head _)
        · exact .inl q
      · exact .inr (.tail _ q)
    · rcases cellsFrom_mem r n acc x a h with q | q
      · exact .inl q
      · exact .inr (.tail _ q)
theorem lookup_append {α : Type} (l₁ l₂ : List (Str × α)) (x : Str) : (l₁ ++ l₂).lookup x = (l₁.lookup x).or (l₂.lookup x) := by
  induction l₁ with
  | nil => rfl
  | cons p r ih =>
    obtain ⟨y, v⟩ := p
    simp only [List.cons_append, List.lookup_cons]
    cases x == y with
    | true => rfl
    | false => exact ih

/-- the environment of a comprehension -/
theorem newEnv_comp {c : Cx} {A : Around} {s : Shared} {scope : Scope} {globals : Addr} {cl : List (Str × Addr)} {qual : Str} {env : Env} {Q : Env → Shared → Prop}
    (h : ∀ h' cells, Le s.heap h' → h'.Ns s.heap.objs.size (fun _ => none) → cells = cellsFrom (s.heap.objs.size + 1) scope.names [] → CellsOk h' (s.heap.objs.size + 1) cells →
      Q (newEnv scope s.heap.objs.size globals (cells ++ cl) qual none .none (some env) builtinsNs) { s with heap := h' }) :
    wpAny (model prog c.w) A (newFunctionEnv scope globals cl [] qual none .none (some env)) Q noE s := by
  have size : ∀ o : Obj, (s.heap.push o).objs.size = s.heap.objs.size + 1 := fun o => Heap.size_push ..
  have laid := cellsFrom_ok scope.names (s.heap.push { cls := .type "dict", data := .dict #[] }) (s.heap.objs.size + 1) [] ⟨fun _ _ q => (nomatch q), .nil⟩ (Nat.le_of_eq (size _).symm)
  have keep := pushCells_keeps scope.names (s.heap.push { cls := .type "dict", data := .dict #[] })
  simp only [newFunctionEnv, Option.isSome_some, if_true]
  refine wpAny_bind (wpAny_alloc (wpAny_bind (wpAny_layCells _ (fun _ kd _ => by by_cases q : (kd == NameKind.cell) = true <;> simp [q]) _ _ _ _ (wpAny_bind (wpAny_pure ?_)))))
  simp only [size] at laid ⊢
  rw [cellsFrom_append]
  exact wpAny_pure (h _ _ (fun b o e => keep b o (push_le _ _ b o e)) ((Heap.Ns.new s.heap _).keeps keep) rfl laid)
end Hf
end

section
open PySem PySem.W PyProof.Rows PySem.Calls PySem.Spec
namespace Hf
set_option autoImplicit false
set_option linter.unusedSectionVars false
variable [TheW]

noncomputable def Sg.del (σ : Sg) (xs : List Nat) : Sg := fun j => if xs.contains j then none else σ j

/-- what a comprehension's scope must look like -/
structure CompSc (scope sc : Scope) (xs : List Nat) : Prop where
  kind : scope.kind = .function
  nodup : (scope.names.map (·.1)).Nodup
  free : ∀ x ∈ scope.names, x.2 = .free → sc.names.lookup x.1 = some .cell
  locs : ∀ i, i < 48 → (scope.names.lookup (nm i) = some .local ∨ scope.names.lookup (nm i) = some .cell) → xs.contains i = true

theorem lookup_relabel (scope sc : Scope) (x : Str) : (relabelS scope sc).names.lookup x = (scope.names.lookup x).map fun k => if (k == .free && sc.kind == .function && sc.names.lookup x == some .cell) then .cell else k := by
  unfold relabelS
  dsimp only
  generalize scope.names = l
  induction l with
  | nil => rfl
  | cons p r ih =>
    obtain ⟨y, k⟩ := p
    simp only [List.map_cons]
    by_cases hx : (x == y) = true
    · have hxy := eq_of_beq hx
      subst hxy
      by_cases hc : (k == NameKind.free && sc.kind == ScopeKind.function && sc.names.lookup x == some NameKind.cell) = true
      · have e : List.lookup x ((x, k) :: r) = some k := by rw [List.lookup_cons, hx]
        rw [if_pos hc, e, List.lookup_cons, hx, Option.map_some, if_pos hc]
      · have e : List.lookup x ((x, k) :: r) = some k := by rw [List.lookup_cons, hx]
        rw [if_neg hc, e, Option.map_some, if_neg hc, List.lookup_cons, hx]
    · have hx' : (x == y) = false := by simpa using hx
      have e : ∀ k', List.lookup x ((y, k') :: r) = List.lookup x r := fun k' => by rw [List.lookup_cons, hx']
      by_cases hc : (k == NameKind.free && sc.kind == ScopeKind.function && sc.names.lookup y == some NameKind.cell) = true
      · rw [if_pos hc, List.lookup_cons, hx', e]; exact ih
      · rw [if_neg hc, List.lookup_cons, hx', e]; exact ih
theorem nodup_kind {names : List (Str × NameKind)} (h : (names.map (·.1)).Nodup) {x : Str} {k k' : NameKind} (h1 : (x, k) ∈ names) (h2 : (x, k') ∈ names) : k = k' := by
  induction names with
  | nil => cases h1
  | cons p r ih =>
    rw [List.map_cons, List.nodup_cons] at h
    rcases List.mem_cons.mp h1 with q | q <;> rcases List.mem_cons.mp h2 with q' | q'
    · rw [← q'] at q; exact (Prod.mk.inj q).2
    · exact absurd (List.mem_map.mpr ⟨_, q', by rw [← q]⟩) h.1
    · exact absurd (List.mem_map.mpr ⟨_, q, by rw [← q']⟩) h.1
    · exact ih h.2 q q'
theorem clOf_mem {env : Env} : ∀ (names : List (Str × NameKind)) (acc : List (Str × Addr)) (x : Str) (a : Addr), (x, a) ∈ clOf env names acc → (x, a) ∈ acc ∨ (x, NameKind.free) ∈ names
  | [], _, _, _, h => .inl h
  | (y, k) :: r, acc, x, a, h => by
    unfold clOf at h
    split at h
    · rename_i hk
      split at h
      · rcases clOf_mem r _ x a h with q | q
        · rcases List.mem_cons.mp q with q | q
          · cases q
            have : k = .free := by simpa using hk
            exact .inr (by rw [this]; exact .head _)
          · exact .inl q
        · exact .inr (.tail _ q)
      · rcases clOf_mem r _ x a h with q | q
        · exact .inl q
        · exact .inr (.tail _ q)
    · rcases clOf_mem r _ x a h with q | q
      · exact .inl q
      · exact .inr (.tail _ q)

noncomputable abbrev cenvOf (scope : Scope) (env : Env) (C : Addr) (cells : List (Str × Addr)) : Env :=
  { newEnv scope C env.globals (cells ++ clOf env scope.names []) env.qual none .none (some env) builtinsNs with scope := relabel scope env }

theorem comp_envOK {scope : Scope} {env : Env} {xs : List Nat} (T : CompSc scope env.scope xs) (ho : EnvOK env) (C : Addr) {n : Nat} : EnvOK (cenvOf scope env C (cellsFrom n scope.names [])) where
  kind := T.kind
  globals := ho.globals
  builtins := ho.builtins
  cov := fun x hx => by
    show ∃ a, (cellsFrom n scope.names [] ++ clOf env scope.names []).lookup x = some a
    rw [lookup_append]
    have hx' : (relabelS scope env.scope).names.lookup x = some .cell ∨ (relabelS scope env.scope).names.lookup x = some .free := hx
    rw [lookup_relabel] at hx'
    cases hs : scope.names.lookup x with
    | none => rw [hs] at hx'; rcases hx' with q | q <;> cases q
    | some k =>
      by_cases hk : k = .cell
      · have := cellsFrom_some (x := x) scope.names n [] (.inl (hk ▸ hs))
        obtain ⟨a, ha⟩ := Option.isSome_iff_exists.mp this
        exact ⟨a, by rw [ha]; rfl⟩
      · by_cases hf : k = .free
        · have hm := mem_of_lookup hs
          subst hf
          have hc : ∀ y ∈ scope.names, y.2 = .free → ∃ a, env.cells.lookup y.1 = some a := fun y hy hf => ho.cov y.1 (.inl (T.free y hy hf))
          obtain ⟨a, ha⟩ := clOf_has scope.names [] (fun _ _ e => nomatch e) hc _ hm rfl
          cases hq : (cellsFrom n scope.names []).lookup x with
          | none => exact ⟨a, by simpa using ha⟩
          | some b => exact ⟨b, by simp⟩
        · exfalso
          have hkf : (k == NameKind.free) = false := by simpa using hf
          rw [hs] at hx'
          simp only [Option.map_some, hkf, Bool.false_and, Bool.false_eq_true, if_false, Option.some.injEq] at hx'
          rcases hx' with q | q
          · exact hk q
          · exact hf q

theorem comp_frame {c : Cx} {Z h h' : Heap} {scope : Scope} {env : Env} {σ : Sg} {o : Nat} {oa : Addr} {xs : List Nat} (T : CompSc scope env.scope xs) (ho : EnvOK env) (F : Fm c Z h env σ o oa) {C : Addr}
    (k : Le h h') (hC : h'.Ns C (fun _ => none)) (hCn : C = h.objs.size) (ok : CellsOk h' (C + 1) (cellsFrom (C + 1) scope.names [])) :
    Fm c Z h' (cenvOf scope env C (cellsFrom (C + 1) scope.names [])) (σ.del xs) o oa := by
  have new : ∀ a, h.objs.size ≤ a → h.get? a = none := fun a ha => by
    cases q : h.get? a with
    | none => rfl
    | some ob => exact absurd (Heap.lt_size q) (Nat.not_lt.mpr ha)
  have hc : ∀ y ∈ scope.names, y.2 = .free → ∃ a, env.cells.lookup y.1 = some a := fun y hy hf => ho.cov y.1 (.inl (T.free y hy hf))
  have lk : ∀ x a, Mine (cenvOf scope env C (cellsFrom (C + 1) scope.names [])) x a → ((x, a) ∈ cellsFrom (C + 1) scope.names []) ∨ (Mine env x a ∧ (x, NameKind.free) ∈ scope.names) := fun x a hm => by
    have e : (cellsFrom (C + 1) scope.names [] ++ clOf env scope.names []).lookup x = some a := hm.2
    rw [lookup_append] at e
    cases hq : (cellsFrom (C + 1) scope.names []).lookup x with
    | some b => rw [hq] at e; cases e; exact .inl (mem_of_lookup hq)
    | none =>
      rw [hq] at e
      have e' : (clOf env scope.names []).lookup x = some a := by simpa using e
      have hf : (x, NameKind.free) ∈ scope.names := by
        rcases clOf_mem scope.names [] x a (mem_of_lookup e') with q | q
        · cases q
        · exact q
      exact .inr ⟨⟨T.free _ hf rfl, clOf_some scope.names [] (fun _ _ e => nomatch e) x a e'⟩, hf⟩
  have I' := F.inv.keep k
  have del : ∀ i d, σ.del xs i = some d → xs.contains i = false ∧ σ i = some d := fun i d e => by
    unfold Sg.del at e
    split at e
    · cases e
    · rename_i hn; exact ⟨by simpa using hn, e⟩
  have hown : o ≠ 0 → ∀ ob, h.get? oa = some ob → h'.get? oa = some ob := fun _ ob e => k _ _ e
  refine ⟨I', fun i d e => F.dom i d (del i d e).2, ?_, ⟨_, hC, fun i d e hk => ?_⟩, fun i d e hk => ?_, fun i d e hk => ?_, fun x a e => ?_, fun x y a e1 e2 => ?_, fun q => ?_⟩
  · show Z.get? C = none
    exact F.inv.noZ (new _ (by rw [hCn]; exact Nat.le_refl _))
  · exfalso
    obtain ⟨e1, e2⟩ := del i d e
    have hk' : (relabelS scope env.scope).names.lookup (nm i) = some .local := hk
    rw [lookup_relabel] at hk'
    cases hs : scope.names.lookup (nm i) with
    | none => rw [hs] at hk'; cases hk'
    | some kk =>
      rw [hs] at hk'
      simp only [Option.map_some, Option.some.injEq] at hk'
      split at hk'
      · cases hk'
      · subst hk'
        have := T.locs i (F.dom i d e2).2 (.inl hs)
        rw [this] at e1; cases e1
  · obtain ⟨e1, e2⟩ := del i d e
    have hk' : (relabelS scope env.scope).names.lookup (nm i) = some .cell := hk
    rw [lookup_relabel] at hk'
    cases hs : scope.names.lookup (nm i) with
    | none => rw [hs] at hk'; cases hk'
    | some kk =>
      have hkc : kk ≠ .cell := fun q => by
        have := T.locs i (F.dom i d e2).2 (.inr (q ▸ hs))
        rw [this] at e1; cases e1
      have hkf : kk = .free := by
        rw [hs] at hk'
        cases hq : (kk == NameKind.free) with
        | true => simpa using hq
        | false =>
          simp only [Option.map_some, hq, Bool.false_and, Bool.false_eq_true, if_false, Option.some.injEq] at hk'
          exact absurd hk' hkc
      subst hkf
      have hm := mem_of_lookup hs
      obtain ⟨a, v, f1, f2, f3⟩ := F.cel i d e2 (T.free _ hm rfl)
      obtain ⟨a', ha'⟩ := clOf_has scope.names [] (fun _ _ e => nomatch e) hc _ hm rfl
      have ha'' := clOf_some scope.names [] (fun _ _ e => nomatch e) _ _ ha'
      simp only [] at ha' ha''
      rw [f1] at ha''; cases ha''
      refine ⟨a, v, ?_, f2.keeps k, f3.keep (Le.refl _) hown (F.dom i d e2).1⟩
      show (cellsFrom (C + 1) scope.names [] ++ clOf env scope.names []).lookup (nm i) = some a
      rw [lookup_append]
      cases hq : (cellsFrom (C + 1) scope.names []).lookup (nm i) with
      | none => simpa using ha'
      | some b =>
        rcases cellsFrom_mem scope.names _ [] _ _ (mem_of_lookup hq) with q | q
        · cases q
        · cases nodup_kind T.nodup hm q
  · exfalso
    obtain ⟨e1, e2⟩ := del i d e
    have hk' : (relabelS scope env.scope).names.lookup (nm i) = some .free := hk
    rw [lookup_relabel] at hk'
    cases hs : scope.names.lookup (nm i) with
    | none => rw [hs] at hk'; cases hk'
    | some kk =>
      rw [hs] at hk'
      simp only [Option.map_some, Option.some.injEq] at hk'
      split at hk'
      · cases hk'
      · rename_i hc'
        subst hk'
        have h1 := T.free _ (mem_of_lookup hs) rfl
        simp only [] at h1
        rw [h1, ho.kind] at hc'
        exact hc' (by decide)
  · rcases lk x a e with q | ⟨q, _⟩
    · obtain ⟨w1, w2⟩ := ok.empty x a q
      have hlt : h.objs.size < a := by rw [← hCn]; exact w2
      refine ⟨F.inv.noZ (new _ (Nat.le_of_lt hlt)), Nat.ne_of_gt w2, fun ho => ?_, none, w1⟩
      rintro rfl
      obtain ⟨ob, e', _⟩ := F.O_some ho
      exact absurd (Heap.lt_size e') (Nat.not_lt.mpr (Nat.le_of_lt hlt))
    · obtain ⟨f1, f2, f3, v, f4⟩ := F.cells x a q
      refine ⟨f1, ?_, f3, v, f4.keeps k⟩
      intro q
      have q' : a = C := q
      have := f4.lt
      rw [q', hCn] at this
      exact Nat.lt_irrefl _ this
  · rcases lk x a e1 with q1 | ⟨q1, _⟩ <;> rcases lk y a e2 with q2 | ⟨q2, _⟩
    · exact name_of_addr ok.apart q1 q2
    · exfalso
      have w := (ok.empty x a q1).2
      obtain ⟨_, _, _, v, f4⟩ := F.cells y a q2
      have := f4.lt
      rw [← hCn] at this
      exact absurd this (Nat.not_lt.mpr (Nat.le_of_lt w))
    · exfalso
      have w := (ok.empty y a q2).2
      obtain ⟨_, _, _, v, f4⟩ := F.cells x a q1
      have := f4.lt
      rw [← hCn] at this
      exact absurd this (Nat.not_lt.mpr (Nat.le_of_lt w))
    · exact F.apart x y a q1 q2
  · obtain ⟨f1, f2, d, f3⟩ := F.own q
    refine ⟨f1, ?_, d, f3.keep (Le.refl _) (hown q)⟩
    intro r
    have r' : oa = C := r
    obtain ⟨ob, e', _⟩ := F.O_some q
    have := Heap.lt_size e'
    rw [r', hCn] at this
    exact Nat.lt_irrefl _ this
end Hf
end

section
open PySem PySem.W PyProof.Rows PySem.Calls PySem.Spec
namespace Hf
set_option autoImplicit false
set_option linter.unusedSectionVars false
variable [TheW]

theorem wpE {α : Type} {M : Model} {A : Around} {t : Sem α} {Q : α → Shared → Prop} {E : Value → Shared → Prop} {s : Shared} (h : wpAny M A t Q noE s) : wpAny M A t Q E s :=
  wpAny_mono h (fun _ _ x => x) fun _ _ x => x.elim
theorem unpure {α β : Type} {M : Model} {A : Around} {a : α} {t : α → Sem β} {Q : β → Shared → Prop} {E E' : Value → Shared → Prop} {s : Shared}
    (h : wpAny M A (pure a : Sem α) (fun a s' => wpAny M A (t a) Q E s') E' s) : wpAny M A (t a) Q E s := fun Γ p hΓ => h Γ p hΓ Γ p hΓ

/-- less may be known of a frame -/
theorem Fm.less {c : Cx} {Z h : Heap} {env : Env} {σ σ' : Sg} {o : Nat} {oa : Addr} (F : Fm c Z h env σ' o oa) (hs : ∀ i d, σ i = some d → σ' i = some d) : Fm c Z h env σ o oa :=
  ⟨F.inv, fun i d e => F.dom i d (hs i d e), F.nL, let ⟨m, hn, hv⟩ := F.loc; ⟨m, hn, fun i d e => hv i d (hs i d e)⟩, fun i d e => F.cel i d (hs i d e), fun i d e => F.fre i d (hs i d e), F.cells, F.apart, F.own⟩

noncomputable abbrev tests (ifs : List Expr) (env : Env) : Sem Bool := forIn ifs true fun c r => if r = true then do let ok ← isTrue c env (eval c env); pure (ForInStep.yield ok) else pure (ForInStep.yield r)
noncomputable def CondOK (b : Nat) (sc : Scope) (ifs : List Expr) (f : Fb) : Prop :=
  ∀ (c : Cx) (A : Around) (env : Env) (Z : Heap) (oa : Addr) (s : Shared) (o : Nat) (σ : Sg) (d : Bool) (Q : Bool → Shared → Prop),
    Room b A → env.scope = sc → EnvOK env → Fm c Z s.heap env σ o oa → f o σ = some d →
    (∀ Z' h' tk', Inv c Z' h' → Gr s.heap Z Z' → Ext s.heap h' → Q d { s with heap := h', toks := tk' }) → wpAny (model prog c.w) A (tests ifs env) Q noE s
theorem cond_nil {b : Nat} {sc : Scope} : CondOK b sc [] (bLit true) := by
  intro c A env Z oa s o σ d Q rm he ho F hf P
  cases hf
  exact wpAny_tests_nil (P Z s.heap s.toks F.inv (Gr.refl _ _) (Ext.refl _))
theorem cond_one {b : Nat} {sc : Scope} {e : Expr} {f : Fb} (h : TsOK b sc e f) : CondOK b sc [e] f := by
  intro c A env Z oa s o σ d Q rm he ho F hf P
  exact wpAny_tests_one (h c A env Z oa s o σ d Q rm he ho F hf P)

noncomputable def compGo (f : PyData → Option (List PyData)) : List PyData → Option (List PyData)
  | [] => some []
  | d :: ds => (f d).bind fun r => (compGo f ds).bind fun rest => some (r ++ rest)
noncomputable def compF (i : Nat) (cond : Fb) (fm : Fl) (o : Nat) (σ : Sg) (d : PyData) : Option (List PyData) :=
  if i = o then none else (cond o (σ.put i d)).bind fun t => if t then fm o (σ.put i d) else some []
theorem compGo_cons {f : PyData → Option (List PyData)} {d : PyData} {ds out : List PyData} (h : compGo f (d :: ds) = some out) :
    ∃ r rest, f d = some r ∧ compGo f ds = some rest ∧ out = r ++ rest := by
  unfold compGo at h
  obtain ⟨r, h1, h⟩ := Option.bind_eq_some_iff.mp h
  obtain ⟨rest, h2, h⟩ := Option.bind_eq_some_iff.mp h
  cases h
  exact ⟨r, rest, h1, h2, rfl⟩

theorem Sg.put_put (σ : Sg) (i : Nat) (d d' : PyData) : (σ.put i d).put i d' = σ.put i d' := by
  funext j
  unfold Sg.put
  by_cases h : j = i <;> simp [h]

/-- the list that is being filled lies off the frame -/
structure Off (env : Env) (o : Nat) (oa D : Addr) : Prop where
  L : D ≠ env.locals
  C : ∀ x a, Mine env x a → a ≠ D
  O : o ≠ 0 → oa ≠ D

/-- what a turn of a comprehension gives to its list -/
noncomputable def EmOK (b : Nat) (sc : Scope) (em : Env → Value → Sem Unit) (fm : Fl) : Prop :=
  ∀ (c : Cx) (A : Around) (env : Env) (Z : Heap) (oa : Addr) (s : Shared) (o : Nat) (σ : Sg) (outs : List PyData) (D : Addr) (ys : Array Value) (Q : Unit → Shared → Prop),
    Room b A → env.scope = sc → EnvOK env → Fm c Z s.heap env σ o oa → fm o σ = some outs → s.heap.PlainList D ys → Z.get? D = none → Off env o oa D → ys.size + outs.length ≤ sizeLine →
    (∀ Z' h' tk ys' vs, Fm c Z' h' env σ o oa → Gr s.heap Z Z' → (∀ b ob, b ≠ D → b ≠ env.locals → b ≠ 16 → b ≠ 23 → s.heap.get? b = some ob → h'.get? b = some ob) →
      h'.PlainList D ys' → Z'.get? D = none → ys'.toList = ys.toList ++ vs → RepA Z' vs outs → Q () { s with heap := h', toks := tk }) →
    wpAny (model prog c.w) A (em env (.ref D)) Q noE s

noncomputable def emLast (elt : Expr) (env : Env) (acc : Value) : Sem Unit := do let _ ← call (.builtin "list.append") [acc, ← eval elt env]
noncomputable def lOne (f : Fe) : Fl := fun o σ => (f o σ).map fun y => [y]
theorem em_last {b : Nat} {sc : Scope} {elt : Expr} {fe : Fe} (helt : EvOK b sc elt fe) : EmOK b sc (emLast elt) (lOne fe) := by
  intro c A env Z oa s o σ outs D ys Q rm he ho F hf hD hz off hsz P
  unfold lOne at hf
  obtain ⟨y, hy, rfl⟩ := Option.map_eq_some_iff.mp hf
  obtain ⟨n, eD⟩ := hD
  have nt := F.inv.not_tab eD (fun ps q => by cases q)
  refine wpAny_bind (helt c A env Z oa s o σ y _ rm he ho F hy fun v Z5 h5 t5 I5 g5 x5 rv => ?_)
  have F5 := F.ext I5 g5 x5
  have hD5 := x5 _ _ nt.1 nt.2 eD
  have hz5 : Z5.get? D = none := by
    cases q : Z5.get? D with
    | none => rfl
    | some o' => rw [g5.2 D _ o' eD q] at hz; cases hz
  refine wpAny_bind (wpAny_list_append_plain (hsz := by simp at hsz; omega) ⟨n, hD5⟩ fun h6 hl6 hs6 => wpAny_pure ?_)
  have I6 : Inv c Z5 h6 := I5.turn hs6 hz5 nt.1 nt.2
  have F6 : Fm c Z5 h6 env σ o oa := F5.off (wr := [D]) I6 (Gr.refl _ _) (fun b ob hb _ _ e => (hs6.2 b (by simpa using hb)).trans e) (by simpa using off.L.symm) (fun x a e => by simpa using off.C x a e) (fun ho => by simpa using off.O ho)
  exact P Z5 h6 t5 (ys.push v) [v] F6 g5 (fun b ob b1 _ b3 b4 e => (hs6.2 b b1).trans (x5 b ob b3 b4 e)) hl6 hz5 (by rw [Array.toList_push]) (.cons rv .nil)

/-- a turn's tree -/
noncomputable def turnTree (tgt iter : Expr) (ifs : List Expr) (it : Value) (env : Env) (em : Sem Unit) (code : Code) : Sem PySem.Fin := do
  standAt iter.pos
  match ← pyNext it with
  | none => pure (.done .next)
  | some v =>
    letOwnedTupleGo tgt it v
    assign tgt env v
    let mut ok := true
    for c in ifs do
      if ok then ok ← isTrue c env (eval c env)
    if ok then em
    again code

/-- the loop of a clause of a comprehension -/
theorem comp_loop {b : Nat} {c : Cx} {A : Around} {Z : Heap} {oa : Addr} {s : Shared} {o : Nat} {σ : Sg} {cenv : Env} {sc : Scope} {elt iter : Expr} {gens : List Comprehension} {dp : Nat} {ifs : List Expr} {scope : Scope} {pos px : Pos} {x : Str} {i : Nat} {I D : Addr} {wr : List Addr} {St : Nat → Heap → Prop}
    {ds out : List PyData} {cond : Fb} {em : Env → Value → Sem Unit} {fm : Fl} {ys₀ : Array Value} {R : Result → Shared → Prop}
    (hct : compTurn (.ListComp elt gens scope pos) dp (.ref I) (.ref D) cenv = turnTree (.Name x px) iter ifs (.ref I) cenv (em cenv (.ref D)) (.compLoop (.ListComp elt gens scope pos) dp (.ref I) (.ref D) cenv))
    (rm : Room b A) (he : cenv.scope = sc) (ho : EnvOK cenv) (F : Fm c Z s.heap cenv σ o oa) (hi : σ i = none) (hst : StoreOK sc x i) (hcond : CondOK b sc ifs cond) (hem : EmOK b sc em fm)
    (src : Src c A (.Name x px) Z I wr St ds) (st0 : St 0 s.heap) (hz : ∀ b ∈ wr, Z.get? b = none) (hD : s.heap.PlainList D ys₀) (hDz : Z.get? D = none) (off : Off cenv o oa D) (hDw : D ∉ wr)
    (nw : cenv.locals ∉ wr ∧ (∀ x a, Mine cenv x a → a ∉ wr) ∧ (o ≠ 0 → oa ∉ wr))
    (hgo : compGo (compF i cond fm o σ) ds = some out) (hlen : ys₀.size + out.length ≤ sizeLine)
    (hR : ∀ Z' h' tk ys vs, Fm c Z' h' cenv σ o oa → Gr s.heap Z Z' → (∀ b ob, b ∉ wr → b ≠ D → b ≠ cenv.locals → ¬ Mine cenv x b → b ≠ 16 → b ≠ 23 → s.heap.get? b = some ob → h'.get? b = some ob) → Z'.get? D = none →
      h'.PlainList D ys → ys.toList = ys₀.toList ++ vs → RepA Z' vs out → R (.ok .next) { s with heap := h', toks := tk }) :
    codeAny (model prog c.w) A (.compLoop (.ListComp elt gens scope pos) dp (.ref I) (.ref D) cenv) R s := by
  let Iv : Nat → Shared → Prop := fun n s' => ∃ k Z' h' tk ys vs don rest, s' = { s with heap := h', toks := tk } ∧ n = ds.length + 1 - k ∧ k ≤ ds.length ∧ St k h' ∧ Fm c Z' h' cenv σ o oa ∧ h'.PlainList D ys ∧ Z'.get? D = none ∧ (∀ b ∈ wr, Z'.get? b = none) ∧
      ys.toList = ys₀.toList ++ vs ∧ RepA Z' vs don ∧ compGo (compF i cond fm o σ) (ds.drop k) = some rest ∧ out = don ++ rest ∧ Le Z Z' ∧ Gr s.heap Z Z' ∧
      (∀ b ob, b ∉ wr → b ≠ D → b ≠ cenv.locals → ¬ Mine cenv x b → b ≠ 16 → b ≠ 23 → s.heap.get? b = some ob → h'.get? b = some ob)
  have wlt : ∀ b ∈ wr, ∃ ob, s.heap.get? b = some ob := fun b hb => by obtain ⟨ob, e, _⟩ := src.live 0 _ st0 b hb; exact ⟨ob, e⟩
  refine codeAny_loop rfl Iv (fun n s' hI => ?_) (ds.length + 1)
    ⟨0, Z, s.heap, s.toks, ys₀, [], [], out, rfl, rfl, Nat.zero_le _, st0, F, hD, hDz, hz, by simp, .nil, by simpa using hgo, rfl, Le.refl _, Gr.refl _ _, fun _ _ _ _ _ _ _ _ e => e⟩
  show wpAny _ A ((compTurn (.ListComp elt gens scope pos) dp (.ref I) (.ref D) cenv).onRaise (fun x => do noteFrame x cenv; theTreesLotGoes x)) _ _ s'
  refine wpAny_noted (wpE ?_)
  rw [hct]
  obtain ⟨k, Z1, h1, t1, ys, vs, don, rest, rfl, rfl, hk, st, F1, hD1, hDz1, hz1, hys, r1, hrest, hout, le1, g1, k1⟩ := hI
  obtain ⟨on, hDe⟩ := hD1
  have ntD := F1.inv.not_tab hDe (fun ps q => by cases q)
  have step : ∀ {Z2 h2 : Heap} (I2 : Inv c Z2 h2) (g2 : Gr h1 Z1 Z2) (keep : ∀ b ob, b ∉ wr → h1.get? b = some ob → h2.get? b = some ob),
      Fm c Z2 h2 cenv σ o oa ∧ h2.PlainList D ys ∧ Z2.get? D = none ∧ (∀ b ∈ wr, Z2.get? b = none) := fun {Z2 h2} I2 g2 keep => by
    refine ⟨F1.off I2 g2 (fun b ob hb _ _ e => keep b ob hb e) nw.1 nw.2.1 nw.2.2, ⟨on, keep _ _ hDw hDe⟩, ?_, fun b hb => ?_⟩
    · cases q : Z2.get? D with
      | none => rfl
      | some o' => rw [g2.2 D _ o' hDe q] at hDz1; cases hDz1
    · obtain ⟨ob, e, _⟩ := src.live k _ st b hb
      cases q : Z2.get? b with
      | none => rfl
      | some o' => have := hz1 b hb; rw [g2.2 b ob o' e q] at this; cases this
  unfold turnTree
  refine wpAny_bind (wpAny_standAt (wpAny_bind ?_))
  by_cases hlt : k < ds.length
  · have hd : ds[k]? = some ds[k] := by simp [hlt]
    rw [List.drop_eq_getElem_cons hlt] at hrest
    obtain ⟨rr, rest', hf, hrest', hre⟩ := compGo_cons hrest
    generalize ds[k] = d at hd hf
    unfold compF at hf
    split at hf
    · cases hf
    rename_i hio
    obtain ⟨t, hct, hf⟩ := Option.bind_eq_some_iff.mp hf
    refine wpAny_mono (src.turn k d { s with heap := h1, toks := t1 } Z1
      (S := fun v s₂ => wpAny (model prog c.w) A (assign (.Name x px) cenv v) (fun _ s₂ =>
          wpAny (model prog c.w) A (tests ifs cenv) (fun ok s₃ =>
            if ok = true then wpAny (model prog c.w) A (em cenv (.ref D)) (fun _ s₄ => ∃ m, m < ds.length + 1 - k ∧ Iv m s₄) noE s₃
            else ∃ m, m < ds.length + 1 - k ∧ Iv m s₃) noE s₂) noE s₂)
      (N := fun _ => False) hd st le1 F1.inv hz1 ?_) (fun r s₁ h₁ => ?_) fun _ _ x => x
    rotate_left
    · cases r with
      | none => exact h₁.elim
      | some v =>
        refine wpAny_bind (wpAny_mono h₁ (fun _ s₂ h₂ => ?_) fun _ _ x => x)
        refine wpAny_bind (wpAny_mono h₂ (fun _ s₂ h₃ => ?_) fun _ _ x => x)
        refine wpAny_bind (wpAny_mono h₃ (fun ok s₃ h₄ => ?_) fun _ _ x => x)
        cases ok with
        | false => exact wpAny_pure ⟨rfl, h₄⟩
        | true => exact wpAny_bind (wpAny_mono (show wpAny _ A (em cenv (.ref D)) _ noE s₃ from by simpa using h₄) (fun _ s₄ h₅ => wpAny_pure ⟨rfl, h₅⟩) fun _ _ x => x)
    · intro v Z2 h2 t2 st2 I2 g2 keep rv
      obtain ⟨F2, hD2, hDz2, hz2⟩ := step I2 g2 keep
      refine wpAny_assign_Name (hst c A cenv Z2 oa _ o σ v d _ he ho F2 rv hio fun h3 t3 a3 F3 ha3 hs3 => ?_)
      have ka3 : ∀ b, b ≠ cenv.locals → ¬ Mine cenv x b → b ≠ a3 := fun b h1 h2 q => by
        rcases ha3 with r | r
        · exact h1 (q.trans r)
        · exact h2 (q ▸ r)
      have hD3 : h3.PlainList D ys := by
        obtain ⟨n2, e2⟩ := hD2
        refine ⟨n2, (hs3.2 D fun q => ?_).trans e2⟩
        rcases ha3 with r | r
        · exact off.L (q.trans r)
        · exact off.C _ _ r q.symm
      have st3 : St (k + 1) h3 := src.frame _ _ _ st2 (le1.trans (g2.1.trans F3.inv.le)) fun b hb ob e => (hs3.2 b fun q => by
        rcases ha3 with r | r
        · exact nw.1 (r ▸ q ▸ hb)
        · exact nw.2.1 _ _ r (q ▸ hb)).trans e
      refine hcond c A cenv Z2 oa _ o _ t _ rm he ho F3 hct fun Z4 h4 t4 I4 g4 x4 => ?_
      have F4 := F3.ext I4 g4 x4
      obtain ⟨n3, e3⟩ := hD3
      have hD4 : h4.get? D = some { cls := .type "list", data := .seq ys n3 } := x4 _ _ ntD.1 ntD.2 e3
      have wlive : ∀ b ∈ wr, ∃ ob, h3.get? b = some ob ∧ b ≠ 16 ∧ b ≠ 23 := fun b hb => by
        obtain ⟨ob, e, e', _⟩ := src.live _ _ st3 b hb
        have := F3.inv.not_tab e e'
        exact ⟨ob, e, this.1, this.2⟩
      have st4 : St (k + 1) h4 := src.frame _ _ _ st3 (le1.trans (g2.1.trans (g4.1.trans I4.le))) fun b hb ob e => by
        obtain ⟨_, _, q1, q2⟩ := wlive b hb
        exact x4 b ob q1 q2 e
      have hDz4 : Z4.get? D = none := by
        cases q : Z4.get? D with
        | none => rfl
        | some o' => rw [g4.2 D _ o' e3 q] at hDz2; cases hDz2
      have hz4 : ∀ b ∈ wr, Z4.get? b = none := fun b hb => by
        obtain ⟨ob, e, _⟩ := wlive b hb
        cases q : Z4.get? b with
        | none => rfl
        | some o' => have := hz2 b hb; rw [g4.2 b ob o' e q] at this; cases this
      have gr4 : Gr s.heap Z Z4 := by
        refine ⟨le1.trans (g2.1.trans g4.1), fun b ob o' e q => ?_⟩
        by_cases b1 : b = 16
        · rw [I4.noTab b (.inl b1)] at q; cases q
        by_cases b2 : b = 23
        · rw [I4.noTab b (.inr b2)] at q; cases q
        by_cases b3 : b ∈ wr
        · rw [hz4 b b3] at q; cases q
        by_cases b4 : b = D
        · rw [b4, hDz4] at q; cases q
        by_cases b5 : b = cenv.locals
        · rw [b5, F4.nL] at q; cases q
        by_cases b6 : Mine cenv x b
        · rw [(F4.cells _ _ b6).1] at q; cases q
        have e1 := k1 b ob b3 b4 b5 b6 b1 b2 e
        have e2 := keep b ob b3 e1
        have e3' : h3.get? b = some ob := (hs3.2 b (ka3 b b5 b6)).trans e2
        exact g1.2 b ob o' e (g2.2 b ob o' e1 (g4.2 b ob o' e3' q))
      have kk4 : ∀ b ob, b ∉ wr → b ≠ D → b ≠ cenv.locals → ¬ Mine cenv x b → b ≠ 16 → b ≠ 23 → s.heap.get? b = some ob → h4.get? b = some ob := fun b ob b3 b4 b5 b6 b1 b2 e =>
        x4 b ob b1 b2 ((hs3.2 b (ka3 b b5 b6)).trans (keep b ob b3 (k1 b ob b3 b4 b5 b6 b1 b2 e)))
      have less : ∀ j d', σ j = some d' → (σ.put i d) j = some d' := fun j d' e => by
        unfold Sg.put
        have hji : j ≠ i := fun q => by rw [q, hi] at e; cases e
        rw [if_neg hji]; exact e
      have F4' := F4.less less
      cases t with
      | false =>
        simp only [Bool.false_eq_true, if_false, Option.some.injEq] at hf
        subst hf
        simp only [Bool.false_eq_true, if_false]
        exact ⟨ds.length + 1 - (k + 1), by omega, k + 1, Z4, h4, t4, ys, vs, don, rest', rfl, rfl, hlt, st4, F4', ⟨n3, hD4⟩, hDz4, hz4, hys, r1.le (g2.1.trans g4.1), hrest', by rw [hout, hre]; rfl, gr4.1, gr4, kk4⟩
      | true =>
        simp only [if_true] at hf ⊢
        have hsz : ys.size + rr.length ≤ sizeLine := by
          have z1 := r1.length
          have z3 : ys.size = ys₀.size + vs.length := by rw [← Array.length_toList, hys, List.length_append, Array.length_toList]
          rw [hout, hre, List.length_append, List.length_append] at hlen
          omega
        refine hem c A cenv Z4 oa _ o _ rr D ys _ rm he ho F4 hf ⟨n3, hD4⟩ hDz4 off hsz fun Z5 h5 t5 ys5 vs5 F5 g5 x5 hD5 hDz5 hys5 r5 => ?_
        have wlive4 : ∀ b ∈ wr, ∃ ob, h4.get? b = some ob ∧ b ≠ 16 ∧ b ≠ 23 ∧ b ≠ D ∧ b ≠ cenv.locals := fun b hb => by
          obtain ⟨ob, e, e', _⟩ := src.live _ _ st4 b hb
          have := F4.inv.not_tab e e'
          exact ⟨ob, e, this.1, this.2, fun q => hDw (q ▸ hb), fun q => nw.1 (q ▸ hb)⟩
        have st5 : St (k + 1) h5 := src.frame _ _ _ st4 (gr4.1.trans (g5.1.trans F5.inv.le)) fun b hb ob e => by
          obtain ⟨_, _, q1, q2, q3, q4⟩ := wlive4 b hb
          exact x5 b ob q3 q4 q1 q2 e
        have hz5 : ∀ b ∈ wr, Z5.get? b = none := fun b hb => by
          obtain ⟨ob, e, _⟩ := wlive4 b hb
          cases q : Z5.get? b with
          | none => rfl
          | some o' => have := hz4 b hb; rw [g5.2 b ob o' e q] at this; cases this
        have kk5 : ∀ b ob, b ∉ wr → b ≠ D → b ≠ cenv.locals → ¬ Mine cenv x b → b ≠ 16 → b ≠ 23 → s.heap.get? b = some ob → h5.get? b = some ob := fun b ob b3 b4 b5 b6 b1 b2 e =>
          x5 b ob b4 b5 b1 b2 (kk4 b ob b3 b4 b5 b6 b1 b2 e)
        have gr5 : Gr s.heap Z Z5 := by
          refine ⟨gr4.1.trans g5.1, fun b ob o' e q => ?_⟩
          by_cases b1 : b = 16
          · rw [F5.inv.noTab b (.inl b1)] at q; cases q
          by_cases b2 : b = 23
          · rw [F5.inv.noTab b (.inr b2)] at q; cases q
          by_cases b3 : b ∈ wr
          · rw [hz5 b b3] at q; cases q
          by_cases b4 : b = D
          · rw [b4, hDz5] at q; cases q
          by_cases b5 : b = cenv.locals
          · rw [b5, F5.nL] at q; cases q
          by_cases b6 : Mine cenv x b
          · rw [(F5.cells _ _ b6).1] at q; cases q
          exact gr4.2 b ob o' e (g5.2 b ob o' (kk4 b ob b3 b4 b5 b6 b1 b2 e) q)
        exact ⟨ds.length + 1 - (k + 1), by omega, k + 1, Z5, h5, t5, ys5, vs ++ vs5, don ++ rr, rest', rfl, rfl, hlt, st5, F5.less less, hD5, hDz5, hz5, by rw [hys5, hys, List.append_assoc],
          (r1.le (g2.1.trans (g4.1.trans g5.1))).append r5, hrest', by rw [hout, hre, List.append_assoc], gr5.1, gr5, kk5⟩
  · have hkn : k = ds.length := by omega
    subst hkn
    refine wpAny_mono (src.done { s with heap := h1, toks := t1 } Z1 (S := fun _ _ => False) (N := fun s' => R (.ok .next) s') st le1 F1.inv hz1 ?_) (fun r s₁ h₁ => ?_) fun _ _ x => x
    rotate_left
    · cases r with
      | none => exact wpAny_pure h₁
      | some v => exact wpAny_bind (wpAny_mono h₁ (fun _ _ x => x.elim) fun _ _ x => x)
    · intro h2 t2 I2 keep
      obtain ⟨F2, hD2, hDz2, hz2⟩ := step I2 (Gr.refl _ _) keep
      rw [List.drop_eq_nil_of_le (Nat.le_refl _)] at hrest
      cases hrest
      rw [List.append_nil] at hout
      subst hout
      exact hR Z1 h2 t2 ys vs F2 g1 (fun b ob b3 b4 b5 b6 b1 b2 e => keep b ob b3 (k1 b ob b3 b4 b5 b6 b1 b2 e)) hDz2 hD2 hys r1
end Hf
end

section
open PySem PySem.W PyProof.Rows PySem.Calls PySem.Spec
namespace Hf
set_option autoImplicit false
set_option linter.unusedSectionVars false
variable [TheW]

noncomputable def ItOK (b : Nat) (sc : Scope) (tgt : Expr) (e : Expr) (f : Fl) : Prop :=
  ∀ (c : Cx) (A : Around) (env : Env) (Z : Heap) (oa : Addr) (s : Shared) (o : Nat) (σ : Sg) (ds : List PyData) (Q : Value → Shared → Prop),
    Room b A → env.scope = sc → EnvOK env → Fm c Z s.heap env σ o oa → f o σ = some ds →
    (∀ I wr St Z' h' tk', Src c A tgt Z' I wr St ds → St 0 h' → Inv c Z' h' → Gr s.heap Z Z' → Ext s.heap h' → (∀ b ∈ wr, s.heap.get? b = none ∧ Z'.get? b = none) → Q (.ref I) { s with heap := h', toks := tk' }) →
    wpAny (model prog c.w) A (eval e env) (fun xv s₁ => wpAny (model prog c.w) A (pyIter xv) Q noE s₁) noE s

theorem nat_no1 {n m : Nat} (h2 : n < m) (h3 : n = m + 1) : False := by omega
theorem nat_no2 {a n m : Nat} (h1 : n + 1 ≤ a) (h2 : a < m) (h3 : n = m + 1) : False := by omega
theorem nat_no3 {a n m : Nat} (h1 : n + 1 ≤ a) (h3 : n = m + 1) : a ≠ m := by omega
/-- the tree of a turn, by clause -/
noncomputable abbrev TurnIs (elt : Expr) (gens : List Comprehension) (scope : Scope) (pos : Pos) (dp : Nat) (tgt iter : Expr) (ifs : List Expr) (em : Env → Value → Sem Unit) : Prop :=
  ∀ (I D : Addr) (cenv : Env), compTurn (.ListComp elt gens scope pos) dp (.ref I) (.ref D) cenv = turnTree tgt iter ifs (.ref I) cenv (em cenv (.ref D)) (.compLoop (.ListComp elt gens scope pos) dp (.ref I) (.ref D) cenv)
theorem comp_run {b : Nat} {c : Cx} {A : Around} {Z : Heap} {oa : Addr} {s : Shared} {o : Nat} {σ : Sg} {env : Env} {elt iter : Expr} {ifs : List Expr} {scope : Scope} {pos px : Pos} {x : Str} {i : Nat} {xs : List Nat} {I : Addr} {wr : List Addr} {St : Nat → Heap → Prop}
    {rest : List Comprehension} {em : Env → Value → Sem Unit} {ds out : List PyData} {cond : Fb} {fm : Fl} {RR : Value → Addr → Result → Shared → Prop}
    (rm : Room b A) (T : CompSc scope env.scope xs) (ho : EnvOK env) (F : Fm c Z s.heap env σ o oa) (hxk : scope.names.lookup x = some .local ∨ scope.names.lookup x = some .cell)
    (hct : TurnIs elt (⟨.Name x px, iter, ifs, 0⟩ :: rest) scope pos 0 (.Name x px) iter ifs em) (hxi : nm i = x ∧ i < 48)
    (hst : StoreOK (relabelS scope env.scope) x i) (hcond : CondOK b (relabelS scope env.scope) ifs cond) (hem : EmOK b (relabelS scope env.scope) em fm)
    (src : Src c A (.Name x px) Z I wr St ds) (st0 : St 0 s.heap) (hz : ∀ b ∈ wr, Z.get? b = none) (nw : env.locals ∉ wr ∧ (∀ x a, Mine env x a → a ∉ wr) ∧ (o ≠ 0 → oa ∉ wr))
    (hgo : compGo (compF i cond fm o (σ.del xs)) ds = some out) (hlen : lenOK out.length = true)
    (hR : ∀ D C Z' h' tk m ys, Inv c Z' h' → Gr s.heap Z Z' → (∀ b ob, b ∉ wr → b ≠ 16 → b ≠ 23 → s.heap.get? b = some ob → h'.get? b = some ob) → s.heap.get? D = none → s.heap.get? C = none → D ≠ C → Z'.get? D = none → Z'.get? C = none →
      h'.Ns C m → h'.PlainList D ys → RepA Z' ys.toList out → RR (.ref D) C (.ok .next) { s with heap := h', toks := tk }) :
    wpAny (model prog c.w) A (newList []) (fun acc s₃ => wpAny (model prog c.w) A (newFunctionEnv scope env.globals (clOf env scope.names []) [] env.qual none .none (some env)) (fun cenv s₄ =>
      codeAny (model prog c.w) A (.compStart (.ListComp elt (⟨.Name x px, iter, ifs, 0⟩ :: rest) scope pos) 0 (.ref I) acc { cenv with scope := relabel scope env }) (RR acc cenv.locals) s₄) noE s₃) noE s := by
  refine wpAny_newObj_type (newEnv_comp fun h' cells k hC hcs ok => ?_)
  dsimp only at k hC hcs ok ⊢
  generalize hH2 : s.heap.push { cls := .type "list", dict := none, data := .seq ([] : List Value).toArray } = H2 at k hC hcs ok ⊢
  have k2 : Le s.heap H2 := hH2 ▸ push_le _ _
  have hz2 : H2.objs.size = s.heap.objs.size + 1 := by rw [← hH2, Heap.size_push]
  have F2 : Fm c Z H2 env σ o oa := F.ext (F.inv.keep k2) (Gr.refl _ _) (Ext.of_le k2)
  subst hcs
  have F3 := comp_frame T ho F2 k hC rfl ok
  have ho3 := comp_envOK T ho H2.objs.size (n := H2.objs.size + 1)
  have newC : s.heap.get? H2.objs.size = none := by
    cases q : s.heap.get? H2.objs.size with
    | none => rfl
    | some ob => exact absurd (Heap.lt_size (k2 _ _ q)) (Nat.lt_irrefl _)
  have newD : s.heap.get? s.heap.objs.size = none := get_new _
  have hDC : s.heap.objs.size ≠ H2.objs.size := by rw [hz2]; exact Nat.ne_of_lt (Nat.lt_succ_self _)
  have hD : h'.PlainList s.heap.objs.size #[] := ⟨0, k _ _ (hH2 ▸ Heap.get?_push_size _ rfl)⟩
  have lt_of : ∀ a ob, s.heap.get? a = some ob → a < s.heap.objs.size := fun a ob e => Heap.lt_size e
  have wlt : ∀ b ∈ wr, b < s.heap.objs.size := fun b hb => by obtain ⟨ob, e, _⟩ := src.live 0 _ st0 b hb; exact Heap.lt_size e
  -- a cell of the comprehension: the frame's, or new
  have lk : ∀ y a, Mine (cenvOf scope env H2.objs.size (cellsFrom (H2.objs.size + 1) scope.names [])) y a → H2.objs.size + 1 ≤ a ∨ (Mine env y a ∧ (y, NameKind.free) ∈ scope.names) := fun y a hm => by
    have e : (cellsFrom (H2.objs.size + 1) scope.names [] ++ clOf env scope.names []).lookup y = some a := hm.2
    rw [lookup_append] at e
    cases hq : (cellsFrom (H2.objs.size + 1) scope.names []).lookup y with
    | some b => rw [hq] at e; cases e; exact .inl (ok.empty _ _ (mem_of_lookup hq)).2
    | none =>
      rw [hq] at e
      have e' : (clOf env scope.names []).lookup y = some a := by simpa using e
      have hf : (y, NameKind.free) ∈ scope.names := by
        rcases clOf_mem scope.names [] y a (mem_of_lookup e') with q | q
        · cases q
        · exact q
      exact .inr ⟨⟨T.free _ hf rfl, clOf_some scope.names [] (fun _ _ e => nomatch e) y a e'⟩, hf⟩
  have st3 : St 0 h' := src.frame _ _ _ st0 F3.inv.le fun b _ ob e => k _ _ (k2 _ _ e)
  have loop : codeAny (model prog c.w) A (.compLoop (.ListComp elt (⟨.Name x px, iter, ifs, 0⟩ :: rest) scope pos) 0 (.ref I) (.ref s.heap.objs.size) (cenvOf scope env H2.objs.size (cellsFrom (H2.objs.size + 1) scope.names [])))
      (RR (.ref s.heap.objs.size) H2.objs.size) { s with heap := h' } := by
    have hσi : (σ.del xs) i = none := by
      unfold Sg.del
      rw [if_pos (T.locs i hxi.2 (by rw [hxi.1]; exact hxk))]
    refine comp_loop (s := { s with heap := h' }) (hct _ _ _) rm (show (cenvOf scope env H2.objs.size (cellsFrom (H2.objs.size + 1) scope.names [])).scope = relabelS scope env.scope from rfl) ho3 F3 hσi hst hcond hem src st3 hz hD (F.inv.noZ newD) ⟨hDC, fun y a e => ?_, fun q => ?_⟩ (fun q => Nat.lt_irrefl _ (wlt _ q)) ⟨fun q => ?_, fun y a e => ?_, nw.2.2⟩ hgo (by simpa using lenOK_le hlen) ?_
    · rcases lk y a e with q | ⟨q, _⟩
      · exact nat_no3 q hz2
      · obtain ⟨ob, e', _⟩ := F.C_some y a q
        exact Nat.ne_of_lt (lt_of _ _ e')
    · obtain ⟨ob, e', _⟩ := F.O_some q
      exact Nat.ne_of_lt (lt_of _ _ e')
    · have := wlt _ q
      have h2 : (cenvOf scope env H2.objs.size (cellsFrom (H2.objs.size + 1) scope.names [])).locals = H2.objs.size := rfl
      rw [h2] at this
      exact nat_no1 this hz2
    · rcases lk y a e with q | ⟨q, _⟩
      · intro hm; exact nat_no2 q (wlt _ hm) hz2
      · exact nw.2.1 y a q
    · intro Z' h4 t4 ys vs F4 g4 k4 z1 l4 hys r4
      obtain ⟨m, n4, _⟩ := F4.loc
      have I4 := F4.inv
      have z2 := F4.nL
      have hys' : ys.toList = vs := hys
      subst hys'
      have keep : ∀ b ob, b ∉ wr → b ≠ 16 → b ≠ 23 → s.heap.get? b = some ob → h4.get? b = some ob := fun b ob h1 h2 h3 e => by
        refine k4 b ob h1 (fun q => ?_) (fun q => ?_) (fun q => ?_) h2 h3 (k _ _ (k2 _ _ e))
        · rw [q, newD] at e; cases e
        · have q' : b = H2.objs.size := q
          rw [q', newC] at e; cases e
        · rcases lk x b q with r | ⟨_, r⟩
          · exact nat_no2 r (lt_of _ _ e) hz2
          · rcases hxk with r' | r'
            · cases nodup_kind T.nodup r (mem_of_lookup r')
            · cases nodup_kind T.nodup r (mem_of_lookup r')
      refine hR _ _ Z' h4 t4 m ys I4 ⟨g4.1, fun b ob o' e q => g4.2 b ob o' (k _ _ (k2 _ _ e)) q⟩ keep newD newC hDC z1 z2 n4 l4 r4
  exact codeAny_compStart_list loop (wpE (src.self rfl 0 _ _ st3 loop))

theorem closure_names {scope sc : Scope} {xs : List Nat} (T : CompSc scope sc xs) : ∀ x ∈ scope.names, x.2 = .local → scope.names.lookup x.1 = some .local := fun x hx hl => by
  have hm : (x.1, NameKind.local) ∈ scope.names := by rw [← hl]; exact hx
  cases hs : scope.names.lookup x.1 with
  | none =>
    exfalso
    have : ∀ (l : List (Str × NameKind)), l.lookup x.1 = none → ∀ k, (x.1, k) ∉ l := by
      intro l
      induction l with
      | nil => intro _ k h; cases h
      | cons p r ih =>
        intro e k h
        obtain ⟨y, k'⟩ := p
        rw [List.lookup_cons] at e
        cases hb : x.1 == y with
        | true => rw [hb] at e; cases e
        | false =>
          rw [hb] at e
          rcases List.mem_cons.mp h with q | q
          · cases q; simp at hb
          · exact ih e k q
    exact this _ hs _ hm
  | some k => rw [nodup_kind T.nodup hm (mem_of_lookup hs)]

noncomputable def eComp (i : Nat) (xs : List Nat) (fi : Fl) (cond : Fb) (fm : Fl) : Fe := fun o σ => (fi o σ).bind fun ds => (compGo (compF i cond fm o (σ.del xs)) ds).bind fun out => if lenOK out.length then some (.list out) else none
theorem eComp_some {i : Nat} {xs : List Nat} {fi : Fl} {cond : Fb} {fm : Fl} {o : Nat} {σ : Sg} {d : PyData} (h : eComp i xs fi cond fm o σ = some d) :
    ∃ ds out, fi o σ = some ds ∧ compGo (compF i cond fm o (σ.del xs)) ds = some out ∧ lenOK out.length = true ∧ d = .list out := by
  unfold eComp at h
  obtain ⟨ds, h1, h⟩ := Option.bind_eq_some_iff.mp h
  obtain ⟨out, h2, h⟩ := Option.bind_eq_some_iff.mp h
  split at h
  · rename_i hl
    cases h
    exact ⟨ds, out, h1, h2, hl, rfl⟩
  · cases h

section
variable {b : Nat} {sc : Scope} {elt iter : Expr} {ifs : List Expr} {scope : Scope} {pos px : Pos} {x : Str} {i : Nat} {xs : List Nat} {fi : Fl} {cond : Fb} {fm : Fl} {rest : List Comprehension} {em : Env → Value → Sem Unit}
theorem src_off {c : Cx} {Z Z' h : Heap} {env : Env} {σ : Sg} {o : Nat} {oa : Addr} {wr : List Addr} (F : Fm c Z h env σ o oa) (hw : ∀ b ∈ wr, h.get? b = none ∧ Z'.get? b = none) :
    env.locals ∉ wr ∧ (∀ x a, Mine env x a → a ∉ wr) ∧ (o ≠ 0 → oa ∉ wr) := by
  refine ⟨fun q => ?_, fun x a e q => ?_, fun ho q => ?_⟩
  · obtain ⟨ob, e, _⟩ := F.L_some; rw [(hw _ q).1] at e; cases e
  · obtain ⟨ob, e', _⟩ := F.C_some x a e; rw [(hw _ q).1] at e'; cases e'
  · obtain ⟨ob, e, _⟩ := F.O_some ho; rw [(hw _ q).1] at e; cases e
/-- what is known behind a comprehension's loop -/
theorem comp_after {c : Cx} {Z Z' Z2 h h' h2 h3 : Heap} {C D : Addr} {wr : List Addr} {m : Str → Option Value} (I' : Inv c Z' h') (g : Gr h Z Z') (x' : Ext h h') (hw : ∀ b ∈ wr, h.get? b = none ∧ Z'.get? b = none)
    (I2 : Inv c Z2 h2) (g2 : Gr h' Z' Z2) (k2 : ∀ b ob, b ∉ wr → b ≠ 16 → b ≠ 23 → h'.get? b = some ob → h2.get? b = some ob) (nC : h'.get? C = none) (nD : h'.get? D = none) (zC : Z2.get? C = none) (nsC : h2.Ns C m) (hs3 : Heap.SameBut C h2 h3) :
    Inv c Z2 h3 ∧ Gr h Z Z2 ∧ Ext h h3 ∧ h.get? D = none ∧ h.get? C = none := by
  have hs3' : ∀ b ob, b ≠ C → h2.get? b = some ob → h3.get? b = some ob := fun b ob hb e => (hs3.2 b hb).trans e
  have ntC := I2.ns_not nsC
  have I3 : Inv c Z2 h3 := I2.turn hs3 zC ntC.1 ntC.2
  have old : ∀ b ob, b ≠ 16 → b ≠ 23 → h.get? b = some ob → h3.get? b = some ob := fun b ob b1 b2 e => by
    have e1 := x' b ob b1 b2 e
    have hbw : b ∉ wr := fun q => by rw [(hw b q).1] at e; cases e
    exact hs3' b ob (fun q => by rw [q] at e1; rw [nC] at e1; cases e1) (k2 b ob hbw b1 b2 e1)
  have gr : Gr h Z Z2 := ⟨g.1.trans g2.1, fun b ob o' e q => by
    by_cases b1 : b = 16
    · rw [I2.noTab b (.inl b1)] at q; cases q
    by_cases b2 : b = 23
    · rw [I2.noTab b (.inr b2)] at q; cases q
    exact g.2 b ob o' e (g2.2 b ob o' (x' b ob b1 b2 e) q)⟩
  have new : ∀ D, h'.get? D = none → h.get? D = none := fun D nD => by
    cases q : h.get? D with
    | none => rfl
    | some ob =>
      by_cases b1 : D = 16
      · obtain ⟨ps, e1⟩ := I'.tab16; rw [b1] at nD; rw [e1] at nD; cases nD
      by_cases b2 : D = 23
      · obtain ⟨ps, e1⟩ := I'.tab23; rw [b2] at nD; rw [e1] at nD; cases nD
      have := x' D ob b1 b2 q; rw [nD] at this; cases this
  exact ⟨I3, gr, old, new D nD, new C nC⟩
/-- a comprehension -/
theorem evn_comp (T : CompSc scope sc xs) (hxk : scope.names.lookup x = some .local ∨ scope.names.lookup x = some .cell) (hct : TurnIs elt (⟨.Name x px, iter, ifs, 0⟩ :: rest) scope pos 0 (.Name x px) iter ifs em) (hxi : nm i = x ∧ i < 48)
    (hst : StoreOK (relabelS scope sc) x i) (hit : ItOK b sc (.Name x px) iter fi) (hcond : CondOK b (relabelS scope sc) ifs cond)
    (hem : EmOK b (relabelS scope sc) em fm) (hs : ∀ env v, foldedSetIterable iter env v = pure v) : EvN b sc (.ListComp elt (⟨.Name x px, iter, ifs, 0⟩ :: rest) scope pos) (eComp i xs fi cond fm) := by
  intro c A env Z oa s o σ d Q rm he ho F hf P
  subst he
  obtain ⟨ds, out, h1, h2, h3, rfl⟩ := eComp_some hf
  rw [eval_ListComp]
  refine wpAny_comprehension_free (use := none) rfl (hs env) (closure_eq fun y hy hf => ho.cov y.1 (.inl (T.free y hy hf))) T.kind (closure_names T)
    (hit c A env Z oa s o σ ds _ rm rfl ho F h1 fun I wr St Z' h' tk' src st0 I' g x' hw => ?_)
  have F' := F.ext I' g x'
  have nw := src_off F hw
  refine comp_run (RR := fun acc C => compPost (model prog c.w) A noE none Q acc C) (s := { s with heap := h', toks := tk' }) rm T ho F' hxk hct hxi hst hcond hem src st0 (fun b hb => (hw b hb).2) nw h2 h3 ?_
  intro D C Z2 h2 t2 m ys I2 g2 k2 nD nC hDC zD zC nsC lD rD
  refine ⟨m, nsC, fun h3 hs3 => ?_⟩
  obtain ⟨I3, gr, old, nD', _⟩ := comp_after I' g x' hw I2 g2 k2 nC nD zC nsC hs3
  obtain ⟨n, eD⟩ := lD
  exact P D Z2 h3 t2 I3 gr old nD' zD (.inl ⟨out, ys, rfl, ⟨_, n, (hs3.2 D hDC).trans eD, rfl, rfl, rfl⟩, rD⟩)

/-- the start of a clause's loop -/
theorem compStart_any {w : World} {A : Around} {R : Result → Shared → Prop} {s : Shared} {elt : Expr} {gens : List Comprehension} {scope : Scope} {pos : Pos} {dp : Nat} {tgt iter : Expr} {ifs : List Expr} {it acc : Value} {env : Env} (hg : gens[dp]? = some ⟨tgt, iter, ifs, 0⟩)
    (h0 : codeAny (model prog w) A (.compLoop (.ListComp elt gens scope pos) dp it acc env) R s)
    (h : wpAny (model prog w) A (pyIter it) (fun it' s' => codeAny (model prog w) A (.compLoop (.ListComp elt gens scope pos) dp it' acc env) R s') noE s) :
    codeAny (model prog w) A (.compStart (.ListComp elt gens scope pos) dp it acc env) R s := by
  refine codeAny_of_tree ?_
  have hc : (clausesOf (.ListComp elt gens scope pos))[dp]? = some ⟨tgt, iter, ifs, 0⟩ := hg
  show wpAny _ _ ((compStart (.ListComp elt gens scope pos) dp it acc env).onRaise (fun x => do noteFrame x env; standAt theWindowsPlace)) _ _ s
  refine wpAny_notedAt (wpE ?_)
  unfold compStart
  rw [hc]
  show wpAny _ _ (ask >>= _) _ _ s
  refine wpAny_bind (wpAny_askSetting (wpAny_ite ?_))
  split
  · exact wpAny_pure (And.intro rfl h0)
  · refine wpAny_bind (wpAny_rule ?_)
    show wpAny _ _ (standAt iter.pos >>= _) _ _ s
    exact wpAny_bind (wpAny_standAt (wpAny_bind (wpAny_mono h (fun it' s' h' => wpAny_pure (And.intro rfl h')) fun _ _ x => x)))

/-- a clause behind the first -/
noncomputable def emInner (elt : Expr) (gens : List Comprehension) (scope : Scope) (pos : Pos) (dp : Nat) (iter : Expr) (env : Env) (acc : Value) : Sem Unit := do
  let x ← eval iter env
  standAt iter.pos
  let x ← foldedSetIterable iter env x
  let _ ← runOwn (.compStart (.ListComp elt gens scope pos) dp (← holding [x] (pyIter x)) acc env) env
noncomputable def lInner (i : Nat) (fi : Fl) (cond : Fb) (fm : Fl) : Fl := fun o σ => match σ i with
  | some _ => none
  | none => (fi o σ).bind fun ds => compGo (compF i cond fm o σ) ds
theorem lInner_some {i : Nat} {fi : Fl} {cond : Fb} {fm : Fl} {o : Nat} {σ : Sg} {out : List PyData} (h : lInner i fi cond fm o σ = some out) : σ i = none ∧ ∃ ds, fi o σ = some ds ∧ compGo (compF i cond fm o σ) ds = some out := by
  unfold lInner at h
  split at h
  · cases h
  · rename_i hn
    obtain ⟨ds, h1, h2⟩ := Option.bind_eq_some_iff.mp h
    exact ⟨hn, ds, h1, h2⟩
theorem em_inner {gens : List Comprehension} {dp : Nat} (hg : gens[dp]? = some ⟨.Name x px, iter, ifs, 0⟩) (hct : TurnIs elt gens scope pos dp (.Name x px) iter ifs em) (hl : sc.names.lookup x = some .local)
    (hst : StoreOK sc x i) (hit : ItOK b sc (.Name x px) iter fi) (hcond : CondOK b sc ifs cond) (hem : EmOK b sc em fm) (hs : ∀ env v, foldedSetIterable iter env v = pure v) :
    EmOK b sc (emInner elt gens scope pos dp iter) (lInner i fi cond fm) := by
  intro c A env Z oa s o σ outs D ys Q rm he ho F hf hD hz off hsz P
  subst he
  obtain ⟨hi, ds, h1, h2⟩ := lInner_some hf
  obtain ⟨nD, eD⟩ := hD
  have ntD := F.inv.not_tab eD (fun ps q => by cases q)
  refine wpAny_bind (wpAny_mono (hit c A env Z oa s o σ ds (fun v s' => wpAny (model prog c.w) A (runOwn (.compStart (.ListComp elt gens scope pos) dp v (.ref D) env) env) (fun _ s'' => Q () s'') noE s') rm rfl ho F h1
    fun I wr St Z' h' tk' src st0 I' g x' hw => ?_) (fun v s' h' => ?_) fun _ _ x => x)
  rotate_left
  · refine wpAny_bind (wpAny_standAt (wpAny_bind (wpAny_of_eq (hs env v) (wpAny_bind (wpAny_holding (wpAny_mono h' (fun it s'' h'' => ?_) fun _ _ x => x))))))
    exact wpAny_bind (wpAny_mono h'' (fun _ _ q => wpAny_pure q) fun _ _ x => x)
  · have F' := F.ext I' g x'
    have nw := src_off F hw
    have hDz' : Z'.get? D = none := by
      cases q : Z'.get? D with
      | none => rfl
      | some o' => rw [g.2 D _ o' eD q] at hz; cases hz
    have loop : codeAny (model prog c.w) A (.compLoop (.ListComp elt gens scope pos) dp (.ref I) (.ref D) env) (fun r s'' => match r with | .ok _ => Q () s'' | .error e => cameBackBy (model prog c.w) A env noE e s'') { s with heap := h', toks := tk' } := by
      refine comp_loop (s := { s with heap := h', toks := tk' }) (hct _ _ _) rm rfl ho F' hi hst hcond hem src st0 (fun b hb => (hw b hb).2) ⟨nD, x' _ _ ntD.1 ntD.2 eD⟩ hDz' off (fun q => by rw [(hw D q).1] at eD; cases eD) nw h2 hsz ?_
      intro Z2 h2 t2 ys2 vs F2 g2 k2 z2 l2 hys r2
      refine P Z2 h2 t2 ys2 vs F2 ?_ ?_ l2 z2 hys r2
      · refine ⟨g.1.trans g2.1, fun b ob o' e q => ?_⟩
        by_cases b1 : b = 16
        · rw [F2.inv.noTab b (.inl b1)] at q; cases q
        by_cases b2 : b = 23
        · rw [F2.inv.noTab b (.inr b2)] at q; cases q
        exact g.2 b ob o' e (g2.2 b ob o' (x' b ob b1 b2 e) q)
      · intro b ob b1 b2 b3 b4 e
        exact k2 b ob (fun q => by rw [(hw b q).1] at e; cases e) b1 b2 (fun q => by have := q.1; rw [show env.kindOf x = some .local from hl] at this; cases this) b3 b4 (x' b ob b3 b4 e)
    refine wpAny_runOwn (compStart_any hg loop (wpE (src.self rfl 0 _ _ st0 loop)))
end
end Hf
end

section
open PySem PySem.W PyProof.Rows PySem.Calls PySem.Spec
namespace Hf
set_option autoImplicit false
set_option linter.unusedSectionVars false
variable [TheW]

/-- what a run of statements has done to the heap -/
structure Went (env : Env) (o : Nat) (oa : Addr) (h Z h' Z' : Heap) (o' : Nat) (oa' : Addr) : Prop where
  keep : KeepF env o oa h h'
  gr : GrF o oa h Z Z'
  own : OwnS h o oa o' oa'
  live : o ≠ 0 → ∃ ob, h'.get? oa = some ob

theorem Went.refl {c : Cx} {Z h : Heap} {env : Env} {σ : Sg} {o : Nat} {oa : Addr} (F : Fm c Z h env σ o oa) : Went env o oa h Z h Z o oa :=
  ⟨.refl _ _ _ _, .refl _ _ _ _, .refl _ _ _, fun ho => let ⟨ob, e, _⟩ := F.O_some ho; ⟨ob, e⟩⟩
theorem Went.of_ext {c : Cx} {Z Z' h h' : Heap} {env : Env} {σ : Sg} {o : Nat} {oa : Addr} (F : Fm c Z h env σ o oa) (g : Gr h Z Z') (x : Ext h h') : Went env o oa h Z h' Z' o oa :=
  ⟨.of_ext x, .of_gr g, .refl _ _ _, fun ho => let ⟨ob, e, hn⟩ := F.O_some ho; ⟨ob, x _ _ (F.inv.not_tab e hn).1 (F.inv.not_tab e hn).2 e⟩⟩
theorem Went.trans {c : Cx} {Z h Z1 h1 Z2 h2 : Heap} {env : Env} {σ σ1 : Sg} {o o1 o2 : Nat} {oa oa1 oa2 : Addr} (F : Fm c Z h env σ o oa) (F1 : Fm c Z1 h1 env σ1 o1 oa1) (I2 : Inv c Z2 h2)
    (hL : Z2.get? env.locals = none) (hC : ∀ x a, Mine env x a → Z2.get? a = none) (x : Went env o oa h Z h1 Z1 o1 oa1) (y : Went env o1 oa1 h1 Z1 h2 Z2 o2 oa2) : Went env o oa h Z h2 Z2 o2 oa2 where
  keep := x.keep.trans x.own y.keep
  gr := GrF.trans I2 x.keep x.own hL hC x.gr y.gr
  own := OwnS.trans F1.inv x.keep (let ⟨ob, e, _⟩ := F1.L_some; ⟨ob, e⟩) (fun z a e => let ⟨ob, e', _⟩ := F1.C_some z a e; ⟨ob, e'⟩) x.live x.own y.own
  live := fun ho => by
    obtain ⟨ob, e⟩ := x.live ho
    have hq : ∀ P, (∃ ps, h.get? P = some (tabObj ps)) → oa ≠ P := fun P ⟨ps, q⟩ r => by
      obtain ⟨ob', e', hn⟩ := F.O_some ho
      rw [r, q] at e'; exact hn _ (Option.some.inj e').symm
    by_cases hm : Mut env o1 oa1 oa
    · rcases hm with r | ⟨z, r⟩ | ⟨r1, r2⟩
      · exact absurd r (F.own ho).2.1
      · exact absurd rfl ((F.cells z _ r).2.2.1 ho)
      · rw [r2]; exact y.live r1
    · exact ⟨ob, y.keep _ _ hm (hq _ F.inv.tab16) (hq _ F.inv.tab23) e⟩

inductive Out
  | next (o : Nat) (σ : Sg)
  | ret (d : PyData)
noncomputable abbrev Fs := Nat → Sg → Option Out

noncomputable def PostS (c : Cx) (env : Env) (Z : Heap) (s : Shared) (o : Nat) (oa : Addr) (r : Out) (Q : Flow → Shared → Prop) : Prop := match r with
  | .next o' σ' => ∀ Z' h' tk oa', Fm c Z' h' env σ' o' oa' → Went env o oa s.heap Z h' Z' o' oa' → Q .next { s with heap := h', toks := tk }
  | .ret d => ∀ v Z' h' tk, Inv c Z' h' → Z'.get? env.locals = none → (∀ x a, Mine env x a → Z'.get? a = none) → Went env o oa s.heap Z h' Z' 0 0 → Rep Z' v d → Q (.ret v) { s with heap := h', toks := tk }

noncomputable def StOK (b : Nat) (sc : Scope) (st : Stmt) (f : Fs) : Prop :=
  ∀ (c : Cx) (A : Around) (env : Env) (Z : Heap) (oa : Addr) (s : Shared) (o : Nat) (σ : Sg) (r : Out) (Q : Flow → Shared → Prop),
    Room b A → env.scope = sc → EnvOK env → Fm c Z s.heap env σ o oa → f o σ = some r → PostS c env Z s o oa r Q → wpAny (model prog c.w) A (exec st env) Q noE s
noncomputable def BlOK (b : Nat) (sc : Scope) (sts : List Stmt) (f : Fs) : Prop :=
  ∀ (c : Cx) (A : Around) (env : Env) (Z : Heap) (oa : Addr) (s : Shared) (o : Nat) (σ : Sg) (r : Out) (Q : Flow → Shared → Prop),
    Room b A → env.scope = sc → EnvOK env → Fm c Z s.heap env σ o oa → f o σ = some r → PostS c env Z s o oa r Q → wpAny (model prog c.w) A (execs sts env) Q noE s

theorem PostS.after {c : Cx} {env : Env} {Z Z1 h1 : Heap} {s : Shared} {o o1 : Nat} {oa oa1 : Addr} {σ σ1 : Sg} {r : Out} {Q : Flow → Shared → Prop} {tk : Nat} (P : PostS c env Z s o oa r Q)
    (F : Fm c Z s.heap env σ o oa) (F1 : Fm c Z1 h1 env σ1 o1 oa1) (x : Went env o oa s.heap Z h1 Z1 o1 oa1) : PostS c env Z1 { s with heap := h1, toks := tk } o1 oa1 r Q := by
  cases r with
  | next o' σ' => exact fun Z' h' tk' oa' F' y => P Z' h' tk' oa' F' (x.trans F F1 F'.inv F'.nL (fun z a e => (F'.cells z a e).1) y)
  | ret d => exact fun v Z' h' tk' I' hL hC y r => P v Z' h' tk' I' hL hC (x.trans F F1 I' hL hC y) r

noncomputable def fNil : Fs := fun o σ => some (.next o σ)
noncomputable def fSeq (f g : Fs) : Fs := fun o σ => (f o σ).bind fun r => match r with
  | .next o' σ' => g o' σ'
  | .ret d => some (.ret d)

section
variable {b : Nat} {sc : Scope}
theorem bl_nil : BlOK b sc [] fNil := by
  intro c A env Z oa s o σ r Q rm he ho F hf P
  cases hf
  exact wpAny_execs_nil (P Z s.heap s.toks oa F (.refl F))
theorem bl_cons {st : Stmt} {sts : List Stmt} {f g : Fs} (h1 : StOK b sc st f) (h2 : BlOK b sc sts g) : BlOK b sc (st :: sts) (fSeq f g) := by
  intro c A env Z oa s o σ r Q rm he ho F hf P
  unfold fSeq at hf
  obtain ⟨r1, q1, q2⟩ := Option.bind_eq_some_iff.mp hf
  refine wpAny_execs_cons (h1 c A env Z oa s o σ r1 _ rm he ho F q1 ?_)
  cases r1 with
  | next o' σ' => exact fun Z' h' tk oa' F' x => h2 c A env Z' oa' _ o' σ' r Q rm he ho F' q2 (P.after F F' x)
  | ret d => cases q2; exact fun v Z' h' tk I' hL hC x rv => P v Z' h' tk I' hL hC x rv
theorem StOK.mono {a b : Nat} {st : Stmt} {f : Fs} (x : StOK a sc st f) (h : a ≤ b) : StOK b sc st f := fun c A env Z oa s o σ d Q r => x c A env Z oa s o σ d Q (r.mono h)
theorem BlOK.mono {a b : Nat} {st : List Stmt} {f : Fs} (x : BlOK a sc st f) (h : a ≤ b) : BlOK b sc st f := fun c A env Z oa s o σ d Q r => x c A env Z oa s o σ d Q (r.mono h)

/-- freeze the own object -/
theorem Fm.freeze {c : Cx} {Z h : Heap} {env : Env} {σ : Sg} {o : Nat} {oa : Addr} (F : Fm c Z h env σ o oa) : ∃ Z', Fm c Z' h env σ 0 0 ∧ Went env o oa h Z h Z' 0 0 := by
  by_cases ho : o = 0
  · subst ho
    refine ⟨Z, ⟨F.inv, F.dom, F.nL, ?_, ?_, ?_, ?_, F.apart, fun q => absurd rfl q⟩, .refl _ _ _ _, .refl _ _ _ _, fun q => absurd rfl q, fun q => absurd rfl q⟩
    · obtain ⟨m, hn, hv⟩ := F.loc
      refine ⟨m, hn, fun i d e hk => ?_⟩
      obtain ⟨v, e1, e2⟩ := hv i d e hk
      rcases e2 with q | ⟨q, _⟩
      · exact ⟨v, e1, .inl q⟩
      · have := (F.dom i d e).1; rw [q] at this; exact absurd this (Nat.lt_irrefl _)
    · intro i d e hk
      obtain ⟨a, v, e1, e2, e3⟩ := F.cel i d e hk
      rcases e3 with q | ⟨q, _⟩
      · exact ⟨a, v, e1, e2, .inl q⟩
      · have := (F.dom i d e).1; rw [q] at this; exact absurd this (Nat.lt_irrefl _)
    · intro i d e hk
      obtain ⟨a, v, e1, e2, e3⟩ := F.fre i d e hk
      rcases e3 with q | ⟨q, _⟩
      · exact ⟨a, v, e1, e2, .inl q⟩
      · have := (F.dom i d e).1; rw [q] at this; exact absurd this (Nat.lt_irrefl _)
    · intro x a e
      obtain ⟨e1, e2, _, e4⟩ := F.cells x a e
      exact ⟨e1, e2, fun q => absurd rfl q, e4⟩
  · obtain ⟨zO, nO, dd, hO⟩ := F.own ho
    obtain ⟨ob, eO, hn⟩ := hO.there
    obtain ⟨Z', I', k, eZ, zz⟩ := F.inv.put eO zO hn
    have fr : ∀ d, OwnAt Z h oa d → Rep Z' (.ref oa) d := fun d hd => by
      rcases hd with ⟨xs, vs, rfl, ⟨ob', n, e, hc, _, hd⟩, r⟩ | ⟨kvs, ys, rfl, hs, ⟨ob', es, ep, e, hx, hd, hr⟩, r1, r2⟩
      · rw [eO] at e; cases e
        exact .list_of eZ hc hd (r.le k)
      · rw [eO] at e; cases e
        exact .dict_of hs ⟨ob, es, ep, eZ, hx, hd, hr.1, fun y hy => is_le k (hr.2.1 y hy), hr.2.2⟩ (r1.le k) (r2.le k)
    refine ⟨Z', ⟨I', F.dom, by rw [zz _ (Ne.symm nO)]; exact F.nL, ?_, ?_, ?_, ?_, F.apart, fun q => absurd rfl q⟩, .refl _ _ _ _, ⟨k, fun bb ob o' hb e1 e2 => by rw [zz _ (hb ho)] at e2; exact e2⟩, fun q => absurd rfl q, fun _ => let ⟨ob, e, _⟩ := F.O_some ho; ⟨ob, e⟩⟩
    · obtain ⟨m, hn, hv⟩ := F.loc
      refine ⟨m, hn, fun i d e hk => ?_⟩
      obtain ⟨v, e1, e2⟩ := hv i d e hk
      have hi := (F.dom i d e).1
      rcases e2 with ⟨_, q⟩ | ⟨_, q, q2⟩
      · exact ⟨v, e1, .inl ⟨Nat.ne_of_gt hi, q.le k⟩⟩
      · exact ⟨v, e1, .inl ⟨Nat.ne_of_gt hi, q ▸ fr _ q2⟩⟩
    · intro i d e hk
      obtain ⟨a, v, e1, e2, e3⟩ := F.cel i d e hk
      have hi := (F.dom i d e).1
      rcases e3 with ⟨_, q⟩ | ⟨_, q, q2⟩
      · exact ⟨a, v, e1, e2, .inl ⟨Nat.ne_of_gt hi, q.le k⟩⟩
      · exact ⟨a, v, e1, e2, .inl ⟨Nat.ne_of_gt hi, q ▸ fr _ q2⟩⟩
    · intro i d e hk
      obtain ⟨a, v, e1, ⟨ob', e2, e2'⟩, e3⟩ := F.fre i d e hk
      have hi := (F.dom i d e).1
      rcases e3 with ⟨_, q⟩ | ⟨_, q, q2⟩
      · exact ⟨a, v, e1, ⟨ob', k _ _ e2, e2'⟩, .inl ⟨Nat.ne_of_gt hi, q.le k⟩⟩
      · exact ⟨a, v, e1, ⟨ob', k _ _ e2, e2'⟩, .inl ⟨Nat.ne_of_gt hi, q ▸ fr _ q2⟩⟩
    · intro x a e
      obtain ⟨e1, e2, e3, e4⟩ := F.cells x a e
      exact ⟨by rw [zz _ (e3 ho)]; exact e1, e2, fun q => absurd rfl q, e4⟩
noncomputable def fFreeze (g : Fs) : Fs := fun _ σ => g 0 σ
theorem bl_freeze {sts : List Stmt} {g : Fs} (h : BlOK b sc sts g) : BlOK b sc sts (fFreeze g) := by
  intro c A env Z oa s o σ r Q rm he ho F hf P
  obtain ⟨Z', F', x⟩ := F.freeze
  exact h c A env Z' 0 s 0 σ r Q rm he ho F' hf (P.after (tk := s.toks) F F' x)
end
end Hf
end

section
open PySem PySem.W PyProof.Rows PySem.Calls PySem.Spec
namespace Hf
set_option autoImplicit false
set_option linter.unusedSectionVars false
variable [TheW]

theorem Went.of_store {c : Cx} {Z h h' : Heap} {env : Env} {σ : Sg} {o : Nat} {oa a : Addr} {x : Str} (F : Fm c Z h env σ o oa) (ha : a = env.locals ∨ Mine env x a) (hs : Heap.SameBut a h h') : Went env o oa h Z h' Z o oa where
  keep := keepF_of_same ha hs
  gr := .refl _ _ _ _
  own := .refl _ _ _
  live := fun ho => by
    obtain ⟨ob, e, _⟩ := F.O_some ho
    refine ⟨ob, (hs.2 oa fun q => ?_).trans e⟩
    rcases ha with r | r
    · exact (F.own ho).2.1 (q.trans r)
    · exact (F.cells _ _ r).2.2.1 ho q.symm

theorem Went.turn {c : Cx} {Z0 h0 Z1 h1 Z2 h2 : Heap} {env : Env} {σ0 σ1 : Sg} {o o1 : Nat} {oa oa1 : Addr} {wr : List Addr} (F0 : Fm c Z0 h0 env σ0 o oa) (F2 : Fm c Z2 h2 env σ1 o1 oa1) (x : Went env o oa h0 Z0 h1 Z1 o1 oa1)
    (hw : ∀ b ∈ wr, h0.get? b = none) (g2 : Gr h1 Z1 Z2) (keep : ∀ b ob, b ∉ wr → h1.get? b = some ob → h2.get? b = some ob) : Went env o oa h0 Z0 h2 Z2 o1 oa1 where
  keep := fun b ob hm b1 b2 e => keep b ob (fun q => by rw [hw b q] at e; cases e) (x.keep b ob hm b1 b2 e)
  gr := ⟨x.gr.1.trans g2.1, fun b ob o' hb e q => by
    by_cases b1 : b = 16
    · rw [F2.inv.noTab b (.inl b1)] at q; cases q
    by_cases b2 : b = 23
    · rw [F2.inv.noTab b (.inr b2)] at q; cases q
    by_cases q1 : b = env.locals
    · rw [q1, F2.nL] at q; cases q
    by_cases q2 : ∃ x, Mine env x b
    · obtain ⟨x, hx⟩ := q2; rw [(F2.cells x b hx).1] at q; cases q
    have hm : ¬ Mut env o oa b := fun hm => by
      rcases hm with r | r | ⟨r1, r2⟩
      · exact q1 r
      · exact q2 r
      · exact hb r1 r2
    exact x.gr.2 b ob o' hb e (g2.2 b ob o' (x.keep b ob hm b1 b2 e) q)⟩
  own := x.own
  live := fun ho => by
    obtain ⟨ob, e⟩ := x.live ho
    obtain ⟨ob', e', _⟩ := F0.O_some ho
    exact ⟨ob, keep _ _ (fun q => by rw [hw _ q] at e'; cases e') e⟩

/-- a target -/
noncomputable abbrev Fp := Nat → Sg → PyData → Option Sg
noncomputable def TgtOK (b : Nat) (sc : Scope) (tgt : Expr) (put : Fp) : Prop :=
  ∀ (c : Cx) (A : Around) (env : Env) (Z : Heap) (oa : Addr) (s : Shared) (o : Nat) (σ σ' : Sg) (v : Value) (d : PyData) (Q : Unit → Shared → Prop),
    Room b A → env.scope = sc → EnvOK env → Fm c Z s.heap env σ o oa → Rep Z v d → put o σ d = some σ' →
    (∀ h' tk, Fm c Z h' env σ' o oa → Went env o oa s.heap Z h' Z o oa → Q () { s with heap := h', toks := tk }) → wpAny (model prog c.w) A (assign tgt env v) Q noE s
noncomputable def pName (i : Nat) : Fp := fun o σ d => if i = o then none else some (σ.put i d)
noncomputable def pPair (i j : Nat) : Fp := fun o σ d => match d with
  | .tuple [x, y] => if i = o then none else if j = o then none else some ((σ.put i x).put j y)
  | _ => none

section
variable {b : Nat} {sc : Scope} {x y : Str} {px py tp : Pos} {i j k : Nat}
theorem tgt_name (hst : StoreOK sc x i) : TgtOK b sc (.Name x px) (pName i) := by
  intro c A env Z oa s o σ σ' v d Q rm he ho F r hp P
  unfold pName at hp
  split at hp
  · cases hp
  · rename_i hio
    cases hp
    exact wpAny_assign_Name (hst c A env Z oa s o σ v d _ he ho F r hio fun h' tk a F' ha hs => P h' tk F' (.of_store F ha hs))

/-- two stores -/
theorem store_two {x y : Str} {i j : Nat} (hx : StoreOK sc x i) (hy : StoreOK sc y j) {f g : Value → Sem Unit} {c : Cx} {A : Around} {env : Env} {Z : Heap} {oa : Addr} {s : Shared} {o : Nat} {σ : Sg} {v u : Value} {d e : PyData} {Q : Unit → Shared → Prop}
    (hf : ∀ v s Q, wpAny (model prog c.w) A (storeName env x v) Q noE s → wpAny (model prog c.w) A (f v) Q noE s) (hg : ∀ v s Q, wpAny (model prog c.w) A (storeName env y v) Q noE s → wpAny (model prog c.w) A (g v) Q noE s)
    (he : env.scope = sc) (ho : EnvOK env) (F : Fm c Z s.heap env σ o oa) (r1 : Rep Z v d) (r2 : Rep Z u e) (h1 : i ≠ o) (h2 : j ≠ o)
    (P : ∀ h' tk, Fm c Z h' env ((σ.put i d).put j e) o oa → Went env o oa s.heap Z h' Z o oa → Q () { s with heap := h', toks := tk }) : wpAny (model prog c.w) A (assignInOrder [f, g] [v, u]) Q noE s := by
  show wpAny _ A (do holding [u] (f v); assignInOrder [g] [u]) Q noE s
  refine wpAny_bind (wpAny_holding (hf _ _ _ (hx c A env Z oa s o σ v d _ he ho F r1 h1 fun h1' t1 a1 F1 ha1 hs1 => ?_)))
  show wpAny _ A (do holding [] (g u); assignInOrder [] []) Q noE _
  refine wpAny_bind (wpAny_holding (hg _ _ _ (hy c A env Z oa _ o _ u e _ he ho F1 r2 h2 fun h2' t2 a2 F2 ha2 hs2 => ?_)))
  exact wpAny_pure (P h2' t2 F2 ((Went.of_store F ha1 hs1).trans F F1 F2.inv F2.nL (fun z a e => (F2.cells z a e).1) (.of_store F1 ha2 hs2)))

theorem tgt_pair (hx : StoreOK sc x i) (hy : StoreOK sc y j) : TgtOK b sc (.Tuple [.Name x px, .Name y py] k tp) (pPair i j) := by
  intro c A env Z oa s o σ σ' v d Q rm he ho F r hp P
  unfold pPair at hp
  split at hp
  · rename_i d1 d2
    split at hp
    · cases hp
    · rename_i h1
      split at hp
      · cases hp
      · rename_i h2
        cases hp
        obtain ⟨a, ob, vs, n, rfl, e, hc, hd, q⟩ := r.tuple_inv
        have hz : vs.size = 2 := by rw [← Array.length_toList, q.length]; rfl
        obtain ⟨v1, v2, hv⟩ : ∃ v1 v2, vs.toList = [v1, v2] := by
          match hq : vs.toList, q.length with
          | [v1, v2], _ => exact ⟨v1, v2, rfl⟩
        rw [hv] at q
        have ht : s.heap.IsTuple a vs := ⟨ob, F.inv.le _ _ e, hc, n, hd⟩
        refine wpAny_assign_Tuple rm.1 ht hz.symm rfl fun h' hx' => ?_
        have hk : Le s.heap h' := fun b o e => hx' b o (Nat.ne_of_lt (Heap.lt_size e)) e
        have F' := F.ext (F.inv.keep hk) (Gr.refl _ _) (Ext.of_le hk)
        rw [hv]
        refine store_two (f := assign (.Name x px) env) (g := assign (.Name y py) env) hx hy (fun v s Q h => wpAny_assign_Name h) (fun v s Q h => wpAny_assign_Name h) he ho F' q.cons_inv.1 q.cons_inv.2.cons_inv.1 h1 h2 fun h2' t2 F2 w2 => ?_
        exact P h2' t2 F2 ((Went.of_ext F (Gr.refl _ _) (Ext.of_le hk)).trans F F' F2.inv F2.nL (fun z a e => (F2.cells z a e).1) w2)
  · cases hp

/-! assignments -/
noncomputable def fSet (put : Fp) (f : Fe) : Fs := fun o σ => (f o σ).bind fun d => (put o σ d).bind fun σ' => some (.next o σ')
theorem fSet_some {put : Fp} {f : Fe} {o : Nat} {σ : Sg} {r : Out} (h : fSet put f o σ = some r) : ∃ d σ', f o σ = some d ∧ put o σ d = some σ' ∧ r = .next o σ' := by
  unfold fSet at h
  obtain ⟨d, h1, h⟩ := Option.bind_eq_some_iff.mp h
  obtain ⟨σ', h2, h⟩ := Option.bind_eq_some_iff.mp h
  cases h
  exact ⟨d, σ', h1, h2, rfl⟩
theorem env_with {env : Env} (he : env.scope = sc) : env = { env with scope := sc } := by subst he; rfl
theorem st_set {value : Expr} {f : Fe} {pos : Pos} (hst : StoreOK sc x i) (hv : EvOK b sc value f) (hs : ∀ env : Env, swapsWith value (some (.Name x px)) pos.line { env with scope := sc } = pure false) : StOK b sc (.Assign [.Name x px] value pos) (fSet (pName i) f) := by
  intro c A env Z oa s o σ r Q rm he ho F hf P
  obtain ⟨d, σ', h1, h2, rfl⟩ := fSet_some hf
  unfold pName at h2
  split at h2
  · cases h2
  rename_i hio
  cases h2
  refine wpAny_Assign_Name ?_ (by rw [env_with he]; exact hs env)
  refine hv c A env Z oa s o σ d _ rm he ho F h1 fun v Z1 h1' t1 I1 g1 x1 rv => ?_
  have F1 := F.ext I1 g1 x1
  refine hst c A env Z1 oa _ o σ v d _ he ho F1 rv hio fun h' tk a F' ha hs' => ?_
  exact P Z1 h' tk oa F' ((Went.of_ext F g1 x1).trans F F1 F'.inv F'.nL (fun z a e => (F'.cells z a e).1) (.of_store F1 ha hs'))
theorem st_tuple {elts : List Expr} {value : Expr} {f : Fe} {put : Fp} {pos : Pos} (ht : TgtOK b sc (.Tuple elts k tp) put) (hv : EvOK b sc value f) (hs : ∀ env : Env, swapsWithSole [.Tuple elts k tp] value pos.line { env with scope := sc } = pure false)
    (hw : ∀ env : Env, swappedStores [.Tuple elts k tp] value { env with scope := sc } = pure none) : StOK b sc (.Assign [.Tuple elts k tp] value pos) (fSet put f) := by
  intro c A env Z oa s o σ r Q rm he ho F hf P
  obtain ⟨d, σ', h1, h2, rfl⟩ := fSet_some hf
  refine Assign_Tuple ?_ (by rw [env_with he]; exact hs env) (by rw [env_with he]; exact hw env)
  refine hv c A env Z oa s o σ d _ rm he ho F h1 fun v Z1 h1' t1 I1 g1 x1 rv => ?_
  have F1 := F.ext I1 g1 x1
  refine ht c A env Z1 oa _ o σ σ' v d _ rm he ho F1 rv h2 fun h' tk F' w => ?_
  exact P Z1 h' tk oa F' ((Went.of_ext F g1 x1).trans F F1 F'.inv F'.nL (fun z a e => (F'.cells z a e).1) w)
noncomputable def pPairR (i j : Nat) : Fp := fun o σ d => match d with
  | .tuple [x, y] => if i = o then none else if j = o then none else some ((σ.put j y).put i x)
  | _ => none
theorem st_swapped {value : Expr} {f : Fe} {pos : Pos} (hx : StoreOK sc x i) (hy : StoreOK sc y j) (hv : EvOK b sc value f) (hs : ∀ env : Env, swapsWithSole [.Tuple [.Name x px, .Name y py] k tp] value pos.line { env with scope := sc } = pure false)
    (hw : ∀ env : Env, swappedStores [.Tuple [.Name x px, .Name y py] k tp] value { env with scope := sc } = pure (some [x, y])) : StOK b sc (.Assign [.Tuple [.Name x px, .Name y py] k tp] value pos) (fSet (pPairR i j) f) := by
  intro c A env Z oa s o σ r Q rm he ho F hf P
  obtain ⟨d, σ', h1, h2, rfl⟩ := fSet_some hf
  refine Assign_Tuple_swapped (names := [x, y]) ?_ (by rw [env_with he]; exact hs env) (by rw [env_with he]; exact hw env)
  refine hv c A env Z oa s o σ d _ rm he ho F h1 fun v Z1 h1' t1 I1 g1 x1 rv => ?_
  have F1 := F.ext I1 g1 x1
  unfold pPairR at h2
  split at h2
  · rename_i d1 d2
    split at h2
    · cases h2
    · rename_i h1
      split at h2
      · cases h2
      · rename_i hj
        cases h2
        obtain ⟨a, ob, vs, n, rfl, e, hc, hd, q⟩ := rv.tuple_inv
        have hz : vs.size = 2 := by rw [← Array.length_toList, q.length]; rfl
        obtain ⟨v1, v2, hv⟩ : ∃ v1 v2, vs.toList = [v1, v2] := by
          match hq : vs.toList, q.length with
          | [v1, v2], _ => exact ⟨v1, v2, rfl⟩
        rw [hv] at q
        have ht : h1'.IsTuple a vs := ⟨ob, I1.le _ _ e, hc, n, hd⟩
        have key := wpAny_unpackItems_tuple (prog := prog) (w := c.w) (E := noE) (s := { s with heap := h1', toks := t1 }) rm.1 ht (Q := fun items s₂ => wpAny (model prog c.w) A (assignInOrder ([x, y].reverse.map fun n => bindName env n) items.reverse) (fun _ => Q .next) noE s₂) (fun h' hx' => ?_)
        · rw [hz] at key; exact key
        · have hk : Le h1' h' := fun b o e => hx' b o (Nat.ne_of_lt (Heap.lt_size e)) e
          have F' := F1.ext (F1.inv.keep hk) (Gr.refl _ _) (Ext.of_le hk)
          rw [hv]
          refine store_two (f := bindName env y) (g := bindName env x) hy hx (fun v s Q h => wpAny_bindName h) (fun v s Q h => wpAny_bindName h) he ho F' q.cons_inv.2.cons_inv.1 q.cons_inv.1 hj h1 fun h2' t2 F2 w2 => ?_
          have w1 := (Went.of_ext F g1 x1).trans F F1 F'.inv F'.nL (fun z a e => (F'.cells z a e).1) (Went.of_ext F1 (Gr.refl _ _) (Ext.of_le hk))
          exact P Z1 h2' t2 oa F2 (w1.trans F F' F2.inv F2.nL (fun z a e => (F2.cells z a e).1) w2)
  · cases h2

/-! tests, returns -/
noncomputable def fIf (t : Fb) (f g : Fs) : Fs := fun o σ => (t o σ).bind fun x => if x then f o σ else g o σ
theorem st_if {test : Expr} {body orelse : List Stmt} {t : Fb} {f g : Fs} {pos : Pos} (h0 : TsOK b sc test t) (h1 : BlOK b sc body f) (h2 : BlOK b sc orelse g) : StOK b sc (.If test body orelse pos) (fIf t f g) := by
  intro c A env Z oa s o σ r Q rm he ho F hf P
  unfold fIf at hf
  obtain ⟨x, q1, q2⟩ := Option.bind_eq_some_iff.mp hf
  refine wpAny_If (h0 c A env Z oa s o σ x _ rm he ho F q1 fun Z1 h1' t1 I1 g1 x1 => ?_)
  have F1 := F.ext I1 g1 x1
  have P1 := P.after (tk := t1) F F1 (.of_ext F g1 x1)
  cases x with
  | true => exact h1 c A env Z1 oa _ o σ r Q rm he ho F1 q2 P1
  | false => exact h2 c A env Z1 oa _ o σ r Q rm he ho F1 q2 P1
noncomputable def fRet (f : Fe) : Fs := fun o σ => (f o σ).map .ret
theorem st_ret {e : Expr} {f : Fe} {pos : Pos} (h : EvOK b sc e f) : StOK b sc (.Return (some e) pos) (fRet f) := by
  intro c A env Z oa s o σ r Q rm he ho F hf P
  unfold fRet at hf
  obtain ⟨d, h1, rfl⟩ := Option.map_eq_some_iff.mp hf
  refine wpAny_Return_some (h c A env Z oa s o σ d _ rm he ho F h1 fun v Z1 h1' t1 I1 g1 x1 rv => ?_)
  have F1 := F.ext I1 g1 x1
  have w := Went.of_ext F g1 x1
  exact P v Z1 h1' t1 I1 F1.nL (fun z a e => (F1.cells z a e).1) ⟨w.keep, w.gr, fun q => absurd rfl q, w.live⟩ rv

/-! loops -/
noncomputable def forGo (put : Fp) (body : Fs) (o : Nat) : List PyData → Sg → Option Sg
  | [], σ => some σ
  | d :: ds, σ => (put o σ d).bind fun σ1 => (body o σ1).bind fun r => match r with
    | .next o' σ' => if o' = o then forGo put body o ds σ' else none
    | .ret _ => none
theorem forGo_cons {put : Fp} {body : Fs} {o : Nat} {d : PyData} {ds : List PyData} {σ σf : Sg} (h : forGo put body o (d :: ds) σ = some σf) : ∃ σ1 σ', put o σ d = some σ1 ∧ body o σ1 = some (.next o σ') ∧ forGo put body o ds σ' = some σf := by
  unfold forGo at h
  obtain ⟨σ1, h1, h⟩ := Option.bind_eq_some_iff.mp h
  obtain ⟨r, h2, h⟩ := Option.bind_eq_some_iff.mp h
  cases r with
  | next o' σ' =>
    simp only [] at h
    split at h
    · rename_i q; subst q; exact ⟨σ1, σ', h1, h2, h⟩
    · cases h
  | ret d => cases h
noncomputable def fFor (fi : Fl) (put : Fp) (body : Fs) : Fs := fun o σ => (fi o σ).bind fun ds => (forGo put body o ds σ).bind fun σ' => some (.next o σ')
theorem st_for {tgt iter : Expr} {body : List Stmt} {fi : Fl} {put : Fp} {f : Fs} {pos : Pos} (hit : ItOK b sc tgt iter fi) (ht : TgtOK b sc tgt put) (hb : BlOK b sc body f) (hs : ∀ env v, foldedSetIterable iter env v = pure v) :
    StOK b sc (.For tgt iter body [] pos) (fFor fi put f) := by
  intro c A env Z oa s o σ r Q rm he ho F hf P
  unfold fFor at hf
  obtain ⟨ds, hds, hf⟩ := Option.bind_eq_some_iff.mp hf
  obtain ⟨σf, hgo, hf⟩ := Option.bind_eq_some_iff.mp hf
  cases hf
  refine wpAny_For (hit c A env Z oa s o σ ds _ rm he ho F hds fun I wr St ZI hI tI src st0 II gI xI hw => ?_) (hs env)
  have FI := F.ext II gI xI
  have nwI := src_off F hw
  have PP : ∀ {s' : Shared} {Z' h' : Heap} {tk : Nat} {oa' : Addr}, Fm c Z' h' env σf o oa' → Went env o oa s.heap Z h' Z' o oa' → Q .next { s with heap := h', toks := tk } := fun F' w => P _ _ _ _ F' w
  let Iv : Nat → Shared → Prop := fun n s' => ∃ k Z1 h1 t1 oa1 σ1, s' = { s with heap := h1, toks := t1 } ∧ n = ds.length + 1 - k ∧ k ≤ ds.length ∧ St k h1 ∧ Fm c Z1 h1 env σ1 o oa1 ∧ Went env o oa s.heap Z h1 Z1 o oa1 ∧ (∀ b ∈ wr, Z1.get? b = none) ∧ Le ZI Z1 ∧
    (env.locals ∉ wr ∧ (∀ x a, Mine env x a → a ∉ wr) ∧ (o ≠ 0 → oa1 ∉ wr)) ∧ forGo put f o (ds.drop k) σ1 = some σf
  refine codeAny_forLoop_any Iv (fun n s' hIv => wpE ?_) (ds.length + 1)
    ⟨0, ZI, hI, tI, oa, σ, rfl, rfl, Nat.zero_le _, st0, FI, .of_ext F gI xI, fun b hb => (hw b hb).2, Le.refl _, nwI, by simpa using hgo⟩
  obtain ⟨k, Z1, h1, t1, oa1, σ1, rfl, rfl, hk, st, F1, w1, hz1, le1, nw, hgo1⟩ := hIv
  by_cases hlt : k < ds.length
  · have hd : ds[k]? = some ds[k] := by simp [hlt]
    rw [List.drop_eq_getElem_cons hlt] at hgo1
    generalize ds[k] = d at hd hgo1
    obtain ⟨σ2, σ4, hp2, hb4, hgo4⟩ := forGo_cons hgo1
    refine wpAny_mono (src.turn k d { s with heap := h1, toks := t1 } Z1
      (S := fun v s₂ => wpAny (model prog c.w) A (assign tgt env v) (fun _ s₃ => wpAny (model prog c.w) A (execs body env) (fun fl s₄ => match fl with
        | .next => ∃ m, m < ds.length + 1 - k ∧ Iv m s₄
        | _ => False) noE s₃) noE s₂) (N := fun _ => False) hd st le1 F1.inv hz1 ?_) (fun r s₁ h₁ => ?_) fun _ _ x => x.elim
    rotate_left
    · cases r with
      | none => exact h₁.elim
      | some v =>
        refine wpAny_mono h₁ (fun _ s₂ h₂ => ?_) fun _ _ x => x.elim
        refine wpAny_mono h₂ (fun _ s₃ h₃ => ?_) fun _ _ x => x.elim
        refine wpAny_mono h₃ (fun fl s₄ h₄ => ?_) fun _ _ x => x.elim
        cases fl <;> first | exact h₄ | exact h₄.elim
    · intro v Z2 h2 t2 st2 I2 g2 keep rv
      have F2 : Fm c Z2 h2 env σ1 o oa1 := F1.off I2 g2 (fun b ob hb _ _ e => keep b ob hb e) nw.1 nw.2.1 nw.2.2
      have w2 : Went env o oa s.heap Z h2 Z2 o oa1 := w1.turn F F2 (fun b hb => (hw b hb).1) g2 keep
      have hz2 : ∀ b ∈ wr, Z2.get? b = none := fun b hb => by
        obtain ⟨ob, e, _⟩ := src.live k _ st b hb
        cases q : Z2.get? b with
        | none => rfl
        | some o' => have := hz1 b hb; rw [g2.2 b ob o' e q] at this; cases this
      have nmut : ∀ {oa1 : Addr}, (o ≠ 0 → oa1 ∉ wr) → ∀ b ∈ wr, ¬ Mut env o oa1 b := fun ho b hb hm => by
        rcases hm with r | ⟨x, r⟩ | ⟨r1, r2⟩
        · exact nw.1 (r ▸ hb)
        · exact nw.2.1 _ _ r hb
        · exact ho r1 (r2 ▸ hb)
      refine ht c A env Z2 oa1 _ o σ1 σ2 v d _ rm he ho F2 rv hp2 fun h3 t3 F3 w3 => ?_
      have wlive : ∀ {k : Nat} {Zx hx : Heap} (st : St k hx) (I : Inv c Zx hx), ∀ b ∈ wr, ∃ ob, hx.get? b = some ob ∧ b ≠ 16 ∧ b ≠ 23 := fun st I b hb => by
        obtain ⟨ob, e, e', _⟩ := src.live _ _ st b hb
        have := I.not_tab e e'
        exact ⟨ob, e, this.1, this.2⟩
      have st3 : St (k + 1) h3 := src.frame _ _ _ st2 (le1.trans (g2.1.trans F3.inv.le)) fun b hb ob e => by
        obtain ⟨_, _, q1, q2⟩ := wlive st2 F2.inv b hb
        exact w3.keep b ob (nmut nw.2.2 b hb) q1 q2 e
      have W3 := w2.trans F F2 F3.inv F3.nL (fun z a e => (F3.cells z a e).1) w3
      refine hb c A env Z2 oa1 _ o σ2 (.next o σ4) _ rm he ho F3 hb4 ?_
      intro Z4 h4 t4 oa4 F4 w4
      have st4 : St (k + 1) h4 := src.frame _ _ _ st3 (le1.trans (g2.1.trans (w4.gr.1.trans F4.inv.le))) fun b hb ob e => by
        obtain ⟨_, _, q1, q2⟩ := wlive st3 F3.inv b hb
        exact w4.keep b ob (nmut nw.2.2 b hb) q1 q2 e
      refine ⟨ds.length + 1 - (k + 1), by omega, k + 1, Z4, h4, t4, oa4, σ4, rfl, rfl, hlt, st4, F4, W3.trans F F3 F4.inv F4.nL (fun z a e => (F4.cells z a e).1) w4, fun b hb => ?_, le1.trans (g2.1.trans w4.gr.1), ⟨nw.1, nw.2.1, fun ho hm => ?_⟩, hgo4⟩
      · obtain ⟨ob, e, _⟩ := wlive st3 F3.inv b hb
        cases q : Z4.get? b with
        | none => rfl
        | some o' => have := hz2 b hb; rw [w4.gr.2 b ob o' (fun ho q => nw.2.2 ho (q ▸ hb)) e q] at this; cases this
      · rcases w4.own ho with ⟨_, q⟩ | q
        · exact nw.2.2 ho (q ▸ hm)
        · obtain ⟨ob, e, _⟩ := wlive st3 F3.inv _ hm
          have e' : h3.get? oa4 = none := q
          rw [e'] at e; cases e
  · have hkn : k = ds.length := by omega
    subst hkn
    rw [List.drop_eq_nil_of_le (Nat.le_refl _)] at hgo1
    cases hgo1
    refine wpAny_mono (src.done { s with heap := h1, toks := t1 } Z1 (S := fun _ _ => False) (N := fun s' => Q .next s') st le1 F1.inv hz1 ?_) (fun r s₁ h₁ => ?_) fun _ _ x => x.elim
    rotate_left
    · cases r with
      | none => exact wpAny_execs_nil h₁
      | some v => exact wpAny_mono h₁ (fun _ _ x => x.elim) fun _ _ x => x.elim
    · intro h2 t2 I2 keep
      have F2 : Fm c Z1 h2 env _ o oa1 := F1.off I2 (Gr.refl _ _) (fun b ob hb _ _ e => keep b ob hb e) nw.1 nw.2.1 nw.2.2
      exact P Z1 h2 t2 oa1 F2 (w1.turn F F2 (fun b hb => (hw b hb).1) (Gr.refl _ _) keep)
end
end Hf
end

section
open PySem PySem.W PyProof.Rows PySem.Calls PySem.Spec
namespace Hf
set_option autoImplicit false
set_option linter.unusedSectionVars false
variable [TheW]

/-- the own object is named -/
noncomputable def StoreOwn (sc : Scope) (x : Str) (i : Nat) : Prop :=
  ∀ (c : Cx) (A : Around) (env : Env) (Z : Heap) (oa D : Addr) (s : Shared) (σ : Sg) (d : PyData) (Q : Unit → Shared → Prop),
    env.scope = sc → EnvOK env → Fm c Z s.heap env σ 0 oa → OwnAt Z s.heap D d → Z.get? D = none → D ≠ env.locals → (∀ x a, Mine env x a → a ≠ D) →
    (∀ h' tk a, Fm c Z h' env (σ.put i d) i D → (a = env.locals ∨ Mine env x a) → Heap.SameBut a s.heap h' → Q () { s with heap := h', toks := tk }) → wpAny (model prog c.w) A (storeName env x (.ref D)) Q noE s

theorem ValO.old {Z h h' : Heap} {oa oa' : Addr} {o' j : Nat} {v : Value} {d : PyData} (x : ValO Z h 0 oa j v d) (h0 : 0 < j) (h1 : j ≠ o') : ValO Z h' o' oa' j v d := by
  rcases x with ⟨_, q⟩ | ⟨q, _⟩
  · exact .inl ⟨h1, q⟩
  · rw [q] at h0; exact absurd h0 (Nat.lt_irrefl _)
theorem storeOwn_local {sc : Scope} {x : Str} (i : Nat) (hx : nm i = x) (hi : 0 < i ∧ i < 48) (hl : sc.names.lookup x = some .local) : StoreOwn sc x i := by
  intro c A env Z oa D s σ d Q he ho F hO hz hDL hDC P
  subst hx he
  obtain ⟨m, hn, hv⟩ := F.loc
  have nt := F.inv.ns_not hn
  refine wpAny_storeName_local hl hn (fun h' hn' hs' => P h' _ _ ?_ (.inl rfl) hs') (by rw [ho.kind]; rfl)
  have I' := F.inv.turn hs' F.nL nt.1 nt.2
  have hO' : OwnAt Z h' D d := hO.keep (Le.refl _) fun ob e => (hs'.2 D hDL).trans e
  refine ⟨I', fun j e hj => ?_, F.nL, ⟨_, hn', fun j e hj hk => ?_⟩, fun j e hj hk => ?_, fun j e hj hk => ?_, fun y a e => ?_, F.apart, fun _ => ⟨hz, hDL, d, hO'⟩⟩
  · unfold Sg.put at hj
    by_cases hji : j = i
    · rw [hji]; exact hi
    · rw [if_neg hji] at hj; exact F.dom j e hj
  · unfold Sg.put at hj
    by_cases hji : j = i
    · subst hji
      rw [if_pos rfl] at hj; cases hj
      exact ⟨.ref D, by simp, .inr ⟨rfl, rfl, hO'⟩⟩
    · rw [if_neg hji] at hj
      obtain ⟨v', e1, e2⟩ := hv j e hj hk
      have d1 := F.dom j e hj
      have hne : ¬ nm j = nm i := fun q => hji (nm_inj j d1.2 i hi.2 q)
      exact ⟨v', by simp [hne, e1], e2.old d1.1 hji⟩
  · unfold Sg.put at hj
    by_cases hji : j = i
    · subst hji
      exact absurd hk (by rw [show env.kindOf (nm j) = some .local from hl]; simp)
    · rw [if_neg hji] at hj
      obtain ⟨a, v', e1, e2, e3⟩ := F.cel j e hj hk
      exact ⟨a, v', e1, e2.sameBut hs' (F.cells _ _ ⟨hk, e1⟩).2.1, e3.old (F.dom j e hj).1 hji⟩
  · unfold Sg.put at hj
    by_cases hji : j = i
    · subst hji
      exact absurd hk (by rw [show env.kindOf (nm j) = some .local from hl]; simp)
    · rw [if_neg hji] at hj
      obtain ⟨a, v', e1, e2, e3⟩ := F.fre j e hj hk
      exact ⟨a, v', e1, e2, e3.old (F.dom j e hj).1 hji⟩
  · obtain ⟨e1, e2, e3, v', e4⟩ := F.cells y a e
    exact ⟨e1, e2, fun _ => hDC y a e, v', e4.sameBut hs' e2⟩
theorem storeOwn_cell {sc : Scope} {x : Str} (i : Nat) (hx : nm i = x) (hi : 0 < i ∧ i < 48) (hl : sc.names.lookup x = some .cell) : StoreOwn sc x i := by
  intro c A env Z oa D s σ d Q he ho F hO hz hDL hDC P
  subst hx he
  obtain ⟨a, ha⟩ := ho.cov (nm i) (.inl hl)
  have hm : Mine env (nm i) a := ⟨hl, ha⟩
  obtain ⟨c1, c2, c3, v₀, c4⟩ := F.cells _ _ hm
  have nt := F.inv.cell_not c4
  refine wpAny_storeName_cell ho.kind hl ha c4 fun h' hc' hs' => P h' s.toks _ ?_ (.inr hm) hs'
  have I' := F.inv.turn hs' c1 nt.1 nt.2
  have hO' : OwnAt Z h' D d := hO.keep (Le.refl _) fun ob e => (hs'.2 D (Ne.symm (hDC _ _ hm))).trans e
  obtain ⟨m, hn, hv⟩ := F.loc
  refine ⟨I', fun j e hj => ?_, F.nL, ⟨m, hn.sameBut hs' (Ne.symm c2), fun j e hj hk => ?_⟩, fun j e hj hk => ?_, fun j e hj hk => ?_, fun y a' e => ?_, F.apart, fun _ => ⟨hz, hDL, d, hO'⟩⟩
  · unfold Sg.put at hj
    by_cases hji : j = i
    · rw [hji]; exact hi
    · rw [if_neg hji] at hj; exact F.dom j e hj
  · unfold Sg.put at hj
    by_cases hji : j = i
    · subst hji
      rw [show env.kindOf (nm j) = some .cell from hl] at hk; cases hk
    · rw [if_neg hji] at hj
      obtain ⟨v', e1, e2⟩ := hv j e hj hk
      exact ⟨v', e1, e2.old (F.dom j e hj).1 hji⟩
  · unfold Sg.put at hj
    by_cases hji : j = i
    · subst hji
      rw [if_pos rfl] at hj; cases hj
      exact ⟨a, .ref D, ha, hc', .inr ⟨rfl, rfl, hO'⟩⟩
    · rw [if_neg hji] at hj
      obtain ⟨a', v', e1, e2, e3⟩ := F.cel j e hj hk
      have d1 := F.dom j e hj
      have hne : a' ≠ a := fun q => hji (nm_inj j d1.2 i hi.2 (F.apart _ _ _ (q ▸ (⟨hk, e1⟩ : Mine env (nm j) a')) hm))
      exact ⟨a', v', e1, e2.sameBut hs' hne, e3.old d1.1 hji⟩
  · unfold Sg.put at hj
    by_cases hji : j = i
    · subst hji
      rw [show env.kindOf (nm j) = some .cell from hl] at hk; cases hk
    · rw [if_neg hji] at hj
      obtain ⟨a', v', e1, e2, e3⟩ := F.fre j e hj hk
      exact ⟨a', v', e1, e2, e3.old (F.dom j e hj).1 hji⟩
  · obtain ⟨e1, e2, e3, v', e4⟩ := F.cells y a' e
    by_cases q : a' = a
    · subst q; exact ⟨e1, e2, fun _ => hDC y a' e, _, hc'⟩
    · exact ⟨e1, e2, fun _ => hDC y a' e, v', e4.sameBut hs' q⟩

/-- the own object is turned -/
theorem Fm.turnOwn {c : Cx} {Z h h' : Heap} {env : Env} {σ : Sg} {o : Nat} {oa : Addr} (F : Fm c Z h env σ o oa) (ho : 0 < o ∧ o < 48) {d d₀ : PyData} (h0 : σ o = some d₀) (hs : Heap.SameBut oa h h') (hO : OwnAt Z h' oa d) :
    Fm c Z h' env (σ.put o d) o oa ∧ Went env o oa h Z h' Z o oa := by
  have ho0 : o ≠ 0 := Nat.ne_of_gt ho.1
  obtain ⟨zO, nO, d1, hO1⟩ := F.own ho0
  obtain ⟨ob, eO, hn⟩ := hO1.there
  have nt := F.inv.not_tab eO hn
  have I' := F.inv.turn hs zO nt.1 nt.2
  have val : ∀ {j v e}, 0 < j → ValO Z h o oa j v e → j ≠ o → ValO Z h' o oa j v e := fun h0 x hjo => by
    rcases x with ⟨_, q⟩ | ⟨q, _⟩
    · exact .inl ⟨hjo, q⟩
    · exact absurd q hjo
  refine ⟨⟨I', fun j e hj => ?_, F.nL, ?_, fun j e hj hk => ?_, fun j e hj hk => ?_, fun y a e => ?_, F.apart, fun _ => ⟨zO, nO, d, hO⟩⟩, ⟨fun b ob hm _ _ e => (hs.2 b fun q => hm (.inr (.inr ⟨ho0, q⟩))).trans e, .refl _ _ _ _, .refl _ _ _, fun _ => let ⟨ob, e, _⟩ := hO.there; ⟨ob, e⟩⟩⟩
  · unfold Sg.put at hj
    by_cases hji : j = o
    · rw [hji]; exact ho
    · rw [if_neg hji] at hj; exact F.dom j e hj
  · obtain ⟨m, hn, hv⟩ := F.loc
    refine ⟨m, hn.sameBut hs (Ne.symm nO), fun j e hj hk => ?_⟩
    unfold Sg.put at hj
    by_cases hji : j = o
    · subst hji
      rw [if_pos rfl] at hj; cases hj
      obtain ⟨v, e1, e2⟩ := hv j d₀ h0 hk
      rcases e2 with ⟨q, _⟩ | ⟨_, q, _⟩
      · exact absurd rfl q
      · exact ⟨v, e1, .inr ⟨rfl, q, hO⟩⟩
    · rw [if_neg hji] at hj
      obtain ⟨v, e1, e2⟩ := hv j e hj hk
      exact ⟨v, e1, val (F.dom j e hj).1 e2 hji⟩
  · unfold Sg.put at hj
    by_cases hji : j = o
    · subst hji
      rw [if_pos rfl] at hj; cases hj
      obtain ⟨a, v, e1, e2, e3⟩ := F.cel j d₀ h0 hk
      rcases e3 with ⟨q, _⟩ | ⟨_, q, _⟩
      · exact absurd rfl q
      · exact ⟨a, v, e1, e2.sameBut hs ((F.cells _ _ ⟨hk, e1⟩).2.2.1 ho0), .inr ⟨rfl, q, hO⟩⟩
    · rw [if_neg hji] at hj
      obtain ⟨a, v, e1, e2, e3⟩ := F.cel j e hj hk
      exact ⟨a, v, e1, e2.sameBut hs ((F.cells _ _ ⟨hk, e1⟩).2.2.1 ho0), val (F.dom j e hj).1 e3 hji⟩
  · unfold Sg.put at hj
    by_cases hji : j = o
    · subst hji
      rw [if_pos rfl] at hj; cases hj
      obtain ⟨a, v, e1, e2, e3⟩ := F.fre j d₀ h0 hk
      rcases e3 with ⟨q, _⟩ | ⟨_, q, _⟩
      · exact absurd rfl q
      · exact ⟨a, v, e1, e2, .inr ⟨rfl, q, hO⟩⟩
    · rw [if_neg hji] at hj
      obtain ⟨a, v, e1, e2, e3⟩ := F.fre j e hj hk
      exact ⟨a, v, e1, e2, val (F.dom j e hj).1 e3 hji⟩
  · obtain ⟨e1, e2, e3, v', e4⟩ := F.cells y a e
    exact ⟨e1, e2, e3, v', e4.sameBut hs (e3 ho0)⟩

/-- the own object by its name -/
noncomputable def NamesOwn (sc : Scope) (x : Str) (i : Nat) : Prop :=
  ∀ (c : Cx) (A : Around) (env : Env) (Z : Heap) (oa : Addr) (s : Shared) (σ : Sg) (d : PyData) (p : Pos) (Q : Value → Shared → Prop),
    env.scope = sc → EnvOK env → Fm c Z s.heap env σ i oa → σ i = some d → (OwnAt Z s.heap oa d → 0 < i ∧ i < 48 → Q (.ref oa) s) → wpAny (model prog c.w) A (eval (.Name x p) env) Q noE s
theorem own_local {sc : Scope} {x : Str} (i : Nat) (hx : nm i = x) (hl : sc.names.lookup x = some .local) (hd : (x == ("__debug__" : Str)) = false) : NamesOwn sc x i := by
  intro c A env Z oa s σ d p Q he ho F hs P
  subst hx he
  obtain ⟨m, hn, hv⟩ := F.loc
  obtain ⟨v, h1, h2⟩ := hv i d hs hl
  rcases h2 with ⟨q, _⟩ | ⟨_, rfl, h2⟩
  · exact absurd rfl q
  · exact wpAny_Name (wpAny_loadName_local ho.kind hl hn h1 (P h2 (F.dom i d hs))) hd
theorem own_cell {sc : Scope} {x : Str} (i : Nat) (hx : nm i = x) (hl : sc.names.lookup x = some .cell) (hd : (x == ("__debug__" : Str)) = false) : NamesOwn sc x i := by
  intro c A env Z oa s σ d p Q he ho F hs P
  subst hx he
  obtain ⟨a, v, h1, h2, h3⟩ := F.cel i d hs hl
  rcases h3 with ⟨q, _⟩ | ⟨_, rfl, h3⟩
  · exact absurd rfl q
  · exact wpAny_Name (wpAny_loadName_cell ho.kind hl h1 h2 (P h3 (F.dom i d hs))) hd
theorem own_free {sc : Scope} {x : Str} (i : Nat) (hx : nm i = x) (hl : sc.names.lookup x = some .free) (hd : (x == ("__debug__" : Str)) = false) (hd2 : (x == ("__classdict__" : Str)) = false) : NamesOwn sc x i := by
  intro c A env Z oa s σ d p Q he ho F hs P
  subst hx he
  obtain ⟨a, v, h1, ⟨ob, h2, h2'⟩, h3⟩ := F.fre i d hs hl
  rcases h3 with ⟨q, _⟩ | ⟨_, rfl, h3⟩
  · exact absurd rfl q
  · exact wpAny_Name (wpAny_loadName_free ho.kind hl h1 ⟨ob, F.inv.le _ _ h2, h2'⟩ (P h3 (F.dom i d hs)) hd2) hd

section
variable {b : Nat} {sc : Scope} {x y : Str} {px py tp : Pos} {i j k : Nat} {pos : Pos}
noncomputable def eSubOwn (i : Nat) (f : Fe) : Fe := fun o σ => if i = o then (σ i).bind fun a => match a with
  | .list xs => (f o σ).bind fun b => subD' (.list xs) b
  | _ => none else none
theorem ev_subOwn {e : Expr} {f : Fe} (hn : NamesOwn sc x i) (h2 : EvOK b sc e f) (hs : notSlice e = true) : EvOK b sc (.Subscript (.Name x px) e pos) (eSubOwn i f) := by
  intro c A env Z oa s o σ d Q rm he ho F hf P
  unfold eSubOwn at hf
  split at hf
  · rename_i hio
    subst hio
    obtain ⟨a, q1, hf⟩ := Option.bind_eq_some_iff.mp hf
    split at hf
    · rename_i xs
      obtain ⟨bb, q2, q3⟩ := Option.bind_eq_some_iff.mp hf
      refine Subscript_ (hn c A env Z oa s σ _ px _ he ho F q1 fun hO hi => ?_)
      refine h2 c A env Z oa s i σ bb _ rm he ho F q2 fun u Z2 h2' t2 I2 g2 x2 r2 => ?_
      have F2 := F.ext I2 g2 x2
      obtain ⟨ob, eO, hnt⟩ := hO.there
      have nt := F.inv.not_tab eO hnt
      have hO2 : OwnAt Z2 h2' oa (.list xs) := hO.keep g2.1 fun ob e => x2 _ _ nt.1 nt.2 e
      unfold subD' at q3
      split at q3
      · rename_i xs' j hx
        cases hx
        split at q3
        · rename_i hj
          rw [Bool.and_eq_true, decide_eq_true_eq] at hj
          have hs' := smallI_le hj.2
          obtain ⟨t, rfl⟩ := r2.int_inv
          rcases hO2 with ⟨xs2, vs, hx2, ⟨ob2, n2, e2, hc2, _, hd2⟩, rr⟩ | ⟨kvs, ys, hx2, _⟩
          · cases hx2
            obtain ⟨w, e1, e3⟩ := rr.get q3
            have hl : h2'.IsList oa vs := ⟨ob2, e2, hc2, n2, hd2⟩
            exact tail_any hl.typeIs slot_list_getitem.lookup (wpAny_getItem_list hl hj.1 (by omega) (by simpa using e1) (P w Z2 h2' t2 I2 g2 x2 e3)) (subscripted_plain hs _ _)
          · cases hx2
        · cases q3
      · rename_i hx; cases hx
      · cases q3
    · cases hf
  · cases hf

/-- assignment of a new own object -/
noncomputable def fOwn (i : Nat) (f : Fe) : Fs := fun o σ => if o = 0 then (f o σ).bind fun d => some (.next i (σ.put i d)) else none
theorem fOwn_some {i : Nat} {f : Fe} {o : Nat} {σ : Sg} {r : Out} (h : fOwn i f o σ = some r) : o = 0 ∧ ∃ d, f o σ = some d ∧ r = .next i (σ.put i d) := by
  unfold fOwn at h
  split at h
  · rename_i q
    obtain ⟨d, h1, h⟩ := Option.bind_eq_some_iff.mp h
    cases h
    exact ⟨q, d, h1, rfl⟩
  · cases h
theorem Went.own0 {c : Cx} {Z Z1 h h1 h2 : Heap} {env : Env} {σ : Sg} {oa D a : Addr} {i : Nat} {x : Str} (F : Fm c Z h env σ 0 oa) (g : Gr h Z Z1) (e : Ext h h1) (hn : h.get? D = none) (ha : a = env.locals ∨ Mine env x a) (hs : Heap.SameBut a h1 h2) : Went env 0 oa h Z h2 Z1 i D where
  keep := fun b ob hm b1 b2 q => (hs.2 b fun r => hm (by rcases ha with q | q; exact .inl (r.trans q); exact .inr (.inl ⟨x, r ▸ q⟩))).trans (e b ob b1 b2 q)
  gr := .of_gr g
  own := fun _ => .inr hn
  live := fun q => absurd rfl q
theorem st_own {value : Expr} {f : Fe} (hst : StoreOwn sc x i) (hv : EvN b sc value f) (hs : ∀ env : Env, swapsWith value (some (.Name x px)) pos.line { env with scope := sc } = pure false) : StOK b sc (.Assign [.Name x px] value pos) (fOwn i f) := by
  intro c A env Z oa s o σ r Q rm he ho F hf P
  obtain ⟨rfl, d, h1, rfl⟩ := fOwn_some hf
  refine wpAny_Assign_Name ?_ (by rw [env_with he]; exact hs env)
  refine hv c A env Z oa s 0 σ d _ rm he ho F h1 fun D Z1 h1' t1 I1 g1 x1 hn hz hO => ?_
  have F1 := F.ext I1 g1 x1
  refine hst c A env Z1 oa D _ σ d _ he ho F1 hO hz (fun q => ?_) (fun z a e q => ?_) fun h' tk a F' ha hs' => ?_
  · obtain ⟨ob, e, _⟩ := F.L_some; rw [← q, hn] at e; cases e
  · obtain ⟨ob, e', _⟩ := F.C_some z a e; rw [q, hn] at e'; cases e'
  · exact P Z1 h' tk D F' (.own0 F g1 x1 hn ha hs')

/-! append -/
noncomputable def fApp (i : Nat) (f : Fe) : Fs := fun o σ => if i = o then (σ i).bind fun a => match a with
  | .list xs => (f o σ).bind fun d => if lenOK (xs.length + 1) then some (.next o (σ.put i (.list (xs ++ [d])))) else none
  | _ => none else none
theorem RepA.snoc {Z : Heap} {vs : Array Value} {xs : List PyData} {v : Value} {d : PyData} (r : RepA Z vs.toList xs) (q : Rep Z v d) : RepA Z (vs.push v).toList (xs ++ [d]) := by
  rw [Array.toList_push]; exact r.append (.cons q .nil)
theorem st_append {elt : Expr} {f : Fe} {p1 p2 p3 : Pos} (hn : NamesOwn sc x i) (h2 : EvOK b sc elt f) (hline : (p2.endLine == p3.line) = true)
    (hbase : ∀ env : Env, attributeBase (.Name x p1) "append" { env with scope := sc } (eval (.Name x p1) { env with scope := sc }) = eval (.Name x p1) { env with scope := sc })
    (htrees : ∀ env, backTo p3 (starEach [elt] env) = [(false, eval elt env)]) (hi : ∀ env : Env, interactive { env with scope := sc } = false) :
    StOK b sc (.Expr (.Call (.Attribute (.Name x p1) "append" p2) [elt] [] p3) pos) (fApp i f) := by
  intro c A env Z oa s o σ r Q rm he ho F hf P
  unfold fApp at hf
  split at hf
  · rename_i hio
    subst hio
    obtain ⟨a, q1, hf⟩ := Option.bind_eq_some_iff.mp hf
    split at hf
    · rename_i xs
      obtain ⟨d, q2, hf⟩ := Option.bind_eq_some_iff.mp hf
      split at hf
      · rename_i hsz
        cases hf
        refine wpAny_Expr ?_ (by rw [env_with he]; exact hi env) (by rfl)
        refine wpAny_Call_append (by rw [env_with he]; exact hbase env) (by rw [htrees]; rfl) hline (htrees env) ?_
        refine hn c A env Z oa s σ _ p1 _ he ho F q1 fun hO hi => ?_
        rcases id hO with ⟨xs1, vs1, hx1, hp1, _⟩ | ⟨kvs, ys, hx2, _⟩
        rotate_left
        · cases hx2
        refine ⟨oa, vs1, rfl, hp1, ?_⟩
        refine h2 c A env Z oa s i σ d _ rm he ho F q2 fun u Z2 h2' t2 I2 g2 x2 r2 => ?_
        have F2 := F.ext I2 g2 x2
        obtain ⟨ob, eO, hnt⟩ := hO.there
        have nt := F.inv.not_tab eO hnt
        have hO2 : OwnAt Z2 h2' oa (.list xs) := hO.keep g2.1 fun ob e => x2 _ _ nt.1 nt.2 e
        rcases hO2 with ⟨xs2, vs, hx2, hp2, rr⟩ | ⟨kvs, ys, hx2, _⟩
        · cases hx2
          have hz : vs.size ≤ sizeLine := by
            have := lenOK_le hsz
            rw [← rr.length, Array.length_toList] at this
            omega
          refine list_append_plainL hp2 (fun h' hp' hs' => ?_) hz
          obtain ⟨F3, w3⟩ := F2.turnOwn (d := .list (xs ++ [d])) hi q1 hs' (.inl ⟨_, _, rfl, hp', rr.snoc r2⟩)
          exact P Z2 h' t2 oa F3 ((Went.of_ext F g2 x2).trans F F2 F3.inv F3.nL (fun z a e => (F3.cells z a e).1) w3)
        · cases hx2
      · cases hf
    · cases hf
  · cases hf
end
end Hf
end

section
open PySem PySem.W PyProof.Rows PySem.Calls PySem.Spec
namespace Hf
set_option autoImplicit false
set_option linter.unusedSectionVars false
variable [TheW]
set_option maxRecDepth 100000

/-- one place of a plain list turned -/
theorem place_turned {pr : Program} {w : World} {A : Around} {s : Shared} {l : Addr} {items : Array Value} {j : Nat} {v : Value} {Q : Unit → Shared → Prop} (hl : PlainL s.heap l items)
    (hQ : ∀ h', PlainL h' l (items.setIfInBounds j v) → Heap.SameBut l s.heap h' → Q () { s with heap := h' }) : wpAny (model pr w) A (setSeqItemAt l j v) Q noE s := by
  obtain ⟨⟨cl, di, da, sl⟩, n, at1, c1, d1, s1⟩ := hl
  cases s1
  obtain ⟨m, s2⟩ := Obj.data_mapSeq (o := ⟨cl, di, .seq items n, sl⟩) rfl (·.setIfInBounds j v)
  exact wpAny_setSeqItemAt at1 rfl (hQ _ ⟨_, m, Heap.get?_update_self _ at1 (Obj.isFreed_of_seq s2), (Obj.cls_mapSeq ..).trans c1, d1, s2⟩ (Heap.SameBut.update ..))
theorem setItem_plainL {pr : Program} {w : World} {A : Around} {s : Shared} {l : Addr} {items : Array Value} {k : Int} {t : Tok} {v : Value} {Q : Unit → Shared → Prop} (hl : PlainL s.heap l items)
    (h0 : 0 ≤ k) (hfit : k < 2 ^ 63) (hn : k < items.size) (hQ : ∀ h', PlainL h' l (items.setIfInBounds k.toNat v) → Heap.SameBut l s.heap h' → Q () { s with heap := h' }) :
    wpAny (model pr w) A (setItem (.ref l) (.int k t) v) Q noE s := by
  have ty := hl.isList.typeIs
  obtain ⟨o, n, at1, _, _, s1⟩ := id hl
  have turn : ∀ j : Nat, k = j → wpAny (model pr w) A.in1 (Builtin.«list.__setitem__» ⟨[.ref l, .int k t, v], []⟩)
      (fun fin s' => ∃ r, fin = .done (.ret r) ∧ ∃ h', s' = { s with heap := h' } ∧ PlainL h' l (items.setIfInBounds j v) ∧ Heap.SameBut l s.heap h') noE s := fun j hj => by
    have there : items[j]? = some items[j] := Array.getElem?_eq_getElem (by omega)
    show wpAny _ _ (Builtin.List.listSubscript? (.int k t) >>= _) _ _ s
    refine wpAny_bind (wpAny_listSubscript_int (fitsIndex_of h0 hfit) ?_)
    subst hj
    show wpAny _ _ ((seqItemAt l j >>= fun x => pure (x.map fun y => (j, y))) >>= _) _ _ s
    refine wpAny_bind (wpAny_bind (wpAny_seqItemAt at1 s1 (wpAny_pure ?_)))
    rw [there]
    exact wpAny_bind (m := setSeqItemAt l j v) (place_turned hl fun h' p q => wpAny_pure ⟨_, rfl, h', rfl, p, q⟩)
  unfold setItem
  refine wpAny_holding (wpAny_bind (wpAny_sequenceKey ty (by decide) (wpAny_bind ?_)))
  refine wpAny_callSpecial?_slot (name := Str.ofString "__setitem__") ty slot_list_setitem (wpAny_call_entry slot_list_setitem ty entry_list_setitem ?_ (args_list_setitem _ _ _))
  refine wpAny_mono (turn k.toNat (by omega)) ?_ fun _ _ q => q.elim
  rintro fin s' ⟨r, rfl, h', rfl, p, q⟩
  exact ⟨r, rfl, wpAny_pure (hQ h' p q)⟩

section
variable {b : Nat} {sc : Scope} {x y : Str} {px py tp : Pos} {i j k : Nat} {pos : Pos}
noncomputable def setD (a b v : PyData) : Option PyData := match a, b with
  | .list xs, .int j => if decide (0 ≤ j) && smallI j && decide (j.toNat < xs.length) then some (.list (xs.set j.toNat v)) else none
  | _, _ => none
noncomputable def pSub (i : Nat) (f : Fe) : Fp := fun o σ d => if i = o then (σ i).bind fun a => (f o σ).bind fun j => (setD a j d).map fun a' => σ.put i a' else none
theorem sub_store {e : Expr} {f : Fe} (hn : NamesOwn sc x i) (h2 : EvOK b sc e f) {c : Cx} {A : Around} {env : Env} {Z : Heap} {oa : Addr} {s : Shared} {o : Nat} {σ σ' : Sg} {v : Value} {d : PyData} {Q : Unit → Shared → Prop}
    (rm : Room b A) (he : env.scope = sc) (ho : EnvOK env) (F : Fm c Z s.heap env σ o oa) (r : Rep Z v d) (hp : pSub i f o σ d = some σ')
    (P : ∀ Z' h' tk, Fm c Z' h' env σ' o oa → Went env o oa s.heap Z h' Z' o oa → Q () { s with heap := h', toks := tk }) : wpAny (model prog c.w) A (assign (.Subscript (.Name x px) e pos) env v) Q noE s := by
  unfold pSub at hp
  split at hp
  · rename_i hio
    subst hio
    obtain ⟨a, q1, hp⟩ := Option.bind_eq_some_iff.mp hp
    obtain ⟨j, q2, hp⟩ := Option.bind_eq_some_iff.mp hp
    obtain ⟨a', q3, hp⟩ := Option.map_eq_some_iff.mp hp
    subst hp
    refine kas_sub (hn c A env Z oa s σ _ px _ he ho F q1 fun hO hi => ?_)
    refine h2 c A env Z oa s i σ j _ rm he ho F q2 fun u Z2 h2' t2 I2 g2 x2 r2 => ?_
    have F2 := F.ext I2 g2 x2
    obtain ⟨ob, eO, hnt⟩ := hO.there
    have nt := F.inv.not_tab eO hnt
    have hO2 : OwnAt Z2 h2' oa a := hO.keep g2.1 fun ob e => x2 _ _ nt.1 nt.2 e
    unfold setD at q3
    split at q3
    · rename_i xs jj _
      split at q3
      · rename_i hj
        cases q3
        simp only [Bool.and_eq_true, decide_eq_true_eq] at hj
        obtain ⟨⟨hj0, hj1⟩, hj2⟩ := hj
        obtain ⟨t, rfl⟩ := r2.int_inv
        have hs' := smallI_le hj1
        rcases hO2 with ⟨xs2, vs, hx2, hp2, rr⟩ | ⟨kvs, ys, hx2, _⟩
        · obtain rfl : xs = xs2 := PyData.list.inj hx2
          have hz : vs.size = xs.length := by rw [← rr.length, Array.length_toList]
          refine setItem_plainL hp2 hj0 (by omega) (by omega) fun h' hp' hs3 => ?_
          obtain ⟨F3, w3⟩ := F2.turnOwn (d := .list (xs.set jj.toNat d)) hi q1 hs3 (.inl ⟨_, _, rfl, hp', by rw [Array.toList_setIfInBounds]; exact rr.set (r.le g2.1) jj.toNat⟩)
          exact P Z2 h' t2 F3 ((Went.of_ext F g2 x2).trans F F2 F3.inv F3.nL (fun z a e => (F3.cells z a e).1) w3)
        · cases hx2
      · cases q3
    · cases q3
  · cases hp

noncomputable def pSub2 (i : Nat) (f g : Fe) : Fp := fun o σ d => match d with
  | .tuple [x, y] => (pSub i f o σ x).bind fun σ1 => pSub i g o σ1 y
  | _ => none
theorem st_sub2 {e1 e2 : Expr} {f1 f2 : Fe} {value : Expr} {f : Fe} {x' : Str} {p1 p2 p3 p4 : Pos} (hn : NamesOwn sc x i) (hn' : NamesOwn sc x' i) (h1 : EvOK b sc e1 f1) (h2 : EvOK b sc e2 f2) (hv : EvOK b sc value f)
    (hs : ∀ env : Env, swapsWithSole [.Tuple [.Subscript (.Name x p1) e1 p2, .Subscript (.Name x' p3) e2 p4] k tp] value pos.line { env with scope := sc } = pure false)
    (hw : ∀ env : Env, swappedStores [.Tuple [.Subscript (.Name x p1) e1 p2, .Subscript (.Name x' p3) e2 p4] k tp] value { env with scope := sc } = pure none) :
    StOK b sc (.Assign [.Tuple [.Subscript (.Name x p1) e1 p2, .Subscript (.Name x' p3) e2 p4] k tp] value pos) (fSet (pSub2 i f1 f2) f) := by
  intro c A env Z oa s o σ r Q rm he ho F hf P
  obtain ⟨d, σ', q1, q2, rfl⟩ := fSet_some hf
  refine Assign_Tuple ?_ (by rw [env_with he]; exact hs env) (by rw [env_with he]; exact hw env)
  refine hv c A env Z oa s o σ d _ rm he ho F q1 fun v Z1 h1' t1 I1 g1 x1 rv => ?_
  have F1 := F.ext I1 g1 x1
  have w1 := Went.of_ext F g1 x1
  unfold pSub2 at q2
  split at q2
  · rename_i d1 d2
    obtain ⟨σ1, s1, s2⟩ := Option.bind_eq_some_iff.mp q2
    obtain ⟨a, ob, vs, n, rfl, e, hc, hd, q⟩ := rv.tuple_inv
    have hz : vs.size = 2 := by rw [← Array.length_toList, q.length]; rfl
    obtain ⟨v1, v2, hv⟩ : ∃ v1 v2, vs.toList = [v1, v2] := by
      match hq : vs.toList, q.length with
      | [v1, v2], _ => exact ⟨v1, v2, rfl⟩
    rw [hv] at q
    have ht : h1'.IsTuple a vs := ⟨ob, I1.le _ _ e, hc, n, hd⟩
    refine wpAny_assign_Tuple rm.1 ht hz.symm rfl fun h' hx' => ?_
    have hk : Le h1' h' := fun b o e => hx' b o (Nat.ne_of_lt (Heap.lt_size e)) e
    have F' := F1.ext (F1.inv.keep hk) (Gr.refl _ _) (Ext.of_le hk)
    have w' := w1.trans F F1 F'.inv F'.nL (fun z a e => (F'.cells z a e).1) (Went.of_ext F1 (Gr.refl _ _) (Ext.of_le hk))
    rw [hv]
    show wpAny _ A (do holding [v2] (assign (.Subscript (.Name x p1) e1 p2) env v1); assignInOrder [assign (.Subscript (.Name x' p3) e2 p4) env] [v2]) _ noE _
    refine wpAny_bind (wpAny_holding (sub_store hn h1 rm he ho F' q.cons_inv.1 s1 fun Z2 h2' t2 F2 w2 => ?_))
    have w2' := w'.trans F F' F2.inv F2.nL (fun z a e => (F2.cells z a e).1) w2
    show wpAny _ A (do holding [] (assign (.Subscript (.Name x' p3) e2 p4) env v2); assignInOrder [] []) _ noE _
    refine wpAny_bind (wpAny_holding (sub_store hn' h2 rm he ho F2 (q.cons_inv.2.cons_inv.1.le w2.gr.1) s2 fun Z3 h3' t3 F3 w3 => ?_))
    exact wpAny_pure (P Z3 h3' t3 oa F3 (w2'.trans F F2 F3.inv F3.nL (fun z a e => (F3.cells z a e).1) w3))
  · cases q2

/-- `x += e` -/
noncomputable def fAug (i : Nat) (f : Fe) : Fs := fun o σ => (eBin subD0 (eVar i) f o σ).bind fun d => (pName i o σ d).bind fun σ' => some (.next o σ')
where subD0 : PyData → PyData → Option PyData
  | .int a, .int b => some (.int (a + b))
  | _, _ => none
theorem st_aug {e : Expr} {f : Fe} (hx : nm i = x) (hl : sc.names.lookup x = some .local) (hst : StoreOK sc x i) (h2 : EvOK b sc e f) : StOK b sc (.AugAssign (.Name x px) .Add e pos) (fAug i f) := by
  intro c A env Z oa s o σ r Q rm he ho F hf P
  unfold fAug at hf
  obtain ⟨d, q1, hf⟩ := Option.bind_eq_some_iff.mp hf
  obtain ⟨σ', q2, hf⟩ := Option.bind_eq_some_iff.mp hf
  cases hf
  obtain ⟨u, w, q3, q4, q5⟩ := eBin_some q1
  unfold pName at q2
  split at q2
  · cases q2
  rename_i hio
  cases q2
  unfold eVar at q3
  rw [if_neg hio] at q3
  subst hx he
  obtain ⟨m, hn, hv⟩ := F.loc
  obtain ⟨v, e1, e2⟩ := hv i u q3 hl
  rcases e2 with ⟨_, rv⟩ | ⟨q, _⟩
  rotate_left
  · exact absurd q hio
  refine wpAny_AugAssign_Name (wpAny_loadName_local ho.kind hl hn e1 ?_)
  refine h2 c A env Z oa s o σ w _ rm rfl ho F q4 fun v2 Z2 h2' t2 I2 g2 x2 r2 => ?_
  have F2 := F.ext I2 g2 x2
  unfold fAug.subD0 at q5
  split at q5
  · cases q5
    obtain ⟨t, rfl⟩ := rv.int_inv
    obtain ⟨t', rfl⟩ := r2.int_inv
    refine iadd_int ?_
    refine hst c A env Z2 oa _ o σ _ _ _ rfl ho F2 (.int _ _) hio fun h' tk a F' ha hs' => ?_
    exact P Z2 h' tk oa F' ((Went.of_ext F g2 x2).trans F F2 F'.inv F'.nL (fun z a e => (F'.cells z a e).1) (.of_store F2 ha hs'))
  · cases q5
end
end Hf
end

section
open PySem PySem.W PyProof.Rows PySem.Calls PySem.Spec
namespace Hf
set_option autoImplicit false
set_option linter.unusedSectionVars false
variable [TheW]
set_option maxRecDepth 100000

section
variable {b : Nat} {sc : Scope} {elt iter : Expr} {ifs : List Expr} {scope : Scope} {pos px py spos : Pos} {x y : Str} {i j : Nat} {xs : List Nat} {fi : Fl} {cond : Fb} {fm : Fl} {rest : List Comprehension} {em : Env → Value → Sem Unit}

/-- a comprehension's list, stored before the comprehension's variables go -/
theorem st_used (T : CompSc scope sc xs) (hxk : scope.names.lookup x = some .local ∨ scope.names.lookup x = some .cell) (hct : TurnIs elt (⟨.Name x px, iter, ifs, 0⟩ :: rest) scope pos 0 (.Name x px) iter ifs em) (hxi : nm i = x ∧ i < 48)
    (hst : StoreOK (relabelS scope sc) x i) (hit : ItOK b sc (.Name x px) iter fi) (hcond : CondOK b (relabelS scope sc) ifs cond)
    (hem : EmOK b (relabelS scope sc) em fm) (hs : ∀ env v, foldedSetIterable iter env v = pure v) (hsy : StoreOK sc y j)
    (hsw : ∀ env : Env, swapsWith (.ListComp elt (⟨.Name x px, iter, ifs, 0⟩ :: rest) scope pos) (some (.Name y py)) spos.line { env with scope := sc } = pure true) :
    StOK b sc (.Assign [.Name y py] (.ListComp elt (⟨.Name x px, iter, ifs, 0⟩ :: rest) scope pos) spos) (fSet (pName j) (eComp i xs fi cond fm)) := by
  intro c A env Z oa s o σ r Q rm he ho F hf P
  obtain ⟨d, σ', q1, q2, rfl⟩ := fSet_some hf
  unfold pName at q2
  split at q2
  · cases q2
  rename_i hjo
  cases q2
  obtain ⟨ds, out, h1, h2, h3, rfl⟩ := eComp_some q1
  rw [exec_Assign_Name_used _ _ _ _ (by rw [env_with he]; exact hsw env)]
  refine wpAny_bind (wpAny_standAt (wpAny_bind ?_))
  show wpAny _ A (do let _ ← comprehension (.ListComp elt (⟨.Name x px, iter, ifs, 0⟩ :: rest) scope pos) scope env _ (newList []) false (eval iter env) (some (assign (.Name y py) env))) _ _ s
  subst he
  refine wpAny_bind (wpAny_mono (wpAny_comprehension_free (use := some (assign (.Name y py) env)) (Q := fun _ s' => Q .next s') rfl (hs env) (closure_eq fun y hy hf => ho.cov y.1 (.inl (T.free y hy hf))) T.kind (closure_names T)
    (hit c A env Z oa s o σ ds _ rm rfl ho F h1 fun I wr St Z' h' tk' src st0 I' g x' hw => ?_)) (fun _ s' hq => wpAny_pure (wpAny_pure hq)) fun _ _ e => e)
  have F' := F.ext I' g x'
  have nw := src_off F hw
  refine comp_run (RR := fun acc C => compPost (model prog c.w) A noE (some (assign (.Name y py) env)) (fun _ s' => Q .next s') acc C) (s := { s with heap := h', toks := tk' }) rm T ho F' hxk hct hxi hst hcond hem src st0 (fun b hb => (hw b hb).2) nw h2 h3 ?_
  intro D C Z2 h2 t2 m ys I2 g2 k2 nD nC hDC zD zC nsC lD rD
  show wpAny _ A (assign (.Name y py) env (.ref D)) _ _ _
  obtain ⟨I3, gr, old, nD', nC'⟩ := comp_after (h3 := h2) I' g x' hw I2 g2 k2 nC nD zC nsC ⟨rfl, fun _ _ => rfl⟩
  obtain ⟨n, eD⟩ := lD
  obtain ⟨Z3, I3, kZ, eZ, zz⟩ := I2.put eD zD (fun ps q => by cases q)
  have g3 : Gr s.heap Z Z3 := ⟨gr.1.trans kZ, fun b ob o' hb hq => by
    by_cases hbD : b = D
    · rw [hbD, nD'] at hb; cases hb
    · rw [zz b hbD] at hq; exact gr.2 b ob o' hb hq⟩
  have F3 := F.ext I3 g3 old
  have hCL : C ≠ env.locals := fun q => by obtain ⟨ob, e, _⟩ := F.L_some; rw [← q, nC'] at e; cases e
  have hCC : ∀ z a, Mine env z a → a ≠ C := fun z a e q => by obtain ⟨ob, e', _⟩ := F.C_some z a e; rw [q, nC'] at e'; cases e'
  have hCO : o ≠ 0 → oa ≠ C := fun h q => by obtain ⟨ob, e', _⟩ := F.O_some h; rw [q, nC'] at e'; cases e'
  refine wpAny_assign_Name (hsy c A env Z3 oa _ o σ (.ref D) _ _ rfl ho F3 (.list_of eZ rfl rfl (rD.le kZ)) hjo fun h4 t4 a4 F4 ha4 hs4 => ?_)
  have hCa : C ≠ a4 := fun q => by
    rcases ha4 with r | r
    · exact hCL (q.trans r)
    · exact hCC _ _ r q.symm
  have zC3 : Z3.get? C = none := by rw [zz C (Ne.symm hDC)]; exact zC
  have nsC4 : h4.Ns C m := nsC.sameBut hs4 hCa
  refine ⟨m, nsC4, fun h5 hs5 => ?_⟩
  have ntC := F4.inv.ns_not nsC4
  have k5 : ∀ b ob, b ≠ C → h4.get? b = some ob → h5.get? b = some ob := fun b ob hb e => (hs5.2 b hb).trans e
  have F5 := F4.off (wr := [C]) (F4.inv.turn hs5 zC3 ntC.1 ntC.2) (Gr.refl _ _) (fun b ob hb _ _ e => k5 b ob (by simpa using hb) e) (by simpa using hCL.symm) (fun x a e => by simpa using hCC x a e) (fun h => by simpa using hCO h)
  have w4 := Went.of_store F3 ha4 hs4
  refine P Z3 h5 t4 oa F5 ⟨fun b ob hm b1 b2 e => ?_, .of_gr g3, .refl _ _ _, fun h => ?_⟩
  · exact k5 b ob (fun q => by rw [q, nC'] at e; cases e) (w4.keep b ob hm b1 b2 (old b ob b1 b2 e))
  · obtain ⟨ob, e⟩ := w4.live h
    exact ⟨ob, k5 _ _ (hCO h) e⟩

/-- the same, into the own slot -/
theorem st_usedOwn (T : CompSc scope sc xs) (hxk : scope.names.lookup x = some .local ∨ scope.names.lookup x = some .cell) (hct : TurnIs elt (⟨.Name x px, iter, ifs, 0⟩ :: rest) scope pos 0 (.Name x px) iter ifs em) (hxi : nm i = x ∧ i < 48)
    (hst : StoreOK (relabelS scope sc) x i) (hit : ItOK b sc (.Name x px) iter fi) (hcond : CondOK b (relabelS scope sc) ifs cond)
    (hem : EmOK b (relabelS scope sc) em fm) (hs : ∀ env v, foldedSetIterable iter env v = pure v) (hsy : StoreOwn sc y j)
    (hsw : ∀ env : Env, swapsWith (.ListComp elt (⟨.Name x px, iter, ifs, 0⟩ :: rest) scope pos) (some (.Name y py)) spos.line { env with scope := sc } = pure true) :
    StOK b sc (.Assign [.Name y py] (.ListComp elt (⟨.Name x px, iter, ifs, 0⟩ :: rest) scope pos) spos) (fOwn j (eComp i xs fi cond fm)) := by
  intro c A env Z oa s o σ r Q rm he ho F hf P
  obtain ⟨rfl, d, q1, rfl⟩ := fOwn_some hf
  obtain ⟨ds, out, h1, h2, h3, rfl⟩ := eComp_some q1
  rw [exec_Assign_Name_used _ _ _ _ (by rw [env_with he]; exact hsw env)]
  refine wpAny_bind (wpAny_standAt (wpAny_bind ?_))
  show wpAny _ A (do let _ ← comprehension (.ListComp elt (⟨.Name x px, iter, ifs, 0⟩ :: rest) scope pos) scope env _ (newList []) false (eval iter env) (some (assign (.Name y py) env))) _ _ s
  subst he
  refine wpAny_bind (wpAny_mono (wpAny_comprehension_free (use := some (assign (.Name y py) env)) (Q := fun _ s' => Q .next s') rfl (hs env) (closure_eq fun y hy hf => ho.cov y.1 (.inl (T.free y hy hf))) T.kind (closure_names T)
    (hit c A env Z oa s 0 σ ds _ rm rfl ho F h1 fun I wr St Z' h' tk' src st0 I' g x' hw => ?_)) (fun _ s' hq => wpAny_pure (wpAny_pure hq)) fun _ _ e => e)
  have F' := F.ext I' g x'
  have nw := src_off F hw
  refine comp_run (RR := fun acc C => compPost (model prog c.w) A noE (some (assign (.Name y py) env)) (fun _ s' => Q .next s') acc C) (s := { s with heap := h', toks := tk' }) rm T ho F' hxk hct hxi hst hcond hem src st0 (fun b hb => (hw b hb).2) nw h2 h3 ?_
  intro D C Z2 h2 t2 m ys I2 g2 k2 nD nC hDC zD zC nsC lD rD
  show wpAny _ A (assign (.Name y py) env (.ref D)) _ _ _
  obtain ⟨I3, gr, old, nD', nC'⟩ := comp_after (h3 := h2) I' g x' hw I2 g2 k2 nC nD zC nsC ⟨rfl, fun _ _ => rfl⟩
  obtain ⟨n, eD⟩ := lD
  have F3 := F.ext I2 gr old
  have hL : ∀ a, s.heap.get? a = none → a ≠ env.locals := fun a na q => by obtain ⟨ob, e, _⟩ := F.L_some; rw [← q, na] at e; cases e
  have hC : ∀ a, s.heap.get? a = none → ∀ z a', Mine env z a' → a' ≠ a := fun a na z a' e q => by obtain ⟨ob, e', _⟩ := F.C_some z a' e; rw [q, na] at e'; cases e'
  refine wpAny_assign_Name (hsy c A env Z2 oa D _ σ _ _ rfl ho F3 (.inl ⟨out, ys, rfl, ⟨_, n, eD, rfl, rfl, rfl⟩, rD⟩) zD (hL D nD') (hC D nD') fun h4 t4 a4 F4 ha4 hs4 => ?_)
  have hCa : C ≠ a4 := fun q => by
    rcases ha4 with r | r
    · exact hL C nC' (q.trans r)
    · exact hC C nC' _ _ r q.symm
  have nsC4 : h4.Ns C m := nsC.sameBut hs4 hCa
  refine ⟨m, nsC4, fun h5 hs5 => ?_⟩
  have ntC := F4.inv.ns_not nsC4
  have k5 : ∀ b ob, b ≠ C → h4.get? b = some ob → h5.get? b = some ob := fun b ob hb e => (hs5.2 b hb).trans e
  have F5 := F4.off (wr := [C]) (F4.inv.turn hs5 zC ntC.1 ntC.2) (Gr.refl _ _) (fun b ob hb _ _ e => k5 b ob (by simpa using hb) e) (by simpa using (hL C nC').symm) (fun x a e => by simpa using hC C nC' x a e) (fun _ => by simpa using hDC)
  refine P Z2 h5 t4 D F5 ⟨fun b ob hm b1 b2 e => ?_, .of_gr gr, fun _ => .inr nD', fun h => absurd rfl h⟩
  refine k5 b ob (fun q => by rw [q, nC'] at e; cases e) ((hs4.2 b fun q => hm ?_).trans (old b ob b1 b2 e))
  rcases ha4 with r | r
  · exact .inl (q.trans r)
  · exact .inr (.inl ⟨y, q ▸ r⟩)
end
end Hf
end

section
open PySem PySem.W PyProof.Rows PySem.Calls PySem.Spec
namespace Hf
set_option autoImplicit false
set_option linter.unusedSectionVars false
set_option maxRecDepth 100000

section
variable {elt iter iter2 : Expr} {ifs ifs2 : List Expr} {scope : Scope} {pos px px2 : Pos} {x x2 : Str}
theorem turn1 : TurnIs elt [⟨.Name x px, iter, ifs, 0⟩] scope pos 0 (.Name x px) iter ifs (emLast elt) := fun _ _ _ => rfl
theorem turn20 : TurnIs elt [⟨.Name x px, iter, ifs, 0⟩, ⟨.Name x2 px2, iter2, ifs2, 0⟩] scope pos 0 (.Name x px) iter ifs (emInner elt [⟨.Name x px, iter, ifs, 0⟩, ⟨.Name x2 px2, iter2, ifs2, 0⟩] scope pos 1 iter2) := fun I D cenv => by
  unfold turnTree emInner compTurn
  show (standAt iter.pos >>= fun _ => _) = (standAt iter.pos >>= fun _ => _)
  congr 1
  funext _
  show (pyNext (.ref I) >>= fun _ => _) = (pyNext (.ref I) >>= fun _ => _)
  congr 1
  funext r
  cases r with
  | none => rfl
  | some v =>
    show (letOwnedTupleGo (.Name x px) (.ref I) v >>= fun _ => _) = (letOwnedTupleGo (.Name x px) (.ref I) v >>= fun _ => _)
    congr 1
    funext _
    show (assign (.Name x px) cenv v >>= fun _ => _) = (assign (.Name x px) cenv v >>= fun _ => _)
    congr 1
    funext _
    show (_ >>= fun (ok : Bool) => _) = (_ >>= fun (ok : Bool) => _)
    congr 1
    funext ok
    cases ok with
    | false => rfl
    | true =>
      simp only [if_true, bind_assoc, pure_bind]
      rfl
theorem turn21 : TurnIs elt [⟨.Name x px, iter, ifs, 0⟩, ⟨.Name x2 px2, iter2, ifs2, 0⟩] scope pos 1 (.Name x2 px2) iter2 ifs2 (emLast elt) := fun _ _ _ => rfl
end
section
variable [TheW] {b : Nat} {sc : Scope} {elt iter iter2 : Expr} {ifs ifs2 : List Expr} {scope : Scope} {pos px px2 py spos : Pos} {x x2 y : Str} {i i2 j : Nat} {xs : List Nat} {fi fi2 : Fl} {cond cond2 : Fb} {fe : Fe}
theorem evn_comp1 (T : CompSc scope sc xs) (hxk : scope.names.lookup x = some .local ∨ scope.names.lookup x = some .cell) (hxi : nm i = x ∧ i < 48)
    (hst : StoreOK (relabelS scope sc) x i) (hit : ItOK b sc (.Name x px) iter fi) (hcond : CondOK b (relabelS scope sc) ifs cond)
    (helt : EvOK b (relabelS scope sc) elt fe) (hs : ∀ env v, foldedSetIterable iter env v = pure v) : EvN b sc (.ListComp elt [⟨.Name x px, iter, ifs, 0⟩] scope pos) (eComp i xs fi cond (lOne fe)) :=
  evn_comp T hxk turn1 hxi hst hit hcond (em_last helt) hs
theorem em_two (hl : (relabelS scope sc).names.lookup x2 = some .local) (hst2 : StoreOK (relabelS scope sc) x2 i2) (hit2 : ItOK b (relabelS scope sc) (.Name x2 px2) iter2 fi2) (hcond2 : CondOK b (relabelS scope sc) ifs2 cond2)
    (helt : EvOK b (relabelS scope sc) elt fe) (hs2 : ∀ env v, foldedSetIterable iter2 env v = pure v) :
    EmOK b (relabelS scope sc) (emInner elt [⟨.Name x px, iter, ifs, 0⟩, ⟨.Name x2 px2, iter2, ifs2, 0⟩] scope pos 1 iter2) (lInner i2 fi2 cond2 (lOne fe)) :=
  em_inner rfl turn21 hl hst2 hit2 hcond2 (em_last helt) hs2
theorem evn_comp2 (T : CompSc scope sc xs) (hxk : scope.names.lookup x = some .local ∨ scope.names.lookup x = some .cell) (hxi : nm i = x ∧ i < 48)
    (hst : StoreOK (relabelS scope sc) x i) (hit : ItOK b sc (.Name x px) iter fi) (hcond : CondOK b (relabelS scope sc) ifs cond) (hs : ∀ env v, foldedSetIterable iter env v = pure v)
    (hl : (relabelS scope sc).names.lookup x2 = some .local) (hst2 : StoreOK (relabelS scope sc) x2 i2) (hit2 : ItOK b (relabelS scope sc) (.Name x2 px2) iter2 fi2) (hcond2 : CondOK b (relabelS scope sc) ifs2 cond2)
    (helt : EvOK b (relabelS scope sc) elt fe) (hs2 : ∀ env v, foldedSetIterable iter2 env v = pure v) :
    EvN b sc (.ListComp elt [⟨.Name x px, iter, ifs, 0⟩, ⟨.Name x2 px2, iter2, ifs2, 0⟩] scope pos) (eComp i xs fi cond (lInner i2 fi2 cond2 (lOne fe))) :=
  evn_comp T hxk turn20 hxi hst hit hcond (em_two hl hst2 hit2 hcond2 helt hs2) hs
theorem st_used1 (T : CompSc scope sc xs) (hxk : scope.names.lookup x = some .local ∨ scope.names.lookup x = some .cell) (hxi : nm i = x ∧ i < 48)
    (hst : StoreOK (relabelS scope sc) x i) (hit : ItOK b sc (.Name x px) iter fi) (hcond : CondOK b (relabelS scope sc) ifs cond)
    (helt : EvOK b (relabelS scope sc) elt fe) (hs : ∀ env v, foldedSetIterable iter env v = pure v) (hsy : StoreOK sc y j)
    (hsw : ∀ env : Env, swapsWith (.ListComp elt [⟨.Name x px, iter, ifs, 0⟩] scope pos) (some (.Name y py)) spos.line { env with scope := sc } = pure true) :
    StOK b sc (.Assign [.Name y py] (.ListComp elt [⟨.Name x px, iter, ifs, 0⟩] scope pos) spos) (fSet (pName j) (eComp i xs fi cond (lOne fe))) :=
  st_used T hxk turn1 hxi hst hit hcond (em_last helt) hs hsy hsw
theorem st_usedOwn1 (T : CompSc scope sc xs) (hxk : scope.names.lookup x = some .local ∨ scope.names.lookup x = some .cell) (hxi : nm i = x ∧ i < 48)
    (hst : StoreOK (relabelS scope sc) x i) (hit : ItOK b sc (.Name x px) iter fi) (hcond : CondOK b (relabelS scope sc) ifs cond)
    (helt : EvOK b (relabelS scope sc) elt fe) (hs : ∀ env v, foldedSetIterable iter env v = pure v) (hsy : StoreOwn sc y j)
    (hsw : ∀ env : Env, swapsWith (.ListComp elt [⟨.Name x px, iter, ifs, 0⟩] scope pos) (some (.Name y py)) spos.line { env with scope := sc } = pure true) :
    StOK b sc (.Assign [.Name y py] (.ListComp elt [⟨.Name x px, iter, ifs, 0⟩] scope pos) spos) (fOwn j (eComp i xs fi cond (lOne fe))) :=
  st_usedOwn T hxk turn1 hxi hst hit hcond (em_last helt) hs hsy hsw
theorem st_used2 (T : CompSc scope sc xs) (hxk : scope.names.lookup x = some .local ∨ scope.names.lookup x = some .cell) (hxi : nm i = x ∧ i < 48)
    (hst : StoreOK (relabelS scope sc) x i) (hit : ItOK b sc (.Name x px) iter fi) (hcond : CondOK b (relabelS scope sc) ifs cond) (hs : ∀ env v, foldedSetIterable iter env v = pure v)
    (hl : (relabelS scope sc).names.lookup x2 = some .local) (hst2 : StoreOK (relabelS scope sc) x2 i2) (hit2 : ItOK b (relabelS scope sc) (.Name x2 px2) iter2 fi2) (hcond2 : CondOK b (relabelS scope sc) ifs2 cond2)
    (helt : EvOK b (relabelS scope sc) elt fe) (hs2 : ∀ env v, foldedSetIterable iter2 env v = pure v) (hsy : StoreOK sc y j)
    (hsw : ∀ env : Env, swapsWith (.ListComp elt [⟨.Name x px, iter, ifs, 0⟩, ⟨.Name x2 px2, iter2, ifs2, 0⟩] scope pos) (some (.Name y py)) spos.line { env with scope := sc } = pure true) :
    StOK b sc (.Assign [.Name y py] (.ListComp elt [⟨.Name x px, iter, ifs, 0⟩, ⟨.Name x2 px2, iter2, ifs2, 0⟩] scope pos) spos) (fSet (pName j) (eComp i xs fi cond (lInner i2 fi2 cond2 (lOne fe)))) :=
  st_used T hxk turn20 hxi hst hit hcond (em_two hl hst2 hit2 hcond2 helt hs2) hs hsy hsw
end
end Hf
end

section
open PySem PySem.W PyProof.Rows PySem.Calls PySem.Spec
namespace Hf
set_option autoImplicit false
set_option maxRecDepth 100000
set_option linter.unusedSectionVars false

/-- a dict's entries at an address -/
noncomputable def RawD (h : Heap) (d : Addr) (es : Array DictEntry) (ep : Nat) : Prop := ∃ o, h.get? d = some o ∧ o.ExactDict ∧ o.data = .dict es ep

theorem stop_raised {pr : Program} {w : World} {A : Around} {s : Shared} {α : Type} {Q : α → Shared → Prop} {E : Value → Shared → Prop} (hh : A.handled = none)
    (hE : ∀ h' e, (∀ b o, s.heap.get? b = some o → h'.get? b = some o) → (∃ o, h'.get? e = some o ∧ o.cls = .type "StopIteration") → E (.ref e) { s with heap := h' }) :
    wpAny (model pr w) A (do raiseNew (← newExc (.type "StopIteration") []) : Sem α) Q E s := by
  refine wpAny_bind ?_
  unfold newExc newTuple
  refine wpAny_bind (wpAny_newObj_type ?_ (by size_fits))
  refine wpAny_bind (m := firstArgMember _ _) (wpAny_of_eq (a := Value.none) (by simp only [firstArgMember]; rfl) ?_)
  refine wpAny_newObj_type ?_ (by size_fits)
  unfold raiseNew
  refine wpAny_bind (wpAny_handled ?_)
  rw [hh]
  exact wpAny_bind (wpAny_pure (wpAny_throw (hE _ _ (fun b o e => Heap.get?_push_of_some _ (Heap.get?_push_of_some _ e)) ⟨_, Heap.get?_push_size _ rfl, rfl⟩)))

theorem next_key {pr : Program} {w : World} {A : Around} {s : Shared} {it d : Addr} {i ep : Nat} {es : Array DictEntry} {e : DictEntry} {Q : Option Value → Shared → Prop}
    (hit : s.heap.IsKeyIter it d i es.size ep) (hm : RawD s.heap d es ep) (he : es[i]? = some e)
    (hQ : ∀ h', h'.IsKeyIter it d (i + 1) es.size ep → Heap.SameBut it s.heap h' → Q (some e.key) { s with heap := h' }) : wpAny (model pr w) A (pyNext (.ref it)) Q noE s := by
  obtain ⟨o, ho, hc, hd⟩ := id hit
  obtain ⟨od, hod, hcd, hdd⟩ := id hm
  have hT := hit.typeIs
  have e2 : (if (i : Int) < 0 then none else es[(i : Int).toNat]?) = some e := by rw [if_neg (by omega)]; simpa using he
  have hit2 : (s.heap.update it (Obj.mapFields (·.setIfInBounds 1 (rawInt ((i : Int) + 1))))).IsKeyIter it d (i + 1) es.size ep :=
    ⟨_, Heap.get?_update_self _ ho (Obj.isFreed_of_fields (Obj.data_mapFields hd _)), (Obj.cls_mapFields ..).trans hc, by rw [Obj.data_mapFields hd]; simp [rawInt]⟩
  have hT2 : Shared.TypeIs { s with heap := s.heap.update it (Obj.mapFields (·.setIfInBounds 1 (rawInt ((i : Int) + 1)))) } (.ref it) "dict_keyiterator" := hit2.typeIs
  refine wpAny_bind (wpAny_attempt (wpAny_callSpecial?_slot hT F.slot_dict_keyiterator_next
    (wpAny_call_entry F.slot_dict_keyiterator_next hT F.entry_dict_keyiterator_next ?_ (F.args_dict_keyiterator_next_1 _))))
  wp_walk using wpAny_typeNameOfWhole_keyiter hT, wpAny_fieldsOf ho hd, wpAny_dictEntries hod hdd, wpAny_dictEpoch hod hdd
  rw [e2]
  wp_walk using wpAny_typeNameOfWhole_keyiter hT, wpAny_isOneOf_keyiter hT
  rw [hd]
  show wpAny _ _ (update it (Obj.mapFields (·.setIfInBounds 1 (rawInt ((i : Int) + 1))))) _ _ s
  refine wpAny_update ho ?_
  wp_walk using wpAny_isOneOf_keyiter hT2
  exact ⟨_, rfl, wpAny_pure (hQ _ hit2 (Heap.SameBut.update ..))⟩

theorem end_key {pr : Program} {w : World} {A : Around} {s : Shared} {it d : Addr} {i ep : Nat} {es : Array DictEntry} {Q : Option Value → Shared → Prop} (hh : A.handled = none)
    (hit : s.heap.IsKeyIter it d i es.size ep) (hm : RawD s.heap d es ep) (he : es[i]? = none)
    (hQ : ∀ h', Heap.ExtBut it s.heap h' → Q none { s with heap := h' }) : wpAny (model pr w) A (pyNext (.ref it)) Q noE s := by
  obtain ⟨o, ho, hc, hd⟩ := id hit
  obtain ⟨od, hod, hcd, hdd⟩ := id hm
  have hT := hit.typeIs
  have e2 : (if (i : Int) < 0 then none else es[(i : Int).toNat]?) = none := by rw [if_neg (by omega)]; simpa using he
  refine wpAny_bind (wpAny_attempt (wpAny_callSpecial?_slot hT F.slot_dict_keyiterator_next
    (wpAny_call_entry F.slot_dict_keyiterator_next hT F.entry_dict_keyiterator_next ?_ (F.args_dict_keyiterator_next_1 _))))
  wp_walk using wpAny_typeNameOfWhole_keyiter hT, wpAny_fieldsOf ho hd, wpAny_dictEntries hod hdd, wpAny_dictEpoch hod hdd
  rw [e2]
  wp_walk using wpAny_typeNameOfWhole_keyiter hT
  rw [hd]
  show wpAny _ _ (update it (Obj.mapFields (·.setIfInBounds 0 .none))) _ _ s
  refine wpAny_update ho ?_
  refine stop_raised (A := A.in1) hh fun h' e k ho' => ?_
  obtain ⟨oe, he1, he2⟩ := ho'
  refine wpAny_bind (wpAny_isInstance (T := "StopIteration") (b := true) ⟨oe, he1, he2⟩ isSubtype_stop ?_)
  exact wpAny_pure (hQ _ fun b o hb e => k _ _ ((Heap.SameBut.update ..).extBut b o hb e))
theorem next_val {pr : Program} {w : World} {A : Around} {s : Shared} {it d : Addr} {i ep : Nat} {es : Array DictEntry} {e : DictEntry} {Q : Option Value → Shared → Prop}
    (hit : s.heap.IsValIter it d i es.size ep) (hm : RawD s.heap d es ep) (he : es[i]? = some e)
    (hQ : ∀ h', h'.IsValIter it d (i + 1) es.size ep → Heap.SameBut it s.heap h' → Q (some e.val) { s with heap := h' }) : wpAny (model pr w) A (pyNext (.ref it)) Q noE s := by
  obtain ⟨o, ho, hc, hd⟩ := id hit
  obtain ⟨od, hod, hcd, hdd⟩ := id hm
  have hT := hit.typeIs
  have e2 : (if (i : Int) < 0 then none else es[(i : Int).toNat]?) = some e := by rw [if_neg (by omega)]; simpa using he
  have hit2 : (s.heap.update it (Obj.mapFields (·.setIfInBounds 1 (rawInt ((i : Int) + 1))))).IsValIter it d (i + 1) es.size ep :=
    ⟨_, Heap.get?_update_self _ ho (Obj.isFreed_of_fields (Obj.data_mapFields hd _)), (Obj.cls_mapFields ..).trans hc, by rw [Obj.data_mapFields hd]; simp [rawInt]⟩
  have hT2 : Shared.TypeIs { s with heap := s.heap.update it (Obj.mapFields (·.setIfInBounds 1 (rawInt ((i : Int) + 1)))) } (.ref it) "dict_valueiterator" := hit2.typeIs
  refine wpAny_bind (wpAny_attempt (wpAny_callSpecial?_slot hT F.slot_dict_valueiterator_next
    (wpAny_call_entry F.slot_dict_valueiterator_next hT F.entry_dict_valueiterator_next ?_ (F.args_dict_valueiterator_next_1 _))))
  wp_walk using wpAny_typeNameOfWhole_valiter hT, wpAny_fieldsOf ho hd, wpAny_dictEntries hod hdd, wpAny_dictEpoch hod hdd
  rw [e2]
  wp_walk using wpAny_typeNameOfWhole_valiter hT, wpAny_isOneOf_valiter hT
  rw [hd]
  show wpAny _ _ (update it (Obj.mapFields (·.setIfInBounds 1 (rawInt ((i : Int) + 1))))) _ _ s
  refine wpAny_update ho ?_
  wp_walk using wpAny_isOneOf_valiter hT2
  exact ⟨_, rfl, wpAny_pure (hQ _ hit2 (Heap.SameBut.update ..))⟩

theorem end_val {pr : Program} {w : World} {A : Around} {s : Shared} {it d : Addr} {i ep : Nat} {es : Array DictEntry} {Q : Option Value → Shared → Prop} (hh : A.handled = none)
    (hit : s.heap.IsValIter it d i es.size ep) (hm : RawD s.heap d es ep) (he : es[i]? = none)
    (hQ : ∀ h', Heap.ExtBut it s.heap h' → Q none { s with heap := h' }) : wpAny (model pr w) A (pyNext (.ref it)) Q noE s := by
  obtain ⟨o, ho, hc, hd⟩ := id hit
  obtain ⟨od, hod, hcd, hdd⟩ := id hm
  have hT := hit.typeIs
  have e2 : (if (i : Int) < 0 then none else es[(i : Int).toNat]?) = none := by rw [if_neg (by omega)]; simpa using he
  refine wpAny_bind (wpAny_attempt (wpAny_callSpecial?_slot hT F.slot_dict_valueiterator_next
    (wpAny_call_entry F.slot_dict_valueiterator_next hT F.entry_dict_valueiterator_next ?_ (F.args_dict_valueiterator_next_1 _))))
  wp_walk using wpAny_typeNameOfWhole_valiter hT, wpAny_fieldsOf ho hd, wpAny_dictEntries hod hdd, wpAny_dictEpoch hod hdd
  rw [e2]
  wp_walk using wpAny_typeNameOfWhole_valiter hT
  rw [hd]
  show wpAny _ _ (update it (Obj.mapFields (·.setIfInBounds 0 .none))) _ _ s
  refine wpAny_update ho ?_
  refine stop_raised (A := A.in1) hh fun h' e k ho' => ?_
  obtain ⟨oe, he1, he2⟩ := ho'
  refine wpAny_bind (wpAny_isInstance (T := "StopIteration") (b := true) ⟨oe, he1, he2⟩ isSubtype_stop ?_)
  exact wpAny_pure (hQ _ fun b o hb e => k _ _ ((Heap.SameBut.update ..).extBut b o hb e))

theorem next_item {pr : Program} {w : World} {A : Around} {s : Shared} {it d : Addr} {i ep : Nat} {es : Array DictEntry} {e : DictEntry} {ok ov : Value} {Q : Option Value → Shared → Prop}
    (hit : IsItemIter s.heap it d i es.size ep ok ov) (hm : RawD s.heap d es ep) (he : es[i]? = some e)
    (hQ : ∀ h', IsItemIterOut h' it d (i + 1) es.size ep e.key e.val s.heap.objs.size →
      h'.get? s.heap.objs.size = some { cls := .type "tuple", data := .seq #[e.key, e.val] } →
      (∀ b o, b ≠ it → s.heap.get? b = some o → h'.get? b = some o) → Q (some (.ref s.heap.objs.size)) { s with heap := h' }) : wpAny (model pr w) A (pyNext (.ref it)) Q noE s := by
  obtain ⟨od, hod, hcd, hdd⟩ := id hm
  have hT : s.TypeIs (.ref it) "dict_itemiterator" := ⟨_, hit, rfl⟩
  have e2 : (if (i : Int) < 0 then none else es[(i : Int).toNat]?) = some e := by rw [if_neg (by omega)]; simpa using he
  refine wpAny_bind (wpAny_attempt (wpAny_callSpecial?_slot hT F.slot_dict_itemiterator_next
    (wpAny_call_entry F.slot_dict_itemiterator_next hT F.entry_dict_itemiterator_next ?_ (F.args_dict_itemiterator_next_1 _))))
  wp_walk using wpAny_typeNameOfWhole_itemiter hT, wpAny_fieldsOf hit rfl, wpAny_dictEntries hod hdd, wpAny_dictEpoch hod hdd
  rw [e2]
  have last : ∀ h₁, IsItemIter h₁ it d (i + 1) es.size ep ok ov → Heap.SameBut it s.heap h₁ → wpAny (model pr w) A.in1 (Builtin.Dict_items.pairFromOwner (.ref it) 6 e.key e.val) (fun v s' => Q (some v) s') noE { s with heap := h₁ } := by
    intro h₁ e₁ s₁
    have n₁ : h₁.objs.size = s.heap.objs.size := s₁.1
    have hlt : s.heap.objs.size ≠ it := Nat.ne_of_gt (Heap.lt_size hit)
    unfold Builtin.Dict_items.pairFromOwner Builtin.Dict_items.ownedTupleIsFree
    refine wpAny_bind (wpAny_newTuple ?_)
    rw [n₁]
    have e₂ : IsItemIter (h₁.push { cls := .type "tuple", data := .seq #[e.key, e.val] }) it d (i + 1) es.size ep ok ov := Heap.get?_push_of_some _ e₁
    have t₂ : (h₁.push { cls := .type "tuple", data := .seq #[e.key, e.val] }).get? s.heap.objs.size = some { cls := .type "tuple", data := .seq #[e.key, e.val] } := by rw [← n₁]; exact Heap.get?_push_size _ rfl
    have k₂ : ∀ b o, b ≠ it → s.heap.get? b = some o → (h₁.push { cls := .type "tuple", data := .seq #[e.key, e.val] }).get? b = some o := fun b o hb q => Heap.get?_push_of_some _ (s₁.extBut b o hb q)
    generalize h₁.push { cls := .type "tuple", data := .seq #[e.key, e.val] } = h₂ at e₂ t₂ k₂
    refine wpAny_bind (wpAny_bind (wpAny_field e₂ rfl (x := .none) rfl (wpAny_pure ?_)))
    rw [if_pos rfl]
    show wpAny _ _ (do
      let a ← field (.ref it) 6
      let b ← field (.ref it) 7
      setField (.ref it) 6 e.key
      setField (.ref it) 7 e.val
      setField (.ref it) 0 (rawInt s.heap.objs.size)
      setField (.ref it) 1 (.bool false)
      letGo [a, b] [Value.ref s.heap.objs.size]
      pure (Value.ref s.heap.objs.size)) _ _ { s with heap := h₂ }
    refine wpAny_bind (wpAny_field e₂ rfl (x := ok) rfl (wpAny_bind (wpAny_field e₂ rfl (x := ov) rfl ?_)))
    refine wpAny_bind (wpAny_setField_rec e₂ (by simp) fun h₃ e₃ s₃ => wpAny_bind (wpAny_setField_rec e₃ (by simp) fun h₄ e₄ s₄ => wpAny_bind (wpAny_setField_rec e₄ (by simp) fun h₅ e₅ s₅ => wpAny_bind (wpAny_setField_rec e₅ (by simp) fun h₆ e₆ s₆ => ?_))))
    have k : ∀ b o, b ≠ it → h₂.get? b = some o → h₆.get? b = some o := fun b o hb q => s₆.extBut b o hb (s₅.extBut b o hb (s₄.extBut b o hb (s₃.extBut b o hb q)))
    exact wpAny_bind (wpAny_letGo (wpAny_pure (hQ h₆ e₆ (k _ _ hlt t₂) fun b o hb q => k b o hb (k₂ b o hb q))))
  refine wpAny_bind (wpAny_bind (wpAny_typeNameOfWhole_itemiter hT (wpAny_pure ?_)))
  refine wpAny_bind (wpAny_isOneOf_itemiter hT ?_)
  show wpAny _ _ (setField (.ref it) 3 (rawInt ((i : Int) + 1)) >>= _) _ _ s
  refine wpAny_bind (wpAny_setField_rec hit (by simp) fun h₁ e₁ s₁ => ?_)
  have e₁' : IsItemIter h₁ it d (i + 1) es.size ep ok ov := by
    have q : ((i + 1 : Nat) : Int) = (i : Int) + 1 := by omega
    unfold IsItemIter; rw [q]; simpa [rawInt] using e₁
  have hT₁ : Shared.TypeIs { s with heap := h₁ } (.ref it) "dict_itemiterator" := ⟨_, e₁, rfl⟩
  refine wpAny_bind (wpAny_holding (wpAny_bind (wpAny_isOneOf_itemiter hT₁ (wpAny_bind (wpAny_isOneOf_itemiter hT₁ ?_)))))
  show wpAny _ _ (Builtin.Dict_items.pairFromOwner (.ref it) 6 e.key e.val) _ _ _
  exact wpAny_mono (last h₁ e₁' s₁) (fun v s' q => wpAny_pure ⟨_, rfl, wpAny_pure q⟩) fun _ _ q => q.elim

theorem end_item {pr : Program} {w : World} {A : Around} {s : Shared} {it d : Addr} {i ep : Nat} {es : Array DictEntry} {ok ov : Value} {Q : Option Value → Shared → Prop} (hh : A.handled = none)
    (hit : IsItemIter s.heap it d i es.size ep ok ov) (hm : RawD s.heap d es ep) (he : es[i]? = none)
    (hQ : ∀ h', Heap.ExtBut it s.heap h' → Q none { s with heap := h' }) : wpAny (model pr w) A (pyNext (.ref it)) Q noE s := by
  obtain ⟨od, hod, hcd, hdd⟩ := id hm
  have hT : s.TypeIs (.ref it) "dict_itemiterator" := ⟨_, hit, rfl⟩
  have e2 : (if (i : Int) < 0 then none else es[(i : Int).toNat]?) = none := by rw [if_neg (by omega)]; simpa using he
  refine wpAny_bind (wpAny_attempt (wpAny_callSpecial?_slot hT F.slot_dict_itemiterator_next
    (wpAny_call_entry F.slot_dict_itemiterator_next hT F.entry_dict_itemiterator_next ?_ (F.args_dict_itemiterator_next_1 _))))
  wp_walk using wpAny_typeNameOfWhole_itemiter hT, wpAny_fieldsOf hit rfl, wpAny_dictEntries hod hdd, wpAny_dictEpoch hod hdd
  rw [e2]
  refine wpAny_bind (wpAny_bind (wpAny_typeNameOfWhole_itemiter hT (wpAny_pure ?_)))
  show wpAny _ _ (setField (.ref it) 2 .none >>= _) _ _ s
  refine wpAny_bind (wpAny_setField hit rfl (by simp) ?_)
  refine stop_raised (A := A.in1) hh fun h' e k ho' => ?_
  obtain ⟨oe, he1, he2⟩ := ho'
  refine wpAny_bind (wpAny_isInstance (T := "StopIteration") (b := true) ⟨oe, he1, he2⟩ isSubtype_stop ?_)
  exact wpAny_pure (hQ _ fun b o hb e => k _ _ ((Heap.SameBut.update ..).extBut b o hb e))
end Hf
end

section
open PySem PySem.W PyProof.Rows PySem.Calls PySem.Spec
namespace Hf
set_option autoImplicit false
set_option maxRecDepth 100000
set_option linter.unusedSectionVars false

theorem RawD.at {h h' : Heap} {d : Addr} {es : Array DictEntry} {ep : Nat} (x : RawD h d es ep) (e : ∀ o, h.get? d = some o → h'.get? d = some o) : RawD h' d es ep := let ⟨o, ho, r⟩ := x; ⟨o, e _ ho, r⟩

theorem wpE0 {α : Type} {M : Model} {A : Around} {t : Sem α} {Q : α → Shared → Prop} {E : Value → Shared → Prop} {s : Shared} (h : wpAny M A t Q noE s) : wpAny M A t Q E s :=
  wpAny_mono h (fun _ _ x => x) fun _ _ x => x.elim
theorem walks_keys {pr : Program} {w : World} {A : Around} (hh : A.handled = none) (I d : Addr) (hne : d ≠ I) (es : Array DictEntry) (ep : Nat) :
    Walks pr w A I [I, d] [I] es.size (fun i v => ∃ e, es[i]? = some e ∧ v = e.key) (fun i h => h.IsKeyIter I d i es.size ep ∧ RawD h d es ep) where
  sub := fun b hb => by simp at hb; simp [hb]
  frame := fun _ _ _ st hk => ⟨st.1.at fun o e => hk I (by simp) o e, st.2.at fun o e => hk d (by simp) o e⟩
  item := fun i s Q E hi st hQ => wpE0 (next_key st.1 st.2 (Array.getElem?_eq_getElem hi) fun h' it' hs' => hQ _ h' s.toks ⟨_, Array.getElem?_eq_getElem hi, rfl⟩ ⟨it', st.2.at fun o e => hs'.extBut _ _ hne e⟩ fun b o hb e => hs'.extBut b o (fun h => hb (by simp [h])) e)
  done := fun s Q E st hQ => wpE0 (end_key hh st.1 st.2 (by simp) fun h' he' => hQ h' s.toks fun b o hb e => he' b o (fun h => hb (by simp [h])) e)
  self := fun _ _ _ _ st hQ => wpAny_pyIter_keyiter st.1 hQ
theorem walks_vals {pr : Program} {w : World} {A : Around} (hh : A.handled = none) (I d : Addr) (hne : d ≠ I) (es : Array DictEntry) (ep : Nat) :
    Walks pr w A I [I, d] [I] es.size (fun i v => ∃ e, es[i]? = some e ∧ v = e.val) (fun i h => h.IsValIter I d i es.size ep ∧ RawD h d es ep) where
  sub := fun b hb => by simp at hb; simp [hb]
  frame := fun _ _ _ st hk => ⟨st.1.at fun o e => hk I (by simp) o e, st.2.at fun o e => hk d (by simp) o e⟩
  item := fun i s Q E hi st hQ => wpE0 (next_val st.1 st.2 (Array.getElem?_eq_getElem hi) fun h' it' hs' => hQ _ h' s.toks ⟨_, Array.getElem?_eq_getElem hi, rfl⟩ ⟨it', st.2.at fun o e => hs'.extBut _ _ hne e⟩ fun b o hb e => hs'.extBut b o (fun h => hb (by simp [h])) e)
  done := fun s Q E st hQ => wpE0 (end_val hh st.1 st.2 (by simp) fun h' he' => hQ h' s.toks fun b o hb e => he' b o (fun h => hb (by simp [h])) e)
  self := fun _ _ _ _ st hQ => wpAny_pyIter_valiter st.1 hQ

/-- a walk that gives pairs -/
structure Pairs2 (pr : Program) (w : World) (A : Around) (I : Addr) (fp wr : List Addr) (n : Nat) (Pt : Nat → Array Value → Prop) (St : Nat → Heap → Prop) : Prop where
  frame : ∀ i h h', St i h → (∀ b ∈ fp, ∀ o, h.get? b = some o → h'.get? b = some o) → St i h'
  turn : ∀ (elts : List Expr) (k : Nat) (pos : Pos) i (s : Shared) (S : Value → Shared → Prop) (N : Shared → Prop), i < n → St i s.heap →
    (∀ T vals h' tk, Pt i vals → s.heap.get? T = none → h'.IsTuple T vals → St (i + 1) h' → (∀ b o, b ∉ wr → s.heap.get? b = some o → h'.get? b = some o) → S (.ref T) { s with heap := h', toks := tk }) →
    wpAny (model pr w) A (pyNext (.ref I)) (fun r s₁ => match r with | none => N s₁ | some v => wpAny (model pr w) A (letOwnedTupleGo (.Tuple elts k pos) (.ref I) v) (fun _ s₂ => S v s₂) noE s₁) noE s
  done : ∀ (s : Shared) (Q : Option Value → Shared → Prop), St n s.heap →
    (∀ h' tk, (∀ b o, b ∉ wr → s.heap.get? b = some o → h'.get? b = some o) → Q none { s with heap := h', toks := tk }) → wpAny (model pr w) A (pyNext (.ref I)) Q noE s

theorem pairs_of_walksT {pr : Program} {w : World} {A : Around} {I : Addr} {fp wr : List Addr} {n : Nat} {Pt : Nat → Array Value → Prop} {St : Nat → Heap → Prop} {Mid : Nat → Addr → Heap → Prop} (W : WalksT pr w A I fp wr n Pt St Mid) : Pairs2 pr w A I fp wr n Pt St where
  frame := W.frame
  turn := fun elts k pos i s S N hi st h => by
    refine W.item i s _ _ hi st fun T vals h' tk hP hT ht hm keep => ?_
    refine W.go elts k pos i T _ _ _ hm fun h'' st'' keep'' => ?_
    obtain ⟨o, e, r⟩ := ht
    refine h T vals h'' tk hP ?_ ⟨o, keep'' _ _ (W.apart _ _ _ hm) e, r⟩ st'' fun b o hb e => keep'' b o hb (keep b o hb e)
    cases q : s.heap.get? T with
    | none => rfl
    | some o => exact absurd (Heap.lt_size q) (Nat.not_lt.mpr hT)
  done := fun s Q st h => W.done s Q _ st h
theorem pairs_items {pr : Program} {w : World} {A : Around} (hh : A.handled = none) (I d : Addr) (hne : d ≠ I) (es : Array DictEntry) (ep : Nat) :
    Pairs2 pr w A I [I, d] [I] es.size (fun i vals => ∃ e, es[i]? = some e ∧ vals = #[e.key, e.val]) (fun i h => (∃ ok ov, IsItemIter h I d i es.size ep ok ov) ∧ RawD h d es ep) where
  frame := fun _ _ _ st hk => ⟨let ⟨ok, ov, e⟩ := st.1; ⟨ok, ov, hk I (by simp) _ e⟩, st.2.at fun o e => hk d (by simp) o e⟩
  turn := fun elts k pos i s S N hi st h => by
    obtain ⟨⟨ok, ov, hit⟩, hd⟩ := st
    have hlt : I < s.heap.objs.size := Heap.lt_size hit
    refine next_item hit hd (Array.getElem?_eq_getElem hi) fun h' ho ht keep => ?_
    refine wpAny_letOwnedTupleGo_items ho fun h'' hi'' hs'' => ?_
    have hnew : s.heap.get? s.heap.objs.size = none := by
      cases q : s.heap.get? s.heap.objs.size with
      | none => rfl
      | some o => exact absurd (Heap.lt_size q) (Nat.lt_irrefl _)
    refine h _ #[es[i].key, es[i].val] h'' s.toks ⟨_, Array.getElem?_eq_getElem hi, rfl⟩ hnew ⟨_, hs''.extBut _ _ (Nat.ne_of_gt hlt) ht, rfl, _, rfl⟩ ⟨⟨_, _, hi''⟩, hd.at fun o e => hs''.extBut _ _ hne (keep _ _ hne e)⟩
      fun b o hb e => hs''.extBut b o (fun q => hb (by simp [q])) (keep b o (fun q => hb (by simp [q])) e)
  done := fun s Q st h => by
    obtain ⟨⟨ok, ov, hit⟩, hd⟩ := st
    exact end_item hh hit hd (by simp) fun h' he' => h h' s.toks fun b o hb e => he' b o (fun q => hb (by simp [q])) e

section
variable [TheW] {c : Cx} {A : Around} {Z h : Heap} {I ax : Addr}
theorem src_of_pairs {elts : List Expr} {k : Nat} {pos : Pos} {fp wr : List Addr} {Pt : Nat → Array Value → Prop} {St : Nat → Heap → Prop} {ds : List PyData}
    (W : Pairs2 prog c.w A I fp wr ds.length Pt St) (hP : ∀ i vals d, Pt i vals → ds[i]? = some d → ∃ xs, d = .tuple xs ∧ ∀ Z', Le Z Z' → RepA Z' vals.toList xs) (hfp : ∀ b ∈ fp, b ∈ wr ∨ ∃ o, Z.get? b = some o)
    (hl : ∀ i h, St i h → ∀ b ∈ wr, ∃ o, h.get? b = some o ∧ (∀ ps, o ≠ tabObj ps) ∧ (∀ es n, o.data ≠ .dict es n) ∧ (∀ v, o.data ≠ .cell v)) :
    Src c A (.Tuple elts k pos) Z I wr (fun i h => St i h ∧ Le Z h) ds where
  frame := fun i h h' st k e => ⟨W.frame i h h' st.1 fun b hb o ho => by
    rcases hfp b hb with q | ⟨oz, q⟩
    · exact e b q o ho
    · have := st.2 b oz q; rw [ho] at this; cases this; exact k b _ q, k⟩
  live := fun i h st => hl i h st.1
  turn := fun i d s Z₁ S N hd st kz Iv hz h => by
    have hlt : i < ds.length := (List.getElem?_eq_some_iff.mp hd).1
    refine W.turn elts k pos i s S N hlt st.1 fun T vals h' tk hPt hT ht st' keep => ?_
    obtain ⟨xs, rfl, r⟩ := hP i vals d hPt hd
    have Iv' : Inv c Z₁ h' := Iv.turnL keep hz fun b hb => by obtain ⟨o, e1, e2, _⟩ := hl i _ st.1 b hb; exact ⟨o, e1, e2⟩
    obtain ⟨o, e, hc, n, hdt⟩ := ht
    obtain ⟨Z', I', k', eZ, zz⟩ := Iv'.put e (Iv.noZ hT) (fun ps q => by rw [q] at hdt; cases hdt)
    refine h (.ref T) Z' h' tk ⟨st', kz.trans (k'.trans I'.le)⟩ I' ⟨k', fun b ob o' hb hq => ?_⟩ keep (.tuple_of eZ hc hdt (r Z' (kz.trans k')))
    by_cases q : b = T
    · rw [q, hT] at hb; cases hb
    · rw [zz b q] at hq; exact hq
  done := fun s Z₁ S N st k Iv hz h => by
    refine W.done s _ st.1 fun h' tk keep => ?_
    exact h h' tk (Iv.turnL keep hz fun b hb => by obtain ⟨o, e1, e2, _⟩ := hl _ _ st.1 b hb; exact ⟨o, e1, e2⟩) keep
  self := fun q => by cases q

/-- a frozen dict -/
theorem dict_raw {kvs : List (PyData × PyData)} (r : Rep Z (.ref ax) (.dict kvs)) : ∃ es ep, (ax == sysModules) = false ∧ (∀ h, Le Z h → RawD h ax es ep) ∧ es.size = kvs.length ∧ (∃ o, Z.get? ax = some o) ∧
    ∀ (i : Nat) (e : DictEntry) (kv : PyData × PyData), es[i]? = some e → kvs[i]? = some kv → Rep Z e.key kv.1 ∧ Rep Z e.val kv.2 := by
  obtain ⟨a, xs, e0, hs, ⟨o, es, ep, h1, h2, h3, h4, h5, h6⟩, q1, q2⟩ := r.dict_inv
  cases e0
  have hz : es.size = kvs.length := by
    have := q1.length
    rw [List.length_map, List.length_map] at this
    rw [← this, ← Array.length_toList, h4, List.length_map]
  refine ⟨es, ep, hs, fun h k => ⟨o, k _ _ h1, h2, h3⟩, hz, ⟨o, h1⟩, fun i e kv he hk => ?_⟩
  have hx := entry_at h4 i
  rw [he] at hx
  obtain ⟨x, hx1, hx2⟩ := Option.map_eq_some_iff.mp hx.symm
  subst hx2
  obtain ⟨v1, e1, r1⟩ := q1.get (i := i) (d := kv.1) (by rw [List.getElem?_map, hk]; rfl)
  obtain ⟨v2, e2, r2⟩ := q2.get (i := i) (d := kv.2) (by rw [List.getElem?_map, hk]; rfl)
  rw [List.getElem?_map, hx1] at e1 e2
  cases e1; cases e2
  exact ⟨r1, r2⟩
theorem src_keys {x : Str} {px : Pos} {kvs : List (PyData × PyData)} (hh : A.handled = none) (hI : Z.get? I = none) (r : Rep Z (.ref ax) (.dict kvs)) :
    ∃ ep, (∃ es, (∀ h, Le Z h → RawD h ax es ep) ∧ es.size = kvs.length) ∧ ∃ St, Src c A (.Name x px) Z I [I] St (kvs.map (·.1)) ∧ ∀ h, Le Z h → h.IsKeyIter I ax 0 kvs.length ep → St 0 h := by
  obtain ⟨es, ep, _, hd, hz, ⟨o, e⟩, hr⟩ := dict_raw r
  have hne : ax ≠ I := fun x => by rw [x, hI] at e; cases e
  have W := walks_keys (pr := prog) (w := c.w) hh I ax hne es ep
  rw [show es.size = (kvs.map (·.1)).length by rw [List.length_map]; exact hz] at W
  refine ⟨ep, ⟨es, hd, hz⟩, _, src_of_walks W (fun i v d hP hd => ?_) (fun b hb => ?_) (fun i h st b hb => ?_) fun i v d s Q hd rv st hq => wpAny_pure hq, fun h k hi => ⟨⟨by rw [List.length_map]; exact hi, hd h k⟩, k⟩⟩
  · obtain ⟨en, h1, rfl⟩ := hP
    rw [List.getElem?_map] at hd
    obtain ⟨kv, h2, rfl⟩ := Option.map_eq_some_iff.mp hd
    exact (hr i en kv h1 h2).1
  · rcases List.mem_cons.mp hb with x | x
    · exact .inl (by simp [x])
    · rw [List.mem_singleton.mp x]; exact .inr ⟨o, e⟩
  · rw [List.mem_singleton.mp hb]
    obtain ⟨oi, e1, e2, e3⟩ := st.1
    exact live_fields e1 e2 e3
theorem src_vals {x : Str} {px : Pos} {kvs : List (PyData × PyData)} (hh : A.handled = none) (hI : Z.get? I = none) (r : Rep Z (.ref ax) (.dict kvs)) :
    ∃ ep, (∃ es, (∀ h, Le Z h → RawD h ax es ep) ∧ es.size = kvs.length) ∧ ∃ St, Src c A (.Name x px) Z I [I] St (kvs.map (·.2)) ∧ ∀ h, Le Z h → h.IsValIter I ax 0 kvs.length ep → St 0 h := by
  obtain ⟨es, ep, _, hd, hz, ⟨o, e⟩, hr⟩ := dict_raw r
  have hne : ax ≠ I := fun x => by rw [x, hI] at e; cases e
  have W := walks_vals (pr := prog) (w := c.w) hh I ax hne es ep
  rw [show es.size = (kvs.map (·.2)).length by rw [List.length_map]; exact hz] at W
  refine ⟨ep, ⟨es, hd, hz⟩, _, src_of_walks W (fun i v d hP hd => ?_) (fun b hb => ?_) (fun i h st b hb => ?_) fun i v d s Q hd rv st hq => wpAny_pure hq, fun h k hi => ⟨⟨by rw [List.length_map]; exact hi, hd h k⟩, k⟩⟩
  · obtain ⟨en, h1, rfl⟩ := hP
    rw [List.getElem?_map] at hd
    obtain ⟨kv, h2, rfl⟩ := Option.map_eq_some_iff.mp hd
    exact (hr i en kv h1 h2).2
  · rcases List.mem_cons.mp hb with x | x
    · exact .inl (by simp [x])
    · rw [List.mem_singleton.mp x]; exact .inr ⟨o, e⟩
  · rw [List.mem_singleton.mp hb]
    obtain ⟨oi, e1, e2, e3⟩ := st.1
    exact live_fields e1 e2 e3
noncomputable def itemsD (kvs : List (PyData × PyData)) : List PyData := kvs.map fun kv => .tuple [kv.1, kv.2]
theorem src_items {elts : List Expr} {k : Nat} {pos : Pos} {kvs : List (PyData × PyData)} (hh : A.handled = none) (hI : Z.get? I = none) (r : Rep Z (.ref ax) (.dict kvs)) :
    ∃ ep, (∃ es, (∀ h, Le Z h → RawD h ax es ep) ∧ es.size = kvs.length) ∧ ∃ St, Src c A (.Tuple elts k pos) Z I [I] St (itemsD kvs) ∧ ∀ h, Le Z h → IsItemIter h I ax 0 kvs.length ep .none .none → St 0 h := by
  obtain ⟨es, ep, _, hd, hz, ⟨o, e⟩, hr⟩ := dict_raw r
  have hne : ax ≠ I := fun x => by rw [x, hI] at e; cases e
  have W := pairs_items (pr := prog) (w := c.w) hh I ax hne es ep
  rw [show es.size = (itemsD kvs).length by unfold itemsD; rw [List.length_map]; exact hz] at W
  refine ⟨ep, ⟨es, hd, hz⟩, _, src_of_pairs W (fun i v d hP hd => ?_) (fun b hb => ?_) (fun i h st b hb => ?_), fun h k hi => ⟨⟨⟨_, _, by unfold itemsD; rw [List.length_map]; exact hi⟩, hd h k⟩, k⟩⟩
  · obtain ⟨en, h1, rfl⟩ := hP
    unfold itemsD at hd
    rw [List.getElem?_map] at hd
    obtain ⟨kv, h2, rfl⟩ := Option.map_eq_some_iff.mp hd
    have := hr i en kv h1 h2
    exact ⟨_, rfl, fun Z' k => .cons (this.1.le k) (.cons (this.2.le k) .nil)⟩
  · rcases List.mem_cons.mp hb with x | x
    · exact .inl (by simp [x])
    · rw [List.mem_singleton.mp x]; exact .inr ⟨o, e⟩
  · rw [List.mem_singleton.mp hb]
    obtain ⟨ok, ov, e1⟩ := st.1
    exact live_fields e1 rfl rfl
noncomputable def enumD (ds : List PyData) : List PyData := (List.range ds.length).map fun (i : Nat) => .tuple [.int i, ds.getD i .none]
theorem src_enum {elts : List Expr} {k : Nat} {pos : Pos} {it : Addr} {ds : List PyData} (hh : A.handled = none) (hI : Z.get? I = none) (hit : Z.get? it = none) (hne : I ≠ it) (r : Rep Z (.ref ax) (.list ds)) :
    ∃ St, Src c A (.Tuple elts k pos) Z I [I, it] St (enumD ds) ∧ ∀ h, Le Z h → IsEnum h I it 0 .none → h.IsListIter it ax 0 → St 0 h := by
  obtain ⟨items, hl, q, o, e⟩ := r.isList
  have h1 : ax ≠ I := fun x => by rw [x, hI] at e; cases e
  have h2 : ax ≠ it := fun x => by rw [x, hit] at e; cases e
  have hz : items.size = (enumD ds).length := by rw [← Array.length_toList, q.length]; simp [enumD]
  have W := pairs_of_walksT (WalksT.enumerate (prog := prog) (w := c.w) hh I it ax hne h1 h2 items)
  rw [hz] at W
  refine ⟨_, src_of_pairs W (fun i v d hP hd => ?_) (fun b hb => ?_) (fun i h st b hb => ?_), fun h k hi hi2 => ⟨⟨⟨_, hi⟩, hi2, hl h k⟩, k⟩⟩
  · obtain ⟨t, y, hy, rfl⟩ := hP
    unfold enumD at hd
    rw [List.getElem?_map] at hd
    obtain ⟨j, h3, rfl⟩ := Option.map_eq_some_iff.mp hd
    have hj : j = i ∧ i < ds.length := by
      obtain ⟨h4, h5⟩ := List.getElem?_eq_some_iff.mp h3
      simp at h4 h5; exact ⟨h5.symm, h4⟩
    obtain ⟨hji, hj⟩ := hj
    subst hji
    obtain ⟨v', e1, e2⟩ := q.get (i := j) (d := ds[j]) (by simp [hj])
    rw [Array.getElem?_toList, hy] at e1
    cases e1
    refine ⟨_, rfl, fun Z' k => .cons (.int _ _) (.cons ?_ .nil)⟩
    rw [show ds.getD j .none = ds[j] by simp [List.getD, hj]]
    exact e2.le k
  · rcases List.mem_cons.mp hb with x | x
    · exact .inl (by simp [x])
    · rcases List.mem_cons.mp x with x | x
      · exact .inl (by simp [x])
      · rw [List.mem_singleton.mp x]; exact .inr ⟨o, e⟩
  · obtain ⟨⟨old, h3⟩, ⟨oi, e1, e2, e3⟩, _⟩ := st
    rcases List.mem_cons.mp hb with x | x
    · rw [x]; exact live_fields h3 rfl rfl
    · rw [List.mem_singleton.mp x]; exact live_fields e1 e2 e3
end
end Hf
end

section
open PySem PySem.W PyProof.Rows PySem.Calls PySem.Spec
namespace Hf
set_option autoImplicit false
set_option maxRecDepth 100000
set_option linter.unusedSectionVars false

theorem iter_dict {pr : Program} {w : World} {A : Around} {s : Shared} {d : Addr} {es : Array DictEntry} {ep : Nat} {Q : Value → Shared → Prop} (hd : (d == sysModules) = false) (hm : RawD s.heap d es ep)
    (hQ : Q (.ref s.heap.objs.size) { s with heap := s.heap.push { cls := .type "dict_keyiterator", data := .fields #[.ref d, .int 0 0, .int es.size 0, .int ep 0] } }) :
    wpAny (model pr w) A (pyIter (.ref d)) Q noE s := by
  obtain ⟨o, ho, hx, hdat⟩ := hm
  have hT : s.TypeIs (.ref d) "dict" := ⟨o, ho, hx.1⟩
  refine wpAny_pyIter_slot hT F.slot_dict_iter (wpAny_call_entry F.slot_dict_iter hT F.entry_dict_iter ?_ (F.args_dict_iter_1 _))
  wp_walk using wpAny_notOrdered_dict hT
  rw [hdat]
  refine wpAny_pure (wpAny_bind (wpAny_dictEpoch ho hdat (wpAny_bind (wpAny_newObj_type (wpAny_pure ⟨_, rfl, "dict_keyiterator", _, ⟨_, Heap.get?_push_size _ rfl, rfl⟩, F.slot_dict_keyiterator_next.lookup, hQ⟩)))))
theorem iter_view {pr : Program} {w : World} {A : Around} {s : Shared} {v d : Addr} {es : Array DictEntry} {ep : Nat} {Q : Value → Shared → Prop} (hv : s.heap.IsItemsView v d) (hm : RawD s.heap d es ep)
    (hQ : Q (.ref s.heap.objs.size) { s with heap := s.heap.push { cls := .type "dict_itemiterator", data := .fields #[.none, .bool false, .ref d, .int 0 0, .int es.size 0, .int ep 0, .none, .none] } }) :
    wpAny (model pr w) A (pyIter (.ref v)) Q noE s := by
  obtain ⟨o, ho, hx, hdat⟩ := hm
  obtain ⟨ov, hov, hcv, hdv⟩ := id hv
  have hT := hv.typeIs
  refine wpAny_pyIter_slot hT F.slot_dict_items_iter (wpAny_call_entry F.slot_dict_items_iter hT F.entry_dict_items_iter ?_ (F.args_dict_items_iter_1 _))
  refine wpAny_bind (wpAny_pure ?_)
  refine wpAny_bind (wpAny_bind (wpAny_field hov hdv (x := .ref d) rfl (wpAny_pure ?_)))
  unfold Builtin.Dict_items.newIterator
  refine wpAny_bind (wpAny_bind (wpAny_dictEntries ho hdat (wpAny_bind (wpAny_dictEpoch ho hdat ?_))))
  exact wpAny_newObj_type (wpAny_pure ⟨_, rfl, "dict_itemiterator", _, ⟨_, Heap.get?_push_size _ rfl, rfl⟩, F.slot_dict_itemiterator_next.lookup, hQ⟩) (by rw [show Builtin.Dict_items.ownsTuple "dict_itemiterator" = true by decide]; simp [sizeOk, Builtin.Dict_items.ownedTupleFields, sizeLine_eq])
theorem iter_vals {pr : Program} {w : World} {A : Around} {s : Shared} {v d : Addr} {es : Array DictEntry} {ep : Nat} {Q : Value → Shared → Prop} (hv : s.heap.IsValuesView v d) (hm : RawD s.heap d es ep)
    (hQ : Q (.ref s.heap.objs.size) { s with heap := s.heap.push { cls := .type "dict_valueiterator", data := .fields #[.ref d, .int 0 0, .int es.size 0, .int ep 0] } }) :
    wpAny (model pr w) A (pyIter (.ref v)) Q noE s := by
  obtain ⟨o, ho, hx, hdat⟩ := hm
  obtain ⟨ov, hov, hcv, hdv⟩ := id hv
  have hT := hv.typeIs
  refine wpAny_pyIter_slot hT F.slot_dict_values_iter (wpAny_call_entry F.slot_dict_values_iter hT F.entry_dict_values_iter ?_ (F.args_dict_values_iter_1 _))
  refine wpAny_bind (wpAny_pure ?_)
  refine wpAny_bind (wpAny_bind (wpAny_field hov hdv (x := .ref d) rfl (wpAny_pure ?_)))
  unfold Builtin.Dict_items.newIterator
  refine wpAny_bind (wpAny_bind (wpAny_dictEntries ho hdat (wpAny_bind (wpAny_dictEpoch ho hdat ?_))))
  exact wpAny_newObj_type (wpAny_pure ⟨_, rfl, "dict_valueiterator", _, ⟨_, Heap.get?_push_size _ rfl, rfl⟩, F.slot_dict_valueiterator_next.lookup, hQ⟩) (by rw [show Builtin.Dict_items.ownsTuple "dict_valueiterator" = false by decide]; simp [sizeOk, Builtin.Dict_items.ownedTupleFields, sizeLine_eq])
/-- a view of a dict, made by its method -/
theorem call_view {pr : Program} {w : World} {A : Around} {s : Shared} {d : Addr} {es : Array DictEntry} {ep : Nat} {Q : Value → Shared → Prop} (hd : (d == sysModules) = false) (hm : RawD s.heap d es ep)
    (hQ : Q (.ref s.heap.objs.size) { s with heap := s.heap.push { cls := .type "dict_items", data := .fields #[.ref d] } }) : wpAny (model pr w) A (call (.builtin "dict.items") [.ref d]) Q noE s := by
  obtain ⟨o, ho, hx, hdat⟩ := hm
  have hT : s.TypeIs (.ref d) "dict" := ⟨o, ho, hx.1⟩
  refine wpAny_call_entry F.slot_dict_items hT F.entry_dict_items ?_ (F.args_dict_items_1 _)
  wp_walk using wpAny_notOrdered_dict hT
  exact ⟨_, rfl, hQ⟩
theorem call_vals {pr : Program} {w : World} {A : Around} {s : Shared} {d : Addr} {es : Array DictEntry} {ep : Nat} {Q : Value → Shared → Prop} (hd : (d == sysModules) = false) (hm : RawD s.heap d es ep)
    (hQ : Q (.ref s.heap.objs.size) { s with heap := s.heap.push { cls := .type "dict_values", data := .fields #[.ref d] } }) : wpAny (model pr w) A (call (.builtin "dict.values") [.ref d]) Q noE s := by
  obtain ⟨o, ho, hx, hdat⟩ := hm
  have hT : s.TypeIs (.ref d) "dict" := ⟨o, ho, hx.1⟩
  refine wpAny_call_entry F.slot_dict_values hT F.entry_dict_values ?_ (F.args_dict_values_1 _)
  wp_walk using wpAny_notOrdered_dict hT
  exact ⟨_, rfl, hQ⟩

section
variable [TheW] {b : Nat} {sc : Scope} {x : Str} {px : Pos} {pos : Pos}

/-- a new object for an iterator -/
theorem it_new {c : Cx} {A : Around} {tgt : Expr} {Z : Heap} {s : Shared} {ob : Obj} {St : Nat → Heap → Prop} {ds : List PyData} {Q : Value → Shared → Prop} (I : Inv c Z s.heap) (src : Src c A tgt Z s.heap.objs.size [s.heap.objs.size] St ds) (st : St 0 (s.heap.push ob))
    (P : ∀ I wr St Z' h' tk', Src c A tgt Z' I wr St ds → St 0 h' → Inv c Z' h' → Gr s.heap Z Z' → Ext s.heap h' → (∀ b ∈ wr, s.heap.get? b = none ∧ Z'.get? b = none) → Q (.ref I) { s with heap := h', toks := tk' }) :
    Q (.ref s.heap.objs.size) { s with heap := s.heap.push ob } :=
  P _ _ _ Z (s.heap.push ob) s.toks src st (I.keep (push_le _ _)) (Gr.refl _ _) (Ext.of_le (push_le _ _)) fun b hb => by
    rw [List.mem_singleton.mp hb]; exact ⟨get_new _, I.noZ (get_new _)⟩
theorem PostI.after {c : Cx} {A : Around} {tgt : Expr} {Z Z1 h1 : Heap} {s : Shared} {tk : Nat} {ds : List PyData} {Q : Value → Shared → Prop} (I1 : Inv c Z1 h1) (g1 : Gr s.heap Z Z1) (x1 : Ext s.heap h1)
    (P : ∀ I wr St Z' h' tk', Src c A tgt Z' I wr St ds → St 0 h' → Inv c Z' h' → Gr s.heap Z Z' → Ext s.heap h' → (∀ b ∈ wr, s.heap.get? b = none ∧ Z'.get? b = none) → Q (.ref I) { s with heap := h', toks := tk' }) :
    ∀ I wr St Z' h' tk', Src c A tgt Z' I wr St ds → St 0 h' → Inv c Z' h' → Gr h1 Z1 Z' → Ext h1 h' → (∀ b ∈ wr, h1.get? b = none ∧ Z'.get? b = none) → Q (.ref I) { { s with heap := h1, toks := tk } with heap := h', toks := tk' } :=
  fun I wr St Z' h' tk' src st I' g' x' hw => P I wr St Z' h' tk' src st I' (g1.trans x1 g' I'.noTab) (x1.trans x') fun b hb => ⟨(by
    cases q : s.heap.get? b with
    | none => rfl
    | some ob =>
      by_cases b1 : b = 16
      · obtain ⟨ps, e⟩ := I1.tab16; have := (hw b hb).1; rw [b1, e] at this; cases this
      by_cases b2 : b = 23
      · obtain ⟨ps, e⟩ := I1.tab23; have := (hw b hb).1; rw [b2, e] at this; cases this
      have := x1 b ob b1 b2 q; rw [(hw b hb).1] at this; cases this), (hw b hb).2⟩

noncomputable def itemsOf : PyData → Option (List PyData)
  | .list ds => some ds
  | .tuple ds => some ds
  | .dict kvs => some (kvs.map (·.1))
  | _ => none
noncomputable def lIt (f : Fe) : Fl := fun o σ => (f o σ).bind itemsOf
theorem it_name {e : Expr} {f : Fe} (he : EvOK b sc e f) : ItOK b sc (.Name x px) e (lIt f) := by
  intro c A env Z oa s o σ ds Q rm hs ho F hf P
  unfold lIt at hf
  obtain ⟨d, h1, h2⟩ := Option.bind_eq_some_iff.mp hf
  refine he c A env Z oa s o σ d _ rm hs ho F h1 fun v Z1 h1' t1 I1 g1 x1 r1 => ?_
  have P1 := PostI.after (tk := t1) I1 g1 x1 P
  unfold itemsOf at h2
  split at h2
  · cases h2
    obtain ⟨a, _, _, _, rfl, _⟩ := r1.list_inv
    obtain ⟨items, hl, _⟩ := r1.isList
    refine wpAny_pyIter_list (hl _ I1.le) ?_
    obtain ⟨St, src, hst⟩ := src_list (c := c) (A := A) (tgt := .Name x px) rm.1 (I1.noZ (get_new h1')) r1 (fun i v d s Q _ _ _ hq => wpAny_pure hq)
    exact it_new (s := { s with heap := h1', toks := t1 }) I1 src (hst _ (I1.le.trans (push_le _ _)) ⟨_, Heap.get?_push_size _ rfl, rfl, rfl⟩) P1
  · cases h2
    obtain ⟨a, _, _, _, rfl, _⟩ := r1.tuple_inv
    obtain ⟨items, hl, _⟩ := r1.isTuple
    refine wpAny_pyIter_tuple (hl _ I1.le) ?_
    obtain ⟨St, src, hst⟩ := src_tuple (c := c) (A := A) (x := x) (px := px) rm.1 (I1.noZ (get_new h1')) r1
    exact it_new (s := { s with heap := h1', toks := t1 }) I1 src (hst _ (I1.le.trans (push_le _ _)) ⟨_, Heap.get?_push_size _ rfl, rfl, rfl⟩) P1
  · cases h2
    obtain ⟨a, _, rfl, hsm, _⟩ := r1.dict_inv
    obtain ⟨ep, ⟨es, hd, hz⟩, St, src, hst⟩ := src_keys (c := c) (A := A) (x := x) (px := px) rm.1 (I1.noZ (get_new h1')) r1
    refine iter_dict hsm (hd _ I1.le) ?_
    exact it_new (s := { s with heap := h1', toks := t1 }) I1 src (hst _ (I1.le.trans (push_le _ _)) ⟨_, Heap.get?_push_size _ rfl, rfl, by rw [hz]; rfl⟩) P1
  · cases h2
noncomputable def itemsOfL : PyData → Option (List PyData)
  | .list ds => some ds
  | _ => none
noncomputable def lItL (f : Fe) : Fl := fun o σ => (f o σ).bind itemsOfL
theorem it_pair {e : Expr} {f : Fe} {elts : List Expr} {k : Nat} (he : EvOK b sc e f) : ItOK b sc (.Tuple elts k px) e (lItL f) := by
  intro c A env Z oa s o σ ds Q rm hs ho F hf P
  unfold lItL at hf
  obtain ⟨d, h1, h2⟩ := Option.bind_eq_some_iff.mp hf
  refine he c A env Z oa s o σ d _ rm hs ho F h1 fun v Z1 h1' t1 I1 g1 x1 r1 => ?_
  have P1 := PostI.after (tk := t1) I1 g1 x1 P
  unfold itemsOfL at h2
  split at h2
  · cases h2
    obtain ⟨a, _, _, _, rfl, _⟩ := r1.list_inv
    obtain ⟨items, hl, _⟩ := r1.isList
    refine wpAny_pyIter_list (hl _ I1.le) ?_
    obtain ⟨St, src, hst⟩ := src_list (c := c) (A := A) (tgt := .Tuple elts k px) rm.1 (I1.noZ (get_new h1')) r1 (fun i v d s Q _ _ hit hq => by
      cases v <;> first | exact wpAny_pure hq | exact wpAny_letOwnedTupleGo_listiter hit hq)
    exact it_new (s := { s with heap := h1', toks := t1 }) I1 src (hst _ (I1.le.trans (push_le _ _)) ⟨_, Heap.get?_push_size _ rfl, rfl, rfl⟩) P1
  · cases h2

noncomputable def dictOfD : PyData → Option (List (PyData × PyData))
  | .dict kvs => some kvs
  | _ => none
theorem getM_dict {c : Cx} {A : Around} {Z : Heap} {s : Shared} {a : Addr} {kvs : List (PyData × PyData)} {name : Str} {id : String} {pl : Sem Bool} {Q : Value × List Value → Shared → Prop} (slot : Slot "dict" name id) (ty : typeOf (.builtin id) = pure (.type "method_descriptor"))
    (I : Inv c Z s.heap) (r : Rep Z (.ref a) (.dict kvs)) (h : Q (.builtin id, [.ref a]) s) : wpAny (model prog c.w) A (getMethod (.ref a) name pl) Q noE s := by
  obtain ⟨_, xs, e0, hs, ⟨o, es, ep, h1, h2, h3, _⟩, _⟩ := r.dict_inv
  cases e0
  exact getMethod_builtin ⟨o, I.le _ _ h1, h2.1⟩ PySem.F.plainAttrs_dict slot ty (fun b hb => by cases hb; exact ⟨o, I.le _ _ h1, h2.2.1⟩) h
noncomputable def lItems (f : Fe) : Fl := fun o σ => ((f o σ).bind dictOfD).map itemsD
noncomputable def lVals (f : Fe) : Fl := fun o σ => ((f o σ).bind dictOfD).map fun kvs => kvs.map (·.2)
theorem it_items {e : Expr} {f : Fe} {elts : List Expr} {k : Nat} {ap : Pos} (he : EvOK b sc e f)
    (hm : ∀ env : Env, ∃ pl, eval (.Call (.Attribute e "items" ap) [] [] pos) env = (do
      let ov ← eval e env
      standAt ap.atName
      let (f, first) ← holding [ov] (getMethod ov "items" pl)
      callWith pos f first (backTo pos (starEach [] env)) [])) : ItOK b sc (.Tuple elts k px) (.Call (.Attribute e "items" ap) [] [] pos) (lItems f) := by
  intro c A env Z oa s o σ ds Q rm hs ho F hf P
  unfold lItems at hf
  obtain ⟨kvs, h1, rfl⟩ := Option.map_eq_some_iff.mp hf
  obtain ⟨d, h1, h2⟩ := Option.bind_eq_some_iff.mp h1
  cases d <;> cases h2
  obtain ⟨pl, hm⟩ := hm env
  refine MethodCall_ ?_ hm
  refine he c A env Z oa s o σ _ _ rm hs ho F h1 fun v Z1 h1' t1 I1 g1 x1 r1 => ?_
  obtain ⟨a, _, rfl, hsm, _⟩ := r1.dict_inv
  refine getM_dict PySem.F.slot_dict_items PySem.F.type_dict_items I1 r1 (callWith_method0 ?_)
  obtain ⟨es, ep, _, hd, hz, _⟩ := dict_raw r1
  refine call_view hsm (hd _ I1.le) ?_
  have I2 := I1.keep (push_le h1' { cls := .type "dict_items", data := .fields #[.ref a] })
  have P1 := PostI.after (tk := t1) I2 g1 (x1.trans (Ext.of_le (push_le _ _))) P
  obtain ⟨ep, ⟨es, hd, hz⟩, St, src, hst⟩ := src_items (c := c) (A := A) (elts := elts) (k := k) (pos := px) rm.1 (I2.noZ (get_new _)) r1
  refine iter_view ⟨_, Heap.get?_push_size _ rfl, rfl, rfl⟩ (hd _ I2.le) ?_
  exact it_new (s := { s with heap := h1'.push { cls := .type "dict_items", data := .fields #[.ref a] }, toks := t1 }) I2 src (hst _ (I2.le.trans (push_le _ _)) (by rw [hz]; exact Heap.get?_push_size _ rfl)) P1
theorem it_vals {e : Expr} {f : Fe} {ap : Pos} (he : EvOK b sc e f)
    (hm : ∀ env : Env, ∃ pl, eval (.Call (.Attribute e "values" ap) [] [] pos) env = (do
      let ov ← eval e env
      standAt ap.atName
      let (f, first) ← holding [ov] (getMethod ov "values" pl)
      callWith pos f first (backTo pos (starEach [] env)) [])) : ItOK b sc (.Name x px) (.Call (.Attribute e "values" ap) [] [] pos) (lVals f) := by
  intro c A env Z oa s o σ ds Q rm hs ho F hf P
  unfold lVals at hf
  obtain ⟨kvs, h1, rfl⟩ := Option.map_eq_some_iff.mp hf
  obtain ⟨d, h1, h2⟩ := Option.bind_eq_some_iff.mp h1
  cases d <;> cases h2
  obtain ⟨pl, hm⟩ := hm env
  refine MethodCall_ ?_ hm
  refine he c A env Z oa s o σ _ _ rm hs ho F h1 fun v Z1 h1' t1 I1 g1 x1 r1 => ?_
  obtain ⟨a, _, rfl, hsm, _⟩ := r1.dict_inv
  refine getM_dict PySem.F.slot_dict_values PySem.F.type_dict_values I1 r1 (callWith_method0 ?_)
  obtain ⟨es, ep, _, hd, hz, _⟩ := dict_raw r1
  refine call_vals hsm (hd _ I1.le) ?_
  have I2 := I1.keep (push_le h1' { cls := .type "dict_values", data := .fields #[.ref a] })
  have P1 := PostI.after (tk := t1) I2 g1 (x1.trans (Ext.of_le (push_le _ _))) P
  obtain ⟨ep, ⟨es, hd, hz⟩, St, src, hst⟩ := src_vals (c := c) (A := A) (x := x) (px := px) rm.1 (I2.noZ (get_new _)) r1
  refine iter_vals ⟨_, Heap.get?_push_size _ rfl, rfl, rfl⟩ (hd _ I2.le) ?_
  exact it_new (s := { s with heap := h1'.push { cls := .type "dict_values", data := .fields #[.ref a] }, toks := t1 }) I2 src (hst _ (I2.le.trans (push_le _ _)) ⟨_, Heap.get?_push_size _ rfl, rfl, by rw [hz]; rfl⟩) P1

/-! calls of built-in types -/
theorem ty_call {tn : Str} {npos : Pos} {T : String} {e : Expr} {es : List Expr} {f : Fl} (hg : ∀ P, nsIn (hfHead.heap_39 P) mainGlobals tn = some none) (hv : bootBuiltins tn = some (.type T)) (hn : tn ≠ "__name__")
    (hx : sc.names.lookup tn = some .globalImplicit) (hd : (tn == ("__debug__" : Str)) = false) (ha : EvsOK b sc (e :: es) f)
    (hst : ∀ env, starEach (e :: es) env = (false, eval e env) :: starEach es env) (hp : ∀ env, (backTo pos (starEach es env)).any (·.1) = false)
    {c : Cx} {A : Around} {env : Env} {Z : Heap} {oa : Addr} {s : Shared} {o : Nat} {σ : Sg} {ds : List PyData} {Q : Value → Shared → Prop} (rm : Room b A) (he : env.scope = sc) (ho : EnvOK env) (F : Fm c Z s.heap env σ o oa) (hf : f o σ = some ds)
    (P : ∀ vs Z' h' tk', Inv c Z' h' → Gr s.heap Z Z' → Ext s.heap h' → RepA Z' vs ds → wpAny (model prog c.w) A (call (.type T) vs) Q noE { s with heap := h', toks := tk' }) :
    wpAny (model prog c.w) A (eval (.Call (.Name tn npos) (e :: es) [] pos) env) Q noE s := by
  refine wpAny_Call_ofName (name_boot hg hv hn hx hd F.inv he ho ?_)
  exact PySem.Pv.callWith_type1 (ha c A env Z oa s o σ ds pos _ rm he ho F hf P) (hst env) (hp env)

noncomputable def rangeD (ds : List PyData) : Option (List PyData) :=
  let go (a b c : Int) : Option (List PyData) := if smallI a && smallI b && smallI c && decide (c ≠ 0) && Builtin.Range.small a b c && decide (0 ≤ Builtin.Range.rangeSize a b c) then some (rangeL a c (Builtin.Range.rangeSize a b c).toNat) else none
  match ds with
  | [.int n] => go 0 n 1
  | [.int a, .int b] => go a b 1
  | [.int a, .int b, .int c] => go a b c
  | _ => none
noncomputable def lRange (f : Fl) : Fl := fun o σ => (f o σ).bind rangeD
theorem range_iter {c : Cx} {A : Around} {Z : Heap} {s : Shared} {r : Addr} {a b k : Int} {t u v : Tok} {ds : List PyData} {Q : Value → Shared → Prop} (rm : A.handled = none) (I : Inv c Z s.heap) (hr : IsRange s.heap r a b k t u v)
    (hd : (if smallI a && smallI b && smallI k && decide (k ≠ 0) && Builtin.Range.small a b k && decide (0 ≤ Builtin.Range.rangeSize a b k) then some (rangeL a k (Builtin.Range.rangeSize a b k).toNat) else none) = some ds)
    (P : ∀ I wr St Z' h' tk', Src c A (.Name x px) Z' I wr St ds → St 0 h' → Inv c Z' h' → Gr s.heap Z Z' → Ext s.heap h' → (∀ b ∈ wr, s.heap.get? b = none ∧ Z'.get? b = none) → Q (.ref I) { s with heap := h', toks := tk' }) :
    wpAny (model prog c.w) A (pyIter (.ref r)) Q noE s := by
  split at hd
  · rename_i hc
    cases hd
    simp only [Bool.and_eq_true, decide_eq_true_eq] at hc
    obtain ⟨⟨_, hsm⟩, h0⟩ := hc
    refine wpAny_pyIter_range hr hsm ?_
    obtain ⟨St, src, hst⟩ := src_range (c := c) (A := A) (Z := Z) (I := s.heap.objs.size) (x := x) (px := px) rm a k (Builtin.Range.rangeSize a b k).toNat
    refine it_new I src (hst _ (I.le.trans (push_le _ _)) ?_) P
    rw [show IsRangeIter (s.heap.push { cls := .type "range_iterator", data := .fields #[rawInt a, rawInt (Builtin.Range.rangeSize a b k), rawInt k] }) s.heap.objs.size a ((Builtin.Range.rangeSize a b k).toNat : Int) k ↔ _ from Iff.rfl, Int.toNat_of_nonneg h0]
    exact Heap.get?_push_size _ rfl
  · cases hd
theorem it_range {npos : Pos} {e : Expr} {es : List Expr} {f : Fl} (hg : ∀ P, nsIn (hfHead.heap_39 P) mainGlobals "range" = some none) (hv : bootBuiltins "range" = some (.type "range"))
    (hx : sc.names.lookup ("range" : Str) = some .globalImplicit) (ha : EvsOK b sc (e :: es) f)
    (hst : ∀ env, starEach (e :: es) env = (false, eval e env) :: starEach es env) (hp : ∀ env, (backTo pos (starEach es env)).any (·.1) = false) : ItOK b sc (.Name x px) (.Call (.Name "range" npos) (e :: es) [] pos) (lRange f) := by
  intro c A env Z oa s o σ ds Q rm hs ho F hf P
  unfold lRange at hf
  obtain ⟨as, h1, h2⟩ := Option.bind_eq_some_iff.mp hf
  refine ty_call hg hv (by decide) hx (by decide) ha hst hp rm hs ho F h1 fun vs Z1 h1' t1 I1 g1 x1 r1 => ?_
  unfold rangeD at h2
  have fin : ∀ {a b k : Int} {t u v : Tok} {tk : Nat}, (if smallI a && smallI b && smallI k && decide (k ≠ 0) && Builtin.Range.small a b k && decide (0 ≤ Builtin.Range.rangeSize a b k) then some (rangeL a k (Builtin.Range.rangeSize a b k).toNat) else none) = some ds →
      wpAny (model prog c.w) A (pyIter (.ref h1'.objs.size)) Q noE { s with heap := h1'.push { cls := .type "range", data := .fields #[.int a t, .int b u, .int k v] }, toks := tk } := fun {a b k t u v tk} h => by
    have I2 := I1.keep (push_le h1' { cls := .type "range", data := .fields #[.int a t, .int b u, .int k v] })
    exact range_iter rm.1 I2 (Heap.get?_push_size _ rfl) h (PostI.after (tk := tk) I2 g1 (x1.trans (Ext.of_le (push_le _ _))) P)
  split at h2
  · obtain ⟨_, rfl⟩ : ∃ v, vs = [v] := by
      match vs, r1.length with
      | [v], _ => exact ⟨v, rfl⟩
    obtain ⟨t, rfl⟩ := r1.cons_inv.1.int_inv
    exact call_range_1 (fin h2)
  · obtain ⟨_, _, rfl⟩ : ∃ v u, vs = [v, u] := by
      match vs, r1.length with
      | [v, u], _ => exact ⟨v, u, rfl⟩
    obtain ⟨t, rfl⟩ := r1.cons_inv.1.int_inv
    obtain ⟨u, rfl⟩ := r1.cons_inv.2.cons_inv.1.int_inv
    exact call_range_2 (fin h2)
  · obtain ⟨_, _, _, rfl⟩ : ∃ v u w, vs = [v, u, w] := by
      match vs, r1.length with
      | [v, u, w], _ => exact ⟨v, u, w, rfl⟩
    obtain ⟨t, rfl⟩ := r1.cons_inv.1.int_inv
    obtain ⟨u, rfl⟩ := r1.cons_inv.2.cons_inv.1.int_inv
    obtain ⟨w, rfl⟩ := r1.cons_inv.2.cons_inv.2.cons_inv.1.int_inv
    have h3 := h2
    simp only [] at h3
    split at h3
    · rename_i hc
      simp only [Bool.and_eq_true, decide_eq_true_eq] at hc
      obtain ⟨⟨⟨⟨⟨_, _⟩, hs3⟩, hk0⟩, _⟩, _⟩ := hc
      have := smallI_le hs3
      exact call_range_3 hk0 (fin h2) (.inl (PyProof.noPylong_small (by omega)))
    · cases h3
  · cases h2
noncomputable def lEnum (f : Fl) : Fl := fun o σ => (f o σ).bind fun as => match as with
  | [.list ds] => some (enumD ds)
  | _ => none
theorem it_enum {npos : Pos} {e : Expr} {f : Fl} {elts : List Expr} {k : Nat} (hg : ∀ P, nsIn (hfHead.heap_39 P) mainGlobals "enumerate" = some none) (hv : bootBuiltins "enumerate" = some (.type "enumerate"))
    (hx : sc.names.lookup ("enumerate" : Str) = some .globalImplicit) (ha : EvsOK b sc [e] f)
    (hst : ∀ env, starEach [e] env = (false, eval e env) :: starEach [] env) (hp : ∀ env, (backTo pos (starEach [] env)).any (·.1) = false) : ItOK b sc (.Tuple elts k px) (.Call (.Name "enumerate" npos) [e] [] pos) (lEnum f) := by
  intro c A env Z oa s o σ ds Q rm hs ho F hf P
  unfold lEnum at hf
  obtain ⟨as, h1, h2⟩ := Option.bind_eq_some_iff.mp hf
  refine ty_call hg hv (by decide) hx (by decide) ha hst hp rm hs ho F h1 fun vs Z1 h1' t1 I1 g1 x1 r1 => ?_
  split at h2
  · cases h2
    rename_i es
    obtain ⟨_, rfl⟩ : ∃ v, vs = [v] := by
      match vs, r1.length with
      | [v], _ => exact ⟨v, rfl⟩
    have r2 := r1.cons_inv.1
    obtain ⟨a, _, _, _, rfl, _⟩ := r2.list_inv
    obtain ⟨items, hl, _⟩ := r2.isList
    refine call_enumerate_list (hl _ I1.le) fun h2 he hi hz hk => ?_
    have hnew : ∀ a, h1'.objs.size ≤ a → h1'.get? a = none := fun a ha => by
      cases q : h1'.get? a with
      | none => rfl
      | some o => exact absurd (Heap.lt_size q) (Nat.not_lt.mpr ha)
    have n0 := hnew h1'.objs.size (Nat.le_refl _)
    have n1 := hnew (h1'.objs.size + 1) (Nat.le_succ _)
    obtain ⟨St, src, hst⟩ := src_enum (c := c) (A := A) (elts := elts) (k := k) (pos := px) (I := h1'.objs.size + 1) (it := h1'.objs.size) rm.1 (I1.noZ n1) (I1.noZ n0) (Nat.succ_ne_self _) r2
    have I2 := I1.keep hk
    refine wpAny_pyIter_enum he ?_
    refine PostI.after (tk := t1) I1 g1 x1 P _ _ _ Z1 h2 t1 src (hst _ I2.le he hi) I2 (Gr.refl _ _) (Ext.of_le hk) fun b hb => ?_
    rcases List.mem_cons.mp hb with q | q
    · rw [q]; exact ⟨n1, I1.noZ n1⟩
    · rw [List.mem_singleton.mp q]; exact ⟨n0, I1.noZ n0⟩
  · cases h2
end
end Hf
end

section
open PySem PySem.W PyProof.Rows PySem.Calls PySem.Spec
namespace Hf
set_option autoImplicit false
set_option maxRecDepth 100000
set_option linter.unusedSectionVars false

noncomputable def scOf : PyData → Option Sc
  | .str x => some (.inl x)
  | .int i => some (.inr i)
  | _ => none
noncomputable def scAll : List PyData → Option (List Sc)
  | [] => some []
  | d :: ds => match scOf d, scAll ds with
    | some k, some ks => some (k :: ks)
    | _, _ => none
noncomputable def keyOf : PyData → Option (List Sc)
  | .tuple ds => scAll ds
  | _ => none
noncomputable def hasKey (ks : List Sc) (kvs : List (PyData × PyData)) : Bool := kvs.any fun kv => decide (keyOf kv.1 = some ks)
noncomputable def dput (kvs : List (PyData × PyData)) (ks : List Sc) (key v : PyData) : List (PyData × PyData) :=
  if hasKey ks kvs then kvs.map (fun kv => if keyOf kv.1 = some ks then (kv.1, v) else kv) else kvs ++ [(key, v)]

section
variable [TheW]
theorem scOf_is {Z : Heap} {v : Value} {d : PyData} {k : Sc} (r : Rep Z v d) : scOf d = some k ↔ Sc.is k v = true := by
  constructor
  · intro h
    unfold scOf at h
    split at h
    · cases h; obtain ⟨t, rfl⟩ := r.str_inv; exact Sc.is_str _ _
    · cases h; obtain ⟨t, rfl⟩ := r.int_inv; exact Sc.is_int _ _
    · cases h
  · intro h
    obtain ⟨as, r, _⟩ := r
    cases k with
    | inl x => obtain ⟨t, rfl⟩ := Sc.is_inl h; cases r; rfl
    | inr x => obtain ⟨t, rfl⟩ := Sc.is_inr h; cases r; rfl
theorem scAll_is {Z : Heap} : ∀ {vs : List Value} {ds : List PyData} {ks : List Sc}, RepA Z vs ds → (scAll ds = some ks ↔ ItemsAre sik ks vs)
  | [], ds, ks, r => by
    rw [r.nil_inv]
    constructor
    · intro h; cases h; exact .nil
    · intro h; cases h; rfl
  | v :: vs, ds, ks, r => by
    obtain ⟨d, ds', rfl, r1, r2⟩ := r.inv
    constructor
    · intro h
      unfold scAll at h
      split at h
      · rename_i k ks' h1 h2
        cases h
        exact .cons ((scOf_is r1).mp h1) ((scAll_is r2).mp h2)
      · cases h
    · intro h
      cases h with
      | cons h1 h2 =>
        have e1 := (scOf_is r1).mpr h1
        have e2 := (scAll_is r2).mpr h2
        unfold scAll
        rw [e1, e2]
theorem keyOf_is {Z : Heap} {v : Value} {d : PyData} {ks : List Sc} (r : Rep Z v d) (h : keyOf d = some ks) : ∃ a, v = .ref a ∧ kn.is Z ks a := by
  unfold keyOf at h
  split at h
  · obtain ⟨a, o, vs, n, rfl, e, hc, hd, q⟩ := r.tuple_inv
    exact ⟨a, rfl, o, vs, n, e, hc, hd, (scAll_is q).mp h⟩
  · cases h
theorem is_keyOf {Z : Heap} {a : Addr} {d : PyData} {ks : List Sc} (r : Rep Z (.ref a) d) (h : kn.is Z ks a) : keyOf d = some ks := by
  obtain ⟨o, vs, n, e, hc, hd, hi⟩ := h
  obtain ⟨as, r', g⟩ := r
  cases r' with
  | list e' hc' hd' q => rw [e] at e'; cases e'; rw [hc] at hc'; exact absurd hc' (by simp)
  | dict e' hc' hd' q1 q2 => rw [e] at e'; cases e'; rw [hc] at hc'; exact absurd hc' (by simp)
  | tuple e' hc' hd' q =>
    rw [e] at e'; cases e'
    rw [hd] at hd'; cases hd'
    exact (scAll_is ⟨_, q, g⟩).mpr hi

theorem atKey_has {Z : Heap} {ks : List Sc} : ∀ {xs : List (List Sc × Addr × Value)} {kvs : List (PyData × PyData)}, (∀ x ∈ xs, kn.is Z x.1 x.2.1) → RepA Z (xs.map fun x => .ref x.2.1) (kvs.map (·.1)) →
    (atKey xs ks).isSome = hasKey ks kvs
  | [], kvs, _, r => by
    have := r.nil_inv
    rw [List.map_eq_nil_iff] at this
    subst this; rfl
  | x :: xs, kvs, hi, r => by
    obtain ⟨d, ds', e, r1, r2⟩ := r.inv
    cases kvs with
    | nil => cases e
    | cons kv kvs =>
      cases e
      have ih := atKey_has (ks := ks) (fun y hy => hi y (List.mem_cons_of_mem _ hy)) r2
      have hk := is_keyOf r1 (hi x List.mem_cons_self)
      unfold hasKey at ih ⊢
      rw [List.any_cons, ← ih, hk]
      by_cases q : x.1 = ks
      · simp [atKey, q]
      · simp [atKey, q]
theorem put_reps {Z : Heap} {ks : List Sc} {v : Value} {d : PyData} (rv : Rep Z v d) : ∀ {xs : List (List Sc × Addr × Value)} {kvs : List (PyData × PyData)}, (∀ x ∈ xs, kn.is Z x.1 x.2.1) → RepA Z (xs.map fun x => .ref x.2.1) (kvs.map (·.1)) → RepA Z (xs.map fun x => x.2.2) (kvs.map (·.2)) →
    RepA Z ((xs.map (putAt ks v)).map fun x => .ref x.2.1) ((kvs.map fun kv => if keyOf kv.1 = some ks then (kv.1, d) else kv).map (·.1)) ∧
    RepA Z ((xs.map (putAt ks v)).map fun x => x.2.2) ((kvs.map fun kv => if keyOf kv.1 = some ks then (kv.1, d) else kv).map (·.2))
  | [], kvs, _, r, _ => by
    have := r.nil_inv
    rw [List.map_eq_nil_iff] at this
    subst this; exact ⟨.nil, .nil⟩
  | x :: xs, kvs, hi, r, q => by
    obtain ⟨d1, ds', e, r1, r2⟩ := r.inv
    cases kvs with
    | nil => cases e
    | cons kv kvs =>
      cases e
      obtain ⟨q1, q2⟩ := q.cons_inv
      have ih := put_reps (ks := ks) rv (fun y hy => hi y (List.mem_cons_of_mem _ hy)) r2 q2
      have hk := is_keyOf r1 (hi x List.mem_cons_self)
      simp only [List.map_cons, hk, Option.some.injEq]
      by_cases hq : x.1 = ks
      · simp only [hq, putAt, if_true]
        exact ⟨.cons r1 ih.1, .cons rv ih.2⟩
      · simp only [hq, putAt, if_false]
        exact ⟨.cons r1 ih.1, .cons q1 ih.2⟩
/-- a store into the own dict -/
theorem own_put {Z h h' : Heap} {a ka : Addr} {kvs : List (PyData × PyData)} {ys : List (List Sc × Addr × Value)} {ks : List Sc} {key d : PyData} {v : Value} (hs : (a == sysModules) = false) (D : DOf Z h a ys) (r1 : RepA Z (ys.map fun x => .ref x.2.1) (kvs.map (·.1))) (r2 : RepA Z (ys.map fun x => x.2.2) (kvs.map (·.2)))
    (rk : Rep Z (.ref ka) key) (hk : kn.is Z ks ka) (rv : Rep Z v d) (hd : h'.DictOfH kn a (storedH ys ks ka v)) : OwnAt Z h' a (.dict (dput kvs ks key d)) := by
  obtain ⟨_, _, _, _, _, _, _, hi, _⟩ := D
  obtain ⟨o, es, ep, e1, e2, e3, e4, _, e6⟩ := hd
  refine .inr ⟨_, storedH ys ks ka v, rfl, hs, ⟨o, es, ep, e1, e2, e3, e4, fun x hx => ?_, e6⟩, ?_⟩
  · rcases mem_storedH hx with ⟨y, hy, q1, q2⟩ | ⟨q1, q2⟩
    · rw [q1, q2]; exact hi y hy
    · rw [q1, q2]; exact hk
  · have hh := atKey_has (ks := ks) hi r1
    unfold storedH dput
    rw [hh]
    split
    · exact put_reps rv hi r1 r2
    · simp only [List.map_append, List.map_cons, List.map_nil]
      exact ⟨r1.append (.cons rk .nil), r2.append (.cons rv .nil)⟩

theorem roomK {b : Nat} {A : Around} (rm : Room b A) : kn.room A ∧ kn.room A.in1 := by
  have := rm.units
  exact ⟨show A.units < cLine by omega, tupleKind_room_in1 (by omega)⟩

/-! tests -/
noncomputable def inD (a b : PyData) : Option Bool := match b with
  | .dict kvs => (keyOf a).map fun ks => hasKey ks kvs
  | _ => none
theorem DOf.ofH {Z h : Heap} {a : Addr} {xs : List (List Sc × Addr × Value)} (x : DOf Z h a xs) (k : Le Z h) : h.DictOfH kn a xs := by
  obtain ⟨o, es, ep, h1, h2, h3, h4, h5, h6⟩ := x
  exact ⟨o, es, ep, h1, h2, h3, h4, fun y hy => is_le k (h5 y hy), h6⟩
theorem in_dict : CmpOK .In inD := by
  intro c A Z s v u x y d Q rm I r1 r2 h P
  unfold inD at h
  split at h
  · obtain ⟨ks, hk, rfl⟩ := Option.map_eq_some_iff.mp h
    obtain ⟨a, rfl, hka⟩ := keyOf_is r1 hk
    obtain ⟨b, xs, rfl, hs, hd, q1, q2⟩ := r2.dict_inv
    obtain ⟨_, _, _, _, _, _, _, hi, _⟩ := id hd
    refine wpAny_in_heap (knd := kn) (roomK rm).2 (is_le I.le hka) hs ((hd.le (Le.refl _) fun o e => I.le _ _ e).ofH I.le) ?_
    rw [atKey_has hi q1]
    exact P _
  · cases h

section
variable {b : Nat} {sc : Scope} {x : Str} {px : Pos} {pos : Pos} {i : Nat}
noncomputable def bInOwn (i : Nat) (f : Fe) : Fb := fun o σ => if i = o then (σ i).bind fun a => (f o σ).bind fun k => inD k a else none
theorem ts_inOwn {e : Expr} {f : Fe} (hn : NamesOwn sc x i) (he : EvOK b sc e f) (hm : behindInMarks .In (.Name x px) = false) : TsOK b sc (.Compare e [.In] [.Name x px] pos) (bInOwn i f) := by
  intro c A env Z oa s o σ d Q rm hs ho F hf P
  unfold bInOwn at hf
  split at hf
  · rename_i hio
    subst hio
    obtain ⟨a, q1, hf⟩ := Option.bind_eq_some_iff.mp hf
    obtain ⟨k, q2, hf⟩ := Option.bind_eq_some_iff.mp hf
    refine wpAny_isTrue_Compare1 (he c A env Z oa s i σ k _ rm hs ho F q2 fun v Z1 h1 t1 I1 g1 x1 r1 => ?_) hm
    have F1 := F.ext I1 g1 x1
    refine hn c A env Z1 oa _ σ a px _ hs ho F1 q1 fun hO _ => ?_
    unfold inD at hf
    split at hf
    · obtain ⟨ks, hk, rfl⟩ := Option.map_eq_some_iff.mp hf
      obtain ⟨ka, rfl, hka⟩ := keyOf_is r1 hk
      rcases hO with ⟨_, _, e, _⟩ | ⟨kvs, ys, e, hsm, hd, r3, r4⟩
      · cases e
      · cases e
        obtain ⟨_, _, _, _, _, _, _, hi, _⟩ := id hd
        refine wpAny_in_heap (knd := kn) (roomK rm).2 (is_le I1.le hka) hsm (hd.ofH I1.le) ?_
        rw [atKey_has hi r3]
        exact wpAny_truthy_bool (P Z1 h1 _ I1 g1 x1)
    · cases hf
  · cases hf

noncomputable def pDict (i : Nat) (f : Fe) : Fp := fun o σ d => if i = o then (σ i).bind fun a => match a with
  | .dict kvs => (f o σ).bind fun key => (keyOf key).bind fun ks => if lenOK kvs.length then some (σ.put i (.dict (dput kvs ks key d))) else none
  | _ => none else none
theorem st_dset {e value : Expr} {f g : Fe} {p : Pos} (hn : NamesOwn sc x i) (he : EvOK b sc e f) (hv : EvOK b sc value g) (hs : ∀ env : Env, swapsWith value (some (.Subscript (.Name x px) e p)) pos.line { env with scope := sc } = pure false) :
    StOK b sc (.Assign [.Subscript (.Name x px) e p] value pos) (fSet (pDict i f) g) := by
  intro c A env Z oa s o σ r Q rm hsc ho F hf P
  obtain ⟨d, σ', h1, h2, rfl⟩ := fSet_some hf
  refine wpAny_Assign_Subscript ?_ (by rw [env_with hsc]; exact hs env)
  refine hv c A env Z oa s o σ d _ rm hsc ho F h1 fun v Z1 h1' t1 I1 g1 x1 rv => ?_
  have F1 := F.ext I1 g1 x1
  have w1 := Went.of_ext F g1 x1
  unfold pDict at h2
  split at h2
  · rename_i hio
    subst hio
    obtain ⟨a, q1, h2⟩ := Option.bind_eq_some_iff.mp h2
    split at h2
    · rename_i kvs
      obtain ⟨key, q2, h2⟩ := Option.bind_eq_some_iff.mp h2
      obtain ⟨ks, q3, h2⟩ := Option.bind_eq_some_iff.mp h2
      split at h2
      · rename_i hl
        cases h2
        refine hn c A env Z1 oa _ σ _ px _ hsc ho F1 q1 fun hO hi48 => ?_
        refine he c A env Z1 oa _ i σ key _ rm hsc ho F1 q2 fun u Z2 h2' t2 I2 g2 x2 r2 => ?_
        have F2 := F1.ext I2 g2 x2
        have w2 := w1.trans F F1 F2.inv F2.nL (fun z a e => (F2.cells z a e).1) (Went.of_ext F1 g2 x2)
        obtain ⟨ob, eO, hnt⟩ := hO.there
        have nt := I1.not_tab eO hnt
        have hO2 : OwnAt Z2 h2' oa (.dict kvs) := hO.keep g2.1 fun ob e => x2 _ _ nt.1 nt.2 e
        obtain ⟨ka, rfl, hka⟩ := keyOf_is r2 q3
        rcases hO2 with ⟨_, _, e, _⟩ | ⟨kvs', ys, e, hsm, hd, r3, r4⟩
        · cases e
        · obtain rfl := PyData.dict.inj e
          have hlen : ys.length ≤ sizeLine := by
            have := lenOK_le hl
            have h5 := r3.length
            simp only [List.length_map] at h5
            omega
          refine wpAny_setItem_heap (knd := kn) (roomK rm).2 (is_le I2.le hka) (hd.ofH I2.le) (fun h' hd' hs' => ?_) hlen
          obtain ⟨F3, w3⟩ := F2.turnOwn hi48 q1 hs' (own_put hsm hd r3 r4 r2 hka (rv.le g2.1) hd')
          exact P Z2 h' _ oa F3 (w2.trans F F2 F3.inv F3.nL (fun z a e => (F3.cells z a e).1) w3)
      · cases h2
    · cases h2
  · cases h2

/-- a dict display of one pair -/
noncomputable def dict1 (k v : PyData) : Option PyData := (keyOf k).map fun _ => .dict [(k, v)]
theorem ev_dict1 {k v : Expr} {f g : Fe} (hk : EvOK b sc k f) (hv : EvOK b sc v g) (hp : ∀ env, pairTrees [some k] [v] env pos = [(eval k env, do let x ← eval v env; standAt pos; pure x)]) : EvOK b sc (.Dict [some k] [v] pos) (eBin dict1 f g) := by
  intro c A env Z oa s o σ d Q rm hs ho F hf P
  obtain ⟨kd, vd, h1, h2, h3⟩ := eBin_some hf
  obtain ⟨ks, hks, rfl⟩ := Option.map_eq_some_iff.mp h3
  refine wpAny_Dict_any rfl rfl (by simp) (by simp) ?_
  rw [hp]
  have k0 := push_le s.heap { cls := .type "dict", data := .dict #[] }
  have I0 := F.inv.keep k0
  have F0 := F.ext I0 (Gr.refl _ _) (Ext.of_le k0)
  have hD0 : DOf Z (s.heap.push { cls := .type "dict", data := .dict #[] }) s.heap.objs.size [] := ⟨_, #[], 0, Heap.get?_push_size _ rfl, ⟨rfl, rfl, rfl⟩, rfl, rfl, by simp, by simp⟩
  have nD : s.heap.get? s.heap.objs.size = none := get_new _
  have zD := F.inv.noZ nD
  obtain ⟨ps16, e16⟩ := F.inv.tab16
  obtain ⟨ps23, e23⟩ := F.inv.tab23
  have n16 : s.heap.objs.size ≠ 16 := Nat.ne_of_gt (Heap.lt_size e16)
  have n23 : s.heap.objs.size ≠ 23 := Nat.ne_of_gt (Heap.lt_size e23)
  have hsm : (s.heap.objs.size == sysModules) = false := beq_eq_false_iff_ne.mpr fun q => absurd (Heap.lt_size e16) (by rw [q]; decide)
  refine evalPairs_cons (hk c A env Z oa _ o σ kd _ rm hs ho F0 h1 fun kv Z1 h1' t1 I1 g1 x1 r1 => wpAny_bind ?_)
  have F1 := F0.ext I1 g1 x1
  refine hv c A env Z1 oa _ o σ vd _ rm hs ho F1 h2 fun vv Z2 h2' t2 I2 g2 x2 r2 => ?_
  refine wpAny_bind (wpAny_standAt (wpAny_pure (evalPairs_nil ?_)))
  have g12 := g1.trans x1 g2 I2.noTab
  have x12 := x1.trans x2
  obtain ⟨ka, rfl, hka⟩ := keyOf_is (r1.le g2.1) hks
  have hD : DOf Z2 h2' s.heap.objs.size [] := hD0.le g12.1 fun o e => x12 _ _ n16 n23 e
  have zD2 : Z2.get? s.heap.objs.size = none := by
    cases q : Z2.get? s.heap.objs.size with
    | none => rfl
    | some ob => rw [g12.2 _ _ ob (Heap.get?_push_size _ rfl) q] at zD; cases zD
  unfold storeAll
  rw [List.forIn_cons]
  refine wpAny_bind (wpAny_bind (wpAny_dictSet_heap (knd := kn) (roomK rm).1 (is_le I2.le hka) (hD.ofH I2.le) (fun h' hd' hs' => wpAny_pure ?_) (by simp)))
  refine wpAny_pure ?_
  have I3 := I2.turn hs' zD2 n16 n23
  have own := own_put (kvs := []) hsm hD .nil .nil (r1.le g2.1) hka r2 hd'
  obtain ⟨Z3, I4, k4, r4, z4⟩ := own.freeze I3 zD2
  refine P _ Z3 h' _ I4 ⟨g12.1.trans k4, fun b ob o' hb hq => ?_⟩ (fun b ob b1 b2 e => (hs'.2 b fun q => ?_).trans (x12 b ob b1 b2 (k0 _ _ e))) r4
  · have hbD : b ≠ s.heap.objs.size := fun q => by rw [q, nD] at hb; cases hb
    rw [z4 b hbD] at hq
    exact g12.2 b ob o' (k0 _ _ hb) hq
  · rw [q, nD] at e; cases e
end
end
end Hf
end

section
open PySem PySem.W PyProof.Rows PySem.Calls PySem.Spec
namespace Hf
set_option autoImplicit false
set_option maxRecDepth 100000
set_option linter.unusedSectionVars false

/-- the n-th statement of the text, a def -/
noncomputable def defAt : List Stmt → Nat → Arguments × List Stmt × Scope
  | .FunctionDef _ args body _ _ _ sc _ _ _ :: _, 0 => (args, body, sc)
  | _ :: r, n + 1 => defAt r n
  | _, _ => (⟨[], [], none, [], [], none, []⟩, [], default)
noncomputable def bodyAt (n : Nat) : List Stmt := (defAt PySem.Challenge.pw_hf0002_01.main.body n).2.1
noncomputable def stAt (n k : Nat) : Stmt := match (bodyAt n).drop k with
  | st :: _ => st
  | [] => .Pass default
noncomputable def scopeAt (n : Nat) : Scope := (defAt PySem.Challenge.pw_hf0002_01.main.body n).2.2
noncomputable def argsAt (n : Nat) : Arguments := (defAt PySem.Challenge.pw_hf0002_01.main.body n).1

noncomputable def bindSg : List Nat → List PyData → Sg → Sg
  | i :: is, d :: ds, σ => bindSg is ds (σ.put i d)
  | _, _, σ => σ
noncomputable def runFn (is : List Nat) (f : Fs) (ds : List PyData) : Option PyData := if ds.length = is.length then match f 0 (bindSg is ds fun _ => none) with
  | some (.ret d) => some d
  | _ => none else none

section
variable [TheW]
theorem bind_ok {Z : Heap} {kindOf : Str → Option NameKind} : ∀ (is : List Nat) (vs : List Value) (ds : List PyData) (m cm : Str → Option Value) (σ : Sg), (∀ i ∈ is, 0 < i ∧ i < 48) → (∀ i ∈ is, kindOf (nm i) = some .local ∨ kindOf (nm i) = some .cell) → RepA Z vs ds → vs.length = is.length →
    (∀ i d, σ i = some d → (0 < i ∧ i < 48) ∧ (kindOf (nm i) = some .local → ∃ v, m (nm i) = some v ∧ Rep Z v d) ∧ (kindOf (nm i) = some .cell → ∃ v, cm (nm i) = some v ∧ Rep Z v d)) →
    ∀ i d, bindSg is ds σ i = some d → (0 < i ∧ i < 48) ∧ (kindOf (nm i) = some .local → ∃ v, bindL kindOf ((is.map nm).zip vs) m (nm i) = some v ∧ Rep Z v d) ∧ (kindOf (nm i) = some .cell → ∃ v, bindC kindOf ((is.map nm).zip vs) cm (nm i) = some v ∧ Rep Z v d)
  | [], vs, ds, m, cm, σ, _, _, _, _, h => h
  | j :: is, [], ds, m, cm, σ, _, _, _, hl, _ => nomatch hl
  | j :: is, v :: vs, ds, m, cm, σ, h48, hk, r, hl, h => by
    obtain ⟨d, ds', rfl, r1, r2⟩ := r.inv
    refine bind_ok is vs ds' _ _ (σ.put j d) (fun i hi => h48 i (List.mem_cons_of_mem _ hi)) (fun i hi => hk i (List.mem_cons_of_mem _ hi)) r2 (by simpa using hl) fun i e hi => ?_
    have hj := h48 j List.mem_cons_self
    unfold Sg.put at hi
    by_cases hij : i = j
    · subst hij
      rw [if_pos rfl] at hi; cases hi
      refine ⟨hj, fun hl => ?_, fun hc => ?_⟩
      · rw [if_pos hl]; exact ⟨v, by simp, r1⟩
      · rw [if_neg (by rw [hc]; simp)]; exact ⟨v, by simp, r1⟩
    · rw [if_neg hij] at hi
      obtain ⟨h1, h2, h3⟩ := h i e hi
      have hne : ¬ nm i = nm j := fun q => hij (nm_inj i h1.2 j hj.2 q)
      refine ⟨h1, fun hl => ?_, fun hc => ?_⟩
      · obtain ⟨w, e1, e2⟩ := h2 hl
        refine ⟨w, ?_, e2⟩
        split
        · simp [hne, e1]
        · exact e1
      · obtain ⟨w, e1, e2⟩ := h3 hc
        refine ⟨w, ?_, e2⟩
        split
        · exact e1
        · simp [hne, e1]

/-- a scope of a def that is nobody's inner def -/
structure DefSc (sc : Scope) : Prop where
  kind : sc.kind = .function
  nodup : (sc.names.map (·.1)).Nodup
  nofree : ∀ x ∈ sc.names, x.2 ≠ .free
theorem DefSc.envOK {sc : Scope} (S : DefSc sc) {name : Str} {L a : Addr} {cd : Value} : EnvOK (envOfC name sc L a cd) where
  kind := S.kind
  globals := rfl
  builtins := rfl
  cov := fun x hx => by
    rcases hx with q | q
    · exact Option.isSome_iff_exists.mp (cellsFrom_some (x := x) sc.names (L + 1) [] (.inl q))
    · exact absurd rfl (S.nofree _ (mem_of_lookup q))

theorem def_frame {c : Cx} {Z h h₁ : Heap} {sc : Scope} {name : Str} {L a : Addr} {cd : Value} {is : List Nat} {vs : List Value} {ds : List PyData} (S : DefSc sc) (I : Inv c Z h) (hL : L = h.objs.size) (h48 : ∀ i ∈ is, 0 < i ∧ i < 48)
    (hk : ∀ i ∈ is, sc.names.lookup (nm i) = some .local ∨ sc.names.lookup (nm i) = some .cell) (r : RepA Z vs ds) (hl : vs.length = is.length)
    (F : Fr h L h₁ (bindL (envOfC name sc L a cd).kindOf ((is.map nm).zip vs) fun _ => none)) (X : Cl L (cellsFrom (L + 1) sc.names []) h₁ (bindC (envOfC name sc L a cd).kindOf ((is.map nm).zip vs) fun _ => none)) :
    Fm c Z h₁ (envOfC name sc L a cd) (bindSg is ds fun _ => none) 0 0 := by
  have key := bind_ok (kindOf := (envOfC name sc L a cd).kindOf) is vs ds (fun _ => none) (fun _ => none) (fun _ => none) h48 hk r hl (fun _ _ e => nomatch e)
  have new : ∀ b, h.objs.size ≤ b → h.get? b = none := fun b hb => by
    cases q : h.get? b with
    | none => rfl
    | some o => exact absurd (Heap.lt_size q) (Nat.not_lt.mpr hb)
  have I' := I.keep F.keep
  refine ⟨I', fun i d e => (key i d e).1, I.noZ (new _ (by rw [hL]; exact Nat.le_refl _)), ⟨_, F.ns, fun i d e hk => ?_⟩, fun i d e hk => ?_, fun i d e hk => absurd rfl (S.nofree _ (mem_of_lookup hk)), fun x b e => ?_, fun x y b e1 e2 => name_of_addr X.apart (mem_of_lookup e1.2) (mem_of_lookup e2.2), fun q => absurd rfl q⟩
  · obtain ⟨v, e1, e2⟩ := (key i d e).2.1 hk
    exact ⟨v, e1, .inl ⟨Nat.ne_of_gt (key i d e).1.1, e2⟩⟩
  · obtain ⟨v, e1, e2⟩ := (key i d e).2.2 hk
    obtain ⟨b, hb⟩ := (S.envOK (name := name) (L := L) (a := a) (cd := cd)).cov (nm i) (.inl hk)
    exact ⟨b, v, hb, e1 ▸ X.cell _ _ hb, .inl ⟨Nat.ne_of_gt (key i d e).1.1, e2⟩⟩
  · have hlt := X.above x b (mem_of_lookup e.2)
    exact ⟨I.noZ (new _ (by rw [← hL]; exact Nat.le_of_lt hlt)), Nat.ne_of_gt hlt, fun q => absurd rfl q, _, X.cell x b e.2⟩

/-- a def's contract from its body's -/
theorem fn_ok {b : Nat} {fa ca : Addr} {sc : Scope} {body : List Stmt} {name : Str} {params : Arguments} {pm doc : Value} {is : List Nat} {f : Fs} (hfo : ∀ P, ∃ o, (hfHead.heap_39 P).lookup fa = some o ∧ o.data = .func (docDef name params body sc pm (.ref ca) doc))
    (hco : ∀ P, ∃ o vs t, (hfHead.heap_39 P).lookup ca = some o ∧ o.data = .fields vs ∧ vs[1]? = some (.str name t))
    (hb : BlOK b sc body f) (S : DefSc sc) (h48 : ∀ i ∈ is, 0 < i ∧ i < 48) (hk : ∀ i ∈ is, sc.names.lookup (nm i) = some .local ∨ sc.names.lookup (nm i) = some .cell)
    (hbind : ∀ vs : List Value, vs.length = is.length → bindArgs (docDef name params body sc pm (.ref ca) doc) ⟨vs, []⟩ = pure ((is.map nm).zip vs)) (hc1 : sc.isCoroutine = false) (hc2 : sc.isGenerator = false) : FnOK (b + 1) fa (runFn is f) := by
  intro c A Z s vs ds d Q rm I r hf P
  unfold runFn at hf
  split at hf
  rotate_left
  · cases hf
  rename_i hlen
  have hvl : vs.length = is.length := r.length.trans hlen
  split at hf
  rotate_left
  · cases hf
  rename_i d' hrun
  obtain rfl := Option.some.inj hf
  obtain ⟨o, h1, h2⟩ := hfo c.w.params
  obtain ⟨oc, cvs, t, h3, h4, h5⟩ := hco c.w.params
  have kin := I.kin
  refine wpAny_call (call_cells (binds := (is.map nm).zip vs) rm.depth (kin _ _ h1) h2 (c.noLim I) ⟨ca, oc, cvs, t, rfl, kin _ _ h3, h4, h5⟩ (hbind vs hvl) (fun x hx => ?_) (fun h₁ tk F X => ?_) hc1 hc2 S.kind)
  · obtain ⟨i, hi, e⟩ := List.mem_map.mp (List.of_mem_zip (show (x.1, x.2) ∈ _ from hx)).1
    rcases hk i hi with q | q
    · exact .inl (e ▸ q)
    · exact .inr ⟨e ▸ q, cellsFrom_some (x := x.1) sc.names _ [] (.inl (e ▸ q))⟩
  · have Fm0 := def_frame (a := fa) (name := name) (cd := .ref ca) S I rfl h48 hk r hvl F X
    refine wpE (hb c _ _ Z 0 _ 0 _ (.ret _) _ rm.deeper rfl S.envOK Fm0 hrun ?_)
    intro v Z' h' tk' I' _ _ w rv
    refine P v Z' h' tk' I' ⟨w.gr.1, fun b ob o' e q => w.gr.2 b ob o' (fun q => absurd rfl q) (F.keep _ _ e) q⟩ (fun b ob b1 b2 e => w.keep b ob (fun hm => ?_) b1 b2 (F.keep _ _ e)) rv
    have hb := Heap.lt_size e
    rcases hm with q | ⟨x, q⟩ | ⟨q, _⟩
    · rw [q] at hb; exact Nat.lt_irrefl _ hb
    · exact absurd hb (Nat.not_lt.mpr (Nat.le_of_lt (X.above x b (mem_of_lookup q.2))))
    · exact q rfl
end
end Hf
end

section
open PySem PySem.W PyProof.Rows PySem.Calls PySem.Spec
namespace Hf
set_option autoImplicit false
set_option maxRecDepth 100000
set_option linter.unusedSectionVars false

section
variable [TheW]
noncomputable def repL (n : Nat) (xs : List PyData) : List PyData := (List.replicate n xs).flatten
theorem rep_reps {Z : Heap} {items : Array Value} {xs : List PyData} (r : RepA Z items.toList xs) : ∀ (n : Nat) (acc : Array Value) (ds : List PyData), RepA Z acc.toList ds → RepA Z (List.foldl (fun x1 x2 => x1 ++ x2) acc (List.replicate n items)).toList (ds ++ repL n xs)
  | 0, acc, ds, h => by simpa [repL] using h
  | n + 1, acc, ds, h => by
    have := rep_reps r n (acc ++ items) (ds ++ xs) (by rw [Array.toList_append]; exact h.append r)
    simpa [repL, List.replicate_succ, List.append_assoc] using this
noncomputable def mulL (a b : PyData) : Option PyData := match a, b with
  | .list xs, .int n => if smallI n && lenOK (xs.length * n.toNat) then some (.list (repL n.toNat xs)) else none
  | _, _ => none
theorem mulL_ok : BinOK .Mult mulL := by
  intro c A Z s v u x y d Q rm I r1 r2 h P
  unfold mulL at h
  split at h
  · rename_i xs n
    split at h
    · rename_i hc
      cases h
      rw [Bool.and_eq_true] at hc
      have h1 := smallI_le hc.1
      have h2 := Nat.le_of_ble_eq_true hc.2
      obtain ⟨t, rfl⟩ := r2.int_inv
      obtain ⟨l, ⟨cls, dd, data, sl⟩, items, k, rfl, e, hcl, hd, q⟩ := r1.list_inv
      simp only at hcl hd
      subst hcl hd
      have ho := I.le _ _ e
      have hz : items.size = xs.length := by rw [← q.length, Array.length_toList]
      refine wpAny_binaryOp_repeat_ref (T := "list") (U := "int") (by decide) ⟨_, ho, rfl⟩ (fun s' => typeIs_int s' n t) noFill_list_mul F.fills_int_mul F.slot_int_rmul repeat_list F.slot_int_index.lookup
        (call_meets F.slot_int_rmul (typeIs_int s n t) F.entry_int_rmul (F.args_int_rmul_2 _ _) (lm_int_rmul_list_any n t l items k dd sl)
          ⟨ho, rfl, ⟨_, ho, rfl⟩, call_meets F.slot_list_mul ⟨_, ho, rfl⟩ F.entry_list_mul (F.args_list_mul_2 _ _)
            (lm_list_mul_any l items k dd sl n t (by simp [Builtin.List.listFitsIndex]; omega) (by rw [hz]; omega) (by rw [hz]; simp [Builtin.List.listTooLong, sizeLine]; omega)) ⟨ho, ?_⟩⟩)
      refine P.newV I (push_le _ _) (Heap.get?_push_size _ rfl) (get_new _) (fun ps q => by cases q) (fun Z' k' e' => ?_) _
      refine .list_of e' rfl rfl ?_
      by_cases hem : items.isEmpty = true
      · rw [if_pos hem]
        have h0 : xs = [] := by
          have : items.size = 0 := by simpa [Array.isEmpty] using hem
          rw [hz] at this
          exact List.length_eq_zero_iff.mp this
        subst h0
        have : repL n.toNat ([] : List PyData) = [] := by simp [repL]
        rw [this]
        exact .nil
      · rw [if_neg hem]
        simpa using rep_reps (q.le k') n.toNat #[] [] .nil
    · cases h
  · cases h
end
end Hf
end

section
open PySem PySem.W PyProof.Rows PySem.Calls PySem.Spec
namespace Hf
set_option autoImplicit false
set_option maxRecDepth 100000
set_option linter.unusedSectionVars false

noncomputable def intsOf : List PyData → Option (List Int)
  | [] => some []
  | .int i :: ds => (intsOf ds).map (i :: ·)
  | _ :: _ => none
noncomputable def sumD : List PyData → Option PyData
  | [.list xs] => (intsOf xs).map fun ns => .int ns.sum
  | _ => none
section
variable [TheW]
theorem ints_are {Z : Heap} : ∀ {vs : List Value} {ds : List PyData} {ns : List Int}, RepA Z vs ds → intsOf ds = some ns → IntsAre vs ns
  | [], ds, ns, r, h => by rw [r.nil_inv] at h; cases h; exact .nil
  | v :: vs, ds, ns, r, h => by
    obtain ⟨d, ds', rfl, r1, r2⟩ := r.inv
    unfold intsOf at h
    split at h
    · rename_i e; cases e
    · rename_i i ds'' e
      cases e
      obtain ⟨ms, h1, rfl⟩ := Option.map_eq_some_iff.mp h
      obtain ⟨t, rfl⟩ := r1.int_inv
      exact .cons _ _ (ints_are r2 h1)
    · cases h
theorem sum_ok : BiOK 0 "sum" sumD := by
  intro c A Z s vs ds d Q rm I r h P
  unfold sumD at h
  split at h
  · rename_i xs
    obtain ⟨ns, h1, rfl⟩ := Option.map_eq_some_iff.mp h
    obtain ⟨v, rfl⟩ : ∃ v, vs = [v] := by
      match vs, r.length with
      | [v], _ => exact ⟨v, rfl⟩
    obtain ⟨a, ob, ws, n, rfl, e, hc, hd, q⟩ := r.cons_inv.1.list_inv
    have hi := ints_are q h1
    obtain ⟨zs, hz⟩ := hi.allInts.items
    have hws : ws = intItems zs := by rw [← hz]
    have hl : s.heap.IsList a (intItems zs) := ⟨ob, I.le _ _ e, hc, n, by rw [← hws]; exact hd⟩
    refine sum_intListG rm.1 hl fun h' tk t' hk => ?_
    have e2 : preSum (numAt zs) zs.size = ns.sum := by
      have h3 := hi.numsOf
      rw [hws, nums_intItems] at h3
      rw [preSum_eq, List.take_of_length_le (by simp), h3]
    rw [e2]
    exact P.keepH I hk (.int _ _) tk
  · cases h

noncomputable def fNever : Fs := fun _ _ => none
theorem st_never {b : Nat} {sc : Scope} {st : Stmt} : StOK b sc st fNever := by
  intro c A env Z oa s o σ r Q rm he ho F hf P
  cases hf
end

theorem glob_range : ∀ P, nsIn (hfHead.heap_39 P) mainGlobals "range" = some none := fun _ => rfl
theorem glob_enumerate : ∀ P, nsIn (hfHead.heap_39 P) mainGlobals "enumerate" = some none := fun _ => rfl
theorem glob_len : ∀ P, nsIn (hfHead.heap_39 P) mainGlobals "len" = some none := fun _ => rfl
theorem glob_max : ∀ P, nsIn (hfHead.heap_39 P) mainGlobals "max" = some none := fun _ => rfl
theorem glob_sum : ∀ P, nsIn (hfHead.heap_39 P) mainGlobals "sum" = some none := fun _ => rfl
theorem glob_sorted : ∀ P, nsIn (hfHead.heap_39 P) mainGlobals "sorted" = some none := fun _ => rfl
theorem glob_int2digits : GlobF "_int2digits" 21 := fun _ => rfl
theorem obj_int2digits : FnObj 21 := fun _ => ⟨_, _, rfl, rfl⟩
theorem glob_digits2int : GlobF "_digits2int" 28 := fun _ => rfl
theorem obj_digits2int : FnObj 28 := fun _ => ⟨_, _, rfl, rfl⟩
theorem globadd_callers : GlobF "add_callers" 35 := fun _ => rfl
theorem objadd_callers : FnObj 35 := fun _ => ⟨_, _, rfl, rfl⟩
theorem globcount_calls : GlobF "count_calls" 42 := fun _ => rfl
theorem objcount_calls : FnObj 42 := fun _ => ⟨_, _, rfl, rfl⟩
theorem glob_law_both : GlobF "_law_both" 47 := fun _ => rfl
theorem obj_law_both : FnObj 47 := fun _ => ⟨_, _, rfl, rfl⟩
theorem glob_law_called : GlobF "_law_called" 52 := fun _ => rfl
theorem obj_law_called : FnObj 52 := fun _ => ⟨_, _, rfl, rfl⟩
theorem glob_law_plain : GlobF "_law_plain" 57 := fun _ => rfl
theorem obj_law_plain : FnObj 57 := fun _ => ⟨_, _, rfl, rfl⟩
theorem glob_law_plan : GlobF "_law_plan" 62 := fun _ => rfl
theorem obj_law_plan : FnObj 62 := fun _ => ⟨_, _, rfl, rfl⟩
theorem glob_law_has : GlobF "_law_has" 69 := fun _ => rfl
theorem obj_law_has : FnObj 69 := fun _ => ⟨_, _, rfl, rfl⟩
end Hf
end

section
open PySem PySem.W PyProof.Rows PySem.Calls PySem.Spec
namespace Hf
set_option autoImplicit false
set_option maxRecDepth 100000
set_option linter.unusedSectionVars false

section
variable [TheW]
noncomputable def shrD : PyData → PyData → Option PyData
  | .int a, .int b => if decide (0 ≤ b) then some (.int (Int.fdiv a (2 ^ b.toNat))) else none
  | _, _ => none
theorem shr_ok : BinOK .RShift shrD := by
  intro c A Z s v u x y d Q rm I r1 r2 h P
  unfold shrD at h
  split at h
  · split at h
    · rename_i hb
      cases h
      obtain ⟨t, rfl⟩ := r1.int_inv
      obtain ⟨t', rfl⟩ := r2.int_inv
      exact rshift_int (of_decide_eq_true hb) (P.imm I (.int _ _) _)
    · cases h
  · cases h
noncomputable def shlD : PyData → PyData → Option PyData
  | .int a, .int b => if smallI a && decide (0 ≤ b) && smallI b then some (.int (a * 2 ^ b.toNat)) else none
  | _, _ => none
theorem shl_ok : BinOK .LShift shlD := by
  intro c A Z s v u x y d Q rm I r1 r2 h P
  unfold shlD at h
  split at h
  · rename_i a b
    split at h
    · rename_i hb
      cases h
      simp only [Bool.and_eq_true, decide_eq_true_eq] at hb
      obtain ⟨⟨h1, h2⟩, h3⟩ := hb
      have h1 := smallI_le h1
      have h3 := smallI_le h3
      obtain ⟨t, rfl⟩ := r1.int_inv
      obtain ⟨t', rfl⟩ := r2.int_inv
      have h4 : Builtin.Int.intBits a ≤ 64 := intBits_le_64 (by omega) (by omega)
      exact lshift_int h2 (by omega) (P.imm I (.int _ _) _)
    · cases h
  · cases h
noncomputable def xorD : PyData → PyData → Option PyData
  | .int a, .int b => some (.int (Builtin.bitXor a b))
  | _, _ => none
theorem xor_ok : BinOK .BitXor xorD := by
  intro c A Z s v u x y d Q rm I r1 r2 h P
  unfold xorD at h
  split at h
  · cases h
    obtain ⟨t, rfl⟩ := r1.int_inv
    obtain ⟨t', rfl⟩ := r2.int_inv
    exact xor_int (P.imm I (.int _ _) _)
  · cases h
noncomputable def bitsD : PyData → Option PyData
  | .int a => some (.int (Builtin.Int.intBits a))
  | _ => none
theorem ev_bits {b : Nat} {sc : Scope} {e : Expr} {f : Fe} {ap pos : Pos} (he : EvOK b sc e f)
    (hm : ∀ env : Env, ∃ pl, eval (.Call (.Attribute e "bit_length" ap) [] [] pos) env = (do
      let ov ← eval e env
      standAt ap.atName
      let (f, first) ← holding [ov] (getMethod ov "bit_length" pl)
      callWith pos f first (backTo pos (starEach [] env)) [])) : EvOK b sc (.Call (.Attribute e "bit_length" ap) [] [] pos) (eUn bitsD f) := by
  intro c A env Z oa s o σ d Q rm hs ho F hf P
  unfold eUn at hf
  obtain ⟨x, h1, h2⟩ := Option.bind_eq_some_iff.mp hf
  unfold bitsD at h2
  split at h2
  · cases h2
    obtain ⟨pl, hm⟩ := hm env
    refine MethodCall_ ?_ hm
    refine he c A env Z oa s o σ _ _ rm hs ho F h1 fun v Z1 h1' t1 I1 g1 x1 r1 => ?_
    obtain ⟨t, rfl⟩ := r1.int_inv
    exact getMethod_int_bit_length (callWith_method0 (call_int_bit_length ((P.after (tk := t1) I1 g1 x1).imm I1 (.int _ _) _)))
  · cases h2

/-- a function made within another: its object and its code are frozen -/
noncomputable def Clo (Z : Heap) (f : Addr) (name qual : Str) (params : Arguments) (body : List Stmt) (scope : Scope) (cl : List (Str × Addr)) : Prop :=
  ∃ o doc pm ctv c', Z.get? f = some o ∧ o.data = .func (fnX name qual params body scope cl .none .none doc pm none (.ref c') ctv) ∧ Z.CodeRec (.ref c') qual
theorem Clo.le {Z Z' : Heap} {f : Addr} {name qual : Str} {params : Arguments} {body : List Stmt} {scope : Scope} {cl : List (Str × Addr)} (x : Clo Z f name qual params body scope cl) (k : Le Z Z') : Clo Z' f name qual params body scope cl :=
  let ⟨o, doc, pm, ctv, c', e, hd, hc⟩ := x; ⟨o, doc, pm, ctv, c', k _ _ e, hd, hc.keeps k⟩
noncomputable def envI (qual : Str) (scope : Scope) (L f c' : Addr) (cl : List (Str × Addr)) : Env := newEnv scope L mainGlobals cl (qual ++ ".<locals>.") (some f) (.ref c') none builtinsNs

theorem clo_call {b : Nat} {c : Cx} {A : Around} {Z : Heap} {s : Shared} {f : Addr} {name qual : Str} {params : Arguments} {body : List Stmt} {scope : Scope} {cl : List (Str × Addr)} {vs : List Value} {binds : List (Str × Value)} {Q : Value → Shared → Prop}
    (rm : Room (b + 1) A) (I : Inv c Z s.heap) (C : Clo Z f name qual params body scope cl)
    (hbind : ∀ doc pm c' ctv, bindArgs (fnX name qual params body scope cl .none .none doc pm none (.ref c') ctv) ⟨vs, []⟩ = pure binds)
    (hcell : ∀ x ∈ scope.names, x.2 ≠ .cell) (hloc : ∀ x ∈ binds, scope.names.lookup x.1 = some .local) (hk : scope.kind = .function) (hco : scope.isCoroutine = false) (hgen : scope.isGenerator = false)
    (h : ∀ c' h₁ tk, Le s.heap h₁ → h₁.Ns s.heap.objs.size (fun x => binds.reverse.lookup x) →
      wpAny (model prog c.w) (A.deeper (envI qual scope s.heap.objs.size f c' cl)) (execs body (envI qual scope s.heap.objs.size f c' cl)) (fun fl s' => Q (match fl with | .ret v => v | _ => .none) s') noE { s with heap := h₁, toks := tk }) :
    wpAny (model prog c.w) A (call (.ref f) vs) Q noE s := by
  obtain ⟨o, doc, pm, ctv, c', e, hd, hc⟩ := C
  refine wpAny_call (codeAny_call_function rm.depth (I.le _ _ e) hd hco hgen rfl (hc.keeps I.le) ?_)
  rw [hbind]
  refine wpAny_pure (wpAny_newFunctionEnv hcell hloc (fun h₁ hns hsb => ⟨(c.noLim I).fresh _ hsb, codeAny_func (wpE (wpAny_mono (h c' h₁ _ (fun b o e => hsb.extBut b o (Nat.ne_of_lt (Heap.lt_size e)) (Heap.get?_push_of_some _ e)) hns) (fun fl s' q => q) fun _ _ x => x))⟩) hk)
end
end Hf
end

section
open PySem PySem.W PyProof.Rows PySem.Calls PySem.Spec
namespace Hf
set_option autoImplicit false
set_option maxRecDepth 100000
set_option linter.unusedSectionVars false

/-- the def that is the k-th statement of the n-th def -/
noncomputable def innerAt (n k : Nat) : Arguments × List Stmt × Scope := match stAt n k with
  | .FunctionDef _ args body _ _ _ sc _ _ _ => (args, body, sc)
  | _ => (⟨[], [], none, [], [], none, []⟩, [], default)
noncomputable def ibody (n k : Nat) : List Stmt := (innerAt n k).2.1
noncomputable def iscope (n k : Nat) : Scope := (innerAt n k).2.2
noncomputable def iargs (n k : Nat) : Arguments := (innerAt n k).1
noncomputable def ist (n k j : Nat) : Stmt := match (ibody n k).drop j with
  | st :: _ => st
  | [] => .Pass default

section
variable [TheW]
/-- the own object is turned, amid other work -/
theorem Fm.reOwn {c : Cx} {Z Z' h h' : Heap} {env : Env} {σ : Sg} {o : Nat} {oa : Addr} (F : Fm c Z h env σ o oa) (ho : 0 < o ∧ o < 48) {d d₀ : PyData} (h0 : σ o = some d₀) (I' : Inv c Z' h') (g : Gr h Z Z')
    (keep : ∀ b ob, b ≠ oa → b ≠ 16 → b ≠ 23 → h.get? b = some ob → h'.get? b = some ob) (hO : OwnAt Z' h' oa d) : Fm c Z' h' env (σ.put o d) o oa := by
  have ho0 : o ≠ 0 := Nat.ne_of_gt ho.1
  obtain ⟨zO, nO, d1, hO1⟩ := F.own ho0
  have hz : ∀ a, Z.get? a = none → (∃ ob, h.get? a = some ob ∧ ∀ ps, ob ≠ tabObj ps) → Z'.get? a = none := fun a hz ⟨ob, e, _⟩ => by
    cases q : Z'.get? a with
    | none => rfl
    | some o' => rw [g.2 a ob o' e q] at hz; cases hz
  have hk : ∀ a, a ≠ oa → (∃ ob, h.get? a = some ob ∧ ∀ ps, ob ≠ tabObj ps) → ∀ ob, h.get? a = some ob → h'.get? a = some ob := fun a hw ⟨ob', e', hn⟩ ob e => by
    have nt := F.inv.not_tab e' hn
    exact keep a ob hw nt.1 nt.2 e
  have val : ∀ {j v e}, ValO Z h o oa j v e → j ≠ o → ValO Z' h' o oa j v e := fun x hjo => by
    rcases x with ⟨_, q⟩ | ⟨q, _⟩
    · exact .inl ⟨hjo, q.le g.1⟩
    · exact absurd q hjo
  have hcell : ∀ x a v, Mine env x a → h.IsCell a v → h'.IsCell a v := fun x a v hx hc => by
    obtain ⟨ob, e, hd⟩ := hc
    exact ⟨ob, hk a ((F.cells x a hx).2.2.1 ho0) (F.C_some x a hx) ob e, hd⟩
  refine ⟨I', fun j e hj => ?_, hz _ F.nL F.L_some, ?_, fun j e hj hkd => ?_, fun j e hj hkd => ?_, fun y a e => ?_, F.apart, fun _ => ⟨hz _ zO (F.O_some ho0), nO, d, hO⟩⟩
  · unfold Sg.put at hj
    by_cases hji : j = o
    · rw [hji]; exact ho
    · rw [if_neg hji] at hj; exact F.dom j e hj
  · obtain ⟨m, hn, hv⟩ := F.loc
    refine ⟨m, hn.at' fun ob e => hk _ (Ne.symm nO) F.L_some ob e, fun j e hj hkd => ?_⟩
    unfold Sg.put at hj
    by_cases hji : j = o
    · subst hji
      rw [if_pos rfl] at hj; cases hj
      obtain ⟨v, e1, e2⟩ := hv j d₀ h0 hkd
      rcases e2 with ⟨q, _⟩ | ⟨_, q, _⟩
      · exact absurd rfl q
      · exact ⟨v, e1, .inr ⟨rfl, q, hO⟩⟩
    · rw [if_neg hji] at hj
      obtain ⟨v, e1, e2⟩ := hv j e hj hkd
      exact ⟨v, e1, val e2 hji⟩
  · unfold Sg.put at hj
    by_cases hji : j = o
    · subst hji
      rw [if_pos rfl] at hj; cases hj
      obtain ⟨a, v, e1, e2, e3⟩ := F.cel j d₀ h0 hkd
      rcases e3 with ⟨q, _⟩ | ⟨_, q, _⟩
      · exact absurd rfl q
      · exact ⟨a, v, e1, hcell _ _ _ ⟨hkd, e1⟩ e2, .inr ⟨rfl, q, hO⟩⟩
    · rw [if_neg hji] at hj
      obtain ⟨a, v, e1, e2, e3⟩ := F.cel j e hj hkd
      exact ⟨a, v, e1, hcell _ _ _ ⟨hkd, e1⟩ e2, val e3 hji⟩
  · unfold Sg.put at hj
    by_cases hji : j = o
    · subst hji
      rw [if_pos rfl] at hj; cases hj
      obtain ⟨a, v, e1, ⟨ob, e2, e2'⟩, e3⟩ := F.fre j d₀ h0 hkd
      rcases e3 with ⟨q, _⟩ | ⟨_, q, _⟩
      · exact absurd rfl q
      · exact ⟨a, v, e1, ⟨ob, g.1 _ _ e2, e2'⟩, .inr ⟨rfl, q, hO⟩⟩
    · rw [if_neg hji] at hj
      obtain ⟨a, v, e1, ⟨ob, e2, e2'⟩, e3⟩ := F.fre j e hj hkd
      exact ⟨a, v, e1, ⟨ob, g.1 _ _ e2, e2'⟩, val e3 hji⟩
  · obtain ⟨e1, e2, e3, v', e4⟩ := F.cells y a e
    exact ⟨hz a e1 (F.C_some y a e), e2, e3, v', hcell _ _ _ e e4⟩

/-- a store into the own list -/
theorem st_lset {b : Nat} {sc : Scope} {x : Str} {px p pos : Pos} {i : Nat} {e value : Expr} {f g : Fe} (hn : NamesOwn sc x i) (he : EvOK b sc e f) (hv : EvOK b sc value g) (hs : ∀ env : Env, swapsWith value (some (.Subscript (.Name x px) e p)) pos.line { env with scope := sc } = pure false) :
    StOK b sc (.Assign [.Subscript (.Name x px) e p] value pos) (fSet (pSub i f) g) := by
  intro c A env Z oa s o σ r Q rm hsc ho F hf P
  obtain ⟨d, σ', h1, h2, rfl⟩ := fSet_some hf
  refine wpAny_Assign_Subscript ?_ (by rw [env_with hsc]; exact hs env)
  refine hv c A env Z oa s o σ d _ rm hsc ho F h1 fun v Z1 h1' t1 I1 g1 x1 rv => ?_
  have F1 := F.ext I1 g1 x1
  have w1 := Went.of_ext F g1 x1
  unfold pSub at h2
  split at h2
  · rename_i hio
    subst hio
    obtain ⟨a, q1, h2⟩ := Option.bind_eq_some_iff.mp h2
    obtain ⟨j, q2, h2⟩ := Option.bind_eq_some_iff.mp h2
    obtain ⟨a', q3, h2⟩ := Option.map_eq_some_iff.mp h2
    subst h2
    refine hn c A env Z1 oa _ σ _ px _ hsc ho F1 q1 fun hO hi48 => ?_
    refine he c A env Z1 oa _ i σ j _ rm hsc ho F1 q2 fun u Z2 h2' t2 I2 g2 x2 r2 => ?_
    have F2 := F1.ext I2 g2 x2
    have w2 := w1.trans F F1 F2.inv F2.nL (fun z a e => (F2.cells z a e).1) (Went.of_ext F1 g2 x2)
    obtain ⟨ob, eO, hnt⟩ := hO.there
    have nt := I1.not_tab eO hnt
    have hO2 : OwnAt Z2 h2' oa a := hO.keep g2.1 fun ob e => x2 _ _ nt.1 nt.2 e
    unfold setD at q3
    split at q3
    · rename_i xs jj _ _
      split at q3
      · rename_i hj
        cases q3
        simp only [Bool.and_eq_true, decide_eq_true_eq] at hj
        obtain ⟨⟨hj0, hj1⟩, hj2⟩ := hj
        obtain ⟨t, rfl⟩ := r2.int_inv
        have hs' := smallI_le hj1
        rcases hO2 with ⟨xs2, vs, hx2, hp2, rr⟩ | ⟨kvs, ys, hx2, _⟩
        · obtain rfl : _ = xs2 := PyData.list.inj hx2
          have hz := rr.length
          rw [Array.length_toList] at hz
          refine setItem_plainL hp2 hj0 (by omega) (by omega) fun h' hp' hs3 => ?_
          obtain ⟨F3, w3⟩ := F2.turnOwn (d := _) hi48 q1 hs3 (.inl ⟨_, _, rfl, hp', by rw [Array.toList_setIfInBounds]; exact rr.set (rv.le g2.1) _⟩)
          exact P Z2 h' t2 oa F3 (w2.trans F F2 F3.inv F3.nL (fun z a e => (F3.cells z a e).1) w3)
        · cases hx2
      · cases q3
    · cases q3
  · cases h2
end
end Hf
end

section
open PySem PySem.W PyProof.Rows PySem.Calls PySem.Spec
namespace Hf
set_option autoImplicit false
set_option maxRecDepth 100000
set_option linter.unusedSectionVars false

section
variable [TheW]
/-- a first statement, then the rest -/
theorem StOK.then {b : Nat} {sc : Scope} {st : Stmt} {f : Fs} (hst : StOK b sc st f) {c : Cx} {A : Around} {env : Env} {Z : Heap} {oa : Addr} {s : Shared} {o o' : Nat} {σ σ' : Sg} {rest : List Stmt} {Q : Flow → Shared → Prop}
    (rm : Room b A) (he : env.scope = sc) (ho : EnvOK env) (F : Fm c Z s.heap env σ o oa) (hf : f o σ = some (.next o' σ'))
    (P : ∀ Z' h' tk oa', Fm c Z' h' env σ' o' oa' → Went env o oa s.heap Z h' Z' o' oa' → wpAny (model prog c.w) A (execs rest env) Q noE { s with heap := h', toks := tk }) : wpAny (model prog c.w) A (execs (st :: rest) env) Q noE s :=
  wpAny_execs_cons (hst c A env Z oa s o σ _ _ rm he ho F hf fun Z' h' tk oa' F' w => P Z' h' tk oa' F' w)

noncomputable abbrev sc1 : Scope := iscope 1 1
noncomputable def inT : Fb := bCmp (cmpD .Eq) (eBin addD (eVar 41) (eLit (.int 1))) (eVar 42)
noncomputable def inMid : Fs := fSet (pName 43) (eBin shrD (eBin addD (eVar 41) (eVar 42)) (eLit (.int 1)))
noncomputable def inShift : Fs := fSet (pName 44) (eBin mulD (eBin subD (eVar 43) (eVar 41)) (eVar 37))
noncomputable def inUpper : Fs := fSet (pName 45) (eBin shrD (eVar 40) (eVar 44))
noncomputable def inLower : Fs := fSet (pName 46) (eBin xorD (eVar 40) (eBin shlD (eVar 45) (eVar 44)))
noncomputable def inSet : Fs := fSet (pSub 38 (eVar 41)) (eVar 40)
noncomputable def testOf : Stmt → Expr
  | .If t _ _ _ => t
  | _ => .Constant .none 0 default
noncomputable def thenOf (k : Nat) : Stmt → Stmt
  | .If _ b _ _ => (match b.drop k with | s :: _ => s | [] => .Pass default)
  | _ => .Pass default
theorem in_test : TsOK 0 sc1 (testOf (ist 1 1 0)) inT := ts_cmp (cmp_ok .Eq) (ev_bin add_ok (ev_local 41 rfl rfl rfl) (ev_int 1)) (ev_local 42 rfl rfl rfl) rfl
theorem in_set : StOK 0 sc1 (thenOf 0 (ist 1 1 0)) inSet := st_lset (own_free 38 rfl rfl rfl rfl) (ev_local 41 rfl rfl rfl) (ev_local 40 rfl rfl rfl) (fun _ => rfl)
theorem in_mid : StOK 0 sc1 (ist 1 1 1) inMid := st_set (store_local 43 rfl (by decide) rfl) (ev_bin shr_ok (ev_bin add_ok (ev_local 41 rfl rfl rfl) (ev_local 42 rfl rfl rfl)) (ev_int 1)) (fun _ => rfl)
theorem in_shift : StOK 0 sc1 (ist 1 1 2) inShift := st_set (store_local 44 rfl (by decide) rfl) (ev_bin mul_ok (ev_bin sub_ok (ev_local 43 rfl rfl rfl) (ev_local 41 rfl rfl rfl)) (ev_free 37 rfl rfl rfl rfl)) (fun _ => rfl)
theorem in_upper : StOK 0 sc1 (ist 1 1 3) inUpper := st_set (store_local 45 rfl (by decide) rfl) (ev_bin shr_ok (ev_local 40 rfl rfl rfl) (ev_local 44 rfl rfl rfl)) (fun _ => rfl)
theorem in_lower : StOK 0 sc1 (ist 1 1 4) inLower := st_set (store_local 46 rfl (by decide) rfl) (ev_bin xor_ok (ev_local 40 rfl rfl rfl) (ev_bin shl_ok (ev_local 45 rfl rfl rfl) (ev_local 44 rfl rfl rfl))) (fun _ => rfl)

noncomputable def σ1 (x L R : Int) (xs : List PyData) : Sg := Sg.put (Sg.put (Sg.put (Sg.put (Sg.put (fun _ => none) 37 (.int 1)) 38 (.list xs)) 40 (.int x)) 41 (.int L)) 42 (.int R)
noncomputable def midI (L R : Int) : Int := Int.fdiv (L + R) (2 ^ (1 : Int).toNat)
noncomputable def in1 : Nat → Int → Int → Int → List PyData → Option (List PyData)
  | 0, _, _, _, _ => none
  | k + 1, x, L, R, xs =>
    if L + 1 = R then (if decide (0 ≤ L) && smallI L && decide (L.toNat < xs.length) then some (xs.set L.toNat (.int x)) else none)
    else
      if smallI (midI L R - L) && decide (0 ≤ (midI L R - L) * 1) && smallI ((midI L R - L) * 1) && smallI (Int.fdiv x (2 ^ ((midI L R - L) * 1).toNat)) then
        (in1 k (Builtin.bitXor x (Int.fdiv x (2 ^ ((midI L R - L) * 1).toNat) * 2 ^ ((midI L R - L) * 1).toNat)) L (midI L R) xs).bind fun ys =>
          in1 k (Int.fdiv x (2 ^ ((midI L R - L) * 1).toNat)) (midI L R) R ys
      else none

/-- the closure of the inner function -/
noncomputable def In1 (Z : Heap) (f oa : Addr) : Prop := ∃ cl, Clo Z f "inner" qual1 (iargs 1 1) (ibody 1 1) sc1 cl ∧ (∃ a, cl.lookup (nm 38) = some a ∧ Z.IsCell a (some (.ref oa))) ∧
  (∃ a, cl.lookup (nm 39) = some a ∧ Z.IsCell a (some (.ref f))) ∧ (∃ a t, cl.lookup (nm 37) = some a ∧ Z.IsCell a (some (.int 1 t)))
theorem isCell_le {Z Z' : Heap} (k : Le Z Z') {a : Addr} {v : Option Value} (h : Z.IsCell a v) : Z'.IsCell a v := let ⟨o, e, hd⟩ := h; ⟨o, k _ _ e, hd⟩
theorem In1.le {Z Z' : Heap} {f oa : Addr} (x : In1 Z f oa) (k : Le Z Z') : In1 Z' f oa := by
  obtain ⟨cl, h1, ⟨a, h2, h2'⟩, ⟨b, h3, h3'⟩, ⟨d, t, h4, h4'⟩⟩ := x
  exact ⟨cl, h1.le k, ⟨a, h2, isCell_le k h2'⟩, ⟨b, h3, isCell_le k h3'⟩, ⟨d, t, h4, isCell_le k h4'⟩⟩
theorem free1 : ∀ p ∈ sc1.names, p.2 = .free → p.1 = nm 38 ∨ p.1 = nm 39 ∨ p.1 = nm 37 := by decide +kernel
theorem nocell1 : ∀ p ∈ sc1.names, p.2 ≠ .cell := by decide +kernel

theorem env1_ok {L f c' : Addr} {cl : List (Str × Addr)} (h38 : ∃ a, cl.lookup (nm 38) = some a) (h39 : ∃ a, cl.lookup (nm 39) = some a) (h37 : ∃ a, cl.lookup (nm 37) = some a) : EnvOK (envI qual1 sc1 L f c' cl) where
  kind := rfl
  globals := rfl
  builtins := rfl
  cov := fun x hx => by
    rcases hx with q | q
    · exact absurd rfl (nocell1 _ (mem_of_lookup q))
    · rcases free1 _ (mem_of_lookup q) rfl with r | r | r
      · rw [show x = nm 38 from r]; exact h38
      · rw [show x = nm 39 from r]; exact h39
      · rw [show x = nm 37 from r]; exact h37

theorem frame1 {c : Cx} {Z h h₁ : Heap} {f c' oa : Addr} {cl : List (Str × Addr)} {x L R : Int} {t1 t2 t3 : Tok} {xs : List PyData} (I : Inv c Z h) (k : Le h h₁)
    (hns : h₁.Ns h.objs.size (fun y => ([(nm 40, Value.int x t1), (nm 41, .int L t2), (nm 42, .int R t3)] : List (Str × Value)).reverse.lookup y)) (hz : Z.get? oa = none) (hO : OwnAt Z h oa (.list xs))
    (h38 : ∃ a, cl.lookup (nm 38) = some a ∧ Z.IsCell a (some (.ref oa))) (h37 : ∃ a t, cl.lookup (nm 37) = some a ∧ Z.IsCell a (some (.int 1 t))) :
    Fm c Z h₁ (envI qual1 sc1 h.objs.size f c' cl) (σ1 x L R xs) 38 oa := by
  have nL : h.get? h.objs.size = none := get_new h
  have hO1 : OwnAt Z h₁ oa (.list xs) := hO.keep (Le.refl _) fun o e => k _ _ e
  have cases1 : ∀ i d, σ1 x L R xs i = some d → (i = 42 ∧ d = .int R) ∨ (i = 41 ∧ d = .int L) ∨ (i = 40 ∧ d = .int x) ∨ (i = 38 ∧ d = .list xs) ∨ (i = 37 ∧ d = .int 1) := by
    intro i d e
    unfold σ1 Sg.put at e
    by_cases q1 : i = 42
    · simp [q1] at e; exact .inl ⟨q1, e.symm⟩
    by_cases q2 : i = 41
    · simp [q2] at e; exact .inr (.inl ⟨q2, e.symm⟩)
    by_cases q3 : i = 40
    · simp [q3] at e; exact .inr (.inr (.inl ⟨q3, e.symm⟩))
    by_cases q4 : i = 38
    · simp [q4] at e; exact .inr (.inr (.inr (.inl ⟨q4, e.symm⟩)))
    by_cases q5 : i = 37
    · simp [q5] at e; exact .inr (.inr (.inr (.inr ⟨q5, e.symm⟩)))
    · simp [q1, q2, q3, q4, q5] at e
  refine ⟨I.keep k, fun i d e => ?_, I.noZ nL, ⟨_, hns, fun i d e hk => ?_⟩, fun i d e hk => ?_, fun i d e hk => ?_, fun y a e => ?_, fun y z a e1 e2 => ?_, fun _ => ⟨hz, fun q => ?_, _, hO1⟩⟩
  · rcases cases1 i d e with ⟨q, _⟩ | ⟨q, _⟩ | ⟨q, _⟩ | ⟨q, _⟩ | ⟨q, _⟩ <;> subst q <;> decide
  · rcases cases1 i d e with ⟨rfl, rfl⟩ | ⟨rfl, rfl⟩ | ⟨rfl, rfl⟩ | ⟨rfl, rfl⟩ | ⟨rfl, rfl⟩
    · exact ⟨.int R t3, rfl, .inl ⟨by decide, .int _ _⟩⟩
    · exact ⟨.int L t2, rfl, .inl ⟨by decide, .int _ _⟩⟩
    · exact ⟨.int x t1, rfl, .inl ⟨by decide, .int _ _⟩⟩
    · cases (show (some NameKind.free : Option NameKind) = some .local from hk)
    · cases (show (some NameKind.free : Option NameKind) = some .local from hk)
  · exact absurd rfl (nocell1 _ (mem_of_lookup (show sc1.names.lookup (nm i) = some .cell from hk)))
  · rcases cases1 i d e with ⟨rfl, rfl⟩ | ⟨rfl, rfl⟩ | ⟨rfl, rfl⟩ | ⟨rfl, rfl⟩ | ⟨rfl, rfl⟩
    · cases (show (some NameKind.local : Option NameKind) = some .free from hk)
    · cases (show (some NameKind.local : Option NameKind) = some .free from hk)
    · cases (show (some NameKind.local : Option NameKind) = some .free from hk)
    · obtain ⟨a, e1, e2⟩ := h38
      exact ⟨a, _, e1, e2, .inr ⟨rfl, rfl, hO1⟩⟩
    · obtain ⟨a, t, e1, e2⟩ := h37
      exact ⟨a, _, e1, e2, .inl ⟨by decide, .int _ _⟩⟩
  · exact absurd rfl (nocell1 _ (mem_of_lookup (show sc1.names.lookup y = some .cell from e.1)))
  · exact absurd rfl (nocell1 _ (mem_of_lookup (show sc1.names.lookup y = some .cell from e1.1)))
  · obtain ⟨ob, e, _⟩ := hO.there
    rw [show oa = h.objs.size from q, nL] at e
    cases e
end
end Hf
end

section
open PySem PySem.W PyProof.Rows PySem.Calls PySem.Spec
namespace Hf
set_option autoImplicit false
set_option maxRecDepth 100000
set_option linter.unusedSectionVars false

section
variable [TheW]
noncomputable def Hold (c : Cx) (oa : Addr) (h₀ Z₀ h Z : Heap) : Prop := Inv c Z h ∧ Gr h₀ Z₀ Z ∧ ∀ b ob, b ≠ oa → b ≠ 16 → b ≠ 23 → h₀.get? b = some ob → h.get? b = some ob
theorem Hold.grow {c : Cx} {oa : Addr} {h₀ Z₀ h Z h' Z' : Heap} (H : Hold c oa h₀ Z₀ h Z) (I : Inv c Z' h') (hz : Z'.get? oa = none) (le : Le Z Z') (g : ∀ b ob o', b ≠ oa → h₀.get? b = some ob → h.get? b = some ob → Z'.get? b = some o' → Z.get? b = some o')
    (k : ∀ b ob, b ≠ oa → b ≠ 16 → b ≠ 23 → h₀.get? b = some ob → h.get? b = some ob → h'.get? b = some ob) : Hold c oa h₀ Z₀ h' Z' := by
  refine ⟨I, ⟨H.2.1.1.trans le, fun b ob o' e q => ?_⟩, fun b ob b1 b2 b3 e => k b ob b1 b2 b3 e (H.2.2 b ob b1 b2 b3 e)⟩
  by_cases b1 : b = oa
  · rw [b1, hz] at q; cases q
  by_cases b2 : b = 16
  · rw [I.noTab b (.inl b2)] at q; cases q
  by_cases b3 : b = 23
  · rw [I.noTab b (.inr b3)] at q; cases q
  exact H.2.1.2 b ob o' e (g b ob o' b1 e (H.2.2 b ob b1 b2 b3 e) q)
theorem Hold.step {c : Cx} {oa : Addr} {h₀ Z₀ h Z h' Z' : Heap} {env : Env} {σ' : Sg} {o : Nat} (H : Hold c oa h₀ Z₀ h Z) (F' : Fm c Z' h' env σ' o oa) (ho : o ≠ 0) (w : Went env o oa h Z h' Z' o oa) (nL : h₀.get? env.locals = none) (nm : ∀ x a, ¬ Mine env x a) : Hold c oa h₀ Z₀ h' Z' :=
  H.grow F'.inv (F'.own ho).1 w.gr.1 (fun b ob o' b1 _ e q => w.gr.2 b ob o' (fun _ => b1) e q) fun b ob b1 b2 b3 e0 e => w.keep b ob (fun hm => by
    rcases hm with q | ⟨x, q⟩ | ⟨_, q⟩
    · rw [q, nL] at e0; cases e0
    · exact nm x b q
    · exact b1 q) b2 b3 e
theorem Hold.ext {c : Cx} {oa : Addr} {h₀ Z₀ h Z h' Z' : Heap} (H : Hold c oa h₀ Z₀ h Z) (I : Inv c Z' h') (hz : Z'.get? oa = none) (g : Gr h Z Z') (x : Ext h h') : Hold c oa h₀ Z₀ h' Z' :=
  H.grow I hz g.1 (fun b ob o' _ _ e q => g.2 b ob o' e q) fun b ob _ b2 b3 _ e => x b ob b2 b3 e
theorem Hold.refl {c : Cx} {oa : Addr} {h Z : Heap} (I : Inv c Z h) : Hold c oa h Z h Z := ⟨I, Gr.refl _ _, fun _ _ _ _ _ e => e⟩

/-- the own list's place is told by its frozen cell -/
theorem own_same {c : Cx} {Z Z' h' : Heap} {env : Env} {σ' : Sg} {oa oa' a : Addr} {i : Nat} {d : PyData} (F' : Fm c Z' h' env σ' i oa') (hd : σ' i = some d) (hk : env.kindOf (nm i) = some .free) (hl : env.cells.lookup (nm i) = some a) (hc : Z.IsCell a (some (.ref oa))) (le : Le Z Z') : oa' = oa := by
  obtain ⟨a', v, e1, ⟨ob, e2, e3⟩, hv⟩ := F'.fre i d hd hk
  rw [hl] at e1; cases e1
  obtain ⟨ob', e4, e5⟩ := hc
  rw [le _ _ e4] at e2; cases e2
  rw [e5] at e3; cases e3
  rcases hv with ⟨q, _⟩ | ⟨_, q, _⟩
  · exact absurd rfl q
  · cases q; rfl

noncomputable def Post1 (c : Cx) (oa : Addr) (Z : Heap) (s : Shared) (ys : List PyData) (Q : Value → Shared → Prop) : Prop :=
  ∀ Z' h' tk, Hold c oa s.heap Z h' Z' → OwnAt Z' h' oa (.list ys) → Z'.get? oa = none → Q .none { s with heap := h', toks := tk }


theorem call_inner {b : Nat} {sc : Scope} {es : List Expr} {e : Expr} {fa : Fl} {np cp : Pos} (ha : EvsOK b sc (e :: es) fa) (hst : ∀ env, starEach (e :: es) env = (false, eval e env) :: starEach es env) (hp : ∀ env, (backTo cp (starEach es env)).any (·.1) = false)
    {c : Cx} {A : Around} {env : Env} {Z : Heap} {oa f a : Addr} {s : Shared} {o : Nat} {σ : Sg} {ds : List PyData} {Q : Value → Shared → Prop} (rm : Room b A) (he : env.scope = sc) (ho : EnvOK env) (F : Fm c Z s.heap env σ o oa) (hf : fa o σ = some ds)
    (hk : env.kindOf (nm 39) = some .free) (hl : env.cells.lookup (nm 39) = some a) (hc : Z.IsCell a (some (.ref f))) (hfn : FnAt f Z)
    (h : ∀ vs Z' h' tk, Inv c Z' h' → Gr s.heap Z Z' → Ext s.heap h' → RepA Z' vs ds → wpAny (model prog c.w) A (call (.ref f) vs) Q noE { s with heap := h', toks := tk }) :
    wpAny (model prog c.w) A (eval (.Call (.Name (nm 39) np) (e :: es) [] cp) env) Q noE s := by
  obtain ⟨ob, h1, h2⟩ := hc
  refine wpAny_Call_ofName (wpAny_Name (wpAny_loadName_free ho.kind hk hl ⟨ob, F.inv.le _ _ h1, h2⟩ ?_ (by decide)) (by decide))
  obtain ⟨oc, od, fd, sl, ef⟩ := hfn
  refine callWith_F ⟨oc, od, fd, sl, F.inv.le _ _ ef⟩ (ha c A env Z oa s o σ ds cp _ rm he ho F hf fun vs Z' h' tk I g x r => ⟨⟨oc, od, fd, sl, I.le _ _ (g.1 _ _ ef)⟩, ?_⟩) (hst env) (hp env)
  exact h vs Z' h' tk I g x r

theorem Clo.fnAt {Z : Heap} {f : Addr} {name qual : Str} {params : Arguments} {body : List Stmt} {scope : Scope} {cl : List (Str × Addr)} (x : Clo Z f name qual params body scope cl) : FnAt f Z := by
  obtain ⟨⟨oc, od, dt, sl⟩, doc, pm, ctv, c', e, hd, _⟩ := x
  simp only at hd
  subst hd
  exact ⟨_, _, _, _, e⟩

noncomputable def fst3 : Fl := lCons (eVar 46) (lCons (eVar 41) (lCons (eVar 43) lNil))
noncomputable def snd3 : Fl := lCons (eVar 45) (lCons (eVar 43) (lCons (eVar 42) lNil))
noncomputable def argsOf : Stmt → List Expr
  | .Expr (.Call _ es _ _) _ => es
  | _ => []
theorem in_fst : EvsOK 0 sc1 (argsOf (ist 1 1 5)) fst3 := evs_cons (ev_local 46 rfl rfl rfl) (evs_cons (ev_local 41 rfl rfl rfl) (evs_cons (ev_local 43 rfl rfl rfl) evs_nil (fun _ => rfl)) (fun _ => rfl)) (fun _ => rfl)
theorem in_snd : EvsOK 0 sc1 (argsOf (ist 1 1 6)) snd3 := evs_cons (ev_local 45 rfl rfl rfl) (evs_cons (ev_local 43 rfl rfl rfl) (evs_cons (ev_local 42 rfl rfl rfl) evs_nil (fun _ => rfl)) (fun _ => rfl)) (fun _ => rfl)
theorem ints3 {Z : Heap} {vs : List Value} {x L R : Int} (r : RepA Z vs [.int x, .int L, .int R]) : ∃ t1 t2 t3, vs = [.int x t1, .int L t2, .int R t3] := by
  obtain ⟨v1, v2, v3, rfl⟩ : ∃ a b d, vs = [a, b, d] := by
    match vs, r.length with
    | [a, b, d], _ => exact ⟨a, b, d, rfl⟩
  obtain ⟨t1, rfl⟩ := r.cons_inv.1.int_inv
  obtain ⟨t2, rfl⟩ := r.cons_inv.2.cons_inv.1.int_inv
  obtain ⟨t3, rfl⟩ := r.cons_inv.2.cons_inv.2.cons_inv.1.int_inv
  exact ⟨t1, t2, t3, rfl⟩

theorem inner1_ok : ∀ (k : Nat) {c : Cx} {A : Around} {Z : Heap} {s : Shared} {f oa : Addr} {x L R : Int} {t1 t2 t3 : Tok} {xs ys : List PyData} {Q : Value → Shared → Prop}, Room (k + 1) A → Inv c Z s.heap → In1 Z f oa → OwnAt Z s.heap oa (.list xs) → Z.get? oa = none →
    in1 k x L R xs = some ys → Post1 c oa Z s ys Q → wpAny (model prog c.w) A (call (.ref f) [.int x t1, .int L t2, .int R t3]) Q noE s
  | 0, _, _, _, _, _, _, _, _, _, _, _, _, _, _, _, _, _, _, _, _, h, _ => nomatch h
  | k + 1, c, A, Z, s, f, oa, x, L, R, t1, t2, t3, xs, ys, Q, rm, I, hIn, hO, hz, hin, P => by
    obtain ⟨cl, hC, h38, h39, h37⟩ := id hIn
    refine clo_call (b := k + 1) rm I hC (binds := [(nm 40, .int x t1), (nm 41, .int L t2), (nm 42, .int R t3)]) (fun _ _ _ _ => rfl) nocell1 (fun y hy => ?_) rfl rfl rfl fun c' h₁ tk k₁ hns => ?_
    · simp only [List.mem_cons, List.not_mem_nil, or_false] at hy
      rcases hy with rfl | rfl | rfl <;> rfl
    have F := frame1 (f := f) (c' := c') I k₁ hns hz hO h38 h37
    obtain ⟨a38, l38, c38⟩ := h38
    obtain ⟨a39, l39, c39⟩ := h39
    obtain ⟨a37, t37, l37, c37⟩ := h37
    have ho := env1_ok (L := s.heap.objs.size) (f := f) (c' := c') (cl := cl) ⟨a38, l38⟩ ⟨a39, l39⟩ ⟨a37, l37⟩
    have rmD : Room (k + 1) (A.deeper (envI qual1 sc1 s.heap.objs.size f c' cl)) := rm.deeper
    have rm0 := rmD.mono (Nat.zero_le _)
    generalize hE : envI qual1 sc1 s.heap.objs.size f c' cl = env at F ho rmD rm0 ⊢
    have hsc : env.scope = sc1 := by rw [← hE]; rfl
    have hcells : env.cells = cl := by rw [← hE]; rfl
    have hloc : env.locals = s.heap.objs.size := by rw [← hE]; rfl
    have nL : s.heap.get? env.locals = none := by rw [hloc]; exact get_new _
    have nMine : ∀ y a, ¬ Mine env y a := fun y a hm => absurd rfl (nocell1 _ (mem_of_lookup (show sc1.names.lookup y = some .cell from hsc ▸ hm.1)))
    have k38 : env.kindOf (nm 38) = some .free := by unfold Env.kindOf; rw [hsc]; rfl
    have k39 : env.kindOf (nm 39) = some .free := by unfold Env.kindOf; rw [hsc]; rfl
    rw [← hcells] at l38 l39
    have H0 : Hold c oa s.heap Z h₁ Z := ⟨F.inv, Gr.refl _ _, fun b ob _ _ _ e => k₁ _ _ e⟩
    rw [show ibody 1 1 = [ist 1 1 0, ist 1 1 1, ist 1 1 2, ist 1 1 3, ist 1 1 4, ist 1 1 5, ist 1 1 6] from rfl]
    unfold in1 at hin
    have h0 : ist 1 1 0 = .If (testOf (ist 1 1 0)) [thenOf 0 (ist 1 1 0), thenOf 1 (ist 1 1 0)] [] ⟨6, 8, 8, 18⟩ := rfl
    have hT : inT 38 (σ1 x L R xs) = some (decide (L + 1 = R)) := by
      show (if SeqAt.shaped (.int (L + 1)) && SeqAt.shaped (.int R) then some (PyData.eqv (.int (L + 1)) (.int R)) else none) = _
      rw [show SeqAt.shaped (.int (L + 1)) = true from rfl, show SeqAt.shaped (.int R) = true from rfl]
      rw [if_pos (by decide)]
      exact congrArg some (by unfold PyData.eqv; by_cases q : L + 1 = R <;> simp [q])
    rw [h0]
    refine wpAny_execs_cons (wpAny_If (in_test c _ env Z oa _ 38 _ _ _ rm0 hsc ho F hT fun Z1 h1 tk1 I1 g1 x1 => ?_))
    have F1 := F.ext I1 g1 x1
    have H1 := H0.ext I1 (F1.own (by decide)).1 g1 x1
    by_cases hLR : L + 1 = R
    · rw [if_pos hLR] at hin
      rw [if_pos (decide_eq_true hLR)]
      split at hin
      rotate_left
      · cases hin
      rename_i hg
      cases hin
      have hS : inSet 38 (σ1 x L R xs) = some (.next 38 ((σ1 x L R xs).put 38 (.list (xs.set L.toNat (.int x))))) := by
        show ((((if decide (0 ≤ L) && smallI L && decide (L.toNat < xs.length) then some (PyData.list (xs.set L.toNat (.int x))) else none).map fun a' => (σ1 x L R xs).put 38 a').bind fun σ' => some (Out.next 38 σ')) : Option Out) = _
        rw [if_pos hg]; rfl
      refine in_set.then rm0 hsc ho F1 hS fun Z2 h2 tk2 oa2 F2 w2 => ?_
      rw [show thenOf 1 (ist 1 1 0) = .Return none ⟨8, 12, 8, 18⟩ from rfl]
      refine wpAny_execs_cons (wpAny_Return_none ?_)
      have e2 := own_same F2 (d := .list (xs.set L.toNat (.int x))) rfl k38 l38 c38 (g1.1.trans w2.gr.1)
      subst e2
      have H2 := H1.step F2 (by decide) w2 nL nMine
      obtain ⟨z2, _, _⟩ := F2.own (by decide)
      refine P Z2 h2 tk2 H2 ?_ z2
      obtain ⟨a', v, e1, _, hv⟩ := F2.fre 38 (.list (xs.set L.toNat (.int x))) rfl k38
      rcases hv with ⟨q, _⟩ | ⟨_, _, q⟩
      · exact absurd rfl q
      · exact q
    · rw [if_neg hLR] at hin
      rw [if_neg (by simpa using hLR)]
      split at hin
      rotate_left
      · cases hin
      rename_i hg
      simp only [Bool.and_eq_true] at hg
      obtain ⟨⟨⟨g1', g2'⟩, g3'⟩, g4'⟩ := hg
      refine wpAny_execs_nil ?_
      -- mid
      have e1 : inMid 38 (σ1 x L R xs) = some (.next 38 ((σ1 x L R xs).put 43 (.int (midI L R)))) := rfl
      refine in_mid.then rm0 hsc ho F1 e1 fun Z2 h2 tk2 oa2 F2 w2 => ?_
      have q2 := own_same F2 (d := .list xs) rfl k38 l38 c38 (g1.1.trans w2.gr.1)
      subst q2
      have H2 := H1.step F2 (by decide) w2 nL nMine
      -- shift
      have e2 : inShift 38 ((σ1 x L R xs).put 43 (.int (midI L R))) = some (.next 38 (((σ1 x L R xs).put 43 (.int (midI L R))).put 44 (.int ((midI L R - L) * 1)))) := by
        show ((if smallI (midI L R - L) && smallI 1 then some (PyData.int ((midI L R - L) * 1)) else none : Option PyData).bind fun d => (pName 44 38 ((σ1 x L R xs).put 43 (.int (midI L R))) d).bind fun σ' => some (Out.next 38 σ')) = _
        rw [if_pos (by rw [g1']; rfl)]; rfl
      refine in_shift.then rm0 hsc ho F2 e2 fun Z3 h3 tk3 oa3 F3 w3 => ?_
      have q3 := own_same F3 (d := .list xs) rfl k38 l38 c38 (g1.1.trans (w2.gr.1.trans w3.gr.1))
      subst q3
      have H3 := H2.step F3 (by decide) w3 nL nMine
      -- upper
      have e3 : inUpper 38 (((σ1 x L R xs).put 43 (.int (midI L R))).put 44 (.int ((midI L R - L) * 1))) = some (.next 38 ((((σ1 x L R xs).put 43 (.int (midI L R))).put 44 (.int ((midI L R - L) * 1))).put 45 (.int (Int.fdiv x (2 ^ ((midI L R - L) * 1).toNat))))) := by
        show ((if decide (0 ≤ (midI L R - L) * 1) then some (PyData.int (Int.fdiv x (2 ^ ((midI L R - L) * 1).toNat))) else none : Option PyData).bind fun d => (pName 45 38 (((σ1 x L R xs).put 43 (.int (midI L R))).put 44 (.int ((midI L R - L) * 1))) d).bind fun σ' => some (Out.next 38 σ')) = _
        rw [if_pos g2']; rfl
      refine in_upper.then rm0 hsc ho F3 e3 fun Z4 h4 tk4 oa4 F4 w4 => ?_
      have q4 := own_same F4 (d := .list xs) rfl k38 l38 c38 (g1.1.trans (w2.gr.1.trans (w3.gr.1.trans w4.gr.1)))
      subst q4
      have H4 := H3.step F4 (by decide) w4 nL nMine
      -- lower
      generalize hσ4 : (((σ1 x L R xs).put 43 (.int (midI L R))).put 44 (.int ((midI L R - L) * 1))).put 45 (.int (Int.fdiv x (2 ^ ((midI L R - L) * 1).toNat))) = σ4 at F4
      have e4 : inLower 38 σ4 = some (.next 38 (σ4.put 46 (.int (Builtin.bitXor x (Int.fdiv x (2 ^ ((midI L R - L) * 1).toNat) * 2 ^ ((midI L R - L) * 1).toNat))))) := by
        rw [← hσ4]
        show (((if smallI (Int.fdiv x (2 ^ ((midI L R - L) * 1).toNat)) && decide (0 ≤ (midI L R - L) * 1) && smallI ((midI L R - L) * 1) then some (PyData.int (Int.fdiv x (2 ^ ((midI L R - L) * 1).toNat) * 2 ^ ((midI L R - L) * 1).toNat)) else none : Option PyData).bind fun y => xorD (.int x) y).bind fun d => (pName 46 38 _ d).bind fun σ' => some (Out.next 38 σ')) = _
        rw [if_pos (by rw [g4', g2', g3']; rfl)]; rfl
      refine in_lower.then rm0 hsc ho F4 e4 fun Z5 h5 tk5 oa5 F5 w5 => ?_
      have q5 := own_same F5 (d := .list xs) (by rw [← hσ4]; rfl) k38 l38 c38 (g1.1.trans (w2.gr.1.trans (w3.gr.1.trans (w4.gr.1.trans w5.gr.1))))
      subst q5
      have H5 := H4.step F5 (by decide) w5 nL nMine
      have le5 : Le Z Z5 := g1.1.trans (w2.gr.1.trans (w3.gr.1.trans (w4.gr.1.trans w5.gr.1)))
      obtain ⟨zs, hin1, hin2⟩ := Option.bind_eq_some_iff.mp hin
      have a1 : fst3 38 (σ4.put 46 (.int (Builtin.bitXor x (Int.fdiv x (2 ^ ((midI L R - L) * 1).toNat) * 2 ^ ((midI L R - L) * 1).toNat)))) = some [.int (Builtin.bitXor x (Int.fdiv x (2 ^ ((midI L R - L) * 1).toNat) * 2 ^ ((midI L R - L) * 1).toNat)), .int L, .int (midI L R)] := by rw [← hσ4]; rfl
      have own5 : (σ4.put 46 (.int (Builtin.bitXor x (Int.fdiv x (2 ^ ((midI L R - L) * 1).toNat) * 2 ^ ((midI L R - L) * 1).toNat)))) 38 = some (.list xs) := by rw [← hσ4]; rfl
      generalize hσ5 : (σ4.put 46 (.int (Builtin.bitXor x (Int.fdiv x (2 ^ ((midI L R - L) * 1).toNat) * 2 ^ ((midI L R - L) * 1).toNat)))) = σ5 at F5 a1 own5
      rw [show ist 1 1 5 = .Expr (.Call (.Name (nm 39) ⟨13, 8, 13, 13⟩) (argsOf (ist 1 1 5)) [] ⟨13, 8, 13, 28⟩) ⟨13, 8, 13, 28⟩ from rfl]
      have hint : interactive env = false := by rw [← hE]; rfl
      refine wpAny_execs_cons (wpAny_Expr (call_inner in_fst (fun _ => rfl) (fun _ => rfl) rm0 hsc ho F5 a1 k39 l39 (isCell_le le5 c39) (hC.le le5).fnAt fun vs Z6 h6 tk6 I6 g6 x6 r6 => ?_) hint rfl)
      obtain ⟨u1, u2, u3, rfl⟩ := ints3 r6
      have F6 := F5.ext I6 g6 x6
      have H6 := H5.ext I6 (F6.own (by decide)).1 g6 x6
      have own6 : OwnAt Z6 h6 oa5 (.list xs) := by
        obtain ⟨a', v, _, _, hv⟩ := F6.fre 38 (.list xs) own5 k38
        rcases hv with ⟨q, _⟩ | ⟨_, _, q⟩
        · exact absurd rfl q
        · exact q
      refine inner1_ok k rmD I6 (hIn.le (le5.trans g6.1)) own6 (F6.own (by decide)).1 hin1 fun Z7 h7 tk7 H7 own7 z7 => ?_
      -- the second call
      have F7 := F6.reOwn (by decide) own5 H7.1 H7.2.1 H7.2.2 own7
      have H67 : Hold c oa5 s.heap Z h7 Z7 := H6.grow H7.1 z7 H7.2.1.1 (fun b ob o' _ _ e q => H7.2.1.2 b ob o' e q) fun b ob b1 b2 b3 _ e => H7.2.2 b ob b1 b2 b3 e
      have le7 : Le Z Z7 := le5.trans (g6.1.trans H7.2.1.1)
      have a2 : snd3 38 (σ5.put 38 (.list zs)) = some [.int (Int.fdiv x (2 ^ ((midI L R - L) * 1).toNat)), .int (midI L R), .int R] := by rw [← hσ5, ← hσ4]; rfl
      rw [show ist 1 1 6 = .Expr (.Call (.Name (nm 39) ⟨14, 8, 14, 13⟩) (argsOf (ist 1 1 6)) [] ⟨14, 8, 14, 28⟩) ⟨14, 8, 14, 28⟩ from rfl]
      refine wpAny_execs_cons (wpAny_Expr (call_inner in_snd (fun _ => rfl) (fun _ => rfl) rm0 hsc ho F7 a2 k39 l39 (isCell_le le7 c39) (hC.le le7).fnAt fun vs Z8 h8 tk8 I8 g8 x8 r8 => ?_) hint rfl)
      obtain ⟨u1', u2', u3', rfl⟩ := ints3 r8
      have F8 := F7.ext I8 g8 x8
      have H8 := H67.ext I8 (F8.own (by decide)).1 g8 x8
      have own8 : OwnAt Z8 h8 oa5 (.list zs) := by
        obtain ⟨a', v, _, _, hv⟩ := F8.fre 38 (.list zs) rfl k38
        rcases hv with ⟨q, _⟩ | ⟨_, _, q⟩
        · exact absurd rfl q
        · exact q
      refine inner1_ok k rmD I8 (hIn.le (le7.trans g8.1)) own8 (F8.own (by decide)).1 hin2 fun Z9 h9 tk9 H9 own9 z9 => wpAny_execs_nil ?_
      exact P Z9 h9 tk9 (H8.grow H9.1 z9 H9.2.1.1 (fun b ob o' _ _ e q => H9.2.1.2 b ob o' e q) fun b ob b1 b2 b3 _ e => H9.2.2 b ob b1 b2 b3 e) own9 z9
end
end Hf
end

section
open PySem PySem.W PyProof.Rows PySem.Calls PySem.Spec
namespace Hf
set_option autoImplicit false
set_option maxRecDepth 100000
set_option linter.unusedSectionVars false

section
variable [TheW]
theorem fun_not_tab {f : FuncData} (ps : Array Value) : ({ cls := .type "function", data := .func f } : Obj) ≠ tabObj ps := fun q => by
  have := congrArg Obj.data q; cases this
theorem Inv.bat {c : Cx} {Z h : Heap} (I : Inv c Z h) {P : Addr} (hz : Z.get? P = none) : h.BuiltinsAt c.mg P := by
  obtain ⟨bm, ob, b1, b2, b3, b4, b5, b6⟩ := c.T.bmain
  have hbG : bm ≠ mainGlobals := fun q => by
    obtain ⟨o, es, ep, e, hd, _⟩ := c.T.g
    rw [q, e] at b3; cases b3; rw [hd] at b6; cases b6
  have hbP : bm ≠ P := fun q => by
    have := I.gnd _ _ b3
    rw [q, hz] at this; cases this
  exact ⟨bm, ob, b1, b2, hbG, hbP, I.le _ _ (I.gnd _ _ b3), b4, b5, b6⟩

theorem make1 {c : Cx} {A : Around} {Z : Heap} {s : Shared} {env : Env} {params : Arguments} {body : List Stmt} {scope : Scope} {name : Str} {clos : List (Str × Addr)} {firstLine : Nat} {Q : Value → Shared → Prop} (I : Inv c Z s.heap) (hcl : closureFor scope env = pure clos) (hg : env.globals = mainGlobals) (hcode : env.code = .ref 20)
    (h : ∀ f Z' h' tk, Inv c Z' h' → Gr s.heap Z Z' → Ext s.heap h' → s.heap.get? f = none → Clo Z' f name qual1 params body scope clos → Q (.ref f) { s with heap := h', toks := tk }) :
    wpAny (model prog c.w) A (makeFunction name qual1 params (.stmts body) scope env [] [] [] pos1 firstLine) Q noE s := by
  obtain ⟨hzP, ps, hP, ht, hcase⟩ := I.t1
  have hgs := c.T.g.keeps (I.gnd.trans I.le)
  have hCh := c.C1.keeps (I.gnd.trans I.le)
  rcases hcase with hnf | ⟨c', hf, hrec⟩
  · refine makeFunction_K (mg := c.mg) hcl hg hgs hcode hCh hP ht hnf (by decide) (I.bat hzP) fun c' ctv doc h' tk hx hge hlt hrec htb => ?_
    obtain ⟨c2, oc, vs, t, e2, hoc, hd, hv⟩ := hrec
    cases e2
    generalize hF : fnMade name qual1 params body scope clos doc ((c.mg "__name__").getD .none) c' ctv = Fo
    have new : ∀ b, s.heap.objs.size ≤ b → s.heap.get? b = none := fun b hb => by
      cases q : s.heap.get? b with
      | none => rfl
      | some o => exact absurd (Heap.lt_size q) (Nat.not_lt.mpr hb)
    have nc := new c' hge
    have c16 : c' ≠ 16 := fun q => by rw [q, hP] at nc; cases nc
    obtain ⟨hz2, ps2, hP2, ht2, hcase2⟩ := I.t2
    have c23 : c' ≠ 23 := fun q => by rw [q, hP2] at nc; cases nc
    have up : ∀ b o, b ≠ 16 → s.heap.get? b = some o → (h'.push Fo).get? b = some o := fun b o hb e => Heap.get?_push_of_some _ (hx b o hb e)
    have le0 : Le Z (h'.push Fo) := fun b o e => up b o (fun q => by rw [q, hzP] at e; cases e) (I.le _ _ e)
    obtain ⟨Z1, l1, z1, zz⟩ := exists_put le0 (Heap.get?_push_of_some Fo hoc)
    have k1 : Le Z Z1 := fun b o e => by
      by_cases hb : b = c'
      · rw [hb, I.noZ nc] at e; cases e
      · rw [zz b hb]; exact e
    have I1 : Inv c Z1 (h'.push Fo) := by
      refine ⟨l1, I.gnd.trans k1, ⟨by rw [zz _ (Ne.symm c16)]; exact hzP, _, Heap.get?_push_of_some _ htb, ?_, .inr ⟨c', ?_, c', oc, vs, t, rfl, z1, hd, hv⟩⟩, ⟨by rw [zz _ (Ne.symm c23)]; exact hz2, ps2, up _ _ (by decide) hP2, ht2, hcase2.imp id ?_⟩⟩
      · have := TriplesOk_snoc pos1.line pos1.col (.ref c') ps.toList ht
        simpa using this
      · have := codeAmong_snoc (pos := pos1) (c := .ref c') ps.toList ht hnf
        simpa using this
      · rintro ⟨c2, h5, h6⟩
        exact ⟨c2, h5, h6.keeps k1⟩
    have hfn : h'.objs.size ≥ s.heap.objs.size := Nat.le_of_lt (Nat.lt_of_le_of_lt hge hlt)
    have nf := new _ hfn
    have nf' : Z1.get? h'.objs.size = none := by rw [zz _ (Nat.ne_of_gt hlt)]; exact I.noZ nf
    have hFt : ∀ ps, Fo ≠ tabObj ps := fun ps => hF ▸ fun_not_tab ps
    obtain ⟨Z2, I2, k2, z2, zz2⟩ := I1.put (a := h'.objs.size) (o := Fo) (Heap.get?_push_size _ (by rw [← hF]; rfl)) nf' hFt
    refine h h'.objs.size Z2 (h'.push Fo) tk I2 ⟨k1.trans k2, fun b ob o' e q => ?_⟩ (fun b o b1 _ e => up b o b1 e) nf ⟨Fo, doc, _, ctv, c', z2, by rw [← hF], c', oc, vs, t, rfl, k2 _ _ z1, hd, hv⟩
    have q1 : b ≠ h'.objs.size := fun q => by rw [q, nf] at e; cases e
    have q2 : b ≠ c' := fun q => by rw [q, nc] at e; cases e
    rw [zz2 b q1, zz b q2] at q
    exact q
  · refine makeFunction_hit (mg := c.mg) hcl hg hgs hcode hCh hP ht hf (I.bat hzP) fun ctv doc h' tk hk hge => ?_
    have new : ∀ b, s.heap.objs.size ≤ b → s.heap.get? b = none := fun b hb => by
      cases q : s.heap.get? b with
      | none => rfl
      | some o => exact absurd (Heap.lt_size q) (Nat.not_lt.mpr hb)
    have nf := new _ hge
    have kk : Le s.heap (h'.push { cls := .type "function", data := .func (fnX name qual1 params body scope clos .none .none doc ((c.mg "__name__").getD .none) none (.ref c') ctv) }) := fun b o e => Heap.get?_push_of_some _ (hk b o e)
    obtain ⟨Z2, I2, g2, z2⟩ := I.newObj kk (Heap.get?_push_size _ rfl) nf (fun ps => fun_not_tab ps)
    exact h _ Z2 _ tk I2 g2 (Ext.of_le kk) nf ⟨_, doc, _, ctv, c', z2, rfl, hrec.keeps g2.1⟩

theorem make2 {c : Cx} {A : Around} {Z : Heap} {s : Shared} {env : Env} {params : Arguments} {body : List Stmt} {scope : Scope} {name : Str} {clos : List (Str × Addr)} {firstLine : Nat} {Q : Value → Shared → Prop} (I : Inv c Z s.heap) (hcl : closureFor scope env = pure clos) (hg : env.globals = mainGlobals) (hcode : env.code = .ref 27)
    (h : ∀ f Z' h' tk, Inv c Z' h' → Gr s.heap Z Z' → Ext s.heap h' → s.heap.get? f = none → Clo Z' f name qual2 params body scope clos → Q (.ref f) { s with heap := h', toks := tk }) :
    wpAny (model prog c.w) A (makeFunction name qual2 params (.stmts body) scope env [] [] [] pos2 firstLine) Q noE s := by
  obtain ⟨hzP, ps, hP, ht, hcase⟩ := I.t2
  have hgs := c.T.g.keeps (I.gnd.trans I.le)
  have hCh := c.C2.keeps (I.gnd.trans I.le)
  rcases hcase with hnf | ⟨c', hf, hrec⟩
  · refine makeFunction_K (mg := c.mg) hcl hg hgs hcode hCh hP ht hnf (by decide) (I.bat hzP) fun c' ctv doc h' tk hx hge hlt hrec htb => ?_
    obtain ⟨c2, oc, vs, t, e2, hoc, hd, hv⟩ := hrec
    cases e2
    generalize hF : fnMade name qual2 params body scope clos doc ((c.mg "__name__").getD .none) c' ctv = Fo
    have new : ∀ b, s.heap.objs.size ≤ b → s.heap.get? b = none := fun b hb => by
      cases q : s.heap.get? b with
      | none => rfl
      | some o => exact absurd (Heap.lt_size q) (Nat.not_lt.mpr hb)
    have nc := new c' hge
    have c16 : c' ≠ 23 := fun q => by rw [q, hP] at nc; cases nc
    obtain ⟨hz2, ps2, hP2, ht2, hcase2⟩ := I.t1
    have c23 : c' ≠ 16 := fun q => by rw [q, hP2] at nc; cases nc
    have up : ∀ b o, b ≠ 23 → s.heap.get? b = some o → (h'.push Fo).get? b = some o := fun b o hb e => Heap.get?_push_of_some _ (hx b o hb e)
    have le0 : Le Z (h'.push Fo) := fun b o e => up b o (fun q => by rw [q, hzP] at e; cases e) (I.le _ _ e)
    obtain ⟨Z1, l1, z1, zz⟩ := exists_put le0 (Heap.get?_push_of_some Fo hoc)
    have k1 : Le Z Z1 := fun b o e => by
      by_cases hb : b = c'
      · rw [hb, I.noZ nc] at e; cases e
      · rw [zz b hb]; exact e
    have I1 : Inv c Z1 (h'.push Fo) := by
      refine ⟨l1, I.gnd.trans k1, ⟨by rw [zz _ (Ne.symm c23)]; exact hz2, ps2, up _ _ (by decide) hP2, ht2, hcase2.imp id ?_⟩, ⟨by rw [zz _ (Ne.symm c16)]; exact hzP, _, Heap.get?_push_of_some _ htb, ?_, .inr ⟨c', ?_, c', oc, vs, t, rfl, z1, hd, hv⟩⟩⟩
      rotate_left
      · have := TriplesOk_snoc pos2.line pos2.col (.ref c') ps.toList ht
        simpa using this
      · have := codeAmong_snoc (pos := pos2) (c := .ref c') ps.toList ht hnf
        simpa using this
      · rintro ⟨c2, h5, h6⟩
        exact ⟨c2, h5, h6.keeps k1⟩
    have hfn : h'.objs.size ≥ s.heap.objs.size := Nat.le_of_lt (Nat.lt_of_le_of_lt hge hlt)
    have nf := new _ hfn
    have nf' : Z1.get? h'.objs.size = none := by rw [zz _ (Nat.ne_of_gt hlt)]; exact I.noZ nf
    have hFt : ∀ ps, Fo ≠ tabObj ps := fun ps => hF ▸ fun_not_tab ps
    obtain ⟨Z2, I2, k2, z2, zz2⟩ := I1.put (a := h'.objs.size) (o := Fo) (Heap.get?_push_size _ (by rw [← hF]; rfl)) nf' hFt
    refine h h'.objs.size Z2 (h'.push Fo) tk I2 ⟨k1.trans k2, fun b ob o' e q => ?_⟩ (fun b o _ b1 e => up b o b1 e) nf ⟨Fo, doc, _, ctv, c', z2, by rw [← hF], c', oc, vs, t, rfl, k2 _ _ z1, hd, hv⟩
    have q1 : b ≠ h'.objs.size := fun q => by rw [q, nf] at e; cases e
    have q2 : b ≠ c' := fun q => by rw [q, nc] at e; cases e
    rw [zz2 b q1, zz b q2] at q
    exact q
  · refine makeFunction_hit (mg := c.mg) hcl hg hgs hcode hCh hP ht hf (I.bat hzP) fun ctv doc h' tk hk hge => ?_
    have new : ∀ b, s.heap.objs.size ≤ b → s.heap.get? b = none := fun b hb => by
      cases q : s.heap.get? b with
      | none => rfl
      | some o => exact absurd (Heap.lt_size q) (Nat.not_lt.mpr hb)
    have nf := new _ hge
    have kk : Le s.heap (h'.push { cls := .type "function", data := .func (fnX name qual2 params body scope clos .none .none doc ((c.mg "__name__").getD .none) none (.ref c') ctv) }) := fun b o e => Heap.get?_push_of_some _ (hk b o e)
    obtain ⟨Z2, I2, g2, z2⟩ := I.newObj kk (Heap.get?_push_size _ rfl) nf (fun ps => fun_not_tab ps)
    exact h _ Z2 _ tk I2 g2 (Ext.of_le kk) nf ⟨_, doc, _, ctv, c', z2, rfl, hrec.keeps g2.1⟩
end
end Hf
end

section
open PySem PySem.W PyProof.Rows PySem.Calls PySem.Spec
namespace Hf
set_option autoImplicit false
set_option maxRecDepth 100000
set_option linter.unusedSectionVars false

section
variable [TheW] {b : Nat} {sc : Scope}
/-- a new list, `[x] * n` -/
theorem evn_mul {l r : Expr} {f g : Fe} {pos : Pos} (hl : EvOK b sc l f) (hr : EvOK b sc r g) : EvN b sc (.BinOp l .Mult r pos) (eBin mulL f g) := by
  intro c A env Z oa s o σ d Q rm he ho F hf P
  obtain ⟨x, y, h1, h2, h3⟩ := eBin_some hf
  refine wpAny_BinOp (two hl hr rm he ho F h1 h2 fun v u Z' h' tk' I g' x' r1 r2 => ?_)
  unfold mulL at h3
  split at h3
  · rename_i xs n
    split at h3
    · rename_i hc
      cases h3
      rw [Bool.and_eq_true] at hc
      have h1 := smallI_le hc.1
      have h2 := Nat.le_of_ble_eq_true hc.2
      obtain ⟨t, rfl⟩ := r2.int_inv
      obtain ⟨l, ⟨cls, dd, data, sl⟩, items, k, rfl, e, hcl, hd, q⟩ := r1.list_inv
      simp only at hcl hd
      subst hcl hd
      have ho := I.le _ _ e
      have hz : items.size = xs.length := by rw [← q.length, Array.length_toList]
      refine wpAny_binaryOp_repeat_ref (T := "list") (U := "int") (by decide) ⟨_, ho, rfl⟩ (fun s' => typeIs_int s' n t) noFill_list_mul PySem.F.fills_int_mul PySem.F.slot_int_rmul repeat_list PySem.F.slot_int_index.lookup
        (call_meets PySem.F.slot_int_rmul (typeIs_int _ n t) PySem.F.entry_int_rmul (PySem.F.args_int_rmul_2 _ _) (lm_int_rmul_list_any n t l items k dd sl)
          ⟨ho, rfl, ⟨_, ho, rfl⟩, call_meets PySem.F.slot_list_mul ⟨_, ho, rfl⟩ PySem.F.entry_list_mul (PySem.F.args_list_mul_2 _ _)
            (lm_list_mul_any l items k dd sl n t (by simp [Builtin.List.listFitsIndex]; omega) (by rw [hz]; omega) (by rw [hz]; simp [Builtin.List.listTooLong, sizeLine]; omega)) ⟨ho, ?_⟩⟩)
      have hn : s.heap.get? h'.objs.size = none := by
        cases q : s.heap.get? h'.objs.size with
        | none => rfl
        | some ob =>
          have nt : h'.objs.size ≠ 16 ∧ h'.objs.size ≠ 23 := by
            obtain ⟨ps, e1⟩ := I.tab16
            obtain ⟨ps', e2⟩ := I.tab23
            exact ⟨Nat.ne_of_gt (Heap.lt_size e1), Nat.ne_of_gt (Heap.lt_size e2)⟩
          exact absurd (Heap.lt_size (x' _ _ nt.1 nt.2 q)) (Nat.lt_irrefl _)
      refine P _ Z' _ tk' (I.keep (push_le _ _)) g' (x'.trans (Ext.of_le (push_le _ _))) hn (I.noZ (get_new _)) (.inl ⟨_, _, rfl, ⟨_, 0, Heap.get?_push_size _ rfl, rfl, rfl, rfl⟩, ?_⟩)
      by_cases hem : items.isEmpty = true
      · rw [if_pos hem]
        have h0 : xs = [] := by
          have : items.size = 0 := by simpa [Array.isEmpty] using hem
          rw [hz] at this
          exact List.length_eq_zero_iff.mp this
        subst h0
        have : repL n.toNat ([] : List PyData) = [] := by simp [repL]
        rw [this]
        exact .nil
      · rw [if_neg hem]
        simpa using rep_reps q n.toNat #[] [] .nil
    · cases h3
  · cases h3

/-- a cell of no number of ours is turned -/
theorem Fm.recell {c : Cx} {Z h h' : Heap} {env : Env} {σ : Sg} {o : Nat} {oa a : Addr} {x : Str} {v : Option Value} (F : Fm c Z h env σ o oa) (hm : Mine env x a) (hx : ∀ i d, σ i = some d → nm i ≠ x) (hs : Heap.SameBut a h h') (hc : h'.IsCell a v) : Fm c Z h' env σ o oa := by
  obtain ⟨c1, c2, c3, v₀, c4⟩ := F.cells _ _ hm
  have nt := F.inv.cell_not c4
  have I' := F.inv.turn hs c1 nt.1 nt.2
  have hown : o ≠ 0 → ∀ ob, h.get? oa = some ob → h'.get? oa = some ob := fun q ob e => (hs.2 oa (Ne.symm (c3 q))).trans e
  obtain ⟨m, hn, hv⟩ := F.loc
  refine ⟨I', F.dom, F.nL, ⟨m, hn.sameBut hs (Ne.symm c2), fun j e hj hk => ?_⟩, fun j e hj hk => ?_, fun j e hj hk => ?_, fun y a' e => ?_, F.apart, fun q => ?_⟩
  · obtain ⟨v', e1, e2⟩ := hv j e hj hk
    exact ⟨v', e1, e2.keep (Le.refl _) hown (F.dom j e hj).1⟩
  · obtain ⟨a', v', e1, e2, e3⟩ := F.cel j e hj hk
    have hne : a' ≠ a := fun q => hx j e hj (F.apart _ _ _ (q ▸ (⟨hk, e1⟩ : Mine env (nm j) a')) hm)
    exact ⟨a', v', e1, e2.sameBut hs hne, e3.keep (Le.refl _) hown (F.dom j e hj).1⟩
  · obtain ⟨a', v', e1, e2, e3⟩ := F.fre j e hj hk
    exact ⟨a', v', e1, e2, e3.keep (Le.refl _) hown (F.dom j e hj).1⟩
  · obtain ⟨e1, e2, e3, v', e4⟩ := F.cells y a' e
    by_cases q : a' = a
    · subst q; exact ⟨e1, e2, e3, _, hc⟩
    · exact ⟨e1, e2, e3, v', e4.sameBut hs q⟩
  · obtain ⟨e1, e2, d', e3⟩ := F.own q
    exact ⟨e1, e2, d', e3.keep (Le.refl _) (hown q)⟩

noncomputable def eLenOwn (i : Nat) : Fe := fun o σ => if i = o then (σ i).bind fun a => match a with
  | .list xs => if lenOK xs.length then some (.int xs.length) else none
  | _ => none else none
theorem ev_lenOwn {x : Str} {i : Nat} {np p pos : Pos} (hn : NamesOwn sc x i) (hx : sc.names.lookup ("len" : Str) = some .globalImplicit) (hst : ∀ env, starEach [.Name x p] env = (false, eval (.Name x p) env) :: starEach [] env) (hp : ∀ env, (backTo pos (starEach [] env)).any (·.1) = false) :
    EvOK b sc (.Call (.Name "len" np) [.Name x p] [] pos) (eLenOwn i) := by
  intro c A env Z oa s o σ d Q rm he ho F hf P
  unfold eLenOwn at hf
  split at hf
  · rename_i hio
    subst hio
    obtain ⟨a, q1, hf⟩ := Option.bind_eq_some_iff.mp hf
    split at hf
    · rename_i xs
      split at hf
      · rename_i hsz
        cases hf
        refine wpAny_Call_ofName (name_boot glob_len boot_len (by decide) hx (by decide) F.inv he ho ?_)
        refine callWith_builtin1 (args_cons (hn c A env Z oa s σ _ p _ he ho F q1 fun hO _ => args_nil ?_) (hst env)) (hst env) (hp env)
        rcases hO with ⟨xs2, vs, hx2, ⟨ob, n, e, hc, _, hd⟩, rr⟩ | ⟨kvs, ys, hx2, _⟩
        · cases hx2
          have hl : vs.size = xs.length := by rw [← rr.length, Array.length_toList]
          have hs := lenOK_le hsz
          have : sizeLine = 16777216 := rfl
          refine call_len_list ⟨ob, e, hc, n, hd⟩ (by omega) ?_
          rw [hl]
          exact P.imm F.inv (.int _ _) _
        · cases hx2
      · cases hf
    · cases hf
  · cases hf
end
end Hf
end

section
open PySem PySem.W PyProof.Rows PySem.Calls PySem.Spec
namespace Hf
set_option autoImplicit false
set_option maxRecDepth 100000
set_option linter.unusedSectionVars false

section
variable [TheW]
theorem def1 : DefSc (scopeAt 1) := ⟨rfl, by decide +kernel, by decide +kernel⟩
noncomputable def oneA : Fs := fOwn 38 (eBin mulL (eLst (lCons (eLit (.int 0)) lNil)) (eBin fdivD (eBin subD (eBin addD (eUn bitsD (eVar 36)) (eVar 37)) (eLit (.int 1))) (eVar 37)))
theorem one_a : StOK 0 (scopeAt 1) (stAt 1 0) oneA :=
  st_own (storeOwn_cell 38 rfl (by decide) rfl) (evn_mul (ev_lst (evs_cons (ev_int 0) evs_nil (fun _ => rfl))) (ev_bin fdiv_ok (ev_bin sub_ok (ev_bin add_ok (ev_bits (ev_local 36 rfl rfl rfl) (fun _ => ⟨_, rfl⟩)) (ev_cell 37 rfl rfl rfl)) (ev_int 1)) (ev_cell 37 rfl rfl rfl))) (fun _ => rfl)
noncomputable def thenArgs : Stmt → List Expr
  | .If _ [.Expr (.Call _ es _ _) _] _ _ => es
  | _ => []
noncomputable def oneArgs : Fl := lCons (eVar 36) (lCons (eLit (.int 0)) (lCons (eLenOwn 38) lNil))
theorem one_args : EvsOK 0 (scopeAt 1) (thenArgs (stAt 1 2)) oneArgs :=
  evs_cons (ev_local 36 rfl rfl rfl) (evs_cons (ev_int 0) (evs_cons (ev_lenOwn (own_cell 38 rfl rfl rfl) rfl (fun _ => rfl) (fun _ => rfl)) evs_nil (fun _ => rfl)) (fun _ => rfl)) (fun _ => rfl)
noncomputable def F_int2digits : List PyData → Option PyData
  | [.int a, .int n] => if n = 1 then (match oneA 0 (bindSg [36, 37] [.int a, .int n] fun _ => none) with
    | some (.next 38 σ) => (match σ 38 with
      | some (.list xs) => if lenOK xs.length then (if a = 0 then some (.list xs) else (in1 4 a 0 xs.length xs).map .list) else none
      | _ => none)
    | _ => none) else none
  | _ => none
theorem dom1 : ∀ (a n : Int) (xs : List PyData) i d, ((bindSg [36, 37] [.int a, .int n] fun _ => none).put 38 (.list xs)) i = some d → nm i ≠ nm 39 := by
  intro a n xs i d e
  have : i = 38 ∨ i = 37 ∨ i = 36 := by
    show _
    unfold Sg.put at e
    by_cases q1 : i = 38
    · exact .inl q1
    rw [if_neg q1] at e
    have e' : (Sg.put (Sg.put (fun _ => none) 36 (.int a)) 37 (.int n)) i = some d := e
    unfold Sg.put at e'
    by_cases q2 : i = 37
    · exact .inr (.inl q2)
    rw [if_neg q2] at e'
    by_cases q3 : i = 36
    · exact .inr (.inr q3)
    rw [if_neg q3] at e'
    cases e'
  rcases this with rfl | rfl | rfl <;> decide

theorem fn_int2digits : FnOK 20 21 F_int2digits := by
  intro c A Z s vs ds d Q rm I r hf P
  unfold F_int2digits at hf
  split at hf
  rotate_left
  · cases hf
  rename_i a n
  split at hf
  rotate_left
  · cases hf
  rename_i hn1
  subst hn1
  split at hf
  rotate_left
  · cases hf
  rename_i σ hA
  split at hf
  rotate_left
  · cases hf
  rename_i xs hxs
  split at hf
  rotate_left
  · cases hf
  rename_i hlen
  obtain ⟨o, h1, h2⟩ : ∃ o, (hfHead.heap_39 c.w.params).lookup 21 = some o ∧ o.data = .func (docDef "_int2digits" (argsAt 1) (bodyAt 1) (scopeAt 1) (.str "cpy313._pylong" 187) (.ref 20) .none) := ⟨_, rfl, rfl⟩
  obtain ⟨oc, cvs, t, h3, h4, h5⟩ : ∃ o vs t, (hfHead.heap_39 c.w.params).lookup 20 = some o ∧ o.data = .fields vs ∧ vs[1]? = some (.str "_int2digits" t) := ⟨_, _, _, rfl, rfl, rfl⟩
  obtain ⟨v1, v2, rfl⟩ : ∃ v u, vs = [v, u] := by
    match vs, r.length with
    | [v, u], _ => exact ⟨v, u, rfl⟩
  have kin := I.kin
  refine wpAny_call (call_cells (binds := ([36, 37].map nm).zip [v1, v2]) (rm.mono (Nat.zero_le _)).depth (kin _ _ h1) h2 (c.noLim I) ⟨20, oc, cvs, t, rfl, kin _ _ h3, h4, h5⟩ rfl (fun x hx => ?_) (fun h₁ tk Fr0 X => ?_) rfl rfl rfl)
  · simp only [List.map_cons, List.map_nil, List.zip_cons_cons, List.zip_nil_right, List.mem_cons, List.not_mem_nil, or_false] at hx
    rcases hx with rfl | rfl
    · exact .inl rfl
    · exact .inr ⟨rfl, cellsFrom_some (x := nm 37) (scopeAt 1).names _ [] (.inl rfl)⟩
  have F0 := def_frame (a := 21) (name := "_int2digits") (cd := .ref 20) (is := [36, 37]) (ds := [.int a, .int 1]) def1 I rfl (by decide) (by decide) r rfl Fr0 X
  have rmD : Room 19 (A.deeper (envOfC "_int2digits" (scopeAt 1) s.heap.objs.size 21 (.ref 20))) := rm.deeper
  have rm0 := rmD.mono (Nat.zero_le _)
  have ho : EnvOK (envOfC "_int2digits" (scopeAt 1) s.heap.objs.size 21 (.ref 20)) := def1.envOK
  have hqual : (envOfC "_int2digits" (scopeAt 1) s.heap.objs.size 21 (.ref 20)).qual ++ nm 39 = qual1 := show (("_int2digits" : Str) ++ ".<locals>.") ++ nm 39 = qual1 from by decide
  have hcode : (envOfC "_int2digits" (scopeAt 1) s.heap.objs.size 21 (.ref 20)).code = .ref 20 := rfl
  have hsc : (envOfC "_int2digits" (scopeAt 1) s.heap.objs.size 21 (.ref 20)).scope = scopeAt 1 := rfl
  have hloc : (envOfC "_int2digits" (scopeAt 1) s.heap.objs.size 21 (.ref 20)).locals = s.heap.objs.size := rfl
  have hcel : ∀ x a, (envOfC "_int2digits" (scopeAt 1) s.heap.objs.size 21 (.ref 20)).cells.lookup x = some a → s.heap.objs.size < a := fun x a e => X.above x a (mem_of_lookup e)
  refine wpE ?_
  generalize envOfC "_int2digits" (scopeAt 1) s.heap.objs.size 21 (.ref 20) = env at F0 rmD rm0 ho hqual hcode hsc hloc hcel ⊢
  have new : ∀ b, s.heap.objs.size ≤ b → s.heap.get? b = none := fun b hb => by
    cases q : s.heap.get? b with
    | none => rfl
    | some o => exact absurd (Heap.lt_size q) (Nat.not_lt.mpr hb)
  have nL : s.heap.get? env.locals = none := by rw [hloc]; exact new _ (Nat.le_refl _)
  have nC : ∀ x a, Mine env x a → s.heap.get? a = none := fun x a hm => new _ (Nat.le_of_lt (hcel x a hm.2))
  have hσ : σ = (bindSg [36, 37] [.int a, .int 1] fun _ => none).put 38 (.list xs) := by
    obtain ⟨_, dd, _, q⟩ := fOwn_some hA
    cases q
    have : dd = .list xs := Option.some.inj hxs
    rw [this]
  rw [show bodyAt 1 = [stAt 1 0, stAt 1 1, stAt 1 2, stAt 1 3] from rfl]
  refine one_a.then rm0 hsc ho F0 hA fun Z1 h1' tk1 oa F1 w1 => ?_
  rw [hσ] at F1
  -- old things stand
  have K1 : ∀ b ob, b ≠ 16 → b ≠ 23 → s.heap.get? b = some ob → h1'.get? b = some ob := fun b ob b1 b2 e => w1.keep b ob (fun hm => by
    rcases hm with q | ⟨x, q⟩ | ⟨q, _⟩
    · rw [q, nL] at e; cases e
    · rw [nC x b q] at e; cases e
    · exact q rfl) b1 b2 (Fr0.keep _ _ e)
  have G1 : Gr s.heap Z Z1 := ⟨w1.gr.1, fun b ob o' e q => w1.gr.2 b ob o' (fun q => absurd rfl q) (Fr0.keep _ _ e) q⟩
  have nO : s.heap.get? oa = none := by
    rcases w1.own (by decide) with ⟨q, _⟩ | q
    · exact absurd rfl q
    · cases q' : s.heap.get? oa with
      | none => rfl
      | some ob => rw [Fr0.keep _ _ q'] at q; cases q
  have k38 : env.kindOf (nm 38) = some .cell := by unfold Env.kindOf; rw [hsc]; rfl
  have k39 : env.kindOf (nm 39) = some .cell := by unfold Env.kindOf; rw [hsc]; rfl
  have k37 : env.kindOf (nm 37) = some .cell := by unfold Env.kindOf; rw [hsc]; rfl
  have k36 : env.kindOf (nm 36) = some .local := by unfold Env.kindOf; rw [hsc]; rfl
  -- the def
  rw [show stAt 1 1 = .FunctionDef (nm 39) (iargs 1 1) (ibody 1 1) [] none [] sc1 none (nm 39) pos1 from rfl]
  have hfree : ∀ x ∈ sc1.names, x.2 = .free → ∃ a, env.cells.lookup x.1 = some a := fun x hx hf => by
    rcases free1 x hx hf with q | q | q
    · rw [q]; exact ho.cov _ (.inl k38)
    · rw [q]; exact ho.cov _ (.inl k39)
    · rw [q]; exact ho.cov _ (.inl k37)
  refine wpAny_execs_cons (nestDef_K rfl rfl rfl ?_)
  rw [show qualnameIn env (nm 39) (nm 39) = qual1 from by unfold qualnameIn; rw [k39]; exact hqual]
  refine make1 F1.inv (closure_eq hfree) ho.globals hcode fun f Z2 h2' tk2 I2 g2 x2 nf hClo => ?_
  have F2 := F1.ext I2 g2 x2
  obtain ⟨ci, hci⟩ := ho.cov _ (.inl k39)
  have mci : Mine env (nm 39) ci := ⟨k39, hci⟩
  obtain ⟨zci, _, oci, v₀, cci⟩ := F2.cells _ _ mci
  refine wpAny_storeName_cell ho.kind k39 hci cci fun h3' hc3 hs3 => ?_
  have F3 := F2.recell mci (dom1 a 1 xs) hs3 hc3
  have K3 : ∀ b ob, b ≠ 16 → b ≠ 23 → s.heap.get? b = some ob → h3'.get? b = some ob := fun b ob b1 b2 e =>
    (hs3.2 b fun q => by rw [q, nC _ _ mci] at e; cases e).trans (x2 b ob b1 b2 (K1 b ob b1 b2 e))
  have G3 : Gr s.heap Z Z2 := G1.trans K1 g2 I2.noTab
  have finish : ∀ Z' h' tk ys, Inv c Z' h' → Gr s.heap Z Z' → Ext s.heap h' → OwnAt Z' h' oa (.list ys) → Z'.get? oa = none → d = .list ys → Q (.ref oa) { s with heap := h', toks := tk } := fun Z' h' tk ys I' G' K' O' z' e => by
    obtain ⟨Z'', I'', k'', r'', zz⟩ := O'.freeze I' z'
    refine P _ Z'' h' tk I'' ⟨G'.1.trans k'', fun b ob o' hb q => ?_⟩ K' (e ▸ r'')
    rw [zz b (fun q => by rw [q, nO] at hb; cases hb)] at q
    exact G'.2 b ob o' hb q
  have h2if : stAt 1 2 = .If (.Name (nm 36) ⟨15, 7, 15, 8⟩) [.Expr (.Call (.Name (nm 39) ⟨16, 8, 16, 13⟩) (thenArgs (stAt 1 2)) [] ⟨16, 8, 16, 34⟩) ⟨16, 8, 16, 34⟩] [] ⟨15, 4, 16, 34⟩ := rfl
  have h3ret : stAt 1 3 = .Return (some (.Name (nm 38) ⟨17, 11, 17, 19⟩)) ⟨17, 4, 17, 19⟩ := rfl
  rw [h2if, h3ret]
  obtain ⟨m, hns, hv⟩ := F3.loc
  obtain ⟨v36, e36, r36⟩ := hv 36 (.int a) rfl k36
  rcases r36 with ⟨_, r36⟩ | ⟨q, _⟩
  rotate_left
  · exact absurd q (by decide)
  obtain ⟨ta, rfl⟩ := r36.int_inv
  refine wpAny_execs_cons (wpAny_If (wpAny_isTrue_value (wpAny_Name (wpAny_loadName_local ho.kind k36 hns e36 (truthy_int ?_)) (by decide)) rfl))
  obtain ⟨ca, v38, hca, cca, o38⟩ := F3.cel 38 (.list xs) rfl k38
  rcases o38 with ⟨q, _⟩ | ⟨_, rfl, own3⟩
  · exact absurd rfl q
  by_cases ha0 : a = 0
  · rw [if_pos ha0] at hf
    rw [if_neg (by simp [ha0])]
    refine wpAny_execs_nil (wpAny_execs_cons (wpAny_Return_some (wpAny_Name (wpAny_loadName_cell ho.kind k38 hca cca ?_) (by decide))))
    exact finish Z2 h3' _ xs F3.inv G3 K3 own3 (F3.own (by decide)).1 (Option.some.inj hf).symm
  · rw [if_neg ha0] at hf
    obtain ⟨ys, hin, hd⟩ := Option.map_eq_some_iff.mp hf
    rw [if_pos (by simpa using ha0)]
    have hargs : oneArgs 38 ((bindSg [36, 37] [.int a, .int 1] fun _ => none).put 38 (.list xs)) = some [.int a, .int 0, .int xs.length] := by
      have e3 : eLenOwn 38 38 ((bindSg [36, 37] [.int a, .int 1] fun _ => none).put 38 (.list xs)) = some (.int xs.length) := by
        show (if lenOK xs.length then some (PyData.int xs.length) else none) = _
        rw [if_pos hlen]
      show ((some (PyData.int a)).bind fun x => (((some (PyData.int 0)).bind fun y => ((eLenOwn 38 38 ((bindSg [36, 37] [.int a, .int 1] fun _ => none).put 38 (.list xs))).bind fun z => (some [] : Option (List PyData)).bind fun r => some (z :: r)).bind fun r => some (y :: r))).bind fun r => some (x :: r)) = _
      rw [e3]
      rfl
    have hint : interactive env = false := by unfold interactive; rw [hsc]; rfl
    refine wpAny_execs_cons (wpAny_Expr ?_ hint rfl)
    refine wpAny_Call_ofName (wpAny_Name (wpAny_loadName_cell ho.kind k39 hci hc3 ?_) (by decide))
    obtain ⟨foc, fod, ffd, fsl, fe⟩ := hClo.fnAt
    refine callWith_F ⟨foc, fod, ffd, fsl, F3.inv.le _ _ fe⟩ (one_args c _ env Z2 oa _ 38 _ _ ⟨16, 8, 16, 34⟩ _ rm0 hsc ho F3 hargs fun vs Z6 h6 tk6 I6 g6 x6 r6 => ⟨⟨foc, fod, ffd, fsl, I6.le _ _ (g6.1 _ _ fe)⟩, ?_⟩) rfl rfl
    obtain ⟨u1, u2, u3, rfl⟩ := ints3 r6
    have F6 := F3.ext I6 g6 x6
    obtain ⟨ca', v38', hca', cca', o38'⟩ := F6.cel 38 (.list xs) rfl k38
    rw [hca] at hca'; cases hca'
    rcases o38' with ⟨q, _⟩ | ⟨_, rfl, own6⟩
    · exact absurd rfl q
    obtain ⟨cn, v37, hcn, ccn, o37⟩ := F6.cel 37 (.int 1) rfl k37
    rcases o37 with ⟨_, r37⟩ | ⟨q, _⟩
    rotate_left
    · exact absurd q (by decide)
    obtain ⟨tn, rfl⟩ := r37.int_inv
    have nci := F3.inv.cell_not hc3
    obtain ⟨oci', eci, dci⟩ := hc3
    have eci6 := x6 _ _ nci.1 nci.2 eci
    obtain ⟨oca, eca, dca⟩ := cca'
    obtain ⟨ocn, ecn, dcn⟩ := ccn
    have mca : Mine env (nm 38) ca := ⟨k38, hca⟩
    have mcn : Mine env (nm 37) cn := ⟨k37, hcn⟩
    have dac : ca ≠ cn := fun q => absurd (F6.apart _ _ _ (q ▸ mca) mcn) (by decide)
    have dai : ca ≠ ci := fun q => absurd (F6.apart _ _ _ (q ▸ mca) mci) (by decide)
    have dni : cn ≠ ci := fun q => absurd (F6.apart _ _ _ (q ▸ mcn) mci) (by decide)
    obtain ⟨Za, Ia, ka, za, zza⟩ := I6.put eca (F6.cells _ _ mca).1 (fun ps q => by rw [q] at dca; cases dca)
    obtain ⟨Zb, Ib, kb, zb, zzb⟩ := Ia.put ecn (by rw [zza _ (Ne.symm dac)]; exact (F6.cells _ _ mcn).1) (fun ps q => by rw [q] at dcn; cases dcn)
    obtain ⟨Zc, Ic, kc, zc, zzc⟩ := Ib.put eci6 (by rw [zzb _ (Ne.symm dni), zza _ (Ne.symm dai)]; exact (F6.cells _ _ mci).1) (fun ps q => by rw [q] at dci; cases dci)
    have kabc : Le Z6 Zc := ka.trans (kb.trans kc)
    have oac := (F6.cells _ _ mca).2.2.1 (by decide)
    have onc := (F6.cells _ _ mcn).2.2.1 (by decide)
    have oic := (F6.cells _ _ mci).2.2.1 (by decide)
    have zO : Zc.get? oa = none := by
      rw [zzc _ (Ne.symm oic), zzb _ (Ne.symm onc), zza _ (Ne.symm oac)]
      exact (F6.own (by decide)).1
    have look : ∀ i a', (nm i, NameKind.free) ∈ sc1.names → env.cells.lookup (nm i) = some a' → (clOf env sc1.names []).lookup (nm i) = some a' := fun i a' hm e => by
      obtain ⟨a2, e2⟩ := clOf_has sc1.names [] (fun _ _ e => nomatch e) hfree _ hm rfl
      have := clOf_some sc1.names [] (fun _ _ e => nomatch e) _ _ e2
      rw [e] at this; cases this
      exact e2
    have hIn : In1 Zc f oa := ⟨_, (hClo.le g6.1).le kabc, ⟨ca, look 38 ca (by decide +kernel) hca, oca, kc _ _ (kb _ _ za), dca⟩, ⟨ci, look 39 ci (by decide +kernel) hci, oci', zc, dci⟩, ⟨cn, tn, look 37 cn (by decide +kernel) hcn, ocn, kc _ _ zb, dcn⟩⟩
    refine inner1_ok 4 (rmD.mono (by decide)) Ic hIn (own6.keep kabc fun _ e => e) zO hin fun Z7 h7 tk7 H7 own7 z7 => wpAny_execs_nil ?_
    refine wpAny_execs_cons (wpAny_Return_some (wpAny_Name (wpAny_loadName_cell ho.kind k38 hca ⟨oca, H7.1.le _ _ (H7.2.1.1 _ _ (kc _ _ (kb _ _ za))), dca⟩ ?_) (by decide)))
    have K6 : Ext s.heap h6 := fun b ob b1 b2 e => x6 b ob b1 b2 (K3 b ob b1 b2 e)
    refine finish Z7 h7 _ ys H7.1 ⟨?_, fun b ob o' e q => ?_⟩ (fun b ob b1 b2 e => H7.2.2 b ob (fun q => by rw [q, nO] at e; cases e) b1 b2 (K6 b ob b1 b2 e)) own7 z7 hd.symm
    · exact G3.1.trans (g6.1.trans (kabc.trans H7.2.1.1))
    · by_cases b1 : b = 16
      · rw [H7.1.noTab b (.inl b1)] at q; cases q
      by_cases b2 : b = 23
      · rw [H7.1.noTab b (.inr b2)] at q; cases q
      have q7 := H7.2.1.2 b ob o' (K6 b ob b1 b2 e) q
      rw [zzc b (fun q => by rw [q, nC _ _ mci] at e; cases e), zzb b (fun q => by rw [q, nC _ _ mcn] at e; cases e), zza b (fun q => by rw [q, nC _ _ mca] at e; cases e)] at q7
      exact G3.2 b ob o' e (g6.2 b ob o' (K3 b ob b1 b2 e) q7)
end
end Hf
end

section
open PySem PySem.W PyProof.Rows PySem.Calls PySem.Spec
namespace Hf
set_option autoImplicit false
set_option maxRecDepth 100000
set_option linter.unusedSectionVars false

section
variable [TheW]
noncomputable abbrev sc2 : Scope := iscope 2 0
noncomputable def in2T : Fb := bCmp (cmpD .Eq) (eBin addD (eVar 41) (eLit (.int 1))) (eVar 42)
theorem in2_test : TsOK 0 sc2 (testOf (ist 2 0 0)) in2T := ts_cmp (cmp_ok .Eq) (ev_bin add_ok (ev_local 41 rfl rfl rfl) (ev_int 1)) (ev_local 42 rfl rfl rfl) rfl
theorem in2_get : StOK 0 sc2 (thenOf 0 (ist 2 0 0)) (fRet (eBin subD' (eVar 47) (eVar 41))) := st_ret (ev_sub (ev_free 47 rfl rfl rfl rfl) (ev_local 41 rfl rfl rfl) rfl)
theorem in2_mid : StOK 0 sc2 (ist 2 0 1) inMid := st_set (store_local 43 rfl (by decide) rfl) (ev_bin shr_ok (ev_bin add_ok (ev_local 41 rfl rfl rfl) (ev_local 42 rfl rfl rfl)) (ev_int 1)) (fun _ => rfl)
theorem in2_shift : StOK 0 sc2 (ist 2 0 2) inShift := st_set (store_local 44 rfl (by decide) rfl) (ev_bin mul_ok (ev_bin sub_ok (ev_local 43 rfl rfl rfl) (ev_local 41 rfl rfl rfl)) (ev_free 37 rfl rfl rfl rfl)) (fun _ => rfl)
noncomputable def call1 : Stmt → List Expr
  | .Return (some (.BinOp (.BinOp (.Call _ es _ _) _ _ _) _ _ _)) _ => es
  | _ => []
noncomputable def call2 : Stmt → List Expr
  | .Return (some (.BinOp _ _ (.Call _ es _ _) _)) _ => es
  | _ => []
noncomputable def shOf : Stmt → Expr
  | .Return (some (.BinOp (.BinOp _ _ e _) _ _ _)) _ => e
  | _ => .Constant .none 0 default
theorem in2_a1 : EvsOK 0 sc2 (call1 (ist 2 0 3)) (lCons (eVar 43) (lCons (eVar 42) lNil)) := evs_cons (ev_local 43 rfl rfl rfl) (evs_cons (ev_local 42 rfl rfl rfl) evs_nil (fun _ => rfl)) (fun _ => rfl)
theorem in2_a2 : EvsOK 0 sc2 (call2 (ist 2 0 3)) (lCons (eVar 41) (lCons (eVar 43) lNil)) := evs_cons (ev_local 41 rfl rfl rfl) (evs_cons (ev_local 43 rfl rfl rfl) evs_nil (fun _ => rfl)) (fun _ => rfl)
theorem in2_sh : EvOK 0 sc2 (shOf (ist 2 0 3)) (eVar 44) := ev_local 44 rfl rfl rfl

noncomputable def σ2 (L R : Int) (ds : List PyData) : Sg := Sg.put (Sg.put (Sg.put (Sg.put (fun _ => none) 37 (.int 1)) 47 (.list ds)) 41 (.int L)) 42 (.int R)
noncomputable def in2 : Nat → Int → Int → List PyData → Option Int
  | 0, _, _, _ => none
  | k + 1, L, R, ds =>
    if L + 1 = R then (match subD' (.list ds) (.int L) with
      | some (.int d) => some d
      | _ => none)
    else
      if smallI (midI L R - L) && decide (0 ≤ (midI L R - L) * 1) && smallI ((midI L R - L) * 1) then
        (in2 k (midI L R) R ds).bind fun hi => if smallI hi then (in2 k L (midI L R) ds).bind fun lo => some (hi * 2 ^ ((midI L R - L) * 1).toNat + lo) else none
      else none
noncomputable def In2 (Z : Heap) (f : Addr) (ds : List PyData) : Prop := ∃ cl, Clo Z f "inner" qual2 (iargs 2 0) (ibody 2 0) sc2 cl ∧ (∃ a v, cl.lookup (nm 47) = some a ∧ Z.IsCell a (some v) ∧ Rep Z v (.list ds)) ∧
  (∃ a, cl.lookup (nm 39) = some a ∧ Z.IsCell a (some (.ref f))) ∧ (∃ a t, cl.lookup (nm 37) = some a ∧ Z.IsCell a (some (.int 1 t)))
theorem In2.le {Z Z' : Heap} {f : Addr} {ds : List PyData} (x : In2 Z f ds) (k : Le Z Z') : In2 Z' f ds := by
  obtain ⟨cl, h1, ⟨a, v, h2, h2', h2''⟩, ⟨b, h3, h3'⟩, ⟨d, t, h4, h4'⟩⟩ := x
  exact ⟨cl, h1.le k, ⟨a, v, h2, isCell_le k h2', h2''.le k⟩, ⟨b, h3, isCell_le k h3'⟩, ⟨d, t, h4, isCell_le k h4'⟩⟩
theorem free2 : ∀ p ∈ sc2.names, p.2 = .free → p.1 = nm 47 ∨ p.1 = nm 39 ∨ p.1 = nm 37 := by decide +kernel
theorem nocell2 : ∀ p ∈ sc2.names, p.2 ≠ .cell := by decide +kernel
theorem env2_ok {L f c' : Addr} {cl : List (Str × Addr)} (h47 : ∃ a, cl.lookup (nm 47) = some a) (h39 : ∃ a, cl.lookup (nm 39) = some a) (h37 : ∃ a, cl.lookup (nm 37) = some a) : EnvOK (envI qual2 sc2 L f c' cl) where
  kind := rfl
  globals := rfl
  builtins := rfl
  cov := fun x hx => by
    rcases hx with q | q
    · exact absurd rfl (nocell2 _ (mem_of_lookup q))
    · rcases free2 _ (mem_of_lookup q) rfl with r | r | r
      · rw [show x = nm 47 from r]; exact h47
      · rw [show x = nm 39 from r]; exact h39
      · rw [show x = nm 37 from r]; exact h37
theorem frame2 {c : Cx} {Z h h₁ : Heap} {f c' : Addr} {cl : List (Str × Addr)} {L R : Int} {t2 t3 : Tok} {ds : List PyData} (I : Inv c Z h) (k : Le h h₁)
    (hns : h₁.Ns h.objs.size (fun y => ([(nm 41, .int L t2), (nm 42, .int R t3)] : List (Str × Value)).reverse.lookup y))
    (h47 : ∃ a v, cl.lookup (nm 47) = some a ∧ Z.IsCell a (some v) ∧ Rep Z v (.list ds)) (h37 : ∃ a t, cl.lookup (nm 37) = some a ∧ Z.IsCell a (some (.int 1 t))) :
    Fm c Z h₁ (envI qual2 sc2 h.objs.size f c' cl) (σ2 L R ds) 0 0 := by
  have nL : h.get? h.objs.size = none := get_new h
  have cases1 : ∀ i d, σ2 L R ds i = some d → (i = 42 ∧ d = .int R) ∨ (i = 41 ∧ d = .int L) ∨ (i = 47 ∧ d = .list ds) ∨ (i = 37 ∧ d = .int 1) := by
    intro i d e
    unfold σ2 Sg.put at e
    by_cases q1 : i = 42
    · simp [q1] at e; exact .inl ⟨q1, e.symm⟩
    by_cases q2 : i = 41
    · simp [q2] at e; exact .inr (.inl ⟨q2, e.symm⟩)
    by_cases q3 : i = 47
    · simp [q3] at e; exact .inr (.inr (.inl ⟨q3, e.symm⟩))
    by_cases q5 : i = 37
    · simp [q5] at e; exact .inr (.inr (.inr ⟨q5, e.symm⟩))
    · simp [q1, q2, q3, q5] at e
  refine ⟨I.keep k, fun i d e => ?_, I.noZ nL, ⟨_, hns, fun i d e hk => ?_⟩, fun i d e hk => ?_, fun i d e hk => ?_, fun y a e => ?_, fun y z a e1 e2 => ?_, fun q => absurd rfl q⟩
  · rcases cases1 i d e with ⟨q, _⟩ | ⟨q, _⟩ | ⟨q, _⟩ | ⟨q, _⟩ <;> subst q <;> decide
  · rcases cases1 i d e with ⟨rfl, rfl⟩ | ⟨rfl, rfl⟩ | ⟨rfl, rfl⟩ | ⟨rfl, rfl⟩
    · exact ⟨.int R t3, rfl, .inl ⟨by decide, .int _ _⟩⟩
    · exact ⟨.int L t2, rfl, .inl ⟨by decide, .int _ _⟩⟩
    · cases (show (some NameKind.free : Option NameKind) = some .local from hk)
    · cases (show (some NameKind.free : Option NameKind) = some .local from hk)
  · exact absurd rfl (nocell2 _ (mem_of_lookup (show sc2.names.lookup (nm i) = some .cell from hk)))
  · rcases cases1 i d e with ⟨rfl, rfl⟩ | ⟨rfl, rfl⟩ | ⟨rfl, rfl⟩ | ⟨rfl, rfl⟩
    · cases (show (some NameKind.local : Option NameKind) = some .free from hk)
    · cases (show (some NameKind.local : Option NameKind) = some .free from hk)
    · obtain ⟨a, v, e1, e2, e3⟩ := h47
      exact ⟨a, _, e1, e2, .inl ⟨by decide, e3⟩⟩
    · obtain ⟨a, t, e1, e2⟩ := h37
      exact ⟨a, _, e1, e2, .inl ⟨by decide, .int _ _⟩⟩
  · exact absurd rfl (nocell2 _ (mem_of_lookup (show sc2.names.lookup y = some .cell from e.1)))
  · exact absurd rfl (nocell2 _ (mem_of_lookup (show sc2.names.lookup y = some .cell from e1.1)))
theorem ints2 {Z : Heap} {vs : List Value} {L R : Int} (r : RepA Z vs [.int L, .int R]) : ∃ t2 t3, vs = [.int L t2, .int R t3] := by
  obtain ⟨v2, v3, rfl⟩ : ∃ b d, vs = [b, d] := by
    match vs, r.length with
    | [b, d], _ => exact ⟨b, d, rfl⟩
  obtain ⟨t2, rfl⟩ := r.cons_inv.1.int_inv
  obtain ⟨t3, rfl⟩ := r.cons_inv.2.cons_inv.1.int_inv
  exact ⟨t2, t3, rfl⟩

/-- nothing old is turned by a frame without an own object -/
theorem old_ext {c : Cx} {h₀ Z₀ Z h Z' h' : Heap} {env : Env} {o' : Nat} {oa oa' : Addr} (G : Gr h₀ Z₀ Z) (K : Ext h₀ h) (I : Inv c Z' h') (w : Went env 0 oa h Z h' Z' o' oa') (nL : h₀.get? env.locals = none) (nM : ∀ x a, Mine env x a → h₀.get? a = none) : Gr h₀ Z₀ Z' ∧ Ext h₀ h' := by
  refine ⟨⟨G.1.trans w.gr.1, fun b ob o' e q => ?_⟩, fun b ob b1 b2 e => w.keep b ob (fun hm => ?_) b1 b2 (K b ob b1 b2 e)⟩
  · by_cases b1 : b = 16
    · rw [I.noTab b (.inl b1)] at q; cases q
    by_cases b2 : b = 23
    · rw [I.noTab b (.inr b2)] at q; cases q
    exact G.2 b ob o' e (w.gr.2 b ob o' (fun q => absurd rfl q) (K b ob b1 b2 e) q)
  · rcases hm with q | ⟨x, q⟩ | ⟨q, _⟩
    · rw [q, nL] at e; cases e
    · rw [nM x b q] at e; cases e
    · exact q rfl

theorem inner2_ok : ∀ (k : Nat) {c : Cx} {A : Around} {Z : Heap} {s : Shared} {f : Addr} {L R r : Int} {t2 t3 : Tok} {ds : List PyData} {Q : Value → Shared → Prop}, Room (k + 1) A → Inv c Z s.heap → In2 Z f ds →
    in2 k L R ds = some r → PostE c Z s (.int r) Q → wpAny (model prog c.w) A (call (.ref f) [.int L t2, .int R t3]) Q noE s
  | 0, _, _, _, _, _, _, _, _, _, _, _, _, _, _, _, h, _ => nomatch h
  | k + 1, c, A, Z, s, f, L, R, r, t2, t3, ds, Q, rm, I, hIn, hin, P => by
    obtain ⟨cl, hC, h47, h39, h37⟩ := id hIn
    refine clo_call (b := k + 1) rm I hC (binds := [(nm 41, .int L t2), (nm 42, .int R t3)]) (fun _ _ _ _ => rfl) nocell2 (fun y hy => ?_) rfl rfl rfl fun c' h₁ tk k₁ hns => ?_
    · simp only [List.mem_cons, List.not_mem_nil, or_false] at hy
      rcases hy with rfl | rfl <;> rfl
    have F := frame2 (f := f) (c' := c') I k₁ hns h47 h37
    obtain ⟨a47, v47, l47, c47, _⟩ := h47
    obtain ⟨a39, l39, c39⟩ := h39
    obtain ⟨a37, t37, l37, c37⟩ := h37
    have ho := env2_ok (L := s.heap.objs.size) (f := f) (c' := c') (cl := cl) ⟨a47, l47⟩ ⟨a39, l39⟩ ⟨a37, l37⟩
    have rmD : Room (k + 1) (A.deeper (envI qual2 sc2 s.heap.objs.size f c' cl)) := rm.deeper
    have rm0 := rmD.mono (Nat.zero_le _)
    generalize hE : envI qual2 sc2 s.heap.objs.size f c' cl = env at F ho rmD rm0 ⊢
    have hsc : env.scope = sc2 := by rw [← hE]; rfl
    have hcells : env.cells = cl := by rw [← hE]; rfl
    have hloc : env.locals = s.heap.objs.size := by rw [← hE]; rfl
    have nL : s.heap.get? env.locals = none := by rw [hloc]; exact get_new _
    have nM : ∀ y a, Mine env y a → s.heap.get? a = none := fun y a hm => absurd rfl (nocell2 _ (mem_of_lookup (show sc2.names.lookup y = some .cell from hsc ▸ hm.1)))
    have k39 : env.kindOf (nm 39) = some .free := by unfold Env.kindOf; rw [hsc]; rfl
    rw [← hcells] at l39
    rw [show ibody 2 0 = [ist 2 0 0, ist 2 0 1, ist 2 0 2, ist 2 0 3] from rfl]
    unfold in2 at hin
    have h0 : ist 2 0 0 = .If (testOf (ist 2 0 0)) [thenOf 0 (ist 2 0 0)] [] ⟨21, 8, 22, 28⟩ := rfl
    have hT : in2T 0 (σ2 L R ds) = some (decide (L + 1 = R)) := by
      show (if SeqAt.shaped (.int (L + 1)) && SeqAt.shaped (.int R) then some (PyData.eqv (.int (L + 1)) (.int R)) else none) = _
      rw [show SeqAt.shaped (.int (L + 1)) = true from rfl, show SeqAt.shaped (.int R) = true from rfl]
      rw [if_pos (by decide)]
      exact congrArg some (by unfold PyData.eqv; by_cases q : L + 1 = R <;> simp [q])
    rw [h0]
    refine wpAny_execs_cons (wpAny_If (in2_test c _ env Z 0 _ 0 _ _ _ rm0 hsc ho F hT fun Z1 h1 tk1 I1 g1 x1 => ?_))
    have F1 := F.ext I1 g1 x1
    have G1 : Gr s.heap Z Z1 := ⟨g1.1, fun b ob o' e q => g1.2 b ob o' (k₁ _ _ e) q⟩
    have K1 : Ext s.heap h1 := fun b ob b1 b2 e => x1 b ob b1 b2 (k₁ _ _ e)
    by_cases hLR : L + 1 = R
    · rw [if_pos hLR] at hin
      rw [if_pos (decide_eq_true hLR)]
      split at hin
      rotate_left
      · cases hin
      rename_i d hd
      cases hin
      refine wpAny_execs_cons (in2_get c _ env Z1 0 _ 0 _ (.ret (.int r)) _ rm0 hsc ho F1 (by show ((subD' (.list ds) (.int L)).map Out.ret) = _; rw [hd]; rfl) ?_)
      intro v Z2 h2 tk2 I2 _ _ w2 rv
      obtain ⟨G2, K2⟩ := old_ext G1 K1 I2 w2 nL nM
      exact P v Z2 h2 tk2 I2 G2 K2 rv
    · rw [if_neg hLR] at hin
      rw [if_neg (by simpa using hLR)]
      split at hin
      rotate_left
      · cases hin
      rename_i hg
      simp only [Bool.and_eq_true] at hg
      obtain ⟨⟨g1', g2'⟩, g3'⟩ := hg
      obtain ⟨hi, hin1, hin⟩ := Option.bind_eq_some_iff.mp hin
      split at hin
      rotate_left
      · cases hin
      rename_i g4'
      obtain ⟨lo, hin2, hin⟩ := Option.bind_eq_some_iff.mp hin
      cases hin
      refine wpAny_execs_nil ?_
      have e1 : inMid 0 (σ2 L R ds) = some (.next 0 ((σ2 L R ds).put 43 (.int (midI L R)))) := rfl
      refine in2_mid.then rm0 hsc ho F1 e1 fun Z2 h2 tk2 oa2 F2 w2 => ?_
      obtain ⟨G2, K2⟩ := old_ext G1 K1 F2.inv w2 nL nM
      have e2 : inShift 0 ((σ2 L R ds).put 43 (.int (midI L R))) = some (.next 0 (((σ2 L R ds).put 43 (.int (midI L R))).put 44 (.int ((midI L R - L) * 1)))) := by
        show ((if smallI (midI L R - L) && smallI 1 then some (PyData.int ((midI L R - L) * 1)) else none : Option PyData).bind fun d => (pName 44 0 ((σ2 L R ds).put 43 (.int (midI L R))) d).bind fun σ' => some (Out.next 0 σ')) = _
        rw [if_pos (by rw [g1']; rfl)]; rfl
      refine in2_shift.then rm0 hsc ho F2 e2 fun Z3 h3 tk3 oa3 F3 w3 => ?_
      obtain ⟨G3, K3⟩ := old_ext G2 K2 F3.inv w3 nL nM
      generalize hσ3 : ((σ2 L R ds).put 43 (.int (midI L R))).put 44 (.int ((midI L R - L) * 1)) = σ3 at F3
      rw [show ist 2 0 3 = .Return (some (.BinOp (.BinOp (.Call (.Name (nm 39) ⟨25, 16, 25, 21⟩) (call1 (ist 2 0 3)) [] ⟨25, 16, 25, 29⟩) .LShift (shOf (ist 2 0 3)) ⟨25, 16, 25, 38⟩) .Add (.Call (.Name (nm 39) ⟨25, 42, 25, 47⟩) (call2 (ist 2 0 3)) [] ⟨25, 42, 25, 55⟩) ⟨25, 15, 25, 55⟩)) ⟨25, 8, 25, 55⟩ from rfl]
      have le3 : Le Z Z3 := G3.1
      refine wpAny_execs_cons (wpAny_Return_some (wpAny_BinOp (wpAny_BinOp (call_inner in2_a1 (fun _ => rfl) (fun _ => rfl) rm0 hsc ho F3 (by rw [← hσ3]; rfl) k39 l39 (isCell_le le3 c39) (hC.le le3).fnAt fun vs Z4 h4 tk4 I4 g4 x4 r4 => ?_))))
      obtain ⟨u2, u3, rfl⟩ := ints2 r4
      refine inner2_ok k rmD I4 (hIn.le (le3.trans g4.1)) hin1 fun v5 Z5 h5 tk5 I5 g5 x5 r5 => ?_
      have g35 := g4.trans x4 g5 I5.noTab
      have x35 := x4.trans x5
      have F5 := F3.ext I5 g35 x35
      refine in2_sh c _ env Z5 oa3 _ 0 σ3 (.int ((midI L R - L) * 1)) _ rm0 hsc ho F5 (by rw [← hσ3]; rfl) fun v6 Z6 h6 tk6 I6 g6 x6 r6 => ?_
      obtain ⟨t5, rfl⟩ := r5.int_inv
      obtain ⟨t6, rfl⟩ := r6.int_inv
      have s4 := smallI_le g4'
      have s3 := smallI_le g3'
      refine lshift_int (of_decide_eq_true g2') (by have := intBits_le_64 (k := hi) (by omega) (by omega); omega) ?_
      have F6 := F5.ext I6 g6 x6
      have le6 : Le Z Z6 := le3.trans (g35.1.trans g6.1)
      refine call_inner in2_a2 (fun _ => rfl) (fun _ => rfl) rm0 hsc ho F6 (by rw [← hσ3]; rfl) k39 l39 (isCell_le le6 c39) (hC.le le6).fnAt fun vs Z7 h7 tk7 I7 g7 x7 r7 => ?_
      obtain ⟨u2', u3', rfl⟩ := ints2 r7
      refine inner2_ok k rmD I7 (hIn.le (le6.trans g7.1)) hin2 fun v8 Z8 h8 tk8 I8 g8 x8 r8 => ?_
      obtain ⟨t8, rfl⟩ := r8.int_inv
      refine add_int ?_
      have gg := (((G3.trans K3 g35 I5.noTab).trans (K3.trans x35) g6 I6.noTab).trans ((K3.trans x35).trans x6) g7 I7.noTab).trans (((K3.trans x35).trans x6).trans x7) g8 I8.noTab
      exact P _ Z8 h8 _ I8 gg ((((K3.trans x35).trans x6).trans x7).trans x8) (.int _ _)
end
end Hf
end

section
open PySem PySem.W PyProof.Rows PySem.Calls PySem.Spec
namespace Hf
set_option autoImplicit false
set_option maxRecDepth 100000
set_option linter.unusedSectionVars false

section
variable [TheW]
theorem def2 : DefSc (scopeAt 2) := ⟨rfl, by decide +kernel, by decide +kernel⟩
noncomputable def ifCall : Stmt → List Expr
  | .Return (some (.IfExp _ (.Call _ es _ _) _ _)) _ => es
  | _ => []
noncomputable def twoArgs : Fl := lCons (eLit (.int 0)) (lCons (eCall lenD (lCons (eVar 47) lNil)) lNil)
theorem two_args : EvsOK 0 (scopeAt 2) (ifCall (stAt 2 1)) twoArgs :=
  evs_cons (ev_int 0) (evs_cons (ev_bi len_ok glob_len boot_len (by decide) rfl rfl (evs_cons (ev_cell 47 rfl rfl rfl) evs_nil (fun _ => rfl)) (fun _ => rfl) (fun _ => rfl)) evs_nil (fun _ => rfl)) (fun _ => rfl)
noncomputable def F_digits2int : List PyData → Option PyData
  | [.list ds, .int n] => if n = 1 then (if lenOK ds.length then (if ds.isEmpty then some (.int 0) else (in2 4 0 ds.length ds).map .int) else none) else none
  | _ => none
theorem dom2 : ∀ (ds : List PyData) (n : Int) i d, (bindSg [47, 37] [.list ds, .int n] fun _ => none) i = some d → nm i ≠ nm 39 := by
  intro ds n i d e
  have : i = 47 ∨ i = 37 := by
    have e' : (Sg.put (Sg.put (fun _ => none) 47 (.list ds)) 37 (.int n)) i = some d := e
    unfold Sg.put at e'
    by_cases q2 : i = 37
    · exact .inr q2
    rw [if_neg q2] at e'
    by_cases q3 : i = 47
    · exact .inl q3
    rw [if_neg q3] at e'
    cases e'
  rcases this with rfl | rfl <;> decide

theorem fn_digits2int : FnOK 20 28 F_digits2int := by
  intro c A Z s vs dd d Q rm I r hf P
  unfold F_digits2int at hf
  split at hf
  rotate_left
  · cases hf
  rename_i ds n
  split at hf
  rotate_left
  · cases hf
  rename_i hn1
  subst hn1
  split at hf
  rotate_left
  · cases hf
  rename_i hlen
  obtain ⟨o, h1, h2⟩ : ∃ o, (hfHead.heap_39 c.w.params).lookup 28 = some o ∧ o.data = .func (docDef "_digits2int" (argsAt 2) (bodyAt 2) (scopeAt 2) (.str "cpy313._pylong" 187) (.ref 27) .none) := ⟨_, rfl, rfl⟩
  obtain ⟨oc, cvs, t, h3, h4, h5⟩ : ∃ o vs t, (hfHead.heap_39 c.w.params).lookup 27 = some o ∧ o.data = .fields vs ∧ vs[1]? = some (.str "_digits2int" t) := ⟨_, _, _, rfl, rfl, rfl⟩
  obtain ⟨v1, v2, rfl⟩ : ∃ v u, vs = [v, u] := by
    match vs, r.length with
    | [v, u], _ => exact ⟨v, u, rfl⟩
  have kin := I.kin
  refine wpAny_call (call_cells (binds := ([47, 37].map nm).zip [v1, v2]) (rm.mono (Nat.zero_le _)).depth (kin _ _ h1) h2 (c.noLim I) ⟨27, oc, cvs, t, rfl, kin _ _ h3, h4, h5⟩ rfl (fun x hx => ?_) (fun h₁ tk Fr0 X => ?_) rfl rfl rfl)
  · simp only [List.map_cons, List.map_nil, List.zip_cons_cons, List.zip_nil_right, List.mem_cons, List.not_mem_nil, or_false] at hx
    rcases hx with rfl | rfl
    · exact .inr ⟨rfl, cellsFrom_some (x := nm 47) (scopeAt 2).names _ [] (.inl rfl)⟩
    · exact .inr ⟨rfl, cellsFrom_some (x := nm 37) (scopeAt 2).names _ [] (.inl rfl)⟩
  have F0 := def_frame (a := 28) (name := "_digits2int") (cd := .ref 27) (is := [47, 37]) (ds := [.list ds, .int 1]) def2 I rfl (by decide) (by decide) r rfl Fr0 X
  have rmD : Room 19 (A.deeper (envOfC "_digits2int" (scopeAt 2) s.heap.objs.size 28 (.ref 27))) := rm.deeper
  have rm0 := rmD.mono (Nat.zero_le _)
  have ho : EnvOK (envOfC "_digits2int" (scopeAt 2) s.heap.objs.size 28 (.ref 27)) := def2.envOK
  have hqual : (envOfC "_digits2int" (scopeAt 2) s.heap.objs.size 28 (.ref 27)).qual ++ nm 39 = qual2 := show (("_digits2int" : Str) ++ ".<locals>.") ++ nm 39 = qual2 from by decide
  have hcode : (envOfC "_digits2int" (scopeAt 2) s.heap.objs.size 28 (.ref 27)).code = .ref 27 := rfl
  have hsc : (envOfC "_digits2int" (scopeAt 2) s.heap.objs.size 28 (.ref 27)).scope = scopeAt 2 := rfl
  have hloc : (envOfC "_digits2int" (scopeAt 2) s.heap.objs.size 28 (.ref 27)).locals = s.heap.objs.size := rfl
  have hcel : ∀ x a, (envOfC "_digits2int" (scopeAt 2) s.heap.objs.size 28 (.ref 27)).cells.lookup x = some a → s.heap.objs.size < a := fun x a e => X.above x a (mem_of_lookup e)
  refine wpE ?_
  generalize envOfC "_digits2int" (scopeAt 2) s.heap.objs.size 28 (.ref 27) = env at F0 rmD rm0 ho hqual hcode hsc hloc hcel ⊢
  have new : ∀ b, s.heap.objs.size ≤ b → s.heap.get? b = none := fun b hb => by
    cases q : s.heap.get? b with
    | none => rfl
    | some o => exact absurd (Heap.lt_size q) (Nat.not_lt.mpr hb)
  have nC : ∀ x a, Mine env x a → s.heap.get? a = none := fun x a hm => new _ (Nat.le_of_lt (hcel x a hm.2))
  rw [show bodyAt 2 = [stAt 2 0, stAt 2 1] from rfl]
  have K1 : Ext s.heap h₁ := Ext.of_le Fr0.keep
  have k47 : env.kindOf (nm 47) = some .cell := by unfold Env.kindOf; rw [hsc]; rfl
  have k39 : env.kindOf (nm 39) = some .cell := by unfold Env.kindOf; rw [hsc]; rfl
  have k37 : env.kindOf (nm 37) = some .cell := by unfold Env.kindOf; rw [hsc]; rfl
  rw [show stAt 2 0 = .FunctionDef (nm 39) (iargs 2 0) (ibody 2 0) [] none [] sc2 none (nm 39) pos2 from rfl]
  have hfree : ∀ x ∈ sc2.names, x.2 = .free → ∃ a, env.cells.lookup x.1 = some a := fun x hx hf => by
    rcases free2 x hx hf with q | q | q
    · rw [q]; exact ho.cov _ (.inl k47)
    · rw [q]; exact ho.cov _ (.inl k39)
    · rw [q]; exact ho.cov _ (.inl k37)
  refine wpAny_execs_cons (nestDef_K rfl rfl rfl ?_)
  rw [show qualnameIn env (nm 39) (nm 39) = qual2 from by unfold qualnameIn; rw [k39]; exact hqual]
  refine make2 F0.inv (closure_eq hfree) ho.globals hcode fun f Z2 h2' tk2 I2 g2 x2 nf hClo => ?_
  have F2 := F0.ext I2 g2 x2
  obtain ⟨ci, hci⟩ := ho.cov _ (.inl k39)
  have mci : Mine env (nm 39) ci := ⟨k39, hci⟩
  obtain ⟨zci, _, _, v₀, cci⟩ := F2.cells _ _ mci
  refine wpAny_storeName_cell ho.kind k39 hci cci fun h3' hc3 hs3 => ?_
  have F3 := F2.recell mci (dom2 ds 1) hs3 hc3
  have K3 : Ext s.heap h3' := fun b ob b1 b2 e =>
    (hs3.2 b fun q => by rw [q, nC _ _ mci] at e; cases e).trans (x2 b ob b1 b2 (K1 b ob b1 b2 e))
  have G3 : Gr s.heap Z Z2 := ⟨g2.1, fun b ob o' e q => g2.2 b ob o' (Fr0.keep _ _ e) q⟩
  rw [show stAt 2 1 = .Return (some (.IfExp (.Name (nm 47) ⟨26, 36, 26, 42⟩) (.Call (.Name (nm 39) ⟨26, 11, 26, 16⟩) (ifCall (stAt 2 1)) [] ⟨26, 11, 26, 32⟩) (.Constant (.int 0) 0 ⟨26, 48, 26, 49⟩) ⟨26, 11, 26, 49⟩)) ⟨26, 4, 26, 49⟩ from rfl]
  obtain ⟨ca, v47, hca, cca, o47⟩ := F3.cel 47 (.list ds) rfl k47
  rcases o47 with ⟨_, r47⟩ | ⟨q, _⟩
  rotate_left
  · exact absurd q (by decide)
  obtain ⟨al, _, _, _, rfl, _⟩ := id r47.list_inv
  obtain ⟨items, hl, qit, _⟩ := r47.isList
  have hz : items.size = ds.length := by rw [← qit.length, Array.length_toList]
  have hl1 := Nat.le_of_ble_eq_true hlen
  refine wpAny_execs_cons (wpAny_Return_some (wpAny_IfExp (wpAny_isTrue_value (wpAny_Name (wpAny_loadName_cell ho.kind k47 hca cca (wpAny_truthy_list (hl _ F3.inv.le) (by omega) ?_)) (by decide)) rfl)))
  have hem : items.isEmpty = ds.isEmpty := by
    cases ds with
    | nil => simp at hz; simp [Array.isEmpty, hz]
    | cons x xs => simp [Array.isEmpty, hz]
  rw [hem]
  by_cases he : ds.isEmpty = true
  · rw [if_pos he] at hf
    cases hf
    rw [he]
    exact wpAny_Constant_int (P _ Z2 h3' _ F3.inv G3 K3 (.int _ _))
  · rw [if_neg he] at hf
    obtain ⟨rr, hin, rfl⟩ := Option.map_eq_some_iff.mp hf
    rw [show ds.isEmpty = false by simpa using he]
    have hargs : twoArgs 0 (bindSg [47, 37] [.list ds, .int 1] fun _ => none) = some [.int 0, .int ds.length] := by
      show ((some (PyData.int 0)).bind fun y => (((if lenOK ds.length then some (PyData.int ds.length) else none : Option PyData).bind fun z => (some [] : Option (List PyData)).bind fun r => some (z :: r)).bind fun r => some (y :: r))) = _
      rw [if_pos hlen]; rfl
    refine wpAny_Call_ofName (wpAny_Name (wpAny_loadName_cell ho.kind k39 hci hc3 ?_) (by decide))
    obtain ⟨foc, fod, ffd, fsl, fe⟩ := hClo.fnAt
    refine callWith_F ⟨foc, fod, ffd, fsl, F3.inv.le _ _ fe⟩ (two_args c _ env Z2 0 _ 0 _ _ ⟨26, 11, 26, 32⟩ _ rm0 hsc ho F3 hargs fun vs Z6 h6 tk6 I6 g6 x6 r6 => ⟨⟨foc, fod, ffd, fsl, I6.le _ _ (g6.1 _ _ fe)⟩, ?_⟩) rfl rfl
    obtain ⟨u1, u2, rfl⟩ := ints2 r6
    have F6 := F3.ext I6 g6 x6
    obtain ⟨ca', v47', hca', cca', o47'⟩ := F6.cel 47 (.list ds) rfl k47
    rw [hca] at hca'; cases hca'
    rcases o47' with ⟨_, r47'⟩ | ⟨q, _⟩
    rotate_left
    · exact absurd q (by decide)
    obtain ⟨cn, v37, hcn, ccn, o37⟩ := F6.cel 37 (.int 1) rfl k37
    rcases o37 with ⟨_, r37⟩ | ⟨q, _⟩
    rotate_left
    · exact absurd q (by decide)
    obtain ⟨tn, rfl⟩ := r37.int_inv
    have nci := F3.inv.cell_not hc3
    obtain ⟨oci', eci, dci⟩ := hc3
    have eci6 := x6 _ _ nci.1 nci.2 eci
    obtain ⟨oca, eca, dca⟩ := cca'
    obtain ⟨ocn, ecn, dcn⟩ := ccn
    have mca : Mine env (nm 47) ca := ⟨k47, hca⟩
    have mcn : Mine env (nm 37) cn := ⟨k37, hcn⟩
    have dac : ca ≠ cn := fun q => absurd (F6.apart _ _ _ (q ▸ mca) mcn) (by decide)
    have dai : ca ≠ ci := fun q => absurd (F6.apart _ _ _ (q ▸ mca) mci) (by decide)
    have dni : cn ≠ ci := fun q => absurd (F6.apart _ _ _ (q ▸ mcn) mci) (by decide)
    obtain ⟨Za, Ia, ka, za, zza⟩ := I6.put eca (F6.cells _ _ mca).1 (fun ps q => by rw [q] at dca; cases dca)
    obtain ⟨Zb, Ib, kb, zb, zzb⟩ := Ia.put ecn (by rw [zza _ (Ne.symm dac)]; exact (F6.cells _ _ mcn).1) (fun ps q => by rw [q] at dcn; cases dcn)
    obtain ⟨Zc, Ic, kc, zc, zzc⟩ := Ib.put eci6 (by rw [zzb _ (Ne.symm dni), zza _ (Ne.symm dai)]; exact (F6.cells _ _ mci).1) (fun ps q => by rw [q] at dci; cases dci)
    have kabc : Le Z6 Zc := ka.trans (kb.trans kc)
    have look : ∀ i a', (nm i, NameKind.free) ∈ sc2.names → env.cells.lookup (nm i) = some a' → (clOf env sc2.names []).lookup (nm i) = some a' := fun i a' hm e => by
      obtain ⟨a2, e2⟩ := clOf_has sc2.names [] (fun _ _ e => nomatch e) hfree _ hm rfl
      have := clOf_some sc2.names [] (fun _ _ e => nomatch e) _ _ e2
      rw [e] at this; cases this
      exact e2
    have hIn : In2 Zc f ds := ⟨_, (hClo.le g6.1).le kabc, ⟨ca, v47', look 47 ca (by decide +kernel) hca, ⟨oca, kc _ _ (kb _ _ za), dca⟩, r47'.le kabc⟩, ⟨ci, look 39 ci (by decide +kernel) hci, oci', zc, dci⟩, ⟨cn, tn, look 37 cn (by decide +kernel) hcn, ocn, kc _ _ zb, dcn⟩⟩
    have K6 : Ext s.heap h6 := K3.trans x6
    refine inner2_ok 4 (rmD.mono (by decide)) Ic hIn hin fun v Z7 h7 tk7 I7 g7 x7 r7 => ?_
    refine P v Z7 h7 tk7 I7 ⟨G3.1.trans (g6.1.trans (kabc.trans g7.1)), fun b ob o' e q => ?_⟩ (K6.trans x7) r7
    by_cases b1 : b = 16
    · rw [I7.noTab b (.inl b1)] at q; cases q
    by_cases b2 : b = 23
    · rw [I7.noTab b (.inr b2)] at q; cases q
    have q7 := g7.2 b ob o' (K6 b ob b1 b2 e) q
    rw [zzc b (fun q => by rw [q, nC _ _ mci] at e; cases e), zzb b (fun q => by rw [q, nC _ _ mcn] at e; cases e), zza b (fun q => by rw [q, nC _ _ mca] at e; cases e)] at q7
    exact G3.2 b ob o' e (g6.2 b ob o' (K3 b ob b1 b2 e) q7)
end
end Hf
end

section
open PySem PySem.W PyProof.Rows PySem.Calls PySem.Spec
namespace Hf
set_option autoImplicit false
set_option maxRecDepth 100000
set_option linter.unusedSectionVars false
set_option Elab.async false
section
variable [TheW]
set_option maxHeartbeats 8000000 in
noncomputable def Sadd_callers : Fs := (fSeq (fOwn 31 (eLit (.dict []))) (fSeq (fFor (lItems (eVar 29)) (pPair 32 33) (fSeq (fSet (pDict 31 (eVar 32)) (eVar 33)) fNil)) (fSeq (fFor (lItems (eVar 30)) (pPair 32 33) (fSeq (fIf (bInOwn 31 (eVar 32)) (fSeq fNever fNil) (fSeq (fSet (pDict 31 (eVar 32)) (eVar 33)) fNil)) fNil)) (fFreeze (fSeq (fRet (eVar 31)) fNil)))))
set_option maxHeartbeats 8000000 in
theorem bodyadd_callers : BlOK 20 (scopeAt 4) (bodyAt 4) Sadd_callers := (bl_cons (st_own (storeOwn_local 31 rfl (by decide) rfl) evn_dict0 (fun _ => rfl)) (bl_cons (st_for (it_items (ev_local 29 rfl rfl rfl) (fun _ => ⟨_, rfl⟩)) (tgt_pair (store_local 32 rfl (by decide) rfl) (store_local 33 rfl (by decide) rfl)) (bl_cons (st_dset (own_local 31 rfl rfl rfl) (ev_local 32 rfl rfl rfl) (ev_local 33 rfl rfl rfl) (fun _ => rfl)) bl_nil) (fun _ _ => rfl)) (bl_cons (st_for (it_items (ev_local 30 rfl rfl rfl) (fun _ => ⟨_, rfl⟩)) (tgt_pair (store_local 32 rfl (by decide) rfl) (store_local 33 rfl (by decide) rfl)) (bl_cons (st_if (ts_inOwn (own_local 31 rfl rfl rfl) (ev_local 32 rfl rfl rfl) rfl) (bl_cons st_never bl_nil) (bl_cons (st_dset (own_local 31 rfl rfl rfl) (ev_local 32 rfl rfl rfl) (ev_local 33 rfl rfl rfl) (fun _ => rfl)) bl_nil)) bl_nil) (fun _ _ => rfl)) (bl_freeze (bl_cons (st_ret (ev_local 31 rfl rfl rfl)) bl_nil)))))
noncomputable def Fadd_callers : List PyData → Option PyData := runFn [29, 30] Sadd_callers
set_option maxHeartbeats 8000000 in
theorem fnadd_callers : FnOK 21 35 Fadd_callers :=
  fn_ok (fun _ => ⟨_, rfl, rfl⟩) (fun _ => ⟨_, _, _, rfl, rfl, rfl⟩) bodyadd_callers ⟨rfl, by decide +kernel, by decide +kernel⟩ (by decide) (by decide +kernel) (fun vs h => match vs, h with | [_, _], _ => rfl) rfl rfl


set_option maxHeartbeats 8000000 in
noncomputable def Scount_calls : Fs := (fSeq (fSet (pName 35) (eLit (.int 0))) (fSeq (fFor (lVals (eVar 34)) (pName 9) (fSeq (fAug 35 (eVar 9)) fNil)) (fSeq (fRet (eVar 35)) fNil)))
set_option maxHeartbeats 8000000 in
theorem bodycount_calls : BlOK 20 (scopeAt 5) (bodyAt 5) Scount_calls := (bl_cons (st_set (store_local 35 rfl (by decide) rfl) (ev_int 0) (fun _ => rfl)) (bl_cons (st_for (it_vals (ev_local 34 rfl rfl rfl) (fun _ => ⟨_, rfl⟩)) (tgt_name (store_local 9 rfl (by decide) rfl)) (bl_cons (st_aug rfl rfl (store_local 35 rfl (by decide) rfl) (ev_local 9 rfl rfl rfl)) bl_nil) (fun _ _ => rfl)) (bl_cons (st_ret (ev_local 35 rfl rfl rfl)) bl_nil)))
noncomputable def Fcount_calls : List PyData → Option PyData := runFn [34] Scount_calls
set_option maxHeartbeats 8000000 in
theorem fncount_calls : FnOK 21 42 Fcount_calls :=
  fn_ok (fun _ => ⟨_, rfl, rfl⟩) (fun _ => ⟨_, _, _, rfl, rfl, rfl⟩) bodycount_calls ⟨rfl, by decide +kernel, by decide +kernel⟩ (by decide) (by decide +kernel) (fun vs h => match vs, h with | [_], _ => rfl) rfl rfl


set_option maxHeartbeats 8000000 in
noncomputable def S_law_both : Fs := (fSeq (fSet (pPair 23 24) (eTup (lCons (eBin takeD (eBin addD (eCall F_int2digits (lCons (eVar 13) (lCons (eLit (.int 1)) lNil))) (eBin mulL (eLst (lCons (eLit (.int 0)) lNil)) (eVar 2))) (eVar 2)) (lCons (eBin takeD (eBin addD (eCall F_int2digits (lCons (eVar 14) (lCons (eLit (.int 1)) lNil))) (eBin mulL (eLst (lCons (eLit (.int 0)) lNil)) (eVar 2))) (eVar 2)) lNil)))) (fSeq (fRet (eCall F_digits2int (lCons (eComp 17 [17] (lRange (lCons (eVar 2) lNil)) (bLit true) (lOne (eCall maxD (lCons (eBin subD' (eVar 23) (eVar 17)) (lCons (eBin subD' (eVar 24) (eVar 17)) lNil))))) (lCons (eLit (.int 1)) lNil)))) fNil))
set_option maxHeartbeats 8000000 in
theorem body_law_both : BlOK 21 (scopeAt 7) (bodyAt 7) S_law_both := (bl_cons (st_tuple (tgt_pair (store_cell 23 rfl (by decide) rfl) (store_cell 24 rfl (by decide) rfl)) (ev_tup (evs_cons (ev_take (ev_bin add_ok (ev_call (fn_int2digits.mono (by decide)) glob_int2digits obj_int2digits rfl rfl (evs_cons (ev_local 13 rfl rfl rfl) (evs_cons (ev_int 1) evs_nil (fun _ => rfl)) (fun _ => rfl)) (fun _ => rfl)) (ev_bin mulL_ok (ev_lst (evs_cons (ev_int 0) evs_nil (fun _ => rfl))) (ev_local 2 rfl rfl rfl))) (ev_local 2 rfl rfl rfl)) (evs_cons (ev_take (ev_bin add_ok (ev_call (fn_int2digits.mono (by decide)) glob_int2digits obj_int2digits rfl rfl (evs_cons (ev_local 14 rfl rfl rfl) (evs_cons (ev_int 1) evs_nil (fun _ => rfl)) (fun _ => rfl)) (fun _ => rfl)) (ev_bin mulL_ok (ev_lst (evs_cons (ev_int 0) evs_nil (fun _ => rfl))) (ev_local 2 rfl rfl rfl))) (ev_local 2 rfl rfl rfl)) evs_nil (fun _ => rfl)) (fun _ => rfl))) (fun _ => rfl) (fun _ => rfl)) (bl_cons (st_ret (ev_call (fn_digits2int.mono (by decide)) glob_digits2int obj_digits2int rfl rfl (evs_cons (evn_comp1 ⟨rfl, by decide +kernel, by decide +kernel, by decide +kernel⟩ (.inl rfl) ⟨rfl, by decide⟩ (store_local 17 rfl (by decide) rfl) (it_range glob_range boot_range rfl (evs_cons (ev_local 2 rfl rfl rfl) evs_nil (fun _ => rfl)) (fun _ => rfl) (fun _ => rfl)) cond_nil (ev_bi (max_ok.mono (Nat.zero_le _)) glob_max boot_max (by decide) rfl rfl (evs_cons (ev_sub (ev_cell 23 rfl rfl rfl) (ev_local 17 rfl rfl rfl) rfl) (evs_cons (ev_sub (ev_cell 24 rfl rfl rfl) (ev_local 17 rfl rfl rfl) rfl) evs_nil (fun _ => rfl)) (fun _ => rfl)) (fun _ => rfl) (fun _ => rfl)) (fun _ _ => rfl)).ev (evs_cons (ev_int 1) evs_nil (fun _ => rfl)) (fun _ => rfl)) (fun _ => rfl))) bl_nil))
noncomputable def F_law_both : List PyData → Option PyData := runFn [13, 14, 2] S_law_both
set_option maxHeartbeats 8000000 in
theorem fn_law_both : FnOK 22 47 F_law_both :=
  fn_ok (fun _ => ⟨_, rfl, rfl⟩) (fun _ => ⟨_, _, _, rfl, rfl, rfl⟩) body_law_both ⟨rfl, by decide +kernel, by decide +kernel⟩ (by decide) (by decide +kernel) (fun vs h => match vs, h with | [_, _, _], _ => rfl) rfl rfl


set_option maxHeartbeats 8000000 in
noncomputable def S_law_called : Fs := (fSeq (fOwn 5 (eComp 11 [11] (lRange (lCons (eVar 2) lNil)) (bLit true) (lOne (eBin powD (eLit (.int 2)) (eVar 11))))) (fSeq (fFor (lItL (eVar 9)) (pPair 13 14) (fSeq (fSet (pName 25) (eCall F_law_both (lCons (eSubOwn 5 (eVar 13)) (lCons (eSubOwn 5 (eVar 14)) (lCons (eVar 2) lNil))))) (fSeq (fSet (pSub2 5 (eVar 13) (eVar 14)) (eTup (lCons (eVar 25) (lCons (eVar 25) lNil)))) fNil))) (fFreeze (fSeq (fRet (eVar 5)) fNil))))
set_option maxHeartbeats 8000000 in
theorem body_law_called : BlOK 22 (scopeAt 8) (bodyAt 8) S_law_called := (bl_cons (st_usedOwn1 ⟨rfl, by decide +kernel, by decide +kernel, by decide +kernel⟩ (.inl rfl) ⟨rfl, by decide⟩ (store_local 11 rfl (by decide) rfl) (it_range glob_range boot_range rfl (evs_cons (ev_local 2 rfl rfl rfl) evs_nil (fun _ => rfl)) (fun _ => rfl) (fun _ => rfl)) cond_nil (ev_bin pow_ok (ev_int 2) (ev_local 11 rfl rfl rfl)) (fun _ _ => rfl) (storeOwn_local 5 rfl (by decide) rfl) (fun _ => rfl)) (bl_cons (st_for (it_pair (ev_local 9 rfl rfl rfl)) (tgt_pair (store_local 13 rfl (by decide) rfl) (store_local 14 rfl (by decide) rfl)) (bl_cons (st_set (store_local 25 rfl (by decide) rfl) (ev_call (fn_law_both.mono (by decide)) glob_law_both obj_law_both rfl rfl (evs_cons (ev_subOwn (own_local 5 rfl rfl rfl) (ev_local 13 rfl rfl rfl) rfl) (evs_cons (ev_subOwn (own_local 5 rfl rfl rfl) (ev_local 14 rfl rfl rfl) rfl) (evs_cons (ev_local 2 rfl rfl rfl) evs_nil (fun _ => rfl)) (fun _ => rfl)) (fun _ => rfl)) (fun _ => rfl)) (fun _ => rfl)) (bl_cons (st_sub2 (own_local 5 rfl rfl rfl) (own_local 5 rfl rfl rfl) (ev_local 13 rfl rfl rfl) (ev_local 14 rfl rfl rfl) (ev_tup (evs_cons (ev_local 25 rfl rfl rfl) (evs_cons (ev_local 25 rfl rfl rfl) evs_nil (fun _ => rfl)) (fun _ => rfl))) (fun _ => rfl) (fun _ => rfl)) bl_nil)) (fun _ _ => rfl)) (bl_freeze (bl_cons (st_ret (ev_local 5 rfl rfl rfl)) bl_nil))))
noncomputable def F_law_called : List PyData → Option PyData := runFn [2, 9] S_law_called
set_option maxHeartbeats 8000000 in
theorem fn_law_called : FnOK 23 52 F_law_called :=
  fn_ok (fun _ => ⟨_, rfl, rfl⟩) (fun _ => ⟨_, _, _, rfl, rfl, rfl⟩) body_law_called ⟨rfl, by decide +kernel, by decide +kernel⟩ (by decide) (by decide +kernel) (fun vs h => match vs, h with | [_, _], _ => rfl) rfl rfl


set_option maxHeartbeats 8000000 in
noncomputable def S_law_plain : Fs := (fSeq (fOwn 5 (eComp 11 [11] (lRange (lCons (eVar 2) lNil)) (bLit true) (lOne (eLst (lCons (eVar 11) lNil))))) (fSeq (fFor (lItL (eVar 9)) (pPair 13 14) (fSeq (fSet (pName 25) (eBin addD (eSubOwn 5 (eVar 13)) (eComp 11 [11] (lIt (eSubOwn 5 (eVar 14))) (bCmp (cmpD .NotIn) (eVar 11) (eSubOwn 5 (eVar 13))) (lOne (eVar 11))))) (fSeq (fSet (pSub2 5 (eVar 13) (eVar 14)) (eTup (lCons (eVar 25) (lCons (eVar 25) lNil)))) fNil))) (fFreeze (fSeq (fRet (eComp 25 [25] (lIt (eVar 5)) (bLit true) (lOne (eCall lenD (lCons (eVar 25) lNil))))) fNil))))
set_option maxHeartbeats 8000000 in
theorem body_law_plain : BlOK 20 (scopeAt 9) (bodyAt 9) S_law_plain := (bl_cons (st_own (storeOwn_cell 5 rfl (by decide) rfl) (evn_comp1 ⟨rfl, by decide +kernel, by decide +kernel, by decide +kernel⟩ (.inl rfl) ⟨rfl, by decide⟩ (store_local 11 rfl (by decide) rfl) (it_range glob_range boot_range rfl (evs_cons (ev_local 2 rfl rfl rfl) evs_nil (fun _ => rfl)) (fun _ => rfl) (fun _ => rfl)) cond_nil (ev_lst (evs_cons (ev_local 11 rfl rfl rfl) evs_nil (fun _ => rfl))) (fun _ _ => rfl)) (fun _ => rfl)) (bl_cons (st_for (it_pair (ev_local 9 rfl rfl rfl)) (tgt_pair (store_cell 13 rfl (by decide) rfl) (store_local 14 rfl (by decide) rfl)) (bl_cons (st_set (store_local 25 rfl (by decide) rfl) (ev_bin add_ok (ev_subOwn (own_cell 5 rfl rfl rfl) (ev_cell 13 rfl rfl rfl) rfl) (evn_comp1 ⟨rfl, by decide +kernel, by decide +kernel, by decide +kernel⟩ (.inl rfl) ⟨rfl, by decide⟩ (store_local 11 rfl (by decide) rfl) (it_name (ev_subOwn (own_cell 5 rfl rfl rfl) (ev_local 14 rfl rfl rfl) rfl)) (cond_one (ts_cmp (cmp_ok .NotIn) (ev_local 11 rfl rfl rfl) (ev_subOwn (own_cell 5 rfl rfl rfl) (ev_cell 13 rfl rfl rfl) rfl) rfl)) (ev_local 11 rfl rfl rfl) (fun _ _ => rfl)).ev) (fun _ => rfl)) (bl_cons (st_sub2 (own_cell 5 rfl rfl rfl) (own_cell 5 rfl rfl rfl) (ev_cell 13 rfl rfl rfl) (ev_local 14 rfl rfl rfl) (ev_tup (evs_cons (ev_local 25 rfl rfl rfl) (evs_cons (ev_local 25 rfl rfl rfl) evs_nil (fun _ => rfl)) (fun _ => rfl))) (fun _ => rfl) (fun _ => rfl)) bl_nil)) (fun _ _ => rfl)) (bl_freeze (bl_cons (st_ret (evn_comp1 ⟨rfl, by decide +kernel, by decide +kernel, by decide +kernel⟩ (.inl rfl) ⟨rfl, by decide⟩ (store_local 25 rfl (by decide) rfl) (it_name (ev_cell 5 rfl rfl rfl)) cond_nil (ev_bi (len_ok.mono (Nat.zero_le _)) glob_len boot_len (by decide) rfl rfl (evs_cons (ev_local 25 rfl rfl rfl) evs_nil (fun _ => rfl)) (fun _ => rfl) (fun _ => rfl)) (fun _ _ => rfl)).ev) bl_nil))))
noncomputable def F_law_plain : List PyData → Option PyData := runFn [2, 9] S_law_plain
set_option maxHeartbeats 8000000 in
theorem fn_law_plain : FnOK 21 57 F_law_plain :=
  fn_ok (fun _ => ⟨_, rfl, rfl⟩) (fun _ => ⟨_, _, _, rfl, rfl, rfl⟩) body_law_plain ⟨rfl, by decide +kernel, by decide +kernel⟩ (by decide) (by decide +kernel) (fun vs h => match vs, h with | [_, _], _ => rfl) rfl rfl


set_option maxHeartbeats 8000000 in
noncomputable def S_law_plan : Fs := (fSeq (fIf (bCmp (cmpD .Lt) (eVar 2) (eLit (.int 4))) (fSeq (fRet (eBin addD (eComp 17 [17] (lRange (lCons (eBin subD (eVar 2) (eLit (.int 1))) lNil)) (bLit true) (lOne (eTup (lCons (eVar 17) (lCons (eBin addD (eVar 17) (eLit (.int 1))) lNil))))) (eComp 17 [17] (lRange (lCons (eBin subD (eVar 2) (eLit (.int 3))) (lCons (eBin subD (eLit (.int 0)) (eLit (.int 1))) (lCons (eBin subD (eLit (.int 0)) (eLit (.int 1))) lNil)))) (bLit true) (lOne (eTup (lCons (eVar 17) (lCons (eBin addD (eVar 17) (eLit (.int 1))) lNil))))))) fNil) fNil) (fSeq (fSet (pName 26) (eComp 11 [11] (lRange (lCons (eLit (.int 4)) (lCons (eVar 2) lNil))) (bLit true) (lOne (eTup (lCons (eVar 11) (lCons (eLit (.int 0)) lNil)))))) (fSeq (fRet (eBin addD (eBin addD (eVar 26) (eLst (lCons (eTup (lCons (eLit (.int 0)) (lCons (eLit (.int 1)) lNil))) (lCons (eTup (lCons (eLit (.int 2)) (lCons (eLit (.int 3)) lNil))) (lCons (eTup (lCons (eLit (.int 0)) (lCons (eLit (.int 2)) lNil))) (lCons (eTup (lCons (eLit (.int 1)) (lCons (eLit (.int 3)) lNil))) lNil)))))) (eVar 26))) fNil)))
set_option maxHeartbeats 8000000 in
theorem body_law_plan : BlOK 20 (scopeAt 10) (bodyAt 10) S_law_plan := (bl_cons (st_if (ts_cmp (cmp_ok .Lt) (ev_local 2 rfl rfl rfl) (ev_int 4) rfl) (bl_cons (st_ret (ev_bin add_ok (evn_comp1 ⟨rfl, by decide +kernel, by decide +kernel, by decide +kernel⟩ (.inl rfl) ⟨rfl, by decide⟩ (store_local 17 rfl (by decide) rfl) (it_range glob_range boot_range rfl (evs_cons (ev_bin sub_ok (ev_local 2 rfl rfl rfl) (ev_int 1)) evs_nil (fun _ => rfl)) (fun _ => rfl) (fun _ => rfl)) cond_nil (ev_tup (evs_cons (ev_local 17 rfl rfl rfl) (evs_cons (ev_bin add_ok (ev_local 17 rfl rfl rfl) (ev_int 1)) evs_nil (fun _ => rfl)) (fun _ => rfl))) (fun _ _ => rfl)).ev (evn_comp1 ⟨rfl, by decide +kernel, by decide +kernel, by decide +kernel⟩ (.inl rfl) ⟨rfl, by decide⟩ (store_local 17 rfl (by decide) rfl) (it_range glob_range boot_range rfl (evs_cons (ev_bin sub_ok (ev_local 2 rfl rfl rfl) (ev_int 3)) (evs_cons (ev_bin sub_ok (ev_int 0) (ev_int 1)) (evs_cons (ev_bin sub_ok (ev_int 0) (ev_int 1)) evs_nil (fun _ => rfl)) (fun _ => rfl)) (fun _ => rfl)) (fun _ => rfl) (fun _ => rfl)) cond_nil (ev_tup (evs_cons (ev_local 17 rfl rfl rfl) (evs_cons (ev_bin add_ok (ev_local 17 rfl rfl rfl) (ev_int 1)) evs_nil (fun _ => rfl)) (fun _ => rfl))) (fun _ _ => rfl)).ev)) bl_nil) bl_nil) (bl_cons (st_used1 ⟨rfl, by decide +kernel, by decide +kernel, by decide +kernel⟩ (.inl rfl) ⟨rfl, by decide⟩ (store_local 11 rfl (by decide) rfl) (it_range glob_range boot_range rfl (evs_cons (ev_int 4) (evs_cons (ev_local 2 rfl rfl rfl) evs_nil (fun _ => rfl)) (fun _ => rfl)) (fun _ => rfl) (fun _ => rfl)) cond_nil (ev_tup (evs_cons (ev_local 11 rfl rfl rfl) (evs_cons (ev_int 0) evs_nil (fun _ => rfl)) (fun _ => rfl))) (fun _ _ => rfl) (store_local 26 rfl (by decide) rfl) (fun _ => rfl)) (bl_cons (st_ret (ev_bin add_ok (ev_bin add_ok (ev_local 26 rfl rfl rfl) (ev_lst (evs_cons (ev_tup (evs_cons (ev_int 0) (evs_cons (ev_int 1) evs_nil (fun _ => rfl)) (fun _ => rfl))) (evs_cons (ev_tup (evs_cons (ev_int 2) (evs_cons (ev_int 3) evs_nil (fun _ => rfl)) (fun _ => rfl))) (evs_cons (ev_tup (evs_cons (ev_int 0) (evs_cons (ev_int 2) evs_nil (fun _ => rfl)) (fun _ => rfl))) (evs_cons (ev_tup (evs_cons (ev_int 1) (evs_cons (ev_int 3) evs_nil (fun _ => rfl)) (fun _ => rfl))) evs_nil (fun _ => rfl)) (fun _ => rfl)) (fun _ => rfl)) (fun _ => rfl)))) (ev_local 26 rfl rfl rfl))) bl_nil)))
noncomputable def F_law_plan : List PyData → Option PyData := runFn [2] S_law_plan
set_option maxHeartbeats 8000000 in
theorem fn_law_plan : FnOK 21 62 F_law_plan :=
  fn_ok (fun _ => ⟨_, rfl, rfl⟩) (fun _ => ⟨_, _, _, rfl, rfl, rfl⟩) body_law_plan ⟨rfl, by decide +kernel, by decide +kernel⟩ (by decide) (by decide +kernel) (fun vs h => match vs, h with | [_], _ => rfl) rfl rfl


set_option maxHeartbeats 8000000 in
noncomputable def S_law_has : Fs := (fSeq (fSet (pName 15) (eLit (.dict []))) (fSeq (fFor (lEnum (lCons (eCall F_law_called (lCons (eVar 2) (lCons (eVar 9) lNil))) lNil)) (pPair 11 5) (fSeq (fFor (lEnum (lCons (eCall F_int2digits (lCons (eVar 5) (lCons (eLit (.int 1)) lNil))) lNil)) (pPair 27 28) (fSeq (fIf (bCmp (cmpD .Eq) (eVar 28) (eLit (.int 1))) (fSeq (fSet (pName 15) (eCall Fadd_callers (lCons (eVar 15) (lCons (eBin dict1 (eTup (lCons (eLit (.str (Str.ofString "has"))) (lCons (eVar 11) (lCons (eVar 27) lNil)))) (eLit (.int 1))) lNil)))) fNil) fNil) fNil)) fNil)) (fSeq (fRet (eVar 15)) fNil)))
set_option maxHeartbeats 8000000 in
theorem body_law_has : BlOK 23 (scopeAt 11) (bodyAt 11) S_law_has := (bl_cons (st_set (store_local 15 rfl (by decide) rfl) ev_dict0 (fun _ => rfl)) (bl_cons (st_for (it_enum glob_enumerate boot_enumerate rfl (evs_cons (ev_call (fn_law_called.mono (by decide)) glob_law_called obj_law_called rfl rfl (evs_cons (ev_local 2 rfl rfl rfl) (evs_cons (ev_local 9 rfl rfl rfl) evs_nil (fun _ => rfl)) (fun _ => rfl)) (fun _ => rfl)) evs_nil (fun _ => rfl)) (fun _ => rfl) (fun _ => rfl)) (tgt_pair (store_local 11 rfl (by decide) rfl) (store_local 5 rfl (by decide) rfl)) (bl_cons (st_for (it_enum glob_enumerate boot_enumerate rfl (evs_cons (ev_call (fn_int2digits.mono (by decide)) glob_int2digits obj_int2digits rfl rfl (evs_cons (ev_local 5 rfl rfl rfl) (evs_cons (ev_int 1) evs_nil (fun _ => rfl)) (fun _ => rfl)) (fun _ => rfl)) evs_nil (fun _ => rfl)) (fun _ => rfl) (fun _ => rfl)) (tgt_pair (store_local 27 rfl (by decide) rfl) (store_local 28 rfl (by decide) rfl)) (bl_cons (st_if (ts_cmp (cmp_ok .Eq) (ev_local 28 rfl rfl rfl) (ev_int 1) rfl) (bl_cons (st_set (store_local 15 rfl (by decide) rfl) (ev_call (fnadd_callers.mono (by decide)) globadd_callers objadd_callers rfl rfl (evs_cons (ev_local 15 rfl rfl rfl) (evs_cons (ev_dict1 (ev_tup (evs_cons (ev_str (Str.ofString "has")) (evs_cons (ev_local 11 rfl rfl rfl) (evs_cons (ev_local 27 rfl rfl rfl) evs_nil (fun _ => rfl)) (fun _ => rfl)) (fun _ => rfl))) (ev_int 1) (fun _ => rfl)) evs_nil (fun _ => rfl)) (fun _ => rfl)) (fun _ => rfl)) (fun _ => rfl)) bl_nil) bl_nil) bl_nil) (fun _ _ => rfl)) bl_nil) (fun _ _ => rfl)) (bl_cons (st_ret (ev_local 15 rfl rfl rfl)) bl_nil)))
noncomputable def F_law_has : List PyData → Option PyData := runFn [2, 9] S_law_has
set_option maxHeartbeats 8000000 in
theorem fn_law_has : FnOK 24 69 F_law_has :=
  fn_ok (fun _ => ⟨_, rfl, rfl⟩) (fun _ => ⟨_, _, _, rfl, rfl, rfl⟩) body_law_has ⟨rfl, by decide +kernel, by decide +kernel⟩ (by decide) (by decide +kernel) (fun vs h => match vs, h with | [_, _], _ => rfl) rfl rfl


end
end Hf
end

section
open PySem PySem.W PyProof.Rows PySem.Calls PySem.Spec
namespace Hf
set_option autoImplicit false
set_option linter.unusedSectionVars false

noncomputable def pairsL : List PyData → Option (List (Int × Int))
  | [] => some []
  | .tuple [.int a, .int b] :: r => (pairsL r).map ((a, b) :: ·)
  | _ :: _ => none
noncomputable def pLt (p q : Int × Int) : Bool := decide (p.1 < q.1) || (decide (p.1 = q.1) && decide (p.2 < q.2))
noncomputable def ins (p : Int × Int) : List (Int × Int) → List (Int × Int)
  | [] => [p]
  | q :: r => if pLt p q then p :: q :: r else q :: ins p r
noncomputable def isort : List (Int × Int) → List (Int × Int)
  | [] => []
  | p :: r => ins p (isort r)
noncomputable def nodupB : List (Int × Int) → Bool
  | [] => true
  | p :: r => !(r.contains p) && nodupB r
noncomputable def sortD : PyData → Option (List (Int × Int))
  | .list xs => (pairsL xs).bind fun ps => if decide (ps.length < 64) && decide (0 < ps.length) && nodupB ps then some (isort ps) else none
  | _ => none
noncomputable def fSortedEq (f g : Fe) : Fs := fun o σ => (f o σ).bind fun x => (sortD x).bind fun p => (g o σ).bind fun y => (sortD y).bind fun q => some (.ret (.bool (decide (p = q))))
end Hf
end

section
open PySem PySem.W PyProof.Rows PySem.Calls PySem.Spec
namespace Hf
set_option autoImplicit false
set_option linter.unusedSectionVars false

/-- a sorting tree, run with a comparison -/
inductive Runs {α : Type} (n : Nat) (lt : Nat → Nat → Bool) : KasT α → α → Prop
  | ret (a : α) : Runs n lt (.ret a) a
  | ask {i j : Nat} {k : Bool → KasT α} {a : α} : i < n → j < n → Runs n lt (k (lt i j)) a → Runs n lt (.ask i j k) a
theorem Runs.bind {α β : Type} {n : Nat} {lt : Nat → Nat → Bool} {t : KasT α} {a : α} {f : α → KasT β} {b : β} (h : Runs n lt t a) (h2 : Runs n lt (f a) b) : Runs n lt (t.bind f) b := by
  induction h with
  | ret a => exact h2
  | ask hi hj _ ih => exact .ask hi hj (ih h2)
theorem Runs.wp {α : Type} {n : Nat} {lt : Nat → Nat → Bool} {cmp : Nat → Nat → (Bool → Shared → Prop) → Shared → Prop} {t : KasT α} {a : α} {Q : α → Shared → Prop} {s : Shared} (h : Runs n lt t a)
    (hc : ∀ i j C, i < n → j < n → C (lt i j) s → cmp i j C s) (hq : Q a s) : t.kasWp cmp Q s := by
  induction h with
  | ret a => exact hq
  | ask hi hj _ ih => exact hc _ _ _ hi hj (ih hq)

section
variable {n : Nat} {lt : Nat → Nat → Bool}
structure Ord (n : Nat) (lt : Nat → Nat → Bool) : Prop where
  irr : ∀ i, lt i i = false
  tr : ∀ i j k, lt i j = true → lt j k = true → lt i k = true
  tot : ∀ i j, i < n → j < n → i ≠ j → lt i j = false → lt j i = true
noncomputable def At (p : Array Nat) (i : Nat) : Nat := p.getD i 0
structure Pm (n : Nat) (p : Array Nat) : Prop where
  perm : p.Perm (List.range n).toArray
theorem Pm.size {p : Array Nat} (h : Pm n p) : p.size = n := by rw [h.perm.size_eq]; simp
theorem Pm.bd {p : Array Nat} (h : Pm n p) {i : Nat} (hi : i < n) : At p i < n := by
  have hs := h.size
  have hm : p[i]'(by omega) ∈ p := Array.getElem_mem _
  have := (h.perm.mem_iff (a := p[i]'(by omega))).mp hm
  simp at this
  unfold At
  simpa [Array.getD, show i < p.size by omega] using this
theorem Pm.ne {p : Array Nat} (h : Pm n p) {i j : Nat} (hi : i < n) (hj : j < n) (hij : i ≠ j) : At p i ≠ At p j := by
  have hs := h.size
  have hn : p.toList.Nodup := (List.Perm.nodup_iff (Array.perm_iff_toList_perm.mp h.perm)).mpr (by simpa using List.nodup_range)
  intro e
  unfold At at e
  simp only [Array.getD, show i < p.size by omega, show j < p.size by omega, dif_pos, Array.getInternal_eq_getElem] at e
  have e2 : p.toList[i]'(by simp; omega) = p.toList[j]'(by simp; omega) := by simpa using e
  exact hij ((List.getElem_inj hn).mp e2)
noncomputable def Srt (lt : Nat → Nat → Bool) (p : Array Nat) (k : Nat) : Prop := ∀ i j, i < j → j < k → lt (At p i) (At p j) = true
noncomputable def Dsc (lt : Nat → Nat → Bool) (p : Array Nat) (k : Nat) : Prop := ∀ i j, i < j → j < k → lt (At p j) (At p i) = true

theorem Srt.snoc (O : Ord n lt) {p : Array Nat} {k : Nat} (h : Srt lt p k) (h1 : 1 ≤ k) (hl : lt (At p (k - 1)) (At p k) = true) : Srt lt p (k + 1) := fun i j hij hj => by
  by_cases q : j < k
  · exact h i j hij q
  have hjk : j = k := by omega
  subst hjk
  by_cases q2 : i = j - 1
  · rw [q2]; exact hl
  · exact O.tr _ _ _ (h i (j - 1) (by omega) (by omega)) hl
theorem Dsc.snoc (O : Ord n lt) {p : Array Nat} {k : Nat} (h : Dsc lt p k) (h1 : 1 ≤ k) (hl : lt (At p k) (At p (k - 1)) = true) : Dsc lt p (k + 1) := fun i j hij hj => by
  by_cases q : j < k
  · exact h i j hij q
  have hjk : j = k := by omega
  subst hjk
  by_cases q2 : i = j - 1
  · rw [q2]; exact hl
  · exact O.tr _ _ _ hl (h i (j - 1) (by omega) (by omega))

theorem asc_runs (O : Ord n lt) {p : Array Nat} (P : Pm n p) : ∀ (f m : Nat), 1 ≤ m → m + f ≤ n → Srt lt p m → ∃ r, m ≤ r ∧ r ≤ m + f ∧ Srt lt p r ∧ (r = m + f ∨ lt (At p r) (At p (r - 1)) = true) ∧ Runs n lt (kas_asc p f m) r
  | 0, m, _, _, hs => ⟨m, Nat.le_refl _, Nat.le_refl _, hs, .inl rfl, .ret _⟩
  | f + 1, m, h1, h2, hs => by
    cases hc : lt (At p m) (At p (m - 1)) with
    | true => exact ⟨m, Nat.le_refl _, by omega, hs, .inr hc, .ask (P.bd (by omega)) (P.bd (by omega)) (by show Runs n lt (if lt (At p m) (At p (m - 1)) = true then .ret m else kas_asc p f (m + 1)) m; rw [hc, if_pos rfl]; exact .ret _)⟩
    | false =>
      have hl := O.tot _ _ (P.bd (i := m) (by omega)) (P.bd (i := m - 1) (by omega)) (P.ne (by omega) (by omega) (by omega)) hc
      obtain ⟨r, a1, a2, a3, a4, a5⟩ := asc_runs O P f (m + 1) (by omega) (by omega) (hs.snoc O h1 hl)
      exact ⟨r, by omega, by omega, a3, by rcases a4 with q | q; exact .inl (by omega); exact .inr q, .ask (P.bd (by omega)) (P.bd (by omega)) (by show Runs n lt (if lt (At p m) (At p (m - 1)) = true then .ret m else kas_asc p f (m + 1)) r; rw [hc, if_neg (by decide)]; exact a5)⟩
theorem desc_runs (O : Ord n lt) {p : Array Nat} (P : Pm n p) : ∀ (f m : Nat), 1 ≤ m → m + f ≤ n → Dsc lt p m → ∃ r, m ≤ r ∧ r ≤ m + f ∧ Dsc lt p r ∧ Runs n lt (kas_desc f p m 0) (p, r, 0)
  | 0, m, _, _, hs => ⟨m, Nat.le_refl _, Nat.le_refl _, hs, .ret _⟩
  | f + 1, m, h1, h2, hs => by
    cases hc : lt (At p m) (At p (m - 1)) with
    | true =>
      obtain ⟨r, a1, a2, a3, a5⟩ := desc_runs O P f (m + 1) (by omega) (by omega) (hs.snoc O h1 hc)
      refine ⟨r, by omega, by omega, a3, .ask (P.bd (by omega)) (P.bd (by omega)) ?_⟩
      show Runs n lt (if lt (At p m) (At p (m - 1)) = true then (if 0 > 0 then kas_desc f (kas_rev p (m - (0 + 1)) m) (m + 1) 0 else kas_desc f p (m + 1) 0) else _) _
      rw [hc, if_pos rfl, if_neg (by decide)]
      exact a5
    | false =>
      have hl := O.tot _ _ (P.bd (i := m) (by omega)) (P.bd (i := m - 1) (by omega)) (P.ne (by omega) (by omega) (by omega)) hc
      refine ⟨m, Nat.le_refl _, by omega, hs, .ask (P.bd (by omega)) (P.bd (by omega)) ?_⟩
      show Runs n lt (if lt (At p m) (At p (m - 1)) = true then _ else .ask (At p (m - 1)) (At p m) fun d => if d = true then .ret (p, m, 0) else kas_desc f p (m + 1) (0 + 1)) _
      rw [hc, if_neg (by decide)]
      refine .ask (P.bd (by omega)) (P.bd (by omega)) ?_
      rw [hl, if_pos rfl]
      exact .ret _
theorem at_of {p q : Array Nat} {i j : Nat} (h : p[i]? = q[j]?) : At p i = At q j := by
  unfold At
  rw [Array.getD_eq_getD_getElem?, Array.getD_eq_getD_getElem?, h]
theorem rev_at {p : Array Nat} {k : Nat} (hk : k ≤ p.size) (i : Nat) : At (kas_rev p 0 k) i = if i < k then At p (k - 1 - i) else At p i := by
  have e := getElem?_mirror_all (xs := p) (i := 0) (j := k) hk i
  by_cases q : i < k
  · rw [if_pos q]
    refine at_of ?_
    show (mirror p 0 k ((k - 0) / 2))[i]? = _
    rw [e, if_pos ⟨Nat.zero_le _, q⟩]
    congr 1
    omega
  · rw [if_neg q]
    refine at_of ?_
    show (mirror p 0 k ((k - 0) / 2))[i]? = _
    rw [e, if_neg (by omega)]
theorem bub_at {p : Array Nat} {k l : Nat} (hk : k < p.size) (hl : l ≤ k) (i : Nat) : At (bubble p k (k - l)) i = if i = l then At p k else if l < i ∧ i ≤ k then At p (i - 1) else At p i := by
  have e := getElem?_bubble hk (k - l) (by omega) i
  have hkl : k - (k - l) = l := by omega
  rw [hkl] at e
  by_cases q1 : i = l
  · rw [if_pos q1]; rw [if_pos q1] at e; exact at_of e
  · rw [if_neg q1]; rw [if_neg q1] at e
    by_cases q2 : l < i ∧ i ≤ k
    · rw [if_pos q2]; rw [if_pos q2] at e; exact at_of e
    · rw [if_neg q2]; rw [if_neg q2] at e; exact at_of e
theorem Pm.rev {p : Array Nat} (P : Pm n p) (k : Nat) : Pm n (kas_rev p 0 k) := ⟨(mirror_perm p 0 k ((k - 0) / 2)).trans P.perm⟩
theorem Pm.bub {p : Array Nat} (P : Pm n p) (k d : Nat) : Pm n (bubble p k d) := ⟨(bubble_perm p k d).trans P.perm⟩
theorem Dsc.rev {p : Array Nat} (P : Pm n p) {k : Nat} (hk : k ≤ n) (h : Dsc lt p k) : Srt lt (kas_rev p 0 k) k := fun i j hij hj => by
  have hs := P.size
  rw [rev_at (by omega), rev_at (by omega), if_pos (by omega), if_pos hj]
  exact h (k - 1 - j) (k - 1 - i) (by omega) (by omega)

theorem tail_runs (O : Ord n lt) {p : Array Nat} (P : Pm n p) {k : Nat} (h1 : 1 ≤ k) (hk : k ≤ n) (h : Dsc lt p k) : ∃ r q, k ≤ r ∧ r ≤ n ∧ Pm n q ∧ Srt lt q r ∧ Runs n lt (kas_tail3 k n p) (r, q) := by
  obtain ⟨r, a1, a2, a3, _, a5⟩ := asc_runs O (P.rev k) (n - k) k h1 (by omega) (h.rev P hk)
  exact ⟨r, _, a1, by omega, P.rev k, a3, a5.bind (.ret _)⟩
theorem count_runs (O : Ord n lt) {p : Array Nat} (P : Pm n p) (hn : 2 ≤ n) : ∃ r q, 1 ≤ r ∧ r ≤ n ∧ Pm n q ∧ Srt lt q r ∧ Runs n lt (kas_count n p) (r, q) := by
  obtain ⟨r, a1, a2, a3, a4, a5⟩ := asc_runs O P (n - 1) 1 (Nat.le_refl _) (by omega) (fun i j h1 h2 => by omega)
  by_cases hr : r = n
  · refine ⟨r, p, a1, by omega, P, a3, a5.bind ?_⟩
    rw [if_pos (by simpa using hr)]
    exact .ret _
  · by_cases hr1 : r > 1
    · refine ⟨r, p, a1, by omega, P, a3, a5.bind ?_⟩
      rw [if_neg (by simpa using hr), if_pos hr1]
      refine .ask (P.bd (by omega)) (P.bd (by omega)) ?_
      rw [show lt (p.getD 0 0) (p.getD (r - 1) 0) = true from a3 0 (r - 1) (by omega) (by omega), if_pos rfl]
      exact .ret _
    · have hr2 : r = 1 := by omega
      subst hr2
      have hc : lt (At p 1) (At p 0) = true := by
        rcases a4 with q | q
        · omega
        · exact q
      obtain ⟨m, b1, b2, b3, b5⟩ := desc_runs O P (n - 2) 2 (by omega) (by omega) (fun i j h1 h2 => by
        have : i = 0 ∧ j = 1 := by omega
        rw [this.1, this.2]; exact hc)
      obtain ⟨r, q, c1, c2, c3, c4, c5⟩ := tail_runs O P (by omega) (by omega) b3
      refine ⟨r, q, by omega, c2, c3, c4, a5.bind ?_⟩
      rw [if_neg (by simpa using hr), if_neg (by omega)]
      refine Runs.bind (a := (p, m, 0)) ?_ ?_
      · show Runs n lt (kas_desc (n - (1 + 1)) p (1 + 1) 0) _
        exact b5
      · show Runs n lt (if 0 > 0 then _ else kas_tail3 m n p) _
        rw [if_neg (by decide)]
        exact c5

theorem place_runs (O : Ord n lt) {p : Array Nat} (P : Pm n p) {k : Nat} (hk : k < n) (hs : Srt lt p k) : ∀ (f l r : Nat), r - l ≤ f → l ≤ r → r ≤ k → (∀ i, i < l → lt (At p i) (At p k) = true) → (∀ i, r ≤ i → i < k → lt (At p k) (At p i) = true) →
    ∃ x, x ≤ k ∧ (∀ i, i < x → lt (At p i) (At p k) = true) ∧ (∀ i, x ≤ i → i < k → lt (At p k) (At p i) = true) ∧ Runs n lt (kas_place p k f l r) x
  | 0, l, r, h1, h2, h3, h4, h5 => ⟨l, by omega, h4, fun i a b => h5 i (by omega) b, .ret _⟩
  | f + 1, l, r, h1, h2, h3, h4, h5 => by
    by_cases hlr : l ≥ r
    · refine ⟨l, by omega, h4, fun i a b => h5 i (by omega) b, ?_⟩
      show Runs n lt (if l ≥ r then .ret l else _) l
      rw [if_pos hlr]; exact .ret _
    · have hm1 : (l + r) / 2 < r := by omega
      have hm2 : l ≤ (l + r) / 2 := by omega
      cases hc : lt (At p k) (At p ((l + r) / 2)) with
      | true =>
        obtain ⟨x, a1, a2, a3, a4⟩ := place_runs O P hk hs f l ((l + r) / 2) (by omega) hm2 (by omega) h4 (fun i a b => by
          by_cases q : i = (l + r) / 2
          · rw [q]; exact hc
          · exact O.tr _ _ _ hc (hs _ _ (by omega) b))
        refine ⟨x, a1, a2, a3, ?_⟩
        show Runs n lt (if l ≥ r then .ret l else _) x
        rw [if_neg hlr]
        refine .ask (P.bd hk) (P.bd (by omega)) ?_
        rw [show lt (p.getD k 0) (p.getD ((l + r) / 2) 0) = true from hc, if_pos rfl]
        exact a4
      | false =>
        have hl := O.tot _ _ (P.bd hk) (P.bd (i := (l + r) / 2) (by omega)) (P.ne hk (by omega) (by omega)) hc
        obtain ⟨x, a1, a2, a3, a4⟩ := place_runs O P hk hs f ((l + r) / 2 + 1) r (by omega) (by omega) h3 (fun i a => by
          by_cases q : i = (l + r) / 2
          · rw [q]; exact hl
          · exact O.tr _ _ _ (hs i ((l + r) / 2) (by omega) (by omega)) hl) h5
        refine ⟨x, a1, a2, a3, ?_⟩
        show Runs n lt (if l ≥ r then .ret l else _) x
        rw [if_neg hlr]
        refine .ask (P.bd hk) (P.bd (by omega)) ?_
        rw [show lt (p.getD k 0) (p.getD ((l + r) / 2) 0) = false from hc, if_neg (by decide)]
        exact a4
theorem Srt.bub {p : Array Nat} (P : Pm n p) {k x : Nat} (hk : k < n) (hs : Srt lt p k) (hx : x ≤ k) (h1 : ∀ i, i < x → lt (At p i) (At p k) = true) (h2 : ∀ i, x ≤ i → i < k → lt (At p k) (At p i) = true) : Srt lt (bubble p k (k - x)) (k + 1) := fun i j hij hj => by
  have hz := P.size
  rw [bub_at (by omega) hx, bub_at (by omega) hx]
  by_cases q1 : i = x
  · rw [if_pos q1, if_neg (by omega), if_pos (by omega)]
    exact h2 (j - 1) (by omega) (by omega)
  · rw [if_neg q1]
    by_cases q2 : j = x
    · rw [if_pos q2, if_neg (by omega)]
      exact h1 i (by omega)
    · rw [if_neg q2]
      by_cases q3 : x < i ∧ i ≤ k
      · rw [if_pos q3, if_pos (by omega)]
        exact hs _ _ (by omega) (by omega)
      · rw [if_neg q3]
        by_cases q4 : x < j ∧ j ≤ k
        · rw [if_pos q4]
          by_cases q5 : i = j - 1
          · omega
          · exact hs _ _ (by omega) (by omega)
        · rw [if_neg q4]
          exact hs _ _ hij (by omega)
theorem bin_runs (O : Ord n lt) : ∀ (f : Nat) {p : Array Nat} {k : Nat}, Pm n p → k + f = n → Srt lt p k → ∃ q, Pm n q ∧ Srt lt q n ∧ Runs n lt (kas_bin f p k) q
  | 0, p, k, P, hk, hs => ⟨p, P, by rw [← hk]; exact hs, .ret _⟩
  | f + 1, p, k, P, hk, hs => by
    obtain ⟨x, a1, a2, a3, a4⟩ := place_runs O P (by omega) hs k 0 k (by omega) (Nat.zero_le _) (Nat.le_refl _) (fun i h => by omega) (fun i a b => by omega)
    obtain ⟨q, b1, b2, b3⟩ := bin_runs O f (P.bub k (k - x)) (k := k + 1) (by omega) (hs.bub P (by omega) a1 a2 a3)
    exact ⟨q, b1, b2, a4.bind b3⟩
theorem sort_runs (O : Ord n lt) (hn : 2 ≤ n) : ∃ q, Pm n q ∧ Srt lt q n ∧ Runs n lt (kas_sort n) q := by
  obtain ⟨r, q, a1, a2, a3, a4, a5⟩ := count_runs O (p := List.toArray (List.range n)) ⟨.refl _⟩ hn
  by_cases hr : r < n
  · obtain ⟨q2, b1, b2, b3⟩ := bin_runs O (n - r) a3 (k := r) (by omega) a4
    refine ⟨q2, b1, b2, a5.bind ?_⟩
    show Runs n lt (if r < n then kas_bin (n - max r 1) q (max r 1) else .ret q) q2
    rw [if_pos hr, show max r 1 = r by omega]
    exact b3
  · have : r = n := by omega
    subst this
    refine ⟨q, a3, a4, a5.bind ?_⟩
    show Runs r lt (if r < r then kas_bin (r - max r 1) q (max r 1) else .ret q) q
    rw [if_neg (by omega)]
    exact .ret _
end
end Hf
end

section
open PySem PySem.W PyProof.Rows PySem.Calls PySem.Spec
namespace Hf
set_option autoImplicit false
set_option linter.unusedSectionVars false
set_option maxRecDepth 100000

theorem pair_lt {pr : Program} {w : World} {A : Around} {s : Shared} {x y : Addr} {ox oy : Obj} {a b a' b' : Int} {t1 t2 t3 t4 : Tok} {n k : Nat} {C : Bool → Shared → Prop}
    (hx : s.heap.get? x = some ox) (dx : ox.data = .seq #[.int a t1, .int b t2] n) (hy : s.heap.get? y = some oy) (dy : oy.data = .seq #[.int a' t3, .int b' t4] k) (h : C (pLt (a, b) (a', b')) s) :
    wpAny (model pr w) A (keyLt' (tuples' true) (.ref x) (.ref y)) C (fun _ _ => False) s := by
  refine kat_lt hx dx hy dy (kat_cons (wpAny_eqBool_int (kat_go (fun e1 => kat_yes (kat_cons (wpAny_eqBool_int (kat_go (fun e2 => kat_yes (kat_nil ?_)) fun e2 => kat_no (kat_one _ _ (lt_int ?_)))))) fun e1 => kat_no (oneLt_int ?_))))
  · have h1 : a = a' := by simpa using e1
    have h2 : b = b' := by simpa using e2
    subst h1; subst h2
    have : pLt (a, b) (a, b) = false := by simp [pLt]
    rw [this] at h
    exact h
  · have h1 : a = a' := by simpa using e1
    subst h1
    have : pLt (a, b) (a, b') = decide (b < b') := by simp [pLt]
    rw [this] at h
    exact h
  · have h1 : a ≠ a' := by simpa using e1
    have : pLt (a, b) (a', b') = decide (a < a') := by simp [pLt, h1]
    rw [this] at h
    exact h
theorem pLt_irr (p : Int × Int) : pLt p p = false := by simp [pLt]
theorem pLt_tr {p q r : Int × Int} (h1 : pLt p q = true) (h2 : pLt q r = true) : pLt p r = true := by
  simp only [pLt, Bool.or_eq_true, Bool.and_eq_true, decide_eq_true_eq] at *
  omega
theorem pLt_tot {p q : Int × Int} (h : p ≠ q) (h1 : pLt p q = false) : pLt q p = true := by
  have h' : ¬ (p.1 = q.1 ∧ p.2 = q.2) := fun ⟨a, b⟩ => h (Prod.ext a b)
  simp only [pLt, Bool.or_eq_false_iff, Bool.and_eq_false_iff, decide_eq_false_iff_not, Bool.or_eq_true, Bool.and_eq_true, decide_eq_true_eq] at *
  omega
theorem ins_perm (p : Int × Int) : ∀ l, (ins p l).Perm (p :: l)
  | [] => .refl _
  | q :: r => by
    unfold ins
    split
    · exact .refl _
    · exact ((ins_perm p r).cons q).trans (.swap ..)
theorem isort_perm : ∀ l, (isort l).Perm l
  | [] => .refl _
  | p :: r => (ins_perm p (isort r)).trans ((isort_perm r).cons p)
noncomputable def SortedP (l : List (Int × Int)) : Prop := l.Pairwise fun p q => pLt p q = true
theorem ins_sorted {p : Int × Int} : ∀ {l : List (Int × Int)}, SortedP l → p ∉ l → SortedP (ins p l)
  | [], _, _ => List.pairwise_singleton _ _
  | q :: r, h, hn => by
    obtain ⟨h1, h2⟩ := List.pairwise_cons.mp h
    unfold ins
    split
    · rename_i hl
      exact List.pairwise_cons.mpr ⟨fun z hz => by
        rcases List.mem_cons.mp hz with rfl | hz
        · exact hl
        · exact pLt_tr hl (h1 z hz), h⟩
    · rename_i hl
      have hne : p ≠ q := fun e => hn (e ▸ List.mem_cons_self)
      refine List.pairwise_cons.mpr ⟨fun z hz => ?_, ins_sorted h2 fun hm => hn (List.mem_cons_of_mem _ hm)⟩
      rcases List.mem_cons.mp ((ins_perm p r).mem_iff.mp hz) with rfl | hz
      · exact pLt_tot hne (by simpa using hl)
      · exact h1 z hz
theorem isort_sorted : ∀ {l : List (Int × Int)}, l.Nodup → SortedP (isort l)
  | [], _ => .nil
  | p :: r, h => by
    obtain ⟨h1, h2⟩ := List.nodup_cons.mp h
    exact ins_sorted (isort_sorted h2) fun hm => h1 ((isort_perm r).mem_iff.mp hm)
theorem sorted_unique : ∀ {l₁ l₂ : List (Int × Int)}, SortedP l₁ → SortedP l₂ → l₁.Perm l₂ → l₁ = l₂
  | [], l₂, _, _, h => (List.Perm.nil_eq h)
  | p :: r, [], _, _, h => absurd h.length_eq (by simp)
  | p :: r, q :: t, h1, h2, h => by
    obtain ⟨a1, a2⟩ := List.pairwise_cons.mp h1
    obtain ⟨b1, b2⟩ := List.pairwise_cons.mp h2
    have hpq : p = q := by
      rcases List.mem_cons.mp (h.mem_iff.mp List.mem_cons_self) with e | e
      · exact e
      · rcases List.mem_cons.mp (h.mem_iff.mpr (List.mem_cons_self (a := q) (l := t))) with e2 | e2
        · exact e2.symm
        · have := pLt_tr (a1 q e2) (b1 p e)
          rw [pLt_irr] at this; cases this
    subst hpq
    rw [sorted_unique a2 b2 (List.Perm.cons_inv h)]
theorem nodup_of : ∀ {l : List (Int × Int)}, nodupB l = true → l.Nodup
  | [], _ => List.nodup_nil
  | p :: r, h => by
    unfold nodupB at h
    simp only [Bool.and_eq_true, Bool.not_eq_true', List.contains_eq_mem, decide_eq_false_iff_not] at h
    exact List.nodup_cons.mpr ⟨h.1, nodup_of h.2⟩
end Hf
end

section
open PySem PySem.W PyProof.Rows PySem.Calls PySem.Spec
namespace Hf
set_option autoImplicit false
set_option linter.unusedSectionVars false
set_option maxRecDepth 100000

section
variable [TheW]
noncomputable def tupP (p : Int × Int) : PyData := .tuple [.int p.1, .int p.2]
noncomputable def PairAt (Z : Heap) (v : Value) (p : Int × Int) : Prop := ∃ a o t1 t2 n, v = .ref a ∧ Z.get? a = some o ∧ o.cls = .type "tuple" ∧ o.data = .seq #[.int p.1 t1, .int p.2 t2] n
theorem PairAt.rep {Z : Heap} {v : Value} {p : Int × Int} (h : PairAt Z v p) : Rep Z v (tupP p) := by
  obtain ⟨a, o, t1, t2, n, rfl, e, hc, hd⟩ := h
  exact .tuple_of e hc hd (.cons (.int _ _) (.cons (.int _ _) .nil))
theorem pairs_are {Z : Heap} : ∀ {vs : List Value} {xs : List PyData} {ps : List (Int × Int)}, RepA Z vs xs → pairsL xs = some ps → vs.length = ps.length ∧ ∀ (i : Nat) p, ps[i]? = some p → ∃ v, vs[i]? = some v ∧ PairAt Z v p
  | [], xs, ps, r, h => by rw [r.nil_inv] at h; cases h; exact ⟨rfl, fun i p e => by simp at e⟩
  | v :: vs, xs, ps, r, h => by
    obtain ⟨d, ds, rfl, r1, r2⟩ := r.inv
    unfold pairsL at h
    split at h
    · rename_i e; cases e
    · rename_i a b r' e
      cases e
      obtain ⟨qs, h1, rfl⟩ := Option.map_eq_some_iff.mp h
      obtain ⟨i1, i2⟩ := pairs_are r2 h1
      refine ⟨by simp [i1], fun i p e => ?_⟩
      cases i with
      | zero =>
        simp at e; subst e
        refine ⟨v, by simp, ?_⟩
        obtain ⟨a1, o, ws, n, rfl, e1, hc, hd, q⟩ := r1.tuple_inv
        obtain ⟨w1, w2, hw⟩ : ∃ w1 w2, ws.toList = [w1, w2] := by
          match hq : ws.toList, q.length with
          | [w1, w2], _ => exact ⟨w1, w2, rfl⟩
        rw [hw] at q
        obtain ⟨t1, rfl⟩ := q.cons_inv.1.int_inv
        obtain ⟨t2, rfl⟩ := q.cons_inv.2.cons_inv.1.int_inv
        refine ⟨a1, o, t1, t2, n, rfl, e1, hc, ?_⟩
        rw [hd]
        congr 1
        exact Array.toList_inj.mp hw
      | succ i => simp at e; obtain ⟨w, h2, h3⟩ := i2 i p e; exact ⟨w, by simpa using h2, h3⟩
    · cases h
theorem kat_tups {Z h : Heap} (k : Le Z h) : ∀ {vs : List Value} {ps : List (Int × Int)}, vs.length = ps.length → (∀ (i : Nat) p, ps[i]? = some p → ∃ v, vs[i]? = some v ∧ PairAt Z v p) → ∃ fs, KatTups h vs fs ∧ fs.length = vs.length ∧ ∀ v ∈ fs, ∃ i t, v = Value.int i t
  | [], [], _, _ => ⟨[], .nil, rfl, by simp⟩
  | v :: vs, p :: ps, hl, hp => by
    obtain ⟨fs, h1, h2, h3⟩ := kat_tups k (vs := vs) (ps := ps) (by simpa using hl) (fun i q e => by
      obtain ⟨w, e1, e2⟩ := hp (i + 1) q (by simpa using e)
      exact ⟨w, by simpa using e1, e2⟩)
    obtain ⟨w, e1, a, o, t1, t2, n, rfl, e, hc, hd⟩ := hp 0 p (by simp)
    simp at e1; subst e1
    refine ⟨.int p.1 t1 :: fs, .cons (k _ _ e) hc hd rfl h1, by simp [h2], fun v hv => ?_⟩
    rcases List.mem_cons.mp hv with rfl | hv
    · exact ⟨_, _, rfl⟩
    · exact h3 v hv
/-- all objects but one -/
noncomputable def newsOf (h : Heap) (L : Addr) : List (Addr × Obj) := (List.range h.objs.size).filterMap fun a => if a = L then none else (h.get? a).map fun o => (a, o)
noncomputable def noH : Heap := ⟨#[], {}⟩
theorem noH_get (b : Addr) : noH.get? b = none := by
  cases q : noH.get? b with
  | none => rfl
  | some o => exact absurd (Heap.lt_size q) (Nat.not_lt_zero _)
theorem newsOf_mem {h : Heap} {L b : Addr} {o : Obj} (e : h.get? b = some o) (hb : b ≠ L) : (b, o) ∈ newsOf h L := by
  refine List.mem_filterMap.mpr ⟨b, List.mem_range.mpr (Heap.lt_size e), ?_⟩
  rw [if_neg hb, e]; rfl
theorem newsOf_news {h : Heap} {L : Addr} : News noH L h (newsOf h L) := fun p hp => by
  obtain ⟨b, hb, e⟩ := List.mem_filterMap.mp hp
  split at e
  · cases e
  · rename_i hbL
    obtain ⟨o, e1, rfl⟩ := Option.map_eq_some_iff.mp e
    exact ⟨e1, hbL, noH_get _⟩
end
end Hf
end

section
open PySem PySem.W PyProof.Rows PySem.Calls PySem.Spec
namespace Hf
set_option autoImplicit false
set_option linter.unusedSectionVars false
set_option maxRecDepth 100000

section
variable [TheW]
/-- a frame stands when its own object alone is written anew, its names as they were -/
theorem Fm.reloc {c : Cx} {Z Z' h h' : Heap} {env : Env} {σ : Sg} {o : Nat} {oa : Addr} (F : Fm c Z h env σ o oa) {m : Str → Option Value} (hv : ∀ i d, σ i = some d → env.kindOf (nm i) = some .local → ∃ v, m (nm i) = some v ∧ ValO Z h o oa i v d) (hn : h'.Ns env.locals m)
    (I : Inv c Z' h') (g : Gr h Z Z') (k : ∀ b ob, b ≠ env.locals → h.get? b = some ob → h'.get? b = some ob) : Fm c Z' h' env σ o oa := by
  have hz : ∀ a, Z.get? a = none → (∃ ob, h.get? a = some ob ∧ ∀ ps, ob ≠ tabObj ps) → Z'.get? a = none := fun a hz ⟨ob, e, _⟩ => by
    cases q : Z'.get? a with
    | none => rfl
    | some o' => rw [g.2 a ob o' e q] at hz; cases hz
  have kO : o ≠ 0 → ∀ ob, h.get? oa = some ob → h'.get? oa = some ob := fun ho ob e => k oa ob (F.own ho).2.1 e
  refine ⟨I, F.dom, hz _ F.nL F.L_some, ⟨m, hn, fun i d e hk => ?_⟩, fun i d e hk => ?_, fun i d e hk => ?_, fun y a e => ?_, F.apart, fun ho => ?_⟩
  · obtain ⟨v, e1, e2⟩ := hv i d e hk
    exact ⟨v, e1, e2.keep g.1 kO (F.dom i d e).1⟩
  · obtain ⟨a, v, e1, ⟨ob, e2, e2'⟩, e3⟩ := F.cel i d e hk
    exact ⟨a, v, e1, ⟨ob, k _ _ (F.cells _ _ ⟨hk, e1⟩).2.1 e2, e2'⟩, e3.keep g.1 kO (F.dom i d e).1⟩
  · obtain ⟨a, v, e1, ⟨ob, e2, e2'⟩, e3⟩ := F.fre i d e hk
    exact ⟨a, v, e1, ⟨ob, g.1 _ _ e2, e2'⟩, e3.keep g.1 kO (F.dom i d e).1⟩
  · obtain ⟨e1, e2, e3, v, ob, e4, e5⟩ := F.cells y a e
    exact ⟨hz a e1 (F.C_some y a e), e2, e3, v, ob, k _ _ e2 e4, e5⟩
  · obtain ⟨e1, e2, d, e3⟩ := F.own ho
    exact ⟨hz oa e1 (F.O_some ho), e2, d, e3.keep g.1 (kO ho)⟩

theorem sorted_two {c : Cx} {A : Around} {env : Env} {Z : Heap} {s : Shared} {o : Nat} {oa l : Addr} {σ : Sg} {xs : List PyData} {ps : List (Int × Int)} {Q : Value → Shared → Prop} (F : Fm c Z s.heap env σ o oa) (r : Rep Z (.ref l) (.list xs)) (hp : pairsL xs = some ps) (h2 : 2 ≤ ps.length) (h64 : ps.length < 64) (nd : ps.Nodup)
    (P : ∀ v Z' h' tk, Fm c Z' h' env σ o oa → Gr s.heap Z Z' → (∀ b ob, b ≠ env.locals → s.heap.get? b = some ob → h'.get? b = some ob) → Rep Z' v (.list ((isort ps).map tupP)) → Q v { s with heap := h', toks := tk }) :
    wpAny (model prog c.w) A (call (.builtin "sorted") [.ref l]) Q noE s := by
  obtain ⟨m, hns, hv⟩ := F.loc
  obtain ⟨items, hl, q, _⟩ := r.isList
  obtain ⟨hlen, hat⟩ := pairs_are q hp
  have hl' : s.heap.IsList l items.toList.toArray := by simpa using hl _ F.inv.le
  have Fr0 : Fr noH env.locals s.heap m := ⟨hns, (fun b o e => by rw [noH_get] at e; cases e), Nat.zero_le _⟩
  refine kat_sorted Fr0 (newsOf_news (L := env.locals)) hl' (by rw [hlen]; exact h2) (by rw [hlen]; exact h64) fun D e1 h' F' N' hD => ?_
  have keep : ∀ b ob, b ≠ env.locals → s.heap.get? b = some ob → h'.get? b = some ob := fun b ob hb e => (N' _ (List.mem_cons_of_mem _ (newsOf_mem e hb))).1
  have kZ : Le Z h' := fun b ob e => keep b ob (fun q => by rw [q, F.nL] at e; cases e) (F.inv.le _ _ e)
  obtain ⟨fs, k1, k2, k3⟩ := kat_tups kZ hlen hat
  refine kat_kind (T := .type "int") k1 (by rw [k2, hlen]; omega) (fun v hv => ?_) (by decide) ?_
  · obtain ⟨i, t, rfl⟩ := k3 v hv
    exact Looks.of_pure rfl
  rw [show (Value.type "int" != Value.type "tuple") = true by decide]
  have O : Ord ps.length (fun i j => pLt (ps.getD i (0, 0)) (ps.getD j (0, 0))) := by
    refine ⟨fun i => pLt_irr _, fun i j k a b => pLt_tr a b, fun i j hi hj hij h => pLt_tot (fun e => hij ?_) h⟩
    have e' : ps[i] = ps[j] := by simpa [List.getD, hi, hj] using e
    exact (List.getElem_inj nd).mp e'
  obtain ⟨p, pm, hs, hr⟩ := sort_runs O h2
  rw [show items.toList.length = ps.length from hlen]
  refine hr.wp (fun i j C hi hj hC => ?_) ?_
  · obtain ⟨v, e1, a1, o1, u1, u2, n1, rfl, f1, g1, d1⟩ := hat i ps[i] (by simp [hi])
    obtain ⟨v', e2, a2, o2, u3, u4, n2, rfl, f2, g2, d2⟩ := hat j ps[j] (by simp [hj])
    show wpAny _ _ (keyLt' (tuples' true) (items.toList.getD i .none) (items.toList.getD j .none)) _ _ _
    rw [show items.toList.getD i .none = .ref a1 by simp [List.getD, e1], show items.toList.getD j .none = .ref a2 by simp [List.getD, e2]]
    refine pair_lt (kZ _ _ f1) d1 (kZ _ _ f2) d2 ?_
    have : pLt (ps.getD i (0, 0)) (ps.getD j (0, 0)) = pLt (ps[i].1, ps[i].2) (ps[j].1, ps[j].2) := by simp [List.getD, hi, hj]
    rw [← this]; exact hC
  · have hDn : ∀ q ∈ newsOf s.heap env.locals, q.1 ≠ D := fun q hq => Nat.ne_of_lt (hD q hq)
    refine KasFin.intro F' N' (.head hDn) fun h'' cc F'' N'' => ?_
    have keep2 : ∀ b ob, b ≠ env.locals → s.heap.get? b = some ob → h''.get? b = some ob := fun b ob hb e => (N'' _ (List.mem_cons_of_mem _ (newsOf_mem e hb))).1
    have hDo := N'' _ List.mem_cons_self
    have I2 : Inv c Z h'' := F.inv.turnL (wr := [env.locals]) (fun b ob hb e => keep2 b ob (by simpa using hb) e) (fun b hb => by rw [List.mem_singleton.mp hb]; exact F.nL) (fun b hb => by rw [List.mem_singleton.mp hb]; exact F.L_some)
    have nD : s.heap.get? D = none := by
      cases q : s.heap.get? D with
      | none => rfl
      | some ob => exact absurd rfl (hDn _ (newsOf_mem q hDo.2.1))
    obtain ⟨Z', I3, k3, z3, zz3⟩ := I2.put hDo.1 (F.inv.noZ nD) (fun ps q => by cases q)
    have g3 : Gr s.heap Z Z' := ⟨k3, fun b ob o' e q => by
      rw [zz3 b (fun q => by rw [q, nD] at e; cases e)] at q; exact q⟩
    refine P (.ref D) Z' h'' _ (F.reloc hv F''.ns I3 g3 keep2) g3 keep2 ?_
    refine .list_of z3 rfl rfl ?_
    have hperm : (p.toList.map fun i => ps.getD i (0, 0)) = isort ps := by
      refine sorted_unique ?_ (isort_sorted nd) ?_
      · refine List.pairwise_map.mpr (List.pairwise_iff_getElem.mpr fun i j hi hj hij => ?_)
        have hz := pm.size
        have := hs i j hij (by simp at hj; omega)
        simp only [Array.length_toList] at hi hj
        simpa [At, Array.getD, hi, hj] using this
      · refine List.Perm.trans ?_ (isort_perm ps).symm
        have h5 : p.toList.Perm (List.range ps.length) := by simpa using Array.perm_iff_toList_perm.mp pm.perm
        refine (h5.map _).trans ?_
        rw [show (List.range ps.length).map (fun i => ps.getD i (0, 0)) = ps from List.ext_getElem (by simp) fun i h1 h2 => by simp [List.getD, h2]]
    rw [← hperm]
    simp only [List.map_map]
    have hb : ∀ i ∈ p.toList, i < ps.length := fun i hi => by
      have h5 : p.toList.Perm (List.range ps.length) := by simpa using Array.perm_iff_toList_perm.mp pm.perm
      exact List.mem_range.mp (h5.mem_iff.mp hi)
    clear hs hr pm hperm
    generalize p.toList = L at hb
    induction L with
    | nil => exact .nil
    | cons i L ih =>
      have hi := hb i List.mem_cons_self
      obtain ⟨v, e1, pa⟩ := hat i ps[i] (by simp [hi])
      refine .cons ?_ (ih fun j hj => hb j (List.mem_cons_of_mem _ hj))
      show Rep Z' (items.toList.getD i .none) (tupP (ps.getD i (0, 0)))
      rw [show items.toList.getD i .none = v by simp [List.getD, e1], show ps.getD i (0, 0) = ps[i] by simp [List.getD, hi]]
      exact pa.rep.le k3
end
end Hf
end

section
open PySem PySem.W PyProof.Rows PySem.Calls PySem.Spec
namespace Hf
set_option autoImplicit false
set_option linter.unusedSectionVars false
set_option maxRecDepth 100000

theorem sort_one {pr : Program} {w : World} {A : Around} {s : Shared} {a : Addr} {v : Value} {n : Nat} {P : PySem.Fin → Shared → Prop} (ho : s.heap.get? a = some (seqObj "list" #[v] n))
    (h : ∀ h' e, h'.get? a = some (seqObj "list" #[v] e) → (∀ b ob, b ≠ a → s.heap.get? b = some ob → h'.get? b = some ob) → P (.done (.ret .none)) { s with heap := h' }) : wpAny (model pr w) A (Builtin.«list.sort» ⟨[.ref a], []⟩) P noE s := by
  rw [list_sort_plain]
  have ha : a < s.heap.objs.size := Heap.lt_size ho
  refine wpAny_bind (listItems_at ho rfl (wpAny_bind (listUpdate_at ho rfl ?_)))
  obtain ⟨e1, ho1⟩ : ∃ e1, (s.heap.update a (Obj.mapSeq fun _ => #[])).get? a = some (seqObj "list" #[] e1) := ⟨_, get?_update_seq ho (fun _ => #[])⟩
  refine wpAny_bind (seqEpoch_at ho1 rfl (wpAny_bind (wpAny_newTuple (wpAny_bind (wpAny_newList (wpAny_holding ?_))))))
  generalize hH : ((s.heap.update a (Obj.mapSeq fun _ => #[])).push (seqObj "tuple" ([v] : List Value).toArray 0)).push (seqObj "list" #[] 0) = H
  have hk : ∀ b ob, b ≠ a → s.heap.get? b = some ob → H.get? b = some ob := fun b ob hb e => by
    rw [← hH]; exact Heap.get?_push_of_some _ (Heap.get?_push_of_some _ ((Heap.SameBut.update ..).extBut b ob hb e))
  have ho6 : H.get? a = some (seqObj "list" #[] e1) := by rw [← hH]; exact Heap.get?_push_of_some _ (Heap.get?_push_of_some _ ho1)
  dsimp only
  have hsz : (#[v] : Array Value).size < 2 := by simp
  rw [if_pos hsz]
  rw [if_pos hsz]
  refine wpAny_bind (wpAny_pure ?_)
  rw [StateT.run_pure]
  refine wpAny_bind (wpAny_pure ?_)
  dsimp only
  have hout : Array.map (fun x => x.snd) (arrOf (SortSt.mk' general' ((#[v] : Array Value).zip #[v]) #[] 7 none)) = #[v] := by
    show ((#[v] : Array Value).zip #[v]).map (fun x => x.snd) = #[v]
    simp
  rw [hout]
  refine wpAny_bind (seqEpoch_at ho6 rfl (wpAny_bind (listUpdate_at ho6 rfl ?_ (hsz2 := by show 1 ≤ _; rw [sizeLine_eq]; omega))))
  simp only [bne_self_eq_false, Bool.false_eq_true, if_false]
  exact wpAny_pure (h _ _ (get?_update_seq ho6 (fun _ => #[v])) fun b ob hb e => (Heap.SameBut.update ..).extBut b ob hb (hk b ob hb e))

theorem sorted_one {pr : Program} {w : World} {A : Around} {s : Shared} {l : Addr} {v : Value} {Q : Value → Shared → Prop} (hl : s.heap.IsList l ([v] : List Value).toArray)
    (h : ∀ D h' e, s.heap.get? D = none → h'.get? D = some (seqObj "list" #[v] e) → (∀ b ob, s.heap.get? b = some ob → h'.get? b = some ob) → Q (.ref D) { s with heap := h' }) :
    wpAny (model pr w) A (call (.builtin "sorted") [.ref l]) Q noE s := by
  refine Calls.call_function_entry kind_sorted plain_sorted entry_sorted (args_sorted1 _) ?_
  unfold Builtin.«sorted»
  refine wpAny_bind (m := checkCount "sorted" 1 1 _) (wpAny_pure (wpAny_bind (collect_list hl (wpAny_bind (wpAny_newList ?_)))))
  have hk1 : ∀ b ob, s.heap.get? b = some ob → ((s.heap.push (seqObj "list" #[] 0)).update s.heap.objs.size (Obj.mapSeq (· ++ ([v] : List Value).toArray))).get? b = some ob := fun b ob e =>
    (Heap.SameBut.update ..).extBut b ob (Nat.ne_of_lt (Heap.lt_size e)) (Heap.get?_push_of_some _ e)
  generalize hH : (s.heap.push (seqObj "list" #[] 0)).update s.heap.objs.size (Obj.mapSeq (· ++ ([v] : List Value).toArray)) = H at hk1 ⊢
  have hz : H.objs.size = s.heap.objs.size + 1 := by rw [← hH, Heap.size_update, size_push']
  have hoL : (H.push (seqObj "list" #[v] 0)).get? H.objs.size = some (seqObj "list" #[v] 0) := Heap.get?_push_size _ rfl
  refine wpAny_bind (wpAny_holding (wpAny_call_entry slot_list_sort ⟨_, hoL, rfl⟩ entry_list_sort (sort_one hoL fun h' e hD hk => ⟨_, rfl, wpAny_pure ⟨_, rfl, ?_⟩⟩) (args_list_sort _)))
  refine h H.objs.size h' e ?_ hD fun b ob q => hk b ob (fun r => ?_) (Heap.get?_push_of_some _ (hk1 b ob q))
  · cases q : s.heap.get? H.objs.size with
    | none => rfl
    | some ob => exact absurd (Heap.lt_size q) (by rw [hz]; exact Nat.not_lt.mpr (Nat.le_succ _))
  · exact absurd (Heap.lt_size q) (by rw [r, hz]; exact Nat.not_lt.mpr (Nat.le_succ _))
end Hf
end

section
open PySem PySem.W PyProof.Rows PySem.Calls PySem.Spec
namespace Hf
set_option autoImplicit false
set_option linter.unusedSectionVars false
set_option maxRecDepth 100000

section
variable [TheW]
theorem sorted_any {c : Cx} {A : Around} {env : Env} {Z : Heap} {s : Shared} {o : Nat} {oa l : Addr} {σ : Sg} {xs : List PyData} {ps : List (Int × Int)} {Q : Value → Shared → Prop} (F : Fm c Z s.heap env σ o oa) (r : Rep Z (.ref l) (.list xs)) (hp : pairsL xs = some ps) (h0 : 0 < ps.length) (h64 : ps.length < 64) (nd : ps.Nodup)
    (P : ∀ v Z' h' tk, Fm c Z' h' env σ o oa → Gr s.heap Z Z' → (∀ b ob, b ≠ env.locals → s.heap.get? b = some ob → h'.get? b = some ob) → Rep Z' v (.list ((isort ps).map tupP)) → Q v { s with heap := h', toks := tk }) :
    wpAny (model prog c.w) A (call (.builtin "sorted") [.ref l]) Q noE s := by
  by_cases h2 : 2 ≤ ps.length
  · exact sorted_two F r hp h2 h64 nd P
  · have h1 : ps.length = 1 := by omega
    obtain ⟨p, rfl⟩ := List.length_eq_one_iff.mp h1
    obtain ⟨items, hl, q, _⟩ := r.isList
    obtain ⟨hlen, hat⟩ := pairs_are q hp
    obtain ⟨v, hv⟩ := List.length_eq_one_iff.mp (hlen.trans h1)
    obtain ⟨v', e1, pa⟩ := hat 0 p (by simp)
    rw [hv] at e1
    simp at e1; subst e1
    refine sorted_one (v := v) (by rw [← hv]; simpa using hl _ F.inv.le) fun D h' e nD hD hk => ?_
    obtain ⟨Z', I', g', z'⟩ := F.inv.newObj (o := seqObj "list" #[v] e) hk hD nD (fun ps q => by cases q)
    refine P (.ref D) Z' h' s.toks (F.ext I' g' (Ext.of_le hk)) g' (fun b ob _ e => hk b ob e) ?_
    exact .list_of z' rfl rfl (.cons (pa.rep.le g'.1) .nil)

theorem eqv_pairs : ∀ (p q : List (Int × Int)), PyData.eqvAll (p.map tupP) (q.map tupP) = decide (p = q)
  | [], [] => by simp [PyData.eqvAll]
  | [], _ :: _ => by simp [PyData.eqvAll]
  | _ :: _, [] => by simp [PyData.eqvAll]
  | (a, b) :: p, (a', b') :: q => by
    simp only [List.map_cons, PyData.eqvAll, eqv_pairs p q, tupP, PyData.eqv]
    by_cases h1 : a = a' <;> by_cases h2 : b = b' <;> by_cases h3 : p = q <;> simp [h1, h2, h3]
theorem lay_pairs : ∀ p : List (Int × Int), PyData.canLayAll0 (p.map tupP) = true ∧ PyData.depthAll (p.map tupP) ≤ 5
  | [] => ⟨rfl, by simp [PyData.depthAll]⟩
  | (a, b) :: p => by
    obtain ⟨h1, h2⟩ := lay_pairs p
    refine ⟨by simp only [List.map_cons, PyData.canLayAll0, h1, tupP, PyData.canLay0]; rfl, ?_⟩
    simp only [List.map_cons, PyData.depthAll, tupP, PyData.depth]
    omega
theorem shaped_pairs (p : List (Int × Int)) : SeqAt.shaped (.list (p.map tupP)) = true := by
  obtain ⟨h1, h2⟩ := lay_pairs p
  unfold SeqAt.shaped
  rw [show PyData.canLay0 (.list (p.map tupP)) = true from by rw [PyData.canLay0]; exact h1]
  simp only [Bool.true_and, decide_eq_true_eq]
  rw [PyData.depth]
  omega
end
end Hf
end

section
open PySem PySem.W PyProof.Rows PySem.Calls PySem.Spec
namespace Hf
set_option autoImplicit false
set_option linter.unusedSectionVars false
set_option maxRecDepth 100000

section
variable [TheW] {b : Nat} {sc : Scope}
theorem sortD_some {d : PyData} {q : List (Int × Int)} (h : sortD d = some q) : ∃ xs ps, d = .list xs ∧ pairsL xs = some ps ∧ 0 < ps.length ∧ ps.length < 64 ∧ ps.Nodup ∧ q = isort ps := by
  unfold sortD at h
  split at h
  · rename_i xs
    obtain ⟨ps, h1, h2⟩ := Option.bind_eq_some_iff.mp h
    split at h2
    · rename_i hc
      cases h2
      simp only [Bool.and_eq_true, decide_eq_true_eq] at hc
      exact ⟨xs, ps, rfl, h1, hc.1.2, hc.1.1, nodup_of hc.2, rfl⟩
    · cases h2
  · cases h
/-- a sorted list of pairs, the frame's own object written anew -/
theorem call_sorted {e : Expr} {f : Fe} {np pos : Pos} (he : EvOK b sc e f) (hx : sc.names.lookup ("sorted" : Str) = some .globalImplicit) (hst : ∀ env, starEach [e] env = (false, eval e env) :: starEach [] env) (hpl : ∀ env, (backTo pos (starEach [] env)).any (·.1) = false)
    {c : Cx} {A : Around} {env : Env} {Z : Heap} {s : Shared} {o : Nat} {oa : Addr} {σ : Sg} {d : PyData} {q : List (Int × Int)} {Q : Value → Shared → Prop} (rm : Room b A) (hs : env.scope = sc) (ho : EnvOK env) (F : Fm c Z s.heap env σ o oa) (hf : f o σ = some d) (hq : sortD d = some q)
    (P : ∀ v Z' h' tk, Fm c Z' h' env σ o oa → Gr s.heap Z Z' → (∀ b ob, b ≠ env.locals → b ≠ 16 → b ≠ 23 → s.heap.get? b = some ob → h'.get? b = some ob) → Rep Z' v (.list (q.map tupP)) → Q v { s with heap := h', toks := tk }) :
    wpAny (model prog c.w) A (eval (.Call (.Name "sorted" np) [e] [] pos) env) Q noE s := by
  obtain ⟨xs, ps, rfl, h1, h2, h3, h4, rfl⟩ := sortD_some hq
  refine wpAny_Call_ofName (name_boot glob_sorted boot_sorted (by decide) hx (by decide) F.inv hs ho ?_)
  show wpAny _ A (callWith pos (.builtin "sorted") [] (backTo pos (starEach [e] env)) []) _ _ _
  refine callWith_builtin1 (args_cons (he c A env Z oa s o σ _ _ rm hs ho F hf fun v Z1 h1' t1 I1 g1 x1 r1 => args_nil ?_) (hst env)) (hst env) (hpl env)
  obtain ⟨a, _, _, _, rfl, _⟩ := id r1.list_inv
  have F1 := F.ext I1 g1 x1
  refine sorted_any (s := { s with heap := h1', toks := t1 }) F1 r1 h1 h2 h3 h4 fun v Z2 h2' t2 F2 g2 k2 r2 => ?_
  refine P v Z2 h2' t2 F2 (g1.trans x1 g2 F2.inv.noTab) (fun b ob b0 b1 b2 e => k2 b ob b0 (x1 b ob b1 b2 e)) r2
theorem st_sortedEq {e1 e2 : Expr} {f g : Fe} {p1 p2 p3 p4 p5 p6 : Pos} (h1 : EvOK b sc e1 f) (h2 : EvOK b sc e2 g) (hx : sc.names.lookup ("sorted" : Str) = some .globalImplicit)
    (hs1 : ∀ env, starEach [e1] env = (false, eval e1 env) :: starEach [] env) (hs2 : ∀ env, starEach [e2] env = (false, eval e2 env) :: starEach [] env)
    (hp1 : ∀ env, (backTo p2 (starEach [] env)).any (·.1) = false) (hp2 : ∀ env, (backTo p4 (starEach [] env)).any (·.1) = false) :
    StOK b sc (.Return (some (.Compare (.Call (.Name "sorted" p1) [e1] [] p2) [.Eq] [.Call (.Name "sorted" p3) [e2] [] p4] p5)) p6) (fSortedEq f g) := by
  intro c A env Z oa s o σ r Q rm he ho F hf P
  unfold fSortedEq at hf
  obtain ⟨x, q1, hf⟩ := Option.bind_eq_some_iff.mp hf
  obtain ⟨p, q2, hf⟩ := Option.bind_eq_some_iff.mp hf
  obtain ⟨y, q3, hf⟩ := Option.bind_eq_some_iff.mp hf
  obtain ⟨q, q4, hf⟩ := Option.bind_eq_some_iff.mp hf
  cases hf
  refine wpAny_Return_some (wpAny_Compare1 (call_sorted h1 hx hs1 hp1 rm he ho F q1 q2 fun v Z1 h1' t1 F1 g1 k1 r1 => ?_) rfl)
  refine call_sorted (s := { s with heap := h1', toks := t1 }) h2 hx hs2 hp2 rm he ho F1 q3 q4 fun u Z2 h2' t2 F2 g2 k2 r2 => ?_
  refine cmp_ok .Eq c A Z2 _ v u (.list (p.map tupP)) (.list (q.map tupP)) (decide (p = q)) _ (rm.mono (Nat.zero_le _)) F2.inv (r1.le g2.1) r2 ?_ fun tk => ?_
  · show (if SeqAt.shaped (.list (p.map tupP)) && SeqAt.shaped (.list (q.map tupP)) then some (PyData.eqv (.list (p.map tupP)) (.list (q.map tupP))) else none) = _
    rw [shaped_pairs, shaped_pairs, if_pos (by decide)]
    rw [PyData.eqv, eqv_pairs]
  · have kk : ∀ b ob, b ≠ env.locals → b ≠ 16 → b ≠ 23 → s.heap.get? b = some ob → h2'.get? b = some ob := fun b ob b0 b1 b2 e => k2 b ob b0 b1 b2 (k1 b ob b0 b1 b2 e)
    refine P (.bool (decide (p = q))) Z2 h2' tk F2.inv F2.nL (fun z a e => (F2.cells z a e).1) ⟨fun b ob hm b1 b2 e => kk b ob (fun q => hm (.inl q)) b1 b2 e, .of_gr ⟨g1.1.trans g2.1, fun b ob o' e q => ?_⟩, fun q => absurd rfl q, fun hO => ?_⟩ (.bool _)
    · by_cases b1 : b = 16
      · rw [F2.inv.noTab b (.inl b1)] at q; cases q
      by_cases b2 : b = 23
      · rw [F2.inv.noTab b (.inr b2)] at q; cases q
      by_cases b0 : b = env.locals
      · rw [b0, F2.nL] at q; cases q
      exact g1.2 b ob o' e (g2.2 b ob o' (k1 b ob b0 b1 b2 e) q)
    · obtain ⟨ob, e, _⟩ := F2.O_some hO
      exact ⟨ob, e⟩
end
end Hf
end

section
open PySem PySem.W PyProof.Rows PySem.Calls PySem.Spec
namespace Hf
set_option autoImplicit false
set_option maxRecDepth 100000
set_option linter.unusedSectionVars false
set_option Elab.async false
section
variable [TheW]
set_option maxHeartbeats 8000000 in
noncomputable def Slaw_0 : Fs := (fSet (pName 2) (eBin addD (eLit (.int 1)) (eBin modD (eCall sumD (lCons (eVar 1) lNil)) (eLit (.int 6)))))
set_option maxHeartbeats 8000000 in
theorem stlaw_0 : StOK 24 (scopeAt 12) (stAt 12 0) Slaw_0 := (st_set (store_cell 2 rfl (by decide) rfl) (ev_bin add_ok (ev_int 1) (ev_bin mod_ok (ev_bi (sum_ok.mono (Nat.zero_le _)) glob_sum boot_sum (by decide) rfl rfl (evs_cons (ev_local 1 rfl rfl rfl) evs_nil (fun _ => rfl)) (fun _ => rfl) (fun _ => rfl)) (ev_int 6))) (fun _ => rfl))

set_option maxHeartbeats 8000000 in
noncomputable def Slaw_1 : Fs := (fSet (pPair 3 4) (eTup (lCons (eCall F_law_plan (lCons (eVar 2) lNil)) (lCons (eBin subD (eBin powD (eLit (.int 2)) (eVar 2)) (eLit (.int 1))) lNil))))
set_option maxHeartbeats 8000000 in
theorem stlaw_1 : StOK 24 (scopeAt 12) (stAt 12 1) Slaw_1 := (st_tuple (tgt_pair (store_local 3 rfl (by decide) rfl) (store_cell 4 rfl (by decide) rfl)) (ev_tup (evs_cons (ev_call (fn_law_plan.mono (by decide)) glob_law_plan obj_law_plan rfl rfl (evs_cons (ev_cell 2 rfl rfl rfl) evs_nil (fun _ => rfl)) (fun _ => rfl)) (evs_cons (ev_bin sub_ok (ev_bin pow_ok (ev_int 2) (ev_cell 2 rfl rfl rfl)) (ev_int 1)) evs_nil (fun _ => rfl)) (fun _ => rfl))) (fun _ => rfl) (fun _ => rfl))

set_option maxHeartbeats 8000000 in
noncomputable def Slaw_2 : Fs := (fIf (bOr (bCmp (cmpD .NotEq) (eComp 5 [5] (lIt (eCall F_law_called (lCons (eVar 2) (lCons (eVar 3) lNil)))) (bCmp (cmpD .NotEq) (eVar 5) (eVar 4)) (lOne (eVar 5))) (eLst lNil)) (bOr (bCmp (cmpD .NotEq) (eCall F_law_plain (lCons (eVar 2) (lCons (eVar 3) lNil))) (eBin mulL (eLst (lCons (eVar 2) lNil)) (eVar 2))) (bLit false))) (fSeq (fRet (eLit (.bool false))) fNil) fNil)
set_option maxHeartbeats 8000000 in
theorem stlaw_2 : StOK 24 (scopeAt 12) (stAt 12 2) Slaw_2 := (st_if (ts_bool (all_or (ts_cmp (cmp_ok .NotEq) (evn_comp1 ⟨rfl, by decide +kernel, by decide +kernel, by decide +kernel⟩ (.inl rfl) ⟨rfl, by decide⟩ (store_local 5 rfl (by decide) rfl) (it_name (ev_call (fn_law_called.mono (by decide)) glob_law_called obj_law_called rfl rfl (evs_cons (ev_cell 2 rfl rfl rfl) (evs_cons (ev_local 3 rfl rfl rfl) evs_nil (fun _ => rfl)) (fun _ => rfl)) (fun _ => rfl))) (cond_one (ts_cmp (cmp_ok .NotEq) (ev_local 5 rfl rfl rfl) (ev_cell 4 rfl rfl rfl) rfl)) (ev_local 5 rfl rfl rfl) (fun _ _ => rfl)).ev (ev_lst evs_nil) rfl) (all_or (ts_cmp (cmp_ok .NotEq) (ev_call (fn_law_plain.mono (by decide)) glob_law_plain obj_law_plain rfl rfl (evs_cons (ev_cell 2 rfl rfl rfl) (evs_cons (ev_local 3 rfl rfl rfl) evs_nil (fun _ => rfl)) (fun _ => rfl)) (fun _ => rfl)) (ev_bin mulL_ok (ev_lst (evs_cons (ev_cell 2 rfl rfl rfl) evs_nil (fun _ => rfl))) (ev_cell 2 rfl rfl rfl)) rfl) all_nil_or))) (bl_cons (st_ret (ev_bool false)) bl_nil) bl_nil)

set_option maxHeartbeats 8000000 in
noncomputable def Slaw_3 : Fs := (fIf (bOr (bAnd (bCmp (cmpD .GtE) (eVar 2) (eLit (.int 4))) (bAnd (bCmp (cmpD .NotEq) (eCall lenD (lCons (eVar 3) lNil)) (eBin subD (eBin mulD (eLit (.int 2)) (eVar 2)) (eLit (.int 4)))) (bLit true))) (bOr (bCmp (cmpD .NotEq) (eCall lenD (lCons (eCall F_int2digits (lCons (eVar 4) (lCons (eLit (.int 1)) lNil))) lNil)) (eVar 2)) (bLit false))) (fSeq (fRet (eLit (.bool false))) fNil) fNil)
set_option maxHeartbeats 8000000 in
theorem stlaw_3 : StOK 24 (scopeAt 12) (stAt 12 3) Slaw_3 := (st_if (ts_bool (all_or (ts_bool (all_and (ts_cmp (cmp_ok .GtE) (ev_cell 2 rfl rfl rfl) (ev_int 4) rfl) (all_and (ts_cmp (cmp_ok .NotEq) (ev_bi (len_ok.mono (Nat.zero_le _)) glob_len boot_len (by decide) rfl rfl (evs_cons (ev_local 3 rfl rfl rfl) evs_nil (fun _ => rfl)) (fun _ => rfl) (fun _ => rfl)) (ev_bin sub_ok (ev_bin mul_ok (ev_int 2) (ev_cell 2 rfl rfl rfl)) (ev_int 4)) rfl) all_nil_and))) (all_or (ts_cmp (cmp_ok .NotEq) (ev_bi (len_ok.mono (Nat.zero_le _)) glob_len boot_len (by decide) rfl rfl (evs_cons (ev_call (fn_int2digits.mono (by decide)) glob_int2digits obj_int2digits rfl rfl (evs_cons (ev_cell 4 rfl rfl rfl) (evs_cons (ev_int 1) evs_nil (fun _ => rfl)) (fun _ => rfl)) (fun _ => rfl)) evs_nil (fun _ => rfl)) (fun _ => rfl) (fun _ => rfl)) (ev_cell 2 rfl rfl rfl) rfl) all_nil_or))) (bl_cons (st_ret (ev_bool false)) bl_nil) bl_nil)

set_option maxHeartbeats 8000000 in
noncomputable def Slaw_4 : Fs := (fIf (bCmp (cmpD .In) (eVar 2) (eTup (lCons (eLit (.int 3)) (lCons (eLit (.int 4)) lNil)))) (fSeq (fSet (pName 6) (eComp 14 [14, 13] (lRange (lCons (eVar 2) lNil)) (bLit true) (lInner 13 (lRange (lCons (eVar 14) lNil)) (bLit true) (lOne (eTup (lCons (eVar 13) (lCons (eVar 14) lNil))))))) (fSeq (fSet (pName 7) (eLst (lCons (eLst (lCons (eTup (lCons (eLit (.int 0)) (lCons (eLit (.int 1)) lNil))) lNil)) lNil))) (fSeq (fFor (lRange (lCons (eBin subD (eCall lenD (lCons (eVar 3) lNil)) (eLit (.int 2))) lNil)) (pName 8) (fSeq (fSet (pName 7) (eComp 9 [9, 10] (lIt (eVar 7)) (bLit true) (lInner 10 (lIt (eVar 6)) (bLit true) (lOne (eBin addD (eVar 9) (eLst (lCons (eVar 10) lNil))))))) fNil)) (fSeq (fIf (bCmp (cmpD .NotEq) (eComp 9 [9] (lIt (eVar 7)) (bAnd (bCmp (cmpD .Eq) (eComp 11 [11] (lRange (lCons (eVar 2) lNil)) (bCmp (cmpD .NotIn) (eVar 11) (eComp 10 [10, 13] (lIt (eVar 9)) (bLit true) (lInner 13 (lIt (eVar 10)) (bLit true) (lOne (eVar 13))))) (lOne (eVar 11))) (eLst lNil)) (bAnd (bCmp (cmpD .Eq) (eCall F_law_plain (lCons (eVar 2) (lCons (eVar 9) lNil))) (eBin mulL (eLst (lCons (eVar 2) lNil)) (eVar 2))) (bLit true))) (lOne (eVar 9))) (eLst lNil)) (fSeq (fRet (eLit (.bool false))) fNil) fNil) fNil)))) fNil)
set_option maxHeartbeats 8000000 in
theorem stlaw_4 : StOK 24 (scopeAt 12) (stAt 12 4) Slaw_4 := (st_if (ts_cmp (cmp_ok .In) (ev_cell 2 rfl rfl rfl) (ev_tup (evs_cons (ev_int 3) (evs_cons (ev_int 4) evs_nil (fun _ => rfl)) (fun _ => rfl))) rfl) (bl_cons (st_set (store_cell 6 rfl (by decide) rfl) (evn_comp2 ⟨rfl, by decide +kernel, by decide +kernel, by decide +kernel⟩ (.inl rfl) ⟨rfl, by decide⟩ (store_local 14 rfl (by decide) rfl) (it_range glob_range boot_range rfl (evs_cons (ev_cell 2 rfl rfl rfl) evs_nil (fun _ => rfl)) (fun _ => rfl) (fun _ => rfl)) cond_nil (fun _ _ => rfl) rfl (store_local 13 rfl (by decide) rfl) (it_range glob_range boot_range rfl (evs_cons (ev_local 14 rfl rfl rfl) evs_nil (fun _ => rfl)) (fun _ => rfl) (fun _ => rfl)) cond_nil (ev_tup (evs_cons (ev_local 13 rfl rfl rfl) (evs_cons (ev_local 14 rfl rfl rfl) evs_nil (fun _ => rfl)) (fun _ => rfl))) (fun _ _ => rfl)).ev (fun _ => rfl)) (bl_cons (st_set (store_local 7 rfl (by decide) rfl) (ev_lst (evs_cons (ev_lst (evs_cons (ev_tup (evs_cons (ev_int 0) (evs_cons (ev_int 1) evs_nil (fun _ => rfl)) (fun _ => rfl))) evs_nil (fun _ => rfl))) evs_nil (fun _ => rfl))) (fun _ => rfl)) (bl_cons (st_for (it_range glob_range boot_range rfl (evs_cons (ev_bin sub_ok (ev_bi (len_ok.mono (Nat.zero_le _)) glob_len boot_len (by decide) rfl rfl (evs_cons (ev_local 3 rfl rfl rfl) evs_nil (fun _ => rfl)) (fun _ => rfl) (fun _ => rfl)) (ev_int 2)) evs_nil (fun _ => rfl)) (fun _ => rfl) (fun _ => rfl)) (tgt_name (store_local 8 rfl (by decide) rfl)) (bl_cons (st_used2 ⟨rfl, by decide +kernel, by decide +kernel, by decide +kernel⟩ (.inl rfl) ⟨rfl, by decide⟩ (store_local 9 rfl (by decide) rfl) (it_name (ev_local 7 rfl rfl rfl)) cond_nil (fun _ _ => rfl) rfl (store_local 10 rfl (by decide) rfl) (it_name (ev_cell 6 rfl rfl rfl)) cond_nil (ev_bin add_ok (ev_local 9 rfl rfl rfl) (ev_lst (evs_cons (ev_local 10 rfl rfl rfl) evs_nil (fun _ => rfl)))) (fun _ _ => rfl) (store_local 7 rfl (by decide) rfl) (fun _ => rfl)) bl_nil) (fun _ _ => rfl)) (bl_cons (st_if (ts_cmp (cmp_ok .NotEq) (evn_comp1 ⟨rfl, by decide +kernel, by decide +kernel, by decide +kernel⟩ (.inr rfl) ⟨rfl, by decide⟩ (store_cell 9 rfl (by decide) rfl) (it_name (ev_local 7 rfl rfl rfl)) (cond_one (ts_bool (all_and (ts_cmp (cmp_ok .Eq) (evn_comp1 ⟨rfl, by decide +kernel, by decide +kernel, by decide +kernel⟩ (.inl rfl) ⟨rfl, by decide⟩ (store_local 11 rfl (by decide) (by decide +kernel)) (it_range glob_range boot_range rfl (evs_cons (ev_cell 2 rfl rfl rfl) evs_nil (fun _ => rfl)) (fun _ => rfl) (fun _ => rfl)) (cond_one (ts_cmp (cmp_ok .NotIn) (ev_local 11 rfl (by decide +kernel) rfl) (evn_comp2 ⟨rfl, by decide +kernel, by decide +kernel, by decide +kernel⟩ (.inl rfl) ⟨rfl, by decide⟩ (store_local 10 rfl (by decide) (by decide +kernel)) (it_name (ev_cell 9 rfl (by decide +kernel) rfl)) cond_nil (fun _ _ => rfl) (by decide +kernel) (store_local 13 rfl (by decide) (by decide +kernel)) (it_name (ev_local 10 rfl (by decide +kernel) rfl)) cond_nil (ev_local 13 rfl (by decide +kernel) rfl) (fun _ _ => rfl)).ev rfl)) (ev_local 11 rfl (by decide +kernel) rfl) (fun _ _ => rfl)).ev (ev_lst evs_nil) rfl) (all_and (ts_cmp (cmp_ok .Eq) (ev_call (fn_law_plain.mono (by decide)) glob_law_plain obj_law_plain rfl rfl (evs_cons (ev_cell 2 rfl rfl rfl) (evs_cons (ev_cell 9 rfl rfl rfl) evs_nil (fun _ => rfl)) (fun _ => rfl)) (fun _ => rfl)) (ev_bin mulL_ok (ev_lst (evs_cons (ev_cell 2 rfl rfl rfl) evs_nil (fun _ => rfl))) (ev_cell 2 rfl rfl rfl)) rfl) all_nil_and)))) (ev_cell 9 rfl rfl rfl) (fun _ _ => rfl)).ev (ev_lst evs_nil) rfl) (bl_cons (st_ret (ev_bool false)) bl_nil) bl_nil) bl_nil)))) bl_nil)

set_option maxHeartbeats 8000000 in
noncomputable def Slaw_5 : Fs := (fOwn 9 (eLst lNil))
set_option maxHeartbeats 8000000 in
theorem stlaw_5 : StOK 24 (scopeAt 12) (stAt 12 5) Slaw_5 := (st_own (storeOwn_local 9 rfl (by decide) rfl) (evn_lst evs_nil) (fun _ => rfl))

set_option maxHeartbeats 8000000 in
noncomputable def Slaw_6 : Fs := (fFor (lIt (eBin takeD (eVar 1) (eLit (.int 8)))) (pName 12) (fSeq (fSet (pPairR 13 14) (eTup (lCons (eBin modD (eVar 12) (eVar 2)) (lCons (eBin modD (eBin fdivD (eVar 12) (eVar 2)) (eVar 2)) lNil)))) (fSeq (fIf (bCmp (cmpD .NotEq) (eVar 13) (eVar 14)) (fSeq (fApp 9 (eTup (lCons (eVar 13) (lCons (eVar 14) lNil)))) fNil) fNil) fNil)))
set_option maxHeartbeats 8000000 in
theorem stlaw_6 : StOK 24 (scopeAt 12) (stAt 12 6) Slaw_6 := (st_for (it_name (ev_take (ev_local 1 rfl rfl rfl) (ev_int 8))) (tgt_name (store_local 12 rfl (by decide) rfl)) (bl_cons (st_swapped (store_local 13 rfl (by decide) rfl) (store_local 14 rfl (by decide) rfl) (ev_tup (evs_cons (ev_bin mod_ok (ev_local 12 rfl rfl rfl) (ev_cell 2 rfl rfl rfl)) (evs_cons (ev_bin mod_ok (ev_bin fdiv_ok (ev_local 12 rfl rfl rfl) (ev_cell 2 rfl rfl rfl)) (ev_cell 2 rfl rfl rfl)) evs_nil (fun _ => rfl)) (fun _ => rfl))) (fun _ => rfl) (fun _ => rfl)) (bl_cons (st_if (ts_cmp (cmp_ok .NotEq) (ev_local 13 rfl rfl rfl) (ev_local 14 rfl rfl rfl) rfl) (bl_cons (st_append (own_local 9 rfl rfl rfl) (ev_tup (evs_cons (ev_local 13 rfl rfl rfl) (evs_cons (ev_local 14 rfl rfl rfl) evs_nil (fun _ => rfl)) (fun _ => rfl))) rfl (fun _ => rfl) (fun _ => rfl) (fun _ => rfl)) bl_nil) bl_nil) bl_nil)) (fun _ _ => rfl))

set_option maxHeartbeats 8000000 in
noncomputable def Slaw_7 : Fs := (fSet (pName 15) (eCall F_law_has (lCons (eVar 2) (lCons (eVar 9) lNil))))
set_option maxHeartbeats 8000000 in
theorem stlaw_7 : StOK 24 (scopeAt 12) (stAt 12 7) Slaw_7 := (st_set (store_cell 15 rfl (by decide) rfl) (ev_call (fn_law_has.mono (by decide)) glob_law_has obj_law_has rfl rfl (evs_cons (ev_cell 2 rfl rfl rfl) (evs_cons (ev_local 9 rfl rfl rfl) evs_nil (fun _ => rfl)) (fun _ => rfl)) (fun _ => rfl)) (fun _ => rfl))

set_option maxHeartbeats 8000000 in
noncomputable def Slaw_8 : Fs := (fSet (pName 16) (eVar 2))
set_option maxHeartbeats 8000000 in
theorem stlaw_8 : StOK 24 (scopeAt 12) (stAt 12 8) Slaw_8 := (st_set (store_local 16 rfl (by decide) rfl) (ev_cell 2 rfl rfl rfl) (fun _ => rfl))

set_option maxHeartbeats 8000000 in
noncomputable def Slaw_9 : Fs := (fFor (lRange (lCons (eBin addD (eCall lenD (lCons (eVar 9) lNil)) (eLit (.int 1))) lNil)) (pName 17) (fSeq (fSet (pName 18) (eCall Fcount_calls (lCons (eCall F_law_has (lCons (eVar 2) (lCons (eBin takeD (eVar 9) (eVar 17)) lNil))) lNil))) (fSeq (fIf (bOr (bCmp (cmpD .Lt) (eVar 18) (eVar 16)) (bOr (bAnd (bCmp (cmpD .Gt) (eVar 17) (eLit (.int 0))) (bAnd (bCmp (cmpD .Gt) (eVar 18) (eBin addD (eVar 16) (eBin mulD (eLit (.int 2)) (eVar 2)))) (bLit true))) (bLit false))) (fSeq (fRet (eLit (.bool false))) fNil) fNil) (fSeq (fSet (pName 16) (eVar 18)) fNil))))
set_option maxHeartbeats 8000000 in
theorem stlaw_9 : StOK 24 (scopeAt 12) (stAt 12 9) Slaw_9 := (st_for (it_range glob_range boot_range rfl (evs_cons (ev_bin add_ok (ev_bi (len_ok.mono (Nat.zero_le _)) glob_len boot_len (by decide) rfl rfl (evs_cons (ev_local 9 rfl rfl rfl) evs_nil (fun _ => rfl)) (fun _ => rfl) (fun _ => rfl)) (ev_int 1)) evs_nil (fun _ => rfl)) (fun _ => rfl) (fun _ => rfl)) (tgt_name (store_local 17 rfl (by decide) rfl)) (bl_cons (st_set (store_local 18 rfl (by decide) rfl) (ev_call (fncount_calls.mono (by decide)) globcount_calls objcount_calls rfl rfl (evs_cons (ev_call (fn_law_has.mono (by decide)) glob_law_has obj_law_has rfl rfl (evs_cons (ev_cell 2 rfl rfl rfl) (evs_cons (ev_take (ev_local 9 rfl rfl rfl) (ev_local 17 rfl rfl rfl)) evs_nil (fun _ => rfl)) (fun _ => rfl)) (fun _ => rfl)) evs_nil (fun _ => rfl)) (fun _ => rfl)) (fun _ => rfl)) (bl_cons (st_if (ts_bool (all_or (ts_cmp (cmp_ok .Lt) (ev_local 18 rfl rfl rfl) (ev_local 16 rfl rfl rfl) rfl) (all_or (ts_bool (all_and (ts_cmp (cmp_ok .Gt) (ev_local 17 rfl rfl rfl) (ev_int 0) rfl) (all_and (ts_cmp (cmp_ok .Gt) (ev_local 18 rfl rfl rfl) (ev_bin add_ok (ev_local 16 rfl rfl rfl) (ev_bin mul_ok (ev_int 2) (ev_cell 2 rfl rfl rfl))) rfl) all_nil_and))) all_nil_or))) (bl_cons (st_ret (ev_bool false)) bl_nil) bl_nil) (bl_cons (st_set (store_local 16 rfl (by decide) rfl) (ev_local 18 rfl rfl rfl) (fun _ => rfl)) bl_nil))) (fun _ _ => rfl))

set_option maxHeartbeats 8000000 in
noncomputable def Slaw_10 : Fs := (fFor (lRange (lCons (eVar 2) lNil)) (pName 19) (fSeq (fSet (pName 20) (eLst (lCons (eVar 19) lNil))) (fSeq (fFor (lItL (eVar 9)) (pPair 13 14) (fSeq (fIf (bOr (bCmp (cmpD .In) (eVar 13) (eVar 20)) (bOr (bCmp (cmpD .In) (eVar 14) (eVar 20)) (bLit false))) (fSeq (fSet (pName 20) (eBin addD (eVar 20) (eLst (lCons (eVar 13) (lCons (eVar 14) lNil))))) fNil) fNil) fNil)) (fSeq (fIf (bCmp (cmpD .NotEq) (eComp 11 [11] (lRange (lCons (eVar 2) lNil)) (bCmp (cmpD .NotEq) (eOfB (bCmp inD (eTup (lCons (eLit (.str (Str.ofString "has"))) (lCons (eVar 11) (lCons (eVar 19) lNil)))) (eVar 15))) (eOfB (bCmp (cmpD .In) (eVar 11) (eVar 20)))) (lOne (eVar 11))) (eLst lNil)) (fSeq (fRet (eLit (.bool false))) fNil) fNil) fNil))))
set_option maxHeartbeats 8000000 in
theorem stlaw_10 : StOK 24 (scopeAt 12) (stAt 12 10) Slaw_10 := (st_for (it_range glob_range boot_range rfl (evs_cons (ev_cell 2 rfl rfl rfl) evs_nil (fun _ => rfl)) (fun _ => rfl) (fun _ => rfl)) (tgt_name (store_cell 19 rfl (by decide) rfl)) (bl_cons (st_set (store_cell 20 rfl (by decide) rfl) (ev_lst (evs_cons (ev_cell 19 rfl rfl rfl) evs_nil (fun _ => rfl))) (fun _ => rfl)) (bl_cons (st_for (it_pair (ev_local 9 rfl rfl rfl)) (tgt_pair (store_local 13 rfl (by decide) rfl) (store_local 14 rfl (by decide) rfl)) (bl_cons (st_if (ts_bool (all_or (ts_cmp (cmp_ok .In) (ev_local 13 rfl rfl rfl) (ev_cell 20 rfl rfl rfl) rfl) (all_or (ts_cmp (cmp_ok .In) (ev_local 14 rfl rfl rfl) (ev_cell 20 rfl rfl rfl) rfl) all_nil_or))) (bl_cons (st_set (store_cell 20 rfl (by decide) rfl) (ev_bin add_ok (ev_cell 20 rfl rfl rfl) (ev_lst (evs_cons (ev_local 13 rfl rfl rfl) (evs_cons (ev_local 14 rfl rfl rfl) evs_nil (fun _ => rfl)) (fun _ => rfl)))) (fun _ => rfl)) bl_nil) bl_nil) bl_nil) (fun _ _ => rfl)) (bl_cons (st_if (ts_cmp (cmp_ok .NotEq) (evn_comp1 ⟨rfl, by decide +kernel, by decide +kernel, by decide +kernel⟩ (.inl rfl) ⟨rfl, by decide⟩ (store_local 11 rfl (by decide) rfl) (it_range glob_range boot_range rfl (evs_cons (ev_cell 2 rfl rfl rfl) evs_nil (fun _ => rfl)) (fun _ => rfl) (fun _ => rfl)) (cond_one (ts_cmp (cmp_ok .NotEq) (ev_cmp in_dict (ev_tup (evs_cons (ev_str (Str.ofString "has")) (evs_cons (ev_local 11 rfl rfl rfl) (evs_cons (ev_cell 19 rfl rfl rfl) evs_nil (fun _ => rfl)) (fun _ => rfl)) (fun _ => rfl))) (ev_cell 15 rfl rfl rfl) rfl) (ev_cmp (cmp_ok .In) (ev_local 11 rfl rfl rfl) (ev_cell 20 rfl rfl rfl) rfl) rfl)) (ev_local 11 rfl rfl rfl) (fun _ _ => rfl)).ev (ev_lst evs_nil) rfl) (bl_cons (st_ret (ev_bool false)) bl_nil) bl_nil) bl_nil))) (fun _ _ => rfl))

set_option maxHeartbeats 8000000 in
noncomputable def Slaw_11 : Fs := (fSet (pName 21) (eCall F_law_has (lCons (eVar 2) (lCons (eUn revD (eVar 9)) lNil))))
set_option maxHeartbeats 8000000 in
theorem stlaw_11 : StOK 24 (scopeAt 12) (stAt 12 11) Slaw_11 := (st_set (store_local 21 rfl (by decide) rfl) (ev_call (fn_law_has.mono (by decide)) glob_law_has obj_law_has rfl rfl (evs_cons (ev_cell 2 rfl rfl rfl) (evs_cons (ev_rev (ev_local 9 rfl rfl rfl)) evs_nil (fun _ => rfl)) (fun _ => rfl)) (fun _ => rfl)) (fun _ => rfl))

set_option maxHeartbeats 8000000 in
noncomputable def Slaw_12 : Fs := (fSortedEq (eComp 22 [22] (lIt (eVar 21)) (bLit true) (lOne (eTup (lCons (eBin subD' (eVar 22) (eLit (.int 2))) (lCons (eBin subD' (eVar 22) (eLit (.int 1))) lNil))))) (eComp 22 [22] (lIt (eVar 15)) (bLit true) (lOne (eTup (lCons (eBin subD' (eVar 22) (eLit (.int 1))) (lCons (eBin subD' (eVar 22) (eLit (.int 2))) lNil))))))
set_option maxHeartbeats 8000000 in
theorem stlaw_12 : StOK 24 (scopeAt 12) (stAt 12 12) Slaw_12 := (st_sortedEq (evn_comp1 ⟨rfl, by decide +kernel, by decide +kernel, by decide +kernel⟩ (.inl rfl) ⟨rfl, by decide⟩ (store_local 22 rfl (by decide) rfl) (it_name (ev_local 21 rfl rfl rfl)) cond_nil (ev_tup (evs_cons (ev_sub (ev_local 22 rfl rfl rfl) (ev_int 2) rfl) (evs_cons (ev_sub (ev_local 22 rfl rfl rfl) (ev_int 1) rfl) evs_nil (fun _ => rfl)) (fun _ => rfl))) (fun _ _ => rfl)).ev (evn_comp1 ⟨rfl, by decide +kernel, by decide +kernel, by decide +kernel⟩ (.inl rfl) ⟨rfl, by decide⟩ (store_local 22 rfl (by decide) rfl) (it_name (ev_cell 15 rfl rfl rfl)) cond_nil (ev_tup (evs_cons (ev_sub (ev_local 22 rfl rfl rfl) (ev_int 1) rfl) (evs_cons (ev_sub (ev_local 22 rfl rfl rfl) (ev_int 2) rfl) evs_nil (fun _ => rfl)) (fun _ => rfl))) (fun _ _ => rfl)).ev rfl (fun _ => rfl) (fun _ => rfl) (fun _ => rfl) (fun _ => rfl))

noncomputable def Slaw : Fs := (fSeq Slaw_0 (fSeq Slaw_1 (fSeq Slaw_2 (fSeq Slaw_3 (fSeq Slaw_4 (fSeq Slaw_5 (fSeq Slaw_6 (fFreeze (fSeq Slaw_7 (fSeq Slaw_8 (fSeq Slaw_9 (fSeq Slaw_10 (fSeq Slaw_11 (fSeq Slaw_12 fNil))))))))))))))
theorem bodylaw : BlOK 24 (scopeAt 12) (bodyAt 12) Slaw := (bl_cons stlaw_0 (bl_cons stlaw_1 (bl_cons stlaw_2 (bl_cons stlaw_3 (bl_cons stlaw_4 (bl_cons stlaw_5 (bl_cons stlaw_6 (bl_freeze (bl_cons stlaw_7 (bl_cons stlaw_8 (bl_cons stlaw_9 (bl_cons stlaw_10 (bl_cons stlaw_11 (bl_cons stlaw_12 bl_nil))))))))))))))


end
end Hf
end

section
namespace Hf
set_option autoImplicit false

/-! who knows what, in plain terms -/
noncomputable abbrev Call := Nat × Nat
noncomputable def stepK (K : Nat → Nat → Bool) (c : Call) : Nat → Nat → Bool := fun p w => if p = c.1 ∨ p = c.2 then K c.1 w || K c.2 w else K p w
noncomputable def idK : Nat → Nat → Bool := fun p w => decide (p = w)
noncomputable def runK (cs : List Call) : Nat → Nat → Bool := cs.foldl stepK idK
noncomputable def Rc (c : Call) (p q : Nat) : Prop := ((p = c.1 ∨ p = c.2) ∧ (q = c.1 ∨ q = c.2)) ∨ p = q
theorem Rc.symm {c : Call} {p q : Nat} (h : Rc c p q) : Rc c q p := by
  rcases h with ⟨a, b⟩ | h
  · exact .inl ⟨b, a⟩
  · exact .inr h.symm
noncomputable def Chain : List Call → Nat → Nat → Prop
  | [], p, w => p = w
  | c :: cs, p, w => ∃ q, Chain cs p q ∧ Rc c q w
theorem stepK_iff {K : Nat → Nat → Bool} {c : Call} {p w : Nat} : stepK K c p w = true ↔ ∃ q, Rc c p q ∧ K q w = true := by
  unfold stepK
  constructor
  · intro h
    split at h
    · rename_i hp
      rcases Bool.or_eq_true _ _ ▸ h with h | h
      · exact ⟨c.1, .inl ⟨hp, .inl rfl⟩, h⟩
      · exact ⟨c.2, .inl ⟨hp, .inr rfl⟩, h⟩
    · exact ⟨p, .inr rfl, h⟩
  · rintro ⟨q, hq, hk⟩
    split
    · rename_i hp
      rcases hq with ⟨_, q1 | q1⟩ | rfl
      · rw [← q1, hk]; rfl
      · rw [← q1, hk]; simp
      · rcases hp with q1 | q1
        · rw [← q1, hk]; rfl
        · rw [← q1, hk]; simp
    · rename_i hp
      rcases hq with ⟨q1, _⟩ | rfl
      · exact absurd q1 hp
      · exact hk
theorem fold_iff : ∀ (cs : List Call) (K : Nat → Nat → Bool) (p w : Nat), cs.foldl stepK K p w = true ↔ ∃ q, Chain cs p q ∧ K q w = true
  | [], K, p, w => ⟨fun h => ⟨p, rfl, h⟩, fun ⟨q, h1, h2⟩ => by cases h1; exact h2⟩
  | c :: cs, K, p, w => by
    rw [List.foldl_cons, fold_iff cs]
    constructor
    · rintro ⟨q, h1, h2⟩
      obtain ⟨r, h3, h4⟩ := stepK_iff.mp h2
      exact ⟨r, ⟨q, h1, h3⟩, h4⟩
    · rintro ⟨r, ⟨q, h1, h3⟩, h4⟩
      exact ⟨q, h1, stepK_iff.mpr ⟨r, h3, h4⟩⟩
theorem run_iff (cs : List Call) (p w : Nat) : runK cs p w = true ↔ Chain cs p w := by
  unfold runK
  rw [fold_iff]
  constructor
  · rintro ⟨q, h1, h2⟩
    have : q = w := by simpa [idK] using h2
    exact this ▸ h1
  · intro h
    exact ⟨w, h, by simp [idK]⟩
theorem chain_snoc : ∀ (cs : List Call) (c : Call) (p w : Nat), Chain (cs ++ [c]) p w ↔ ∃ q, Rc c p q ∧ Chain cs q w
  | [], c, p, w => by
    constructor
    · rintro ⟨q, h1, h2⟩
      cases h1
      exact ⟨w, h2, rfl⟩
    · rintro ⟨q, h1, h2⟩
      cases h2
      exact ⟨p, rfl, h1⟩
  | d :: cs, c, p, w => by
    constructor
    · rintro ⟨q, h1, h2⟩
      obtain ⟨r, h3, h4⟩ := (chain_snoc cs c p q).mp h1
      exact ⟨r, h3, q, h4, h2⟩
    · rintro ⟨r, h3, q, h4, h2⟩
      exact ⟨q, (chain_snoc cs c p q).mpr ⟨r, h3, h4⟩, h2⟩
theorem chain_rev : ∀ (cs : List Call) (p w : Nat), Chain cs.reverse p w ↔ Chain cs w p
  | [], p, w => ⟨fun h => Eq.symm h, fun h => Eq.symm h⟩
  | c :: cs, p, w => by
    rw [List.reverse_cons, chain_snoc]
    constructor
    · rintro ⟨q, h1, h2⟩
      exact ⟨q, (chain_rev cs q w).mp h2, h1.symm⟩
    · rintro ⟨q, h1, h2⟩
      exact ⟨q, h2.symm, (chain_rev cs q w).mpr h1⟩
/-- calls backwards turn the table about -/
theorem run_rev (cs : List Call) (p w : Nat) : runK cs.reverse p w = runK cs w p := by
  have h := (run_iff cs.reverse p w).trans ((chain_rev cs p w).trans (run_iff cs w p).symm)
  cases h1 : runK cs.reverse p w <;> cases h2 : runK cs w p <;> simp_all
end Hf
end

section
open PySem PySem.W PyProof.Rows PySem.Calls PySem.Spec
namespace Hf
set_option autoImplicit false
set_option maxRecDepth 100000
set_option Elab.async false

/-! the plain law: small parts -/
theorem intsOf_some : ∀ {xs : List PyData} {l : List Int}, intsOf xs = some l → xs = l.map .int
  | [], l, h => by cases h; rfl
  | .int i :: ds, l, h => by
    obtain ⟨r, h1, h2⟩ := Option.map_eq_some_iff.mp h
    rw [intsOf_some h1, ← h2]; rfl
  | .none :: ds, l, h => nomatch h
  | .bool _ :: ds, l, h => nomatch h
  | .str _ :: ds, l, h => nomatch h
  | .list _ :: ds, l, h => nomatch h
  | .tuple _ :: ds, l, h => nomatch h
  | .dict _ :: ds, l, h => nomatch h
theorem intsOf_map : ∀ (l : List Int), intsOf (l.map .int) = some l
  | [] => rfl
  | i :: l => by simp [intsOf, intsOf_map l]
noncomputable def isL (e : Option PyData) (l : List Int) : Bool := match e with
  | some (.list xs) => decide (intsOf xs = some l)
  | _ => false
theorem isL_iff {e : Option PyData} {l : List Int} (h : isL e l = true) : e = some (.list (l.map .int)) := by
  unfold isL at h
  split at h
  · rw [intsOf_some (of_decide_eq_true h)]
  · cases h
noncomputable def isI (e : Option PyData) (i : Int) : Bool := match e with
  | some (.int j) => decide (j = i)
  | _ => false
theorem isI_iff {e : Option PyData} {i : Int} (h : isI e i = true) : e = some (.int i) := by
  unfold isI at h
  split at h
  · rw [of_decide_eq_true h]
  · cases h
noncomputable def bitsI (m x : Nat) : List Int := (List.range m).map fun i => if x.testBit i then 1 else 0
noncomputable def padE (m x : Nat) : Option PyData := (F_int2digits [.int (x : Int), .int 1]).bind fun d => (mulL (.list [.int 0]) (.int (m : Int))).bind fun z => (addD d z).bind fun s => takeD s (.int (m : Int))
theorem pad_ok : ∀ m : Nat, m < 7 → 0 < m → ∀ x : Nat, x < 2 ^ m → padE m x = some (.list ((bitsI m x).map .int)) := by
  have h : ∀ m : Nat, m < 7 → 0 < m → ∀ x : Nat, x < 2 ^ m → isL (padE m x) (bitsI m x) = true := by decide +kernel
  exact fun m h1 h2 x h3 => isL_iff (h m h1 h2 x h3)
theorem unpad_ok : ∀ m : Nat, m < 7 → 0 < m → ∀ x : Nat, x < 2 ^ m → F_digits2int [.list ((bitsI m x).map .int), .int 1] = some (.int (x : Int)) := by
  have h : ∀ m : Nat, m < 7 → 0 < m → ∀ x : Nat, x < 2 ^ m → isI (F_digits2int [.list ((bitsI m x).map .int), .int 1]) (x : Int) = true := by decide +kernel
  exact fun m h1 h2 x h3 => isI_iff (h m h1 h2 x h3)
/-- the digits of a small number, without the zeros above -/
noncomputable def len1 (x : Nat) : Nat := Builtin.Int.intBits (x : Int)
theorem digs_ok : ∀ m : Nat, m < 7 → 0 < m → ∀ x : Nat, x < 2 ^ m → ∃ n, n ≤ m ∧ F_int2digits [.int (x : Int), .int 1] = some (.list ((bitsI n x).map .int)) ∧ ∀ i, n ≤ i → x.testBit i = false := by
  have h : ∀ m : Nat, m < 7 → 0 < m → ∀ x : Nat, x < 2 ^ m → (isL (F_int2digits [.int (x : Int), .int 1]) (bitsI (len1 x) x) && decide (len1 x ≤ m) && decide (x < 2 ^ len1 x)) = true := by decide +kernel
  intro m h1 h2 x h3
  have q := h m h1 h2 x h3
  simp only [Bool.and_eq_true, decide_eq_true_eq] at q
  exact ⟨len1 x, q.1.2, isL_iff q.1.1, fun i hi => Nat.testBit_lt_two_pow (Nat.lt_of_lt_of_le q.2 (Nat.pow_le_pow_right (by decide) hi))⟩
end Hf
end

section
open PySem PySem.W PyProof.Rows PySem.Calls PySem.Spec
namespace Hf
set_option autoImplicit false
set_option maxRecDepth 100000
set_option Elab.async false
theorem compGo_map {f : PyData → Option (List PyData)} {α : Type} (g : α → PyData) (k : α → PyData) : ∀ (l : List α), (∀ x ∈ l, f (g x) = some [k x]) → compGo f (l.map g) = some (l.map k)
  | [], _ => rfl
  | x :: l, h => by
    rw [List.map_cons, compGo, h x (by simp), Option.bind_some, compGo_map g k l (fun y hy => h y (by simp [hy])), Option.bind_some]
    rfl
theorem compGo_filter {f : PyData → Option (List PyData)} {α : Type} (g : α → PyData) (p : α → Bool) (k : α → PyData) : ∀ (l : List α), (∀ x ∈ l, f (g x) = some (if p x then [k x] else [])) → compGo f (l.map g) = some ((l.filter p).map k)
  | [], _ => rfl
  | x :: l, h => by
    rw [List.map_cons, compGo, h x (by simp), Option.bind_some, compGo_filter g p k l (fun y hy => h y (by simp [hy])), Option.bind_some]
    cases q : p x <;> simp [q]
noncomputable def rI (m : Nat) : List PyData := (List.range m).map fun (i : Nat) => .int (i : Int)
noncomputable def isInts (e : Option (List PyData)) (l : List Int) : Bool := match e with
  | some xs => decide (intsOf xs = some l)
  | none => false
theorem isInts_iff {e : Option (List PyData)} {l : List Int} (h : isInts e l = true) : e = some (l.map .int) := by
  unfold isInts at h
  split at h
  · rw [intsOf_some (of_decide_eq_true h)]
  · cases h
theorem range_ok : ∀ m : Nat, m < 80 → rangeD [.int (m : Int)] = some (rI m) := by
  have h : ∀ m : Nat, m < 80 → isInts (rangeD [.int (m : Int)]) ((List.range m).map fun (i : Nat) => (i : Int)) = true := by decide +kernel
  intro m hm
  rw [isInts_iff (h m hm), rI, List.map_map]; rfl
theorem sub_map {α : Type} (g : α → PyData) (l : List α) (i : Nat) (hi : i < l.length) (hl : l.length < 1000000) : subD' (.list (l.map g)) (.int (i : Int)) = some (g l[i]) := by
  simp [subD', smallI, hi]
  omega
theorem put_same (σ : Sg) (i : Nat) (d : PyData) : (σ.put i d) i = some d := by simp [Sg.put]
theorem put_ne (σ : Sg) {i j : Nat} (d : PyData) (h : j ≠ i) : (σ.put i d) j = σ j := by simp [Sg.put, h]
theorem fSeq_next {f g : Fs} {o o' : Nat} {σ σ' : Sg} (h : f o σ = some (.next o' σ')) : fSeq f g o σ = g o' σ' := by simp [fSeq, h]
theorem fSeq_ret {f g : Fs} {o : Nat} {σ : Sg} {d : PyData} (h : f o σ = some (.ret d)) : fSeq f g o σ = some (.ret d) := by simp [fSeq, h]
theorem fSet_ok {put : Fp} {f : Fe} {o : Nat} {σ σ' : Sg} {d : PyData} (h : f o σ = some d) (h2 : put o σ d = some σ') : fSet put f o σ = some (.next o σ') := by simp [fSet, h, h2]
theorem eComp_map {i : Nat} {xs : List Nat} {fi : Fl} {f : Fe} {o : Nat} {σ : Sg} {α : Type} {g k : α → PyData} {l : List α} (hi : fi o σ = some (l.map g)) (ho : i ≠ o) (hk : ∀ x ∈ l, f o ((σ.del xs).put i (g x)) = some (k x)) (hl : l.length ≤ 1000000) :
    eComp i xs fi (bLit true) (lOne f) o σ = some (.list (l.map k)) := by
  have h := compGo_map (f := compF i (bLit true) (lOne f) o (σ.del xs)) g k l (fun x hx => by simp [compF, ho, bLit, lOne, hk x hx])
  have hl' : lenOK l.length = true := by simpa [lenOK] using hl
  simp only [eComp, hi, h, Option.bind_some, List.length_map, hl', if_true]
theorem eComp_filter {i : Nat} {xs : List Nat} {fi : Fl} {f : Fe} {t : Fb} {o : Nat} {σ : Sg} {α : Type} {g k : α → PyData} {p : α → Bool} {l : List α} (hi : fi o σ = some (l.map g)) (ho : i ≠ o) (hp : ∀ x ∈ l, t o ((σ.del xs).put i (g x)) = some (p x)) (hk : ∀ x ∈ l, f o ((σ.del xs).put i (g x)) = some (k x)) (hl : l.length ≤ 1000000) :
    eComp i xs fi t (lOne f) o σ = some (.list ((l.filter p).map k)) := by
  have h := compGo_filter (f := compF i t (lOne f) o (σ.del xs)) g p k l (fun x hx => by
    simp only [compF, if_neg ho, hp x hx, lOne, hk x hx, Option.bind_some]
    cases p x <;> simp)
  have hl' : lenOK ((l.filter p).map k).length = true := by
    have := List.length_filter_le p l
    simp [lenOK]; omega
  simp only [eComp, hi, h, Option.bind_some, hl', if_true]
end Hf
end

section
open PySem PySem.W PyProof.Rows PySem.Calls PySem.Spec
namespace Hf
set_option autoImplicit false
set_option maxRecDepth 100000
set_option Elab.async false
theorem eVar_ok {i o : Nat} {σ : Sg} {d : PyData} (h : σ i = some d) (q : i ≠ o) : eVar i o σ = some d := by simp [eVar, q, h]
theorem lCons_ok {f : Fe} {g : Fl} {o : Nat} {σ : Sg} {x : PyData} {xs : List PyData} (h : f o σ = some x) (h2 : g o σ = some xs) : lCons f g o σ = some (x :: xs) := by simp [lCons, h, h2]
theorem lOne_ok {f : Fe} {o : Nat} {σ : Sg} {x : PyData} (h : f o σ = some x) : lCons f lNil o σ = some [x] := lCons_ok h rfl
theorem lTwo_ok {f g : Fe} {o : Nat} {σ : Sg} {x y : PyData} (h : f o σ = some x) (h2 : g o σ = some y) : lCons f (lCons g lNil) o σ = some [x, y] := lCons_ok h (lOne_ok h2)
theorem eBin_ok {g : PyData → PyData → Option PyData} {f f' : Fe} {o : Nat} {σ : Sg} {x y d : PyData} (h : f o σ = some x) (h2 : f' o σ = some y) (h3 : g x y = some d) : eBin g f f' o σ = some d := by simp [eBin, h, h2, h3]
theorem eCall_ok {F : List PyData → Option PyData} {f : Fl} {o : Nat} {σ : Sg} {xs : List PyData} {d : PyData} (h : f o σ = some xs) (h3 : F xs = some d) : eCall F f o σ = some d := by simp [eCall, h, h3]
theorem eTup_ok {f : Fl} {o : Nat} {σ : Sg} {xs : List PyData} (h : f o σ = some xs) (h2 : lenOK xs.length = true) : eTup f o σ = some (.tuple xs) := by simp [eTup, h, h2]
theorem eLst_ok {f : Fl} {o : Nat} {σ : Sg} {xs : List PyData} (h : f o σ = some xs) (h2 : lenOK xs.length = true) : eLst f o σ = some (.list xs) := by simp [eLst, h, h2]
theorem bCmp_ok {g : PyData → PyData → Option Bool} {f f' : Fe} {o : Nat} {σ : Sg} {x y : PyData} {d : Bool} (h : f o σ = some x) (h2 : f' o σ = some y) (h3 : g x y = some d) : bCmp g f f' o σ = some d := by simp [bCmp, h, h2, h3]
theorem fRet_ok {f : Fe} {o : Nat} {σ : Sg} {d : PyData} (h : f o σ = some d) : fRet f o σ = some (.ret d) := by simp [fRet, h]
theorem fIf_ok {t : Fb} {f g : Fs} {o : Nat} {σ : Sg} {b : Bool} (h : t o σ = some b) : fIf t f g o σ = if b then f o σ else g o σ := by simp [fIf, h]
theorem lIt_ok {f : Fe} {o : Nat} {σ : Sg} {xs : List PyData} (h : f o σ = some (.list xs)) : lIt f o σ = some xs := by simp [lIt, h, itemsOf]
theorem lItL_ok {f : Fe} {o : Nat} {σ : Sg} {xs : List PyData} (h : f o σ = some (.list xs)) : lItL f o σ = some xs := by simp [lItL, h, itemsOfL]
theorem fFor_ok {fi : Fl} {put : Fp} {body : Fs} {o : Nat} {σ σ' : Sg} {ds : List PyData} (h : fi o σ = some ds) (h2 : forGo put body o ds σ = some σ') : fFor fi put body o σ = some (.next o σ') := by simp [fFor, h, h2]
/-- a loop that keeps P: step i leads from P i to P (i+1) -/
theorem forGo_inv {put : Fp} {body : Fs} {o : Nat} {α : Type} {g : α → PyData} (P : List α → Sg → Prop) : ∀ (l pre : List α) (σ : Sg), P pre σ →
    (∀ (x : α) (pre : List α) (σ : Sg), x ∈ l → P pre σ → ∃ σ1 σ', put o σ (g x) = some σ1 ∧ body o σ1 = some (.next o σ') ∧ P (pre ++ [x]) σ') → ∃ σ', forGo put body o (l.map g) σ = some σ' ∧ P (pre ++ l) σ'
  | [], pre, σ, h, _ => ⟨σ, rfl, by simpa using h⟩
  | x :: l, pre, σ, h, hs => by
    obtain ⟨σ1, σ2, e1, e2, h2⟩ := hs x pre σ (by simp) h
    obtain ⟨σ3, e3, h3⟩ := forGo_inv P l (pre ++ [x]) σ2 h2 (fun y pre σ hy => hs y pre σ (by simp [hy]))
    exact ⟨σ3, by simp [forGo, e1, e2, e3], by simpa using h3⟩
theorem both_ok (m : Nat) (h1 : m < 7) (h2 : 0 < m) (x y : Nat) (hx : x < 2 ^ m) (hy : y < 2 ^ m) : F_law_both [.int (x : Int), .int (y : Int), .int (m : Int)] = some (.int ((x ||| y : Nat) : Int)) := by
  have px := pad_ok m h1 h2 x hx
  have py := pad_ok m h1 h2 y hy
  unfold padE at px py
  have hm : m < 80 := by omega
  have hz : (x ||| y) < 2 ^ m := Nat.or_lt_two_pow hx hy
  unfold F_law_both runFn S_law_both
  have e : ∀ (z : Nat) (q : ((F_int2digits [.int (z : Int), .int 1]).bind fun d => (mulL (.list [.int 0]) (.int (m : Int))).bind fun z => (addD d z).bind fun s => takeD s (.int (m : Int))) = some (.list ((bitsI m z).map .int))) (i : Nat) (σ : Sg) (_ : i ≠ 0) (_ : σ i = some (.int (z : Int))) (_ : σ 2 = some (.int (m : Int))),
      eBin takeD (eBin addD (eCall F_int2digits (lCons (eVar i) (lCons (eLit (.int 1)) lNil))) (eBin mulL (eLst (lCons (eLit (.int 0)) lNil)) (eVar 2))) (eVar 2) 0 σ = some (.list ((bitsI m z).map .int)) := by
    intro z q i σ hi e1 e2
    obtain ⟨d, q1, q⟩ := Option.bind_eq_some_iff.mp q
    obtain ⟨d2, q2, q⟩ := Option.bind_eq_some_iff.mp q
    obtain ⟨d3, q3, q⟩ := Option.bind_eq_some_iff.mp q
    exact eBin_ok (eBin_ok (eCall_ok (lTwo_ok (eVar_ok e1 hi) rfl) q1) (eBin_ok (eLst_ok (lOne_ok rfl) rfl) (eVar_ok e2 (by decide)) q2) q3) (eVar_ok e2 (by decide)) q
  rw [fSeq_next (o' := 0) (σ' := (((((Sg.put (fun _ => none) 13 (.int (x : Int))).put 14 (.int (y : Int))).put 2 (.int (m : Int))).put 23 (.list ((bitsI m x).map .int))).put 24 (.list ((bitsI m y).map .int))))]
  · rw [fSeq_ret (d := .int ((x ||| y : Nat) : Int))]
    · rfl
    · refine fRet_ok (eCall_ok (lTwo_ok (eComp_map (l := List.range m) (g := fun (i : Nat) => .int (i : Int)) (k := fun i => .int (if (x ||| y).testBit i then 1 else 0)) ?_ (by decide) ?_ (by simp; omega)) rfl) ?_)
      · simp only [lRange, lCons, lNil, eVar, Sg.put]
        exact range_ok m hm
      · intro i hi
        have hi' : i < m := List.mem_range.mp hi
        have b : ∀ z : Nat, subD' (.list ((bitsI m z).map .int)) (.int (i : Int)) = some (.int (if z.testBit i then 1 else 0)) := by
          intro z
          rw [sub_map _ _ _ (by simpa [bitsI] using hi') (by simp [bitsI]; omega)]
          simp [bitsI]
        refine eCall_ok (lTwo_ok (eBin_ok (eVar_ok rfl (by decide)) (eVar_ok rfl (by decide)) (b x)) (eBin_ok (eVar_ok rfl (by decide)) (eVar_ok rfl (by decide)) (b y))) ?_
        simp only [maxD, Nat.testBit_or]
        cases x.testBit i <;> cases y.testBit i <;> rfl
      · have := unpad_ok m h1 h2 _ hz
        simp only [bitsI, List.map_map] at this
        exact this
  · refine fSet_ok (d := .tuple [.list ((bitsI m x).map .int), .list ((bitsI m y).map .int)]) ?_ rfl
    exact eTup_ok (lTwo_ok (e x px 13 _ (by decide) rfl rfl) (e y py 14 _ (by decide) rfl rfl)) rfl
end Hf
end

section
open PySem PySem.W PyProof.Rows PySem.Calls PySem.Spec
namespace Hf
set_option autoImplicit false
set_option maxRecDepth 100000
set_option Elab.async false
theorem fSeq_ok {f g : Fs} {o o' : Nat} {σ σ' : Sg} {r : Option Out} (h : f o σ = some (.next o' σ')) (h2 : g o' σ' = r) : fSeq f g o σ = r := by rw [fSeq_next h, h2]
theorem fFreeze_ok {g : Fs} {o : Nat} {σ : Sg} {r : Option Out} (h : g 0 σ = r) : fFreeze g o σ = r := h
theorem fOwn_ok {i : Nat} {f : Fe} {σ : Sg} {d : PyData} (h : f 0 σ = some d) : fOwn i f 0 σ = some (.next i (σ.put i d)) := by simp [fOwn, h]
theorem eSubOwn_ok {i : Nat} {f : Fe} {σ : Sg} {xs : List PyData} {b d : PyData} (h : σ i = some (.list xs)) (h2 : f i σ = some b) (h3 : subD' (.list xs) b = some d) : eSubOwn i f i σ = some d := by simp [eSubOwn, h, h2, h3]
theorem pSub_ok {i : Nat} {f : Fe} {σ : Sg} {a b d a' : PyData} (h : σ i = some a) (h2 : f i σ = some b) (h3 : setD a b d = some a') : pSub i f i σ d = some (σ.put i a') := by simp [pSub, h, h2, h3]
theorem pSub2_ok {i : Nat} {f g : Fe} {o : Nat} {σ σ1 σ2 : Sg} {x y : PyData} (h : pSub i f o σ x = some σ1) (h2 : pSub i g o σ1 y = some σ2) : pSub2 i f g o σ (.tuple [x, y]) = some σ2 := by simp [pSub2, h, h2]
theorem runFn_ok {is : List Nat} {f : Fs} {ds : List PyData} {d : PyData} (hl : ds.length = is.length) (h : f 0 (bindSg is ds fun _ => none) = some (.ret d)) : runFn is f ds = some d := by simp [runFn, hl, h]
theorem setD_map {α : Type} (g : α → PyData) (l : List α) (i : Nat) (v : PyData) (hi : i < l.length) (hl : l.length < 1000000) : setD (.list (l.map g)) (.int (i : Int)) v = some (.list ((l.map g).set i v)) := by
  simp [setD, smallI, hi]
  omega
/-- a loop that keeps P: the item's place is told -/
theorem forGo_at {put : Fp} {body : Fs} {o : Nat} {α : Type} {g : α → PyData} (P : List α → Sg → Prop) (l : List α) (σ : Sg) (h0 : P [] σ)
    (hs : ∀ (pre : List α) (x : α) (post : List α) (σ : Sg), l = pre ++ x :: post → P pre σ → ∃ σ1 σ', put o σ (g x) = some σ1 ∧ body o σ1 = some (.next o σ') ∧ P (pre ++ [x]) σ') : ∃ σ', forGo put body o (l.map g) σ = some σ' ∧ P l σ' := by
  have key : ∀ (post pre : List α) (σ : Sg), l = pre ++ post → P pre σ → ∃ σ', forGo put body o (post.map g) σ = some σ' ∧ P l σ' := by
    intro post
    induction post with
    | nil => intro pre σ e h; exact ⟨σ, rfl, by rw [e]; simpa using h⟩
    | cons x post ih =>
      intro pre σ e h
      obtain ⟨σ1, σ2, e1, e2, h2⟩ := hs pre x post σ e h
      obtain ⟨σ3, e3, h3⟩ := ih (pre ++ [x]) σ2 (by simp [e]) h2
      exact ⟨σ3, by simp [forGo, e1, e2, e3], h3⟩
  exact key l [] σ rfl h0

/-! what the persons know, as numbers -/
noncomputable def prD (c : Call) : PyData := .tuple [.int (c.1 : Int), .int (c.2 : Int)]
noncomputable def callsD (cs : List Call) : PyData := .list (cs.map prD)
noncomputable def mInit : Nat → Nat := fun p => 2 ^ p
noncomputable def mStep (f : Nat → Nat) (c : Call) : Nat → Nat := fun p => if p = c.1 ∨ p = c.2 then f c.1 ||| f c.2 else f p
noncomputable def mRun (cs : List Call) : Nat → Nat := cs.foldl mStep mInit
noncomputable def rowD (f : Nat → Nat) (p : Nat) : PyData := .int (f p : Int)
noncomputable def masksL (m : Nat) (f : Nat → Nat) : List PyData := (List.range m).map (rowD f)
noncomputable def In (m : Nat) (cs : List Call) : Prop := ∀ c ∈ cs, c.1 < m ∧ c.2 < m
theorem mRun_snoc (cs : List Call) (c : Call) : mRun (cs ++ [c]) = mStep (mRun cs) c := by simp [mRun]
theorem mStep_lt {m : Nat} {f : Nat → Nat} {c : Call} (h : ∀ p, p < m → f p < 2 ^ m) (hc : c.1 < m ∧ c.2 < m) : ∀ p, p < m → mStep f c p < 2 ^ m := by
  intro p hp
  unfold mStep
  split
  · exact Nat.or_lt_two_pow (h _ hc.1) (h _ hc.2)
  · exact h p hp
theorem mFold_lt {m : Nat} : ∀ (cs : List Call) (f : Nat → Nat), (∀ p, p < m → f p < 2 ^ m) → In m cs → ∀ p, p < m → cs.foldl mStep f p < 2 ^ m
  | [], _, h, _ => h
  | c :: cs, f, h, hc => mFold_lt cs (mStep f c) (mStep_lt h (hc c (by simp))) (fun d hd => hc d (by simp [hd]))
theorem mRun_lt {m : Nat} {cs : List Call} (h : In m cs) : ∀ p, p < m → mRun cs p < 2 ^ m :=
  mFold_lt cs mInit (fun p hp => Nat.pow_lt_pow_right (by decide) hp) h
theorem mFold_bit : ∀ (cs : List Call) (f : Nat → Nat) (K : Nat → Nat → Bool), (∀ p w, (f p).testBit w = K p w) → ∀ p w, (cs.foldl mStep f p).testBit w = cs.foldl stepK K p w
  | [], _, _, h => h
  | c :: cs, f, K, h => mFold_bit cs (mStep f c) (stepK K c) (fun p w => by
      unfold mStep stepK
      split
      · rw [Nat.testBit_or, h, h]
      · exact h p w)
theorem mRun_bit (cs : List Call) (p w : Nat) : (mRun cs p).testBit w = runK cs p w :=
  mFold_bit cs mInit idK (fun p w => by simp [mInit, idK, Nat.testBit_two_pow]) p w
theorem masks_set (m : Nat) (f : Nat → Nat) (c : Call) (h : c.1 < m ∧ c.2 < m) :
    ((masksL m f).set c.1 (.int ((f c.1 ||| f c.2 : Nat) : Int))).set c.2 (.int ((f c.1 ||| f c.2 : Nat) : Int)) = masksL m (mStep f c) := by
  apply List.ext_getElem
  · simp [masksL]
  · intro i h1 h2
    have hi : i < m := by simpa [masksL] using h2
    simp only [List.getElem_set, masksL, List.getElem_map, List.getElem_range, rowD, mStep]
    by_cases q1 : i = c.1
    · simp [q1]
    · by_cases q2 : i = c.2
      · simp [q2]
      · simp [q1, q2, Ne.symm q1, Ne.symm q2]
theorem called_ok (m : Nat) (h1 : m < 7) (h2 : 0 < m) (cs : List Call) (hc : In m cs) : F_law_called [.int (m : Int), callsD cs] = some (.list (masksL m (mRun cs))) := by
  have hm : m < 80 := by omega
  refine runFn_ok rfl ?_
  have e1 : eComp 11 [11] (lRange (lCons (eVar 2) lNil)) (bLit true) (lOne (eBin powD (eLit (.int 2)) (eVar 11))) 0 (bindSg [2, 9] [.int (m : Int), callsD cs] fun _ => none) = some (.list (masksL m mInit)) := by
    refine eComp_map (l := List.range m) (g := fun (i : Nat) => .int (i : Int)) ?_ (by decide) ?_ (by simp; omega)
    · simp only [lRange, lCons, lNil, eVar, bindSg, Sg.put]
      exact range_ok m hm
    · intro i hi
      have hi' : i < m := List.mem_range.mp hi
      refine eBin_ok (x := .int 2) (y := .int (i : Int)) rfl (eVar_ok rfl (by decide)) ?_
      simp only [powD, rowD, mInit]
      have : (i : Int) ≤ 1000 := by omega
      simp [smallI, this]
  refine fSeq_ok (fOwn_ok e1) ?_
  obtain ⟨σ', hgo, hP⟩ := forGo_at (put := pPair 13 14) (o := 5) (g := prD)
    (body := fSeq (fSet (pName 25) (eCall F_law_both (lCons (eSubOwn 5 (eVar 13)) (lCons (eSubOwn 5 (eVar 14)) (lCons (eVar 2) lNil))))) (fSeq (fSet (pSub2 5 (eVar 13) (eVar 14)) (eTup (lCons (eVar 25) (lCons (eVar 25) lNil)))) fNil))
    (fun pre σ => σ 2 = some (.int (m : Int)) ∧ σ 5 = some (.list (masksL m (mRun pre)))) cs
    ((bindSg [2, 9] [.int (m : Int), callsD cs] fun _ => none).put 5 (.list (masksL m mInit))) ⟨rfl, rfl⟩ (by
      intro pre c post σ e ⟨hs2, hs5⟩
      have hcm : c.1 < m ∧ c.2 < m := hc c (by simp [e])
      have hpre : In m pre := fun d hd => hc d (by simp [e, hd])
      have lt := mRun_lt hpre
      have hb := both_ok m h1 h2 (mRun pre c.1) (mRun pre c.2) (lt _ hcm.1) (lt _ hcm.2)
      refine ⟨(σ.put 13 (.int (c.1 : Int))).put 14 (.int (c.2 : Int)), ?_⟩
      have g5 : ((σ.put 13 (.int (c.1 : Int))).put 14 (.int (c.2 : Int))) 5 = some (.list (masksL m (mRun pre))) := hs5
      have g2 : ((σ.put 13 (.int (c.1 : Int))).put 14 (.int (c.2 : Int))) 2 = some (.int (m : Int)) := hs2
      have s : ∀ i, i < m → subD' (.list (masksL m (mRun pre))) (.int (i : Int)) = some (.int (mRun pre i : Int)) := by
        intro i hi
        unfold masksL
        rw [sub_map _ _ _ (by simpa using hi) (by simp; omega)]
        simp [rowD]
      have b1 : eCall F_law_both (lCons (eSubOwn 5 (eVar 13)) (lCons (eSubOwn 5 (eVar 14)) (lCons (eVar 2) lNil))) 5 ((σ.put 13 (.int (c.1 : Int))).put 14 (.int (c.2 : Int))) = some (.int ((mRun pre c.1 ||| mRun pre c.2 : Nat) : Int)) := by
        exact eCall_ok (lCons_ok (eSubOwn_ok g5 (eVar_ok rfl (by decide)) (s _ hcm.1)) (lTwo_ok (eSubOwn_ok g5 (eVar_ok rfl (by decide)) (s _ hcm.2)) (eVar_ok g2 (by decide)))) hb
      have z : ∀ (τ : Sg), τ 25 = some (.int ((mRun pre c.1 ||| mRun pre c.2 : Nat) : Int)) → eTup (lCons (eVar 25) (lCons (eVar 25) lNil)) 5 τ = some (.tuple [.int ((mRun pre c.1 ||| mRun pre c.2 : Nat) : Int), .int ((mRun pre c.1 ||| mRun pre c.2 : Nat) : Int)]) :=
        fun τ h => eTup_ok (lTwo_ok (eVar_ok h (by decide)) (eVar_ok h (by decide))) rfl
      refine ⟨((((σ.put 13 (.int (c.1 : Int))).put 14 (.int (c.2 : Int))).put 25 (.int ((mRun pre c.1 ||| mRun pre c.2 : Nat) : Int))).put 5 (.list ((masksL m (mRun pre)).set c.1 (.int ((mRun pre c.1 ||| mRun pre c.2 : Nat) : Int))))).put 5 (.list (((masksL m (mRun pre)).set c.1 (.int ((mRun pre c.1 ||| mRun pre c.2 : Nat) : Int))).set c.2 (.int ((mRun pre c.1 ||| mRun pre c.2 : Nat) : Int)))), rfl, ?_, hs2, ?_⟩
      · refine fSeq_ok (fSet_ok b1 rfl) (fSeq_ok (fSet_ok (z _ rfl) (pSub2_ok (pSub_ok hs5 (eVar_ok rfl (by decide)) ?_) (pSub_ok rfl (eVar_ok (i := 14) rfl (by decide)) ?_))) rfl)
        · unfold masksL
          exact setD_map _ _ _ _ (by simpa using hcm.1) (by simp; omega)
        · have : c.2 < 1000000 := by omega
          simp only [setD, smallI, List.length_set]
          simp [masksL, hcm.2]
          omega
      · rw [put_same, masks_set m (mRun pre) c hcm, mRun_snoc])
  refine fSeq_ok (fFor_ok (ds := cs.map prD) ?_ hgo) ?_
  · exact lItL_ok (eVar_ok rfl (by decide))
  · exact fFreeze_ok (fSeq_ret (fRet_ok (eVar_ok hP.2 (by decide))))
end Hf
end

section
open PySem PySem.W PyProof.Rows PySem.Calls PySem.Spec
namespace Hf
set_option autoImplicit false
set_option maxRecDepth 100000
set_option Elab.async false
/-! who has what, as a table -/
noncomputable def hasS : Str := Str.ofString "has"
noncomputable def keyD (k : Call) : PyData := .tuple [.str hasS, .int (k.1 : Int), .int (k.2 : Int)]
noncomputable def entD (k : Call) : PyData × PyData := (keyD k, .int 1)
noncomputable def tabL (ks : List Call) : List (PyData × PyData) := ks.map entD
noncomputable def keyS (k : Call) : List Sc := [.inl hasS, .inr (k.1 : Int), .inr (k.2 : Int)]
theorem keyOf_key (k : Call) : keyOf (keyD k) = some (keyS k) := rfl
theorem keyS_inj {a b : Call} (h : keyS a = keyS b) : a = b := by
  simp only [keyS, List.cons.injEq, Sum.inr.injEq, and_true, true_and] at h
  exact Prod.ext (by omega) (by omega)
theorem hasKey_tab (k : Call) (ks : List Call) : hasKey (keyS k) (tabL ks) = decide (k ∈ ks) := by
  induction ks with
  | nil => rfl
  | cons x ks ih =>
    have e : hasKey (keyS k) (tabL (x :: ks)) = (decide (keyOf (entD x).1 = some (keyS k)) || hasKey (keyS k) (tabL ks)) := rfl
    rw [e, ih]
    by_cases q : k = x
    · subst q; simp [entD, keyOf_key]
    · have : ¬ keyS x = keyS k := fun h => q (keyS_inj h).symm
      simp [entD, keyOf_key, this, q]
theorem dput_new (ks : List Call) (k : Call) (h : k ∉ ks) : dput (tabL ks) (keyS k) (keyD k) (.int 1) = tabL (ks ++ [k]) := by
  unfold dput
  rw [hasKey_tab, decide_eq_false h]
  simp [tabL, entD]
theorem pDict_ok {i : Nat} {f : Fe} {σ : Sg} {kvs : List (PyData × PyData)} {d key : PyData} {ks : List Sc} (h : σ i = some (.dict kvs)) (h2 : f i σ = some key) (h3 : keyOf key = some ks) (hl : kvs.length ≤ 1000000) : pDict i f i σ d = some (σ.put i (.dict (dput kvs ks key d))) := by
  have : lenOK kvs.length = true := by simpa [lenOK] using hl
  simp [pDict, h, h2, h3, this]
theorem lItems_ok {f : Fe} {o : Nat} {σ : Sg} {ks : List Call} (h : f o σ = some (.dict (tabL ks))) : lItems f o σ = some (ks.map fun k => .tuple [keyD k, .int 1]) := by
  simp [lItems, h, dictOfD, itemsD, tabL, entD, Function.comp_def]
theorem bInOwn_ok {i : Nat} {f : Fe} {σ : Sg} {a k : PyData} {b : Bool} (h : σ i = some a) (h2 : f i σ = some k) (h3 : inD k a = some b) : bInOwn i f i σ = some b := by simp [bInOwn, h, h2, h3]
theorem inD_tab (k : Call) (ks : List Call) : inD (keyD k) (.dict (tabL ks)) = some (decide (k ∈ ks)) := by
  simp [inD, keyOf_key, hasKey_tab]
theorem pPair_ok {i j o : Nat} {σ : Sg} {x y : PyData} (h : i ≠ o) (h2 : j ≠ o) : pPair i j o σ (.tuple [x, y]) = some ((σ.put i x).put j y) := by simp [pPair, h, h2]
theorem add_ok' (ks : List Call) (k : Call) (hn : ks.Nodup) (hk : k ∉ ks) (hl : ks.length < 1000000) : Fadd_callers [.dict (tabL ks), .dict (tabL [k])] = some (.dict (tabL (ks ++ [k]))) := by
  refine runFn_ok rfl ?_
  refine fSeq_ok (fOwn_ok (d := .dict []) rfl) ?_
  obtain ⟨σ1, hgo, h31, h30⟩ := forGo_at (put := pPair 32 33) (o := 31) (g := fun (k : Call) => .tuple [keyD k, .int 1])
    (body := fSeq (fSet (pDict 31 (eVar 32)) (eVar 33)) fNil)
    (fun pre σ => σ 31 = some (.dict (tabL pre)) ∧ σ 30 = some (.dict (tabL [k]))) ks
    ((bindSg [29, 30] [.dict (tabL ks), .dict (tabL [k])] fun _ => none).put 31 (.dict [])) ⟨rfl, rfl⟩ (by
      intro pre x post σ e ⟨h1, h2⟩
      have hx : x ∉ pre := by
        intro q
        rw [e] at hn
        have := (List.nodup_append.mp hn).2.2 x q x (by simp)
        exact this rfl
      have hlen : (tabL pre).length ≤ 1000000 := by
        have : pre.length ≤ ks.length := by simp [e]
        simp [tabL]; omega
      refine ⟨(σ.put 32 (keyD x)).put 33 (.int 1), _, pPair_ok (by decide) (by decide), fSeq_ok (fSet_ok (d := .int 1) (eVar_ok rfl (by decide)) (pDict_ok h1 (eVar_ok rfl (by decide)) (keyOf_key x) hlen)) rfl, ?_, h2⟩
      rw [put_same, dput_new _ _ hx])
  refine fSeq_ok (fFor_ok (lItems_ok (eVar_ok rfl (by decide))) hgo) ?_
  have hlen : (tabL ks).length ≤ 1000000 := by simp [tabL]; omega
  refine fSeq_ok (σ' := ((σ1.put 32 (keyD k)).put 33 (.int 1)).put 31 (.dict (tabL (ks ++ [k])))) (fFor_ok (ds := [.tuple [keyD k, .int 1]]) ?_ ?_) ?_
  · exact lItems_ok (eVar_ok h30 (by decide))
  · have hb : fIf (bInOwn 31 (eVar 32)) (fSeq fNever fNil) (fSeq (fSet (pDict 31 (eVar 32)) (eVar 33)) fNil) 31 ((σ1.put 32 (keyD k)).put 33 (.int 1)) = some (.next 31 (((σ1.put 32 (keyD k)).put 33 (.int 1)).put 31 (.dict (tabL (ks ++ [k]))))) := by
      rw [fIf_ok (b := false)]
      · rw [if_neg (by decide)]
        refine fSeq_ok (fSet_ok (d := .int 1) (eVar_ok rfl (by decide)) (pDict_ok (kvs := tabL ks) h31 (eVar_ok rfl (by decide)) (keyOf_key k) hlen)) ?_
        rw [dput_new _ _ hk]; rfl
      · refine bInOwn_ok (a := .dict (tabL ks)) h31 (eVar_ok rfl (by decide)) ?_
        rw [inD_tab, decide_eq_false hk]
    simp only [forGo]
    rw [pPair_ok (by decide) (by decide), Option.bind_some, fSeq_next hb]
    rfl
  · exact fFreeze_ok (fSeq_ret (fRet_ok (eVar_ok rfl (by decide))))
theorem count_ok (ks : List Call) : Fcount_calls [.dict (tabL ks)] = some (.int (ks.length : Int)) := by
  refine runFn_ok rfl ?_
  refine fSeq_ok (fSet_ok (d := .int 0) rfl rfl) ?_
  obtain ⟨σ1, hgo, h1⟩ := forGo_at (put := pName 9) (o := 0) (g := fun (_ : Call) => .int 1)
    (body := fSeq (fAug 35 (eVar 9)) fNil)
    (fun pre σ => σ 35 = some (.int (pre.length : Int))) ks
    ((bindSg [34] [.dict (tabL ks)] fun _ => none).put 35 (.int 0)) rfl (by
      intro pre x post σ e h1
      refine ⟨σ.put 9 (.int 1), (σ.put 9 (.int 1)).put 35 (.int ((pre.length : Int) + 1)), rfl, fSeq_ok ?_ rfl, ?_⟩
      · have : eBin fAug.subD0 (eVar 35) (eVar 9) 0 (σ.put 9 (.int 1)) = some (.int ((pre.length : Int) + 1)) := eBin_ok (x := .int (pre.length : Int)) (y := .int 1) (eVar_ok h1 (by decide)) (eVar_ok rfl (by decide)) rfl
        simp only [fAug, this, Option.bind_some]
        rfl
      · rw [put_same]; simp)
  refine fSeq_ok (fFor_ok (ds := ks.map fun _ => .int 1) ?_ hgo) ?_
  · have : eVar 34 0 ((bindSg [34] [.dict (tabL ks)] fun _ => none).put 35 (.int 0)) = some (.dict (tabL ks)) := rfl
    unfold lVals
    rw [this]
    simp [dictOfD, tabL, entD, Function.comp_def]
  · exact fSeq_ret (fRet_ok (eVar_ok h1 (by decide)))
end Hf
end

section
open PySem PySem.W PyProof.Rows PySem.Calls PySem.Spec
namespace Hf
set_option autoImplicit false
set_option maxRecDepth 100000
set_option Elab.async false
noncomputable def rowK (m : Nat) (K : Nat → Nat → Bool) (p : Nat) : List Call := ((List.range m).filter (K p)).map fun w => (p, w)
noncomputable def tabK (m : Nat) (K : Nat → Nat → Bool) : List Call := (List.range m).flatMap (rowK m K)
theorem mem_rowK {m : Nat} {K : Nat → Nat → Bool} {p : Nat} {c : Call} : c ∈ rowK m K p ↔ c.1 = p ∧ c.2 < m ∧ K c.1 c.2 = true := by
  simp only [rowK, List.mem_map, List.mem_filter, List.mem_range]
  constructor
  · rintro ⟨w, ⟨h1, h2⟩, rfl⟩; exact ⟨rfl, h1, h2⟩
  · rintro ⟨rfl, h1, h2⟩; exact ⟨c.2, ⟨h1, h2⟩, rfl⟩
theorem mem_tabK {m : Nat} {K : Nat → Nat → Bool} {c : Call} : c ∈ tabK m K ↔ c.1 < m ∧ c.2 < m ∧ K c.1 c.2 = true := by
  simp only [tabK, List.mem_flatMap, List.mem_range, mem_rowK]
  constructor
  · rintro ⟨p, h, rfl, h2⟩; exact ⟨h, h2⟩
  · rintro ⟨h, h2⟩; exact ⟨c.1, h, rfl, h2⟩
theorem flatMap_nodup {α β : Type} {f : α → List β} : ∀ (l : List α), l.Nodup → (∀ x ∈ l, (f x).Nodup) → (∀ x ∈ l, ∀ y ∈ l, x ≠ y → ∀ b, b ∈ f x → b ∉ f y) → (l.flatMap f).Nodup
  | [], _, _, _ => List.nodup_nil
  | x :: l, h, h1, h2 => by
    rw [List.flatMap_cons, List.nodup_append]
    obtain ⟨n1, n2⟩ := List.nodup_cons.mp h
    refine ⟨h1 x (by simp), flatMap_nodup l n2 (fun y hy => h1 y (by simp [hy])) (fun y hy z hz => h2 y (by simp [hy]) z (by simp [hz])), ?_⟩
    intro a ha b hb e
    obtain ⟨y, hy, hby⟩ := List.mem_flatMap.mp hb
    exact h2 x (by simp) y (by simp [hy]) (fun e => n1 (e ▸ hy)) a ha (e ▸ hby)
theorem nodup_pair (p : Nat) : ∀ {l : List Nat}, l.Nodup → (l.map fun w => (p, w)).Nodup
  | [], _ => List.nodup_nil
  | x :: l, h => by
    obtain ⟨n1, n2⟩ := List.nodup_cons.mp h
    rw [List.map_cons, List.nodup_cons]
    refine ⟨fun q => ?_, nodup_pair p n2⟩
    obtain ⟨y, hy, e⟩ := List.mem_map.mp q
    injection e with _ e
    exact n1 (e ▸ hy)
theorem rowK_nodup (m : Nat) (K : Nat → Nat → Bool) (p : Nat) : (rowK m K p).Nodup := by
  unfold rowK
  exact nodup_pair p (List.nodup_range.filter _)
theorem tabK_nodup (m : Nat) (K : Nat → Nat → Bool) : (tabK m K).Nodup :=
  flatMap_nodup _ List.nodup_range (fun p _ => rowK_nodup m K p) (fun x _ y _ h b h1 h2 => h (by rw [← (mem_rowK.mp h1).1, (mem_rowK.mp h2).1]))
theorem rowK_len (m : Nat) (K : Nat → Nat → Bool) (p : Nat) : (rowK m K p).length ≤ m := by
  unfold rowK
  have := List.length_filter_le (K p) (List.range m)
  simpa using this
theorem flat_len {α β : Type} {f : α → List β} {n : Nat} : ∀ (l : List α), (∀ x ∈ l, (f x).length ≤ n) → (l.flatMap f).length ≤ l.length * n
  | [], _ => by simp
  | x :: l, h => by
    rw [List.flatMap_cons, List.length_append, List.length_cons, Nat.add_mul]
    have := flat_len l (fun y hy => h y (by simp [hy]))
    have := h x (by simp)
    omega
theorem lEnum_ok {f : Fl} {o : Nat} {σ : Sg} {ds : List PyData} (h : f o σ = some [.list ds]) : lEnum f o σ = some (enumD ds) := by simp [lEnum, h]
theorem enum_map (m : Nat) (g : Nat → PyData) : enumD ((List.range m).map g) = (List.range m).map fun (i : Nat) => .tuple [.int (i : Int), g i] := by
  unfold enumD
  rw [List.length_map, List.length_range]
  refine List.map_congr_left fun i hi => ?_
  have hi' : i < m := List.mem_range.mp hi
  simp [hi']
noncomputable def bitD (x : Nat) (i : Nat) : PyData := .int (if x.testBit i then 1 else 0)
theorem bits_map (n x : Nat) : (bitsI n x).map PyData.int = (List.range n).map (bitD x) := by
  simp [bitsI, bitD, Function.comp_def]
theorem filter_less {n m : Nat} (h : n ≤ m) (p : Nat → Bool) (hp : ∀ i, n ≤ i → p i = false) : (List.range n).filter p = (List.range m).filter p := by
  obtain ⟨k, rfl⟩ := Nat.exists_eq_add_of_le h
  rw [List.range_add, List.filter_append]
  have : List.filter p ((List.range k).map (n + ·)) = [] := by
    rw [List.filter_eq_nil_iff]
    intro a ha
    obtain ⟨i, _, rfl⟩ := List.mem_map.mp ha
    simp [hp (n + i) (by omega)]
  rw [this, List.append_nil]
theorem eq_bit (b : Bool) : cmpD .Eq (.int (if b then 1 else 0)) (.int 1) = some b := by cases b <;> decide +kernel

noncomputable def inPut : Fs := fIf (bCmp (cmpD .Eq) (eVar 28) (eLit (.int 1))) (fSeq (fSet (pName 15) (eCall Fadd_callers (lCons (eVar 15) (lCons (eBin dict1 (eTup (lCons (eLit (.str hasS)) (lCons (eVar 11) (lCons (eVar 27) lNil)))) (eLit (.int 1))) lNil)))) fNil) fNil
theorem inPut_ok {σ : Sg} {p w : Nat} {b : Bool} {ks : List Call} (h28 : σ 28 = some (.int (if b then 1 else 0))) (h11 : σ 11 = some (.int (p : Int))) (h27 : σ 27 = some (.int (w : Int))) (h15 : σ 15 = some (.dict (tabL ks)))
    (hn : ks.Nodup) (hk : (p, w) ∉ ks) (hl : ks.length < 1000000) : ∃ σ', inPut 0 σ = some (.next 0 σ') ∧ σ' 15 = some (.dict (tabL (if b then ks ++ [(p, w)] else ks))) ∧ σ' 11 = σ 11 := by
  unfold inPut
  rw [fIf_ok (bCmp_ok (eVar_ok h28 (by decide)) rfl (eq_bit b))]
  cases b with
  | false => exact ⟨σ, rfl, h15, rfl⟩
  | true =>
    refine ⟨σ.put 15 (.dict (tabL (ks ++ [(p, w)]))), ?_, put_same _ _ _, put_ne _ _ (by decide)⟩
    rw [if_pos rfl]
    refine fSeq_ok (fSet_ok (eCall_ok (lTwo_ok (eVar_ok h15 (by decide)) (eBin_ok (x := keyD (p, w)) (y := .int 1) (d := .dict (tabL [(p, w)])) ?_ rfl rfl)) (add_ok' ks (p, w) hn hk hl)) rfl) rfl
    exact eTup_ok (lCons_ok rfl (lTwo_ok (eVar_ok h11 (by decide)) (eVar_ok h27 (by decide)))) rfl
theorem has_ok (m : Nat) (h1 : m < 7) (h2 : 0 < m) (cs : List Call) (hc : In m cs) : F_law_has [.int (m : Int), callsD cs] = some (.dict (tabL (tabK m (runK cs)))) := by
  refine runFn_ok rfl ?_
  refine fSeq_ok (fSet_ok (d := .dict []) rfl rfl) ?_
  have lt := mRun_lt hc
  obtain ⟨σ1, hgo, hP⟩ := forGo_at (put := pPair 11 5) (o := 0) (g := fun (i : Nat) => .tuple [.int (i : Int), rowD (mRun cs) i])
    (body := fSeq (fFor (lEnum (lCons (eCall F_int2digits (lCons (eVar 5) (lCons (eLit (.int 1)) lNil))) lNil)) (pPair 27 28) (fSeq inPut fNil)) fNil)
    (fun pre σ => σ 15 = some (.dict (tabL (pre.flatMap (rowK m (runK cs)))))) (List.range m)
    ((bindSg [2, 9] [.int (m : Int), callsD cs] fun _ => none).put 15 (.dict [])) rfl (by
      intro pre p post σ e h15
      have hp : p < m := by
        have : p ∈ List.range m := by rw [e]; simp
        exact List.mem_range.mp this
      have hpre : ∀ q ∈ pre, q ≠ p := by
        intro q hq hqp
        have hn := @List.nodup_range m
        rw [e] at hn
        exact (List.nodup_append.mp hn).2.2 q hq p (by simp) hqp
      have hprelen : pre.length ≤ m := by
        have : (List.range m).length = m := List.length_range
        rw [e] at this
        simp at this; omega
      have hpn : pre.Nodup := by
        have hn := @List.nodup_range m
        rw [e] at hn
        exact (List.nodup_append.mp hn).1
      have hbn : (pre.flatMap (rowK m (runK cs))).Nodup := flatMap_nodup _ hpn (fun p _ => rowK_nodup m _ p) (fun x _ y _ h b h1 h2 => h (by rw [← (mem_rowK.mp h1).1, (mem_rowK.mp h2).1]))
      have hblen : (pre.flatMap (rowK m (runK cs))).length ≤ 36 := by
        have := flat_len (n := m) pre (fun p _ => rowK_len m (runK cs) p)
        have h3 : pre.length * m ≤ 6 * 6 := Nat.mul_le_mul (by omega) (by omega)
        omega
      obtain ⟨n, hn, hd, hz⟩ := digs_ok m h1 h2 (mRun cs p) (lt p hp)
      refine ⟨(σ.put 11 (.int (p : Int))).put 5 (rowD (mRun cs) p), ?_⟩
      obtain ⟨σ2, hgo2, hQ, _⟩ := forGo_at (put := pPair 27 28) (o := 0) (g := fun (i : Nat) => .tuple [.int (i : Int), bitD (mRun cs p) i]) (body := fSeq inPut fNil)
        (fun pre' σ => σ 15 = some (.dict (tabL (pre.flatMap (rowK m (runK cs)) ++ (pre'.filter (runK cs p)).map fun w => (p, w)))) ∧ σ 11 = some (.int (p : Int))) (List.range n)
        ((σ.put 11 (.int (p : Int))).put 5 (rowD (mRun cs) p)) ⟨by rw [List.filter_nil, List.map_nil, List.append_nil]; exact h15, rfl⟩ (by
          intro pre' w post' σ' e' ⟨g15, g11⟩
          have hpre'n : (pre' ++ [w]).Nodup := by
            have hn := @List.nodup_range n
            rw [e', List.append_cons] at hn
            exact (List.nodup_append.mp hn).1
          have hw' : w ∉ pre' := by
            intro q
            exact (List.nodup_append.mp hpre'n).2.2 w q w (by simp) rfl
          have hl' : pre'.length ≤ n := by
            have : (List.range n).length = n := List.length_range
            rw [e'] at this
            simp at this; omega
          have hfl := List.length_filter_le (runK cs p) pre'
          obtain ⟨σ3, b1, b2, b3⟩ := inPut_ok (σ := (σ'.put 27 (.int (w : Int))).put 28 (bitD (mRun cs p) w)) (p := p) (w := w) (b := (mRun cs p).testBit w) rfl g11 rfl g15
            (by
              rw [List.nodup_append]
              refine ⟨hbn, nodup_pair p ((List.nodup_append.mp hpre'n).1.filter _), ?_⟩
              intro a ha b hb hab
              obtain ⟨q, hq, haq⟩ := List.mem_flatMap.mp ha
              obtain ⟨w', _, rfl⟩ := List.mem_map.mp hb
              exact hpre q hq (by rw [← (mem_rowK.mp haq).1, hab]))
            (by
              intro q
              rcases List.mem_append.mp q with q | q
              · obtain ⟨q', hq', hq2⟩ := List.mem_flatMap.mp q
                exact hpre q' hq' (mem_rowK.mp hq2).1.symm
              · obtain ⟨w', hw2, e2⟩ := List.mem_map.mp q
                injection e2 with _ e3
                exact hw' (e3 ▸ (List.mem_filter.mp hw2).1))
            (by simp only [List.length_append, List.length_map]; omega)
          refine ⟨_, σ3, pPair_ok (by decide) (by decide), fSeq_ok b1 rfl, ?_, ?_⟩
          · rw [b2, mRun_bit]
            cases q : runK cs p w <;> simp [q, List.filter_append]
          · rw [b3]; exact g11)
      refine ⟨σ2, pPair_ok (by decide) (by decide), fSeq_ok (fFor_ok (ds := (List.range n).map fun (i : Nat) => .tuple [.int (i : Int), bitD (mRun cs p) i]) ?_ hgo2) rfl, ?_⟩
      · rw [lEnum_ok (ds := (List.range n).map (bitD (mRun cs p)))]
        · rw [enum_map]
        · refine lOne_ok (eCall_ok (lTwo_ok (eVar_ok rfl (by decide)) rfl) ?_)
          rw [← bits_map]; exact hd
      · rw [hQ, List.flatMap_append]
        have : rowK m (runK cs) p = ((List.range n).filter (runK cs p)).map fun w => (p, w) := by
          unfold rowK
          rw [filter_less hn]
          intro i hi
          rw [← mRun_bit]; exact hz i hi
        simp [this])
  refine fSeq_ok (fFor_ok (ds := (List.range m).map fun (i : Nat) => .tuple [.int (i : Int), rowD (mRun cs) i]) ?_ hgo) ?_
  · rw [lEnum_ok (ds := masksL m (mRun cs))]
    · rw [masksL, enum_map]
    · exact lOne_ok (eCall_ok (lTwo_ok (eVar_ok rfl (by decide)) (eVar_ok rfl (by decide))) (called_ok m h1 h2 cs hc))
  · exact fSeq_ret (fRet_ok (eVar_ok hP (by decide)))
end Hf
end

section
open PySem PySem.W PyProof.Rows PySem.Calls PySem.Spec
namespace Hf
set_option autoImplicit false
set_option maxRecDepth 100000
set_option Elab.async false
/-! statements that do not read the script -/
noncomputable def NoSc {β : Type} (f : Nat → Sg → β) : Prop := ∀ (o : Nat) (σ : Sg) (d : PyData), f o (σ.put 1 d) = f o σ
noncomputable def withS (d : PyData) : Out → Out
  | .next o σ => .next o (σ.put 1 d)
  | .ret v => .ret v
noncomputable def Sn1 (f : Fs) : Prop := ∀ (o : Nat) (σ : Sg) (d : PyData), f o (σ.put 1 d) = (f o σ).map (withS d)
noncomputable def Pn1 (put : Fp) : Prop := ∀ (o : Nat) (σ : Sg) (v d : PyData), put o (σ.put 1 d) v = (put o σ v).map fun τ => τ.put 1 d
theorem put_comm (σ : Sg) {i : Nat} (d v : PyData) (h : i ≠ 1) : (σ.put 1 d).put i v = (σ.put i v).put 1 d := by
  funext j
  simp only [Sg.put]
  by_cases q1 : j = i
  · subst q1; simp [h]
  · simp [q1]
theorem del_comm (σ : Sg) {xs : List Nat} (d : PyData) (h : xs.contains 1 = false) : (σ.put 1 d).del xs = (σ.del xs).put 1 d := by
  funext j
  simp only [Sg.put, Sg.del]
  by_cases q1 : j = 1
  · subst q1; simp only [h, if_true]; rfl
  · simp [q1]
theorem in_var {i : Nat} (h : i ≠ 1) : NoSc (eVar i) := fun o σ d => by simp [eVar, Sg.put, h]
theorem in_lit {v : PyData} : NoSc (eLit v) := fun _ _ _ => rfl
theorem in_blit {v : Bool} : NoSc (bLit v) := fun _ _ _ => rfl
theorem in_nil : NoSc lNil := fun _ _ _ => rfl
theorem in_bin {g : PyData → PyData → Option PyData} {f f' : Fe} (h : NoSc f) (h2 : NoSc f') : NoSc (eBin g f f') := fun o σ d => by simp only [eBin, h o σ d, h2 o σ d]
theorem in_un {g : PyData → Option PyData} {f : Fe} (h : NoSc f) : NoSc (eUn g f) := fun o σ d => by simp only [eUn, h o σ d]
theorem in_call {g : List PyData → Option PyData} {f : Fl} (h : NoSc f) : NoSc (eCall g f) := fun o σ d => by simp only [eCall, h o σ d]
theorem in_tup {f : Fl} (h : NoSc f) : NoSc (eTup f) := fun o σ d => by simp only [eTup, h o σ d]
theorem in_lst {f : Fl} (h : NoSc f) : NoSc (eLst f) := fun o σ d => by simp only [eLst, h o σ d]
theorem in_cons {f : Fe} {g : Fl} (h : NoSc f) (h2 : NoSc g) : NoSc (lCons f g) := fun o σ d => by simp only [lCons, h o σ d, h2 o σ d]
theorem in_range {f : Fl} (h : NoSc f) : NoSc (lRange f) := fun o σ d => by simp only [lRange, h o σ d]
theorem in_it {f : Fe} (h : NoSc f) : NoSc (lIt f) := fun o σ d => by simp only [lIt, h o σ d]
theorem in_one {f : Fe} (h : NoSc f) : NoSc (lOne f) := fun o σ d => by simp only [lOne, h o σ d]
theorem in_cmp {g : PyData → PyData → Option Bool} {f f' : Fe} (h : NoSc f) (h2 : NoSc f') : NoSc (bCmp g f f') := fun o σ d => by simp only [bCmp, h o σ d, h2 o σ d]
theorem in_and {f g : Fb} (h : NoSc f) (h2 : NoSc g) : NoSc (bAnd f g) := fun o σ d => by simp only [bAnd, h o σ d, h2 o σ d]
theorem in_or {f g : Fb} (h : NoSc f) (h2 : NoSc g) : NoSc (bOr f g) := fun o σ d => by simp only [bOr, h o σ d, h2 o σ d]
theorem in_compF {i : Nat} {cond : Fb} {fm : Fl} (hi : i ≠ 1) (h : NoSc cond) (h2 : NoSc fm) (o : Nat) (σ : Sg) (d : PyData) : compF i cond fm o (σ.put 1 d) = compF i cond fm o σ := by
  funext v
  simp only [compF, put_comm σ d v hi, h o _ d, h2 o _ d]
theorem in_comp {i : Nat} {xs : List Nat} {fi : Fl} {cond : Fb} {fm : Fl} (hi : i ≠ 1) (hx : xs.contains 1 = false) (h0 : NoSc fi) (h : NoSc cond) (h2 : NoSc fm) : NoSc (eComp i xs fi cond fm) := fun o σ d => by
  simp only [eComp, h0 o σ d, del_comm σ d hx, in_compF hi h h2]
theorem in_inner {i : Nat} {fi : Fl} {cond : Fb} {fm : Fl} (hi : i ≠ 1) (h0 : NoSc fi) (h : NoSc cond) (h2 : NoSc fm) : NoSc (lInner i fi cond fm) := fun o σ d => by
  have e : (σ.put 1 d) i = σ i := put_ne _ _ hi
  simp only [lInner, e, h0 o σ d, in_compF hi h h2]
theorem pn_name {i : Nat} (h : i ≠ 1) : Pn1 (pName i) := fun o σ v d => by
  simp only [pName]
  split
  · rfl
  · rw [put_comm σ d v h]; rfl
theorem pn_pair {i j : Nat} (h : i ≠ 1) (h2 : j ≠ 1) : Pn1 (pPair i j) := fun o σ v d => by
  simp only [pPair]
  split
  · split
    · rfl
    · split
      · rfl
      · rw [put_comm σ d _ h, put_comm _ d _ h2]; rfl
  · rfl
theorem sn_nil : Sn1 fNil := fun _ _ _ => rfl
theorem sn_seq {f g : Fs} (h : Sn1 f) (h2 : Sn1 g) : Sn1 (fSeq f g) := fun o σ d => by
  simp only [fSeq, h o σ d]
  cases f o σ with
  | none => rfl
  | some r => cases r with
    | next o' σ' => exact h2 o' σ' d
    | ret v => rfl
theorem sn_set {put : Fp} {f : Fe} (h : Pn1 put) (h2 : NoSc f) : Sn1 (fSet put f) := fun o σ d => by
  simp only [fSet, h2 o σ d]
  cases f o σ with
  | none => rfl
  | some v =>
    simp only [Option.bind_some, h o σ v d]
    cases put o σ v <;> rfl
theorem sn_ret {f : Fe} (h : NoSc f) : Sn1 (fRet f) := fun o σ d => by
  simp only [fRet, h o σ d]
  cases f o σ <;> rfl
theorem sn_if {t : Fb} {f g : Fs} (h : NoSc t) (h1 : Sn1 f) (h2 : Sn1 g) : Sn1 (fIf t f g) := fun o σ d => by
  simp only [fIf, h o σ d]
  cases t o σ with
  | none => rfl
  | some b => cases b with
    | true => exact h1 o σ d
    | false => exact h2 o σ d
theorem sn_go {put : Fp} {body : Fs} (h : Pn1 put) (h1 : Sn1 body) (o : Nat) (d : PyData) : ∀ (ds : List PyData) (σ : Sg), forGo put body o ds (σ.put 1 d) = (forGo put body o ds σ).map fun τ => τ.put 1 d
  | [], σ => rfl
  | v :: ds, σ => by
    simp only [forGo, h o σ v d]
    cases put o σ v with
    | none => rfl
    | some τ =>
      simp only [Option.map_some, Option.bind_some, h1 o τ d]
      cases body o τ with
      | none => rfl
      | some r => cases r with
        | next o' σ' =>
          simp only [Option.map_some, Option.bind_some, withS]
          split
          · exact sn_go h h1 o d ds σ'
          · rfl
        | ret v => rfl
theorem sn_for {fi : Fl} {put : Fp} {body : Fs} (h0 : NoSc fi) (h : Pn1 put) (h1 : Sn1 body) : Sn1 (fFor fi put body) := fun o σ d => by
  simp only [fFor, h0 o σ d]
  cases fi o σ with
  | none => rfl
  | some ds =>
    simp only [Option.bind_some, sn_go h h1]
    cases forGo put body o ds σ <;> rfl
noncomputable def Sfirst : Fs := fSeq Slaw_1 (fSeq Slaw_2 (fSeq Slaw_3 (fSeq Slaw_4 fNil)))
theorem sn_first : Sn1 Sfirst := by
  unfold Sfirst Slaw_1 Slaw_2 Slaw_3 Slaw_4
  repeat' first
    | exact sn_nil | exact in_lit | exact in_blit | exact in_nil
    | refine sn_seq ?_ ?_ | refine sn_set ?_ ?_ | refine sn_ret ?_ | refine sn_if ?_ ?_ ?_ | refine sn_for ?_ ?_ ?_
    | refine pn_name (by decide) | refine pn_pair (by decide) (by decide)
    | refine in_var (by decide) | refine in_bin ?_ ?_ | refine in_call ?_ | refine in_tup ?_ | refine in_lst ?_ | refine in_cons ?_ ?_ | refine in_range ?_ | refine in_it ?_ | refine in_one ?_
    | refine in_cmp ?_ ?_ | refine in_and ?_ ?_ | refine in_or ?_ ?_ | refine in_comp (by decide) (by decide) ?_ ?_ ?_ | refine in_inner (by decide) ?_ ?_ ?_
noncomputable def chkN (m : Nat) (r : Option Out) : Bool := match r with
  | some (.next 0 σ') => isI (σ' 2) (m : Int)
  | _ => false
theorem chk14 : ∀ m : Nat, m < 7 → 0 < m → chkN m (Sfirst 0 (Sg.put (fun _ => none) 2 (.int (m : Int)))) = true := by decide +kernel
theorem seq_assoc {f g h : Fs} : fSeq f (fSeq g h) = fSeq (fSeq f g) h := by
  funext o σ
  simp only [fSeq]
  cases f o σ with
  | none => rfl
  | some r => cases r <;> rfl
theorem nil_seq {h : Fs} : fSeq fNil h = h := rfl
theorem first_ok (m : Nat) (h1 : m < 7) (h2 : 0 < m) (d : PyData) : ∃ σ', Sfirst 0 (((Sg.put (fun _ => none) 1 d)).put 2 (.int (m : Int))) = some (.next 0 σ') ∧ σ' 1 = some d ∧ σ' 2 = some (.int (m : Int)) := by
  have h := chk14 m h1 h2
  rw [put_comm _ d _ (by decide), sn_first]
  unfold chkN at h
  split at h
  · rename_i σ' e
    rw [e]
    refine ⟨σ'.put 1 d, rfl, put_same _ _ _, ?_⟩
    rw [put_ne _ _ (by decide)]
    exact isI_iff h
  · cases h
theorem first_split (R : Fs) : fSeq Slaw_1 (fSeq Slaw_2 (fSeq Slaw_3 (fSeq Slaw_4 R))) = fSeq Sfirst R := by
  unfold Sfirst
  simp only [← seq_assoc, nil_seq]
end Hf
end

section
open PySem PySem.W PyProof.Rows PySem.Calls PySem.Spec
namespace Hf
set_option autoImplicit false
set_option maxRecDepth 100000
set_option Elab.async false
/-! how many know -/
noncomputable def cntK (m : Nat) (K : Nat → Nat → Bool) : Nat := (tabK m K).length
theorem cntK_sum (m : Nat) (K : Nat → Nat → Bool) : cntK m K = ((List.range m).map fun p => (rowK m K p).length).sum := by
  unfold cntK tabK
  rw [List.length_flatMap]
theorem sum_le {f g : Nat → Nat} : ∀ (l : List Nat), (∀ x ∈ l, f x ≤ g x) → (l.map f).sum ≤ (l.map g).sum
  | [], _ => Nat.le_refl _
  | x :: l, h => by
    simp only [List.map_cons, List.sum_cons]
    have := h x (by simp)
    have := sum_le l (fun y hy => h y (by simp [hy]))
    omega
theorem sum_add2 {f g h : Nat → Nat} : ∀ (l : List Nat), (l.map fun x => f x + g x + h x).sum = (l.map f).sum + (l.map g).sum + (l.map h).sum
  | [] => rfl
  | x :: l => by
    simp only [List.map_cons, List.sum_cons]
    have := sum_add2 (f := f) (g := g) (h := h) l
    omega
theorem sum_not (m a : Nat) : ∀ (l : List Nat), a ∉ l → (l.map fun x => if x = a then m else 0).sum = 0
  | [], _ => rfl
  | x :: l, h => by
    have h1 : x ≠ a := fun e => h (by simp [e])
    have := sum_not m a l (fun q => h (by simp [q]))
    simp only [List.map_cons, List.sum_cons, if_neg h1]
    omega
theorem sum_one (m a : Nat) : ∀ (l : List Nat), l.Nodup → (l.map fun x => if x = a then m else 0).sum ≤ m
  | [], _ => Nat.zero_le _
  | x :: l, h => by
    obtain ⟨n1, n2⟩ := List.nodup_cons.mp h
    simp only [List.map_cons, List.sum_cons]
    by_cases q : x = a
    · subst q
      rw [sum_not m x l n1]; simp
    · have := sum_one m a l n2
      rw [if_neg q]; omega
theorem rowK_mono {m : Nat} {K L : Nat → Nat → Bool} {p : Nat} (h : ∀ w, K p w = true → L p w = true) : (rowK m K p).length ≤ (rowK m L p).length := by
  simp only [rowK, List.length_map]
  rw [← List.countP_eq_length_filter, ← List.countP_eq_length_filter]
  exact List.countP_mono_left fun x _ hx => h x hx
theorem step_grows {K : Nat → Nat → Bool} {c : Call} {p w : Nat} (h : K p w = true) : stepK K c p w = true := by
  unfold stepK
  split
  · rename_i q
    rcases q with q | q <;> simp [← q, h]
  · exact h
theorem cnt_mono (m : Nat) (K : Nat → Nat → Bool) (c : Call) : cntK m K ≤ cntK m (stepK K c) := by
  rw [cntK_sum, cntK_sum]
  exact sum_le _ fun p _ => rowK_mono fun w h => step_grows h
theorem cnt_less (m : Nat) (K : Nat → Nat → Bool) (c : Call) : cntK m (stepK K c) ≤ cntK m K + 2 * m := by
  rw [cntK_sum, cntK_sum]
  have h1 : ((List.range m).map fun p => (rowK m (stepK K c) p).length).sum ≤ ((List.range m).map fun p => (rowK m K p).length + (if p = c.1 then m else 0) + (if p = c.2 then m else 0)).sum := by
    refine sum_le _ fun p _ => ?_
    by_cases q1 : p = c.1
    · have := rowK_len m (stepK K c) p
      rw [if_pos q1]; omega
    · by_cases q2 : p = c.2
      · have := rowK_len m (stepK K c) p
        rw [if_pos q2]; omega
      · have : rowK m (stepK K c) p = rowK m K p := by
          unfold rowK
          have e : stepK K c p = K p := by funext w; simp [stepK, q1, q2]
          rw [e]
        rw [this]; omega
  rw [sum_add2] at h1
  have h2 := sum_one m c.1 (List.range m) List.nodup_range
  have h3 := sum_one m c.2 (List.range m) List.nodup_range
  omega
theorem cnt_zero : ∀ m : Nat, m < 7 → cntK m (runK []) = m := by decide +kernel
theorem runK_snoc (cs : List Call) (c : Call) : runK (cs ++ [c]) = stepK (runK cs) c := by simp [runK]
noncomputable def cntN (m : Nat) (cs : List Call) (k : Nat) : Nat := cntK m (runK (cs.take k))
theorem cntN_step (m : Nat) (cs : List Call) (k : Nat) : cntN m cs (k - 1) ≤ cntN m cs k ∧ cntN m cs k ≤ cntN m cs (k - 1) + 2 * m := by
  cases k with
  | zero => exact ⟨Nat.le_refl _, Nat.le_add_right _ _⟩
  | succ k =>
    unfold cntN
    rw [Nat.add_sub_cancel]
    by_cases h : k < cs.length
    · rw [← List.take_append_getElem h, runK_snoc]
      exact ⟨cnt_mono _ _ _, cnt_less _ _ _⟩
    · rw [List.take_of_length_le (by omega), List.take_of_length_le (by omega)]
      exact ⟨Nat.le_refl _, Nat.le_add_right _ _⟩
theorem run_self (cs : List Call) (p : Nat) : runK cs p p = true := by
  have key : ∀ (cs : List Call) (K : Nat → Nat → Bool), (∀ p, K p p = true) → ∀ p, cs.foldl stepK K p p = true := by
    intro cs
    induction cs with
    | nil => intro K h; exact h
    | cons c cs ih => intro K h; exact ih (stepK K c) fun p => step_grows (h p)
  exact key cs idK (fun p => by simp [idK]) p

/-! statements 0, 5 and 6 -/
noncomputable def manyN (l : List Int) : Nat := 1 + (l.sum.fmod 6).toNat
theorem many_lt (l : List Int) : manyN l < 7 ∧ 0 < manyN l := by
  have h1 := Int.fmod_nonneg_of_pos l.sum (b := 6) (by decide)
  have h2 := Int.fmod_lt_of_pos l.sum (b := 6) (by decide)
  unfold manyN; omega
theorem law0_ok (l : List Int) : Slaw_0 0 (Sg.put (fun _ => none) 1 (.list (l.map .int))) = some (.next 0 ((Sg.put (fun _ => none) 1 (.list (l.map .int))).put 2 (.int (manyN l : Int)))) := by
  refine fSet_ok (eBin_ok (x := .int 1) (y := .int (l.sum.fmod 6)) rfl (eBin_ok (x := .int l.sum) (y := .int 6) (eCall_ok (lOne_ok (eVar_ok rfl (by decide))) ?_) rfl rfl) ?_) rfl
  · simp [sumD, intsOf_map]
  · have h1 := Int.fmod_nonneg_of_pos l.sum (b := 6) (by decide)
    have : (manyN l : Int) = 1 + l.sum.fmod 6 := by unfold manyN; omega
    rw [this]; rfl
noncomputable def callOf (m : Nat) (n : Int) : Call := ((n.fmod m).toNat, ((n.fdiv m).fmod m).toNat)
noncomputable def csOf (m : Nat) (l : List Int) : List Call := (l.map (callOf m)).filter fun c => decide (c.1 ≠ c.2)
theorem callOf_lt {m : Nat} (h : 0 < m) (n : Int) : (callOf m n).1 < m ∧ (callOf m n).2 < m ∧ ((callOf m n).1 : Int) = n.fmod m ∧ ((callOf m n).2 : Int) = (n.fdiv m).fmod m := by
  have hm : (0 : Int) < m := by omega
  have a1 := Int.fmod_nonneg_of_pos n hm
  have a2 := Int.fmod_lt_of_pos n hm
  have b1 := Int.fmod_nonneg_of_pos (n.fdiv m) hm
  have b2 := Int.fmod_lt_of_pos (n.fdiv m) hm
  simp only [callOf]
  omega
theorem csOf_in {m : Nat} (h : 0 < m) (l : List Int) : In m (csOf m l) := by
  intro c hc
  obtain ⟨h1, _⟩ := List.mem_filter.mp hc
  obtain ⟨n, _, rfl⟩ := List.mem_map.mp h1
  exact ⟨(callOf_lt h n).1, (callOf_lt h n).2.1⟩
theorem csOf_len (m : Nat) (l : List Int) : (csOf m l).length ≤ l.length := by
  unfold csOf
  have := List.length_filter_le (fun c : Call => decide (c.1 ≠ c.2)) (l.map (callOf m))
  simpa using this
theorem fApp_ok {i : Nat} {f : Fe} {σ : Sg} {xs : List PyData} {d : PyData} (h : σ i = some (.list xs)) (h2 : f i σ = some d) (hl : xs.length < 1000000) : fApp i f i σ = some (.next i (σ.put i (.list (xs ++ [d])))) := by
  have : lenOK (xs.length + 1) = true := by simp [lenOK]; omega
  simp [fApp, h, h2, this]
theorem law6_ok (m : Nat) (h1 : m < 7) (h2 : 0 < m) (l : List Int) (hl : l.length < 1000000) (σ : Sg) (hs1 : σ 1 = some (.list (l.map .int))) (hs2 : σ 2 = some (.int (m : Int))) (hs9 : σ 9 = some (.list [])) :
    ∃ σ', Slaw_6 9 σ = some (.next 9 σ') ∧ σ' 2 = some (.int (m : Int)) ∧ σ' 9 = some (callsD (csOf m (l.take 8))) := by
  obtain ⟨σ1, hgo, h⟩ := forGo_at (put := pName 12) (o := 9) (g := PyData.int)
    (body := fSeq (fSet (pPairR 13 14) (eTup (lCons (eBin modD (eVar 12) (eVar 2)) (lCons (eBin modD (eBin fdivD (eVar 12) (eVar 2)) (eVar 2)) lNil)))) (fSeq (fIf (bCmp (cmpD .NotEq) (eVar 13) (eVar 14)) (fSeq (fApp 9 (eTup (lCons (eVar 13) (lCons (eVar 14) lNil)))) fNil) fNil) fNil))
    (fun pre σ => σ 2 = some (.int (m : Int)) ∧ σ 9 = some (callsD (csOf m pre))) (l.take 8) σ ⟨hs2, hs9⟩ (by
      intro pre n post τ e ⟨t2, t9⟩
      obtain ⟨c1, c2, c3, c4⟩ := callOf_lt h2 n
      have hb : (((m : Int) == 0) = false) := by
        have : ((m : Int) ≠ 0) := by omega
        simpa using this
      have hsm : smallI (m : Int) = true := by simp [smallI]; omega
      have e1 : modD (.int n) (.int (m : Int)) = some (.int ((callOf m n).1 : Int)) := by simp [modD, hb, c3]
      have e2 : fdivD (.int n) (.int (m : Int)) = some (.int (n.fdiv m)) := by simp [fdivD, hb, hsm]
      have e3 : modD (.int (n.fdiv m)) (.int (m : Int)) = some (.int ((callOf m n).2 : Int)) := by simp [modD, hb, c4]
      have hpl : (csOf m pre).length < 1000000 := by
        have a1 := csOf_len m pre
        have a2 : (l.take 8).length ≤ 8 := by rw [List.length_take]; omega
        rw [e] at a2
        simp at a2
        omega
      have hset : fSet (pPairR 13 14) (eTup (lCons (eBin modD (eVar 12) (eVar 2)) (lCons (eBin modD (eBin fdivD (eVar 12) (eVar 2)) (eVar 2)) lNil))) 9 (τ.put 12 (.int n)) = some (.next 9 (((τ.put 12 (.int n)).put 14 (.int ((callOf m n).2 : Int))).put 13 (.int ((callOf m n).1 : Int)))) := by
        refine fSet_ok (d := .tuple [.int ((callOf m n).1 : Int), .int ((callOf m n).2 : Int)]) (eTup_ok (lTwo_ok (eBin_ok (eVar_ok rfl (by decide)) (eVar_ok t2 (by decide)) e1) (eBin_ok (eBin_ok (eVar_ok rfl (by decide)) (eVar_ok t2 (by decide)) e2) (eVar_ok t2 (by decide)) e3)) rfl) ?_
        simp [pPairR]
      have hcmp : bCmp (cmpD .NotEq) (eVar 13) (eVar 14) 9 (((τ.put 12 (.int n)).put 14 (.int ((callOf m n).2 : Int))).put 13 (.int ((callOf m n).1 : Int))) = some (!(((callOf m n).1 : Int) == ((callOf m n).2 : Int))) :=
        bCmp_ok (eVar_ok rfl (by decide)) (eVar_ok rfl (by decide)) rfl
      by_cases q : (callOf m n).1 = (callOf m n).2
      · refine ⟨_, ((τ.put 12 (.int n)).put 14 (.int ((callOf m n).2 : Int))).put 13 (.int ((callOf m n).1 : Int)), rfl, fSeq_ok hset (fSeq_ok ?_ rfl), t2, ?_⟩
        · rw [fIf_ok hcmp, q]; simp [fNil]
        · have : csOf m (pre ++ [n]) = csOf m pre := by simp [csOf, q]
          rw [this]; exact t9
      · refine ⟨_, (((τ.put 12 (.int n)).put 14 (.int ((callOf m n).2 : Int))).put 13 (.int ((callOf m n).1 : Int))).put 9 (.list ((csOf m pre).map prD ++ [prD (callOf m n)])), rfl, fSeq_ok hset (fSeq_ok ?_ rfl), t2, ?_⟩
        · have hq : (!(((callOf m n).1 : Int) == ((callOf m n).2 : Int))) = true := by simpa using fun h : ((callOf m n).1 : Int) = ((callOf m n).2 : Int) => q (by omega)
          rw [fIf_ok hcmp, hq, if_pos rfl]
          exact fSeq_ok (fApp_ok (xs := (csOf m pre).map prD) t9 (eTup_ok (lTwo_ok (eVar_ok rfl (by decide)) (eVar_ok rfl (by decide))) rfl) (by simpa using hpl)) rfl
        · have : csOf m (pre ++ [n]) = csOf m pre ++ [callOf m n] := by simp [csOf, q]
          rw [this, put_same]; simp [callsD])
  refine ⟨σ1, ?_, h⟩
  refine fFor_ok (ds := (l.take 8).map .int) ?_ hgo
  refine lIt_ok (eBin_ok (eVar_ok hs1 (by decide)) rfl ?_)
  have : lenOK l.length = true := by simp [lenOK]; omega
  simp [takeD, this, List.map_take]
  decide
end Hf
end

section
open PySem PySem.W PyProof.Rows PySem.Calls PySem.Spec
namespace Hf
set_option autoImplicit false
set_option maxRecDepth 100000
set_option Elab.async false
structure Wd (m : Nat) (cs : List Call) : Prop where
  lt : m < 7
  pos : 0 < m
  mem : In m cs
  few : cs.length ≤ 8
/-- what stands in the last part -/
structure Bs (m : Nat) (cs : List Call) (σ : Sg) : Prop where
  s2 : σ 2 = some (.int (m : Int))
  s9 : σ 9 = some (callsD cs)
  s15 : σ 15 = some (.dict (tabL (tabK m (runK cs))))
theorem In.take {m : Nat} {cs : List Call} (h : In m cs) (k : Nat) : In m (cs.take k) := fun c hc => h c (List.mem_of_mem_take hc)
theorem In.rev {m : Nat} {cs : List Call} (h : In m cs) : In m cs.reverse := fun c hc => h c (List.mem_reverse.mp hc)
theorem law7_ok {m : Nat} {cs : List Call} (W : Wd m cs) {σ : Sg} (h2 : σ 2 = some (.int (m : Int))) (h9 : σ 9 = some (callsD cs)) : ∃ σ', Slaw_7 0 σ = some (.next 0 σ') ∧ Bs m cs σ' :=
  ⟨_, fSet_ok (eCall_ok (lTwo_ok (eVar_ok h2 (by decide)) (eVar_ok h9 (by decide))) (has_ok m W.lt W.pos cs W.mem)) rfl, h2, h9, rfl⟩
theorem Bs.put {m : Nat} {cs : List Call} {σ : Sg} (B : Bs m cs σ) {i : Nat} {d : PyData} (h2 : 2 ≠ i) (h9 : 9 ≠ i) (h15 : 15 ≠ i) : Bs m cs (σ.put i d) :=
  ⟨by rw [put_ne _ _ h2]; exact B.s2, by rw [put_ne _ _ h9]; exact B.s9, by rw [put_ne _ _ h15]; exact B.s15⟩
theorem law8_ok {m : Nat} {cs : List Call} {σ : Sg} (B : Bs m cs σ) : ∃ σ', Slaw_8 0 σ = some (.next 0 σ') ∧ Bs m cs σ' ∧ σ' 16 = some (.int (m : Int)) :=
  ⟨_, fSet_ok (eVar_ok B.s2 (by decide)) rfl, B.put (by decide) (by decide) (by decide), rfl⟩
theorem lenD_ok {xs : List PyData} (h : xs.length ≤ 1000000) : lenD [.list xs] = some (.int (xs.length : Int)) := by
  have : lenOK xs.length = true := by simpa [lenOK] using h
  simp [lenD, this]
theorem takeD_ok {xs : List PyData} {k : Nat} (h : xs.length ≤ 1000000) (hk : k ≤ 1000000) : takeD (.list xs) (.int (k : Int)) = some (.list (xs.take k)) := by
  have h1 : lenOK xs.length = true := by simpa [lenOK] using h
  have h2 : smallI (k : Int) = true := by simp [smallI]; omega
  simp [takeD, h1, h2]
theorem range_at {n : Nat} {pre post : List Nat} {x : Nat} (e : List.range n = pre ++ x :: post) : x = pre.length ∧ x < n := by
  have h1 : (List.range n)[pre.length]? = some x := by rw [e]; simp
  have h2 : pre.length < n := by
    have : (List.range n).length = n := List.length_range
    rw [e] at this; simp at this; omega
  rw [List.getElem?_range h2] at h1
  have := Option.some.inj h1
  omega
theorem law9_ok {m : Nat} {cs : List Call} (W : Wd m cs) {σ : Sg} (B : Bs m cs σ) (h16 : σ 16 = some (.int (m : Int))) : ∃ σ', Slaw_9 0 σ = some (.next 0 σ') ∧ Bs m cs σ' := by
  obtain ⟨σ1, hgo, h⟩ := forGo_at (put := pName 17) (o := 0) (g := fun (i : Nat) => PyData.int (i : Int))
    (body := (fSeq (fSet (pName 18) (eCall Fcount_calls (lCons (eCall F_law_has (lCons (eVar 2) (lCons (eBin takeD (eVar 9) (eVar 17)) lNil))) lNil))) (fSeq (fIf (bOr (bCmp (cmpD .Lt) (eVar 18) (eVar 16)) (bOr (bAnd (bCmp (cmpD .Gt) (eVar 17) (eLit (.int 0))) (bAnd (bCmp (cmpD .Gt) (eVar 18) (eBin addD (eVar 16) (eBin mulD (eLit (.int 2)) (eVar 2)))) (bLit true))) (bLit false))) (fSeq (fRet (eLit (.bool false))) fNil) fNil) (fSeq (fSet (pName 16) (eVar 18)) fNil))))
    (fun pre σ => Bs m cs σ ∧ σ 16 = some (.int (cntN m cs (pre.length - 1) : Int))) (List.range (cs.length + 1)) σ ⟨B, by rw [h16]; simp only [List.length_nil, Nat.zero_sub, cntN, List.take_zero, cnt_zero m W.lt]⟩ (by
      intro pre x post τ e ⟨T, t16⟩
      obtain ⟨hx, hxn⟩ := range_at e
      have hfew := W.few
      obtain ⟨k1, k2⟩ := cntN_step m cs x
      rw [← hx] at t16
      have e1 : eCall Fcount_calls (lCons (eCall F_law_has (lCons (eVar 2) (lCons (eBin takeD (eVar 9) (eVar 17)) lNil))) lNil) 0 (τ.put 17 (.int (x : Int))) = some (.int (cntN m cs x : Int)) := by
        refine eCall_ok (lOne_ok (eCall_ok (lTwo_ok (eVar_ok T.s2 (by decide)) (eBin_ok (eVar_ok T.s9 (by decide)) (eVar_ok rfl (by decide)) (takeD_ok (by simp; omega) (by omega)))) ?_)) (count_ok _)
        rw [← List.map_take]
        exact has_ok m W.lt W.pos _ (W.mem.take x)
      refine ⟨τ.put 17 (.int (x : Int)), ((τ.put 17 (.int (x : Int))).put 18 (.int (cntN m cs x : Int))).put 16 (.int (cntN m cs x : Int)), rfl, fSeq_ok (fSet_ok e1 rfl) (fSeq_ok (σ' := (τ.put 17 (.int (x : Int))).put 18 (.int (cntN m cs x : Int))) ?_ (fSeq_ok (fSet_ok (eVar_ok rfl (by decide)) rfl) rfl)), ?_, ?_⟩
      · rw [fIf_ok (b := false)]
        · rfl
        · have b1 : bCmp (cmpD .Lt) (eVar 18) (eVar 16) 0 ((τ.put 17 (.int (x : Int))).put 18 (.int (cntN m cs x : Int))) = some false := by
            refine bCmp_ok (eVar_ok rfl (by decide)) (eVar_ok t16 (by decide)) ?_
            have : ¬ ((cntN m cs x : Int) < (cntN m cs (x - 1) : Int)) := by omega
            simp [cmpD]; omega
          have hsm : smallI (m : Int) = true := by have := W.lt; simp [smallI]; omega
          have b2 : bCmp (cmpD .Gt) (eVar 18) (eBin addD (eVar 16) (eBin mulD (eLit (.int 2)) (eVar 2))) 0 ((τ.put 17 (.int (x : Int))).put 18 (.int (cntN m cs x : Int))) = some false := by
            refine bCmp_ok (y := .int ((cntN m cs (x - 1) : Int) + 2 * m)) (eVar_ok rfl (by decide)) (eBin_ok (y := .int (2 * m)) (eVar_ok t16 (by decide)) (eBin_ok (x := .int 2) rfl (eVar_ok T.s2 (by decide)) ?_) rfl) ?_
            · simp [mulD, hsm]
              decide
            · simp [cmpD]; omega
          have b3 : ∃ b, bCmp (cmpD .Gt) (eVar 17) (eLit (.int 0)) 0 ((τ.put 17 (.int (x : Int))).put 18 (.int (cntN m cs x : Int))) = some b := ⟨_, bCmp_ok (eVar_ok rfl (by decide)) rfl rfl⟩
          obtain ⟨b, b3⟩ := b3
          simp only [bOr, bAnd, b1, b2, b3, bLit, Option.bind_some]
          cases b <;> rfl
      · exact ((T.put (by decide) (by decide) (by decide)).put (by decide) (by decide) (by decide)).put (by decide) (by decide) (by decide)
      · rw [put_same]; simp [hx])
  refine ⟨σ1, fFor_ok ?_ hgo, h.1⟩
  have hfew := W.few
  have hl : ((cs.map prD).length : Int) = (cs.length : Int) := by simp
  have : lCons (eBin addD (eCall lenD (lCons (eVar 9) lNil)) (eLit (.int 1))) lNil 0 σ = some [.int ((cs.length + 1 : Nat) : Int)] := by
    refine lOne_ok (eBin_ok (x := .int (cs.length : Int)) (y := .int 1) (eCall_ok (lOne_ok (eVar_ok B.s9 (by decide))) ?_) rfl rfl)
    rw [callsD, lenD_ok (by simp; omega), hl]
  unfold lRange
  rw [this]
  exact range_ok _ (by omega)
end Hf
end

section
open PySem PySem.W PyProof.Rows PySem.Calls PySem.Spec
namespace Hf
set_option autoImplicit false
set_option maxRecDepth 100000
set_option Elab.async false
noncomputable def natD (i : Nat) : PyData := .int (i : Int)
theorem lay_nats : ∀ (r : List Nat), PyData.canLayAll0 (r.map natD) = true
  | [] => by simp [PyData.canLayAll0]
  | x :: r => by simp [PyData.canLayAll0, natD, PyData.canLay0, lay_nats r]
theorem depth_nats : ∀ (r : List Nat), PyData.depthAll (r.map natD) = 0
  | [] => by simp [PyData.depthAll]
  | x :: r => by simp [PyData.depthAll, natD, PyData.depth, depth_nats r]
theorem shaped_nats (r : List Nat) : SeqAt.shaped (.list (r.map natD)) = true := by
  simp [SeqAt.shaped, PyData.canLay0, PyData.depth, lay_nats, depth_nats]
theorem shaped_nat (i : Nat) : SeqAt.shaped (natD i) = true := by
  simp [SeqAt.shaped, natD, PyData.canLay0, PyData.depth]
theorem in_nats (i : Nat) (r : List Nat) : cmpD .In (natD i) (.list (r.map natD)) = some (decide (i ∈ r)) := by
  have : ((r.map natD).any fun y => PyData.eqv y (natD i)) = decide (i ∈ r) := by
    rw [List.any_map, Bool.eq_iff_iff]
    simp only [List.any_eq_true, decide_eq_true_eq, Function.comp_apply]
    constructor
    · rintro ⟨x, hx, h⟩
      have : (x : Int) = i := by simpa [natD, PyData.eqv] using h
      have : x = i := by omega
      exact this ▸ hx
    · intro h
      exact ⟨i, h, by simp [natD, PyData.eqv]⟩
  simp only [cmpD, shaped_nats, shaped_nat, this, Bool.and_self, if_true]
theorem eOfB_ok {t : Fb} {o : Nat} {σ : Sg} {b : Bool} (h : t o σ = some b) : eOfB t o σ = some (.bool b) := by simp [eOfB, h]
theorem ne_bools (a b : Bool) : cmpD .NotEq (.bool a) (.bool b) = some (a != b) := by
  revert a b; decide +kernel
theorem reach_step {m : Nat} {K : Nat → Nat → Bool} {c : Call} {f : Nat} {r : List Nat} (h : ∀ p, p < m → (p ∈ r ↔ K p f = true)) (hc : c.1 < m ∧ c.2 < m) (p : Nat) (hp : p < m) :
    (p ∈ (if c.1 ∈ r ∨ c.2 ∈ r then r ++ [c.1, c.2] else r) ↔ stepK K c p f = true) := by
  have a1 := h _ hc.1
  have a2 := h _ hc.2
  have a3 := h p hp
  unfold stepK
  by_cases q : p = c.1 ∨ p = c.2
  · rw [if_pos q, Bool.or_eq_true, ← a1, ← a2]
    by_cases z : c.1 ∈ r ∨ c.2 ∈ r
    · rw [if_pos z]
      constructor
      · intro _; exact z
      · intro _
        rcases q with q | q <;> simp [q]
    · rw [if_neg z]
      constructor
      · intro hr
        rcases q with q | q
        · exact .inl (q ▸ hr)
        · exact .inr (q ▸ hr)
      · intro hr; exact absurd hr z
  · rw [if_neg q, ← a3]
    split
    · simp only [List.mem_append, List.mem_cons, List.not_mem_nil, or_false]
      constructor
      · rintro (hr | hr)
        · exact hr
        · exact absurd hr q
      · exact .inl
    · exact Iff.rfl
noncomputable def inL : Fs := fFor (lItL (eVar 9)) (pPair 13 14) (fSeq (fIf (bOr (bCmp (cmpD .In) (eVar 13) (eVar 20)) (bOr (bCmp (cmpD .In) (eVar 14) (eVar 20)) (bLit false))) (fSeq (fSet (pName 20) (eBin addD (eVar 20) (eLst (lCons (eVar 13) (lCons (eVar 14) lNil))))) fNil) fNil) fNil)
theorem inL_ok {m : Nat} {cs : List Call} (W : Wd m cs) {σ : Sg} (B : Bs m cs σ) (f : Nat) (h19 : σ 19 = some (natD f)) (h20 : σ 20 = some (.list ([f].map natD))) :
    ∃ (σ' : Sg) (r : List Nat), inL 0 σ = some (.next 0 σ') ∧ Bs m cs σ' ∧ σ' 19 = some (natD f) ∧ σ' 20 = some (.list (r.map natD)) ∧ ∀ p, p < m → (p ∈ r ↔ runK cs p f = true) := by
  obtain ⟨σ1, hgo, h⟩ := forGo_at (put := pPair 13 14) (o := 0) (g := prD)
    (body := (fSeq (fIf (bOr (bCmp (cmpD .In) (eVar 13) (eVar 20)) (bOr (bCmp (cmpD .In) (eVar 14) (eVar 20)) (bLit false))) (fSeq (fSet (pName 20) (eBin addD (eVar 20) (eLst (lCons (eVar 13) (lCons (eVar 14) lNil))))) fNil) fNil) fNil))
    (fun pre σ => Bs m cs σ ∧ σ 19 = some (natD f) ∧ ∃ r : List Nat, σ 20 = some (.list (r.map natD)) ∧ r.length ≤ 1 + 2 * pre.length ∧ ∀ p, p < m → (p ∈ r ↔ runK pre p f = true)) cs σ
    ⟨B, h19, [f], h20, Nat.le_refl _, fun p _ => by simp [runK, idK]⟩ (by
      intro pre c post τ e ⟨T, t19, r, t20, hl, hr⟩
      have hc := W.mem c (by simp [e])
      have hpl : pre.length ≤ 8 := by
        have := W.few
        rw [e] at this; simp at this; omega
      have b1 : bCmp (cmpD .In) (eVar 13) (eVar 20) 0 ((τ.put 13 (natD c.1)).put 14 (natD c.2)) = some (decide (c.1 ∈ r)) := bCmp_ok (eVar_ok rfl (by decide)) (eVar_ok t20 (by decide)) (in_nats _ _)
      have b2 : bCmp (cmpD .In) (eVar 14) (eVar 20) 0 ((τ.put 13 (natD c.1)).put 14 (natD c.2)) = some (decide (c.2 ∈ r)) := bCmp_ok (eVar_ok rfl (by decide)) (eVar_ok t20 (by decide)) (in_nats _ _)
      have b3 : bOr (bCmp (cmpD .In) (eVar 13) (eVar 20)) (bOr (bCmp (cmpD .In) (eVar 14) (eVar 20)) (bLit false)) 0 ((τ.put 13 (natD c.1)).put 14 (natD c.2)) = some (decide (c.1 ∈ r ∨ c.2 ∈ r)) := by
        simp only [bOr, b1, b2, bLit, Option.bind_some]
        by_cases z1 : c.1 ∈ r <;> by_cases z2 : c.2 ∈ r <;> simp [z1, z2]
      have T2 : Bs m cs ((τ.put 13 (natD c.1)).put 14 (natD c.2)) := (T.put (by decide) (by decide) (by decide)).put (by decide) (by decide) (by decide)
      have hs := fun p hp => reach_step (p := p) hr hc hp
      rw [← runK_snoc] at hs
      by_cases z : c.1 ∈ r ∨ c.2 ∈ r
      · refine ⟨(τ.put 13 (natD c.1)).put 14 (natD c.2), ((τ.put 13 (natD c.1)).put 14 (natD c.2)).put 20 (.list ((r ++ [c.1, c.2]).map natD)), rfl, fSeq_ok ?_ rfl, T2.put (by decide) (by decide) (by decide), t19, r ++ [c.1, c.2], rfl, ?_, ?_⟩
        · rw [fIf_ok b3, decide_eq_true z, if_pos rfl]
          refine fSeq_ok (fSet_ok (eBin_ok (x := .list (r.map natD)) (y := .list [natD c.1, natD c.2]) (eVar_ok t20 (by decide)) (eLst_ok (lTwo_ok (eVar_ok rfl (by decide)) (eVar_ok rfl (by decide))) rfl) ?_) rfl) rfl
          have : lenOK (r.length + 2) = true := by simp [lenOK]; omega
          simp [addD, this]
        · simp; omega
        · rw [if_pos z] at hs; exact hs
      · refine ⟨(τ.put 13 (natD c.1)).put 14 (natD c.2), (τ.put 13 (natD c.1)).put 14 (natD c.2), rfl, fSeq_ok ?_ rfl, T2, t19, r, t20, ?_, ?_⟩
        · rw [fIf_ok b3, decide_eq_false z]; rfl
        · simp; omega
        · rw [if_neg z] at hs; exact hs)
  obtain ⟨B1, h1, r, h2, _, h3⟩ := h
  exact ⟨σ1, r, fFor_ok (lItL_ok (eVar_ok B.s9 (by decide))) hgo, B1, h1, h2, h3⟩
theorem law10_ok {m : Nat} {cs : List Call} (W : Wd m cs) {σ : Sg} (B : Bs m cs σ) : ∃ σ', Slaw_10 0 σ = some (.next 0 σ') ∧ Bs m cs σ' := by
  have rg : ∀ τ : Sg, τ 2 = some (.int (m : Int)) → lRange (lCons (eVar 2) lNil) 0 τ = some ((List.range m).map natD) := by
    intro τ h
    unfold lRange
    rw [lOne_ok (eVar_ok h (by decide)), Option.bind_some]
    exact range_ok m (by have := W.lt; omega)
  obtain ⟨σ1, hgo, h⟩ := forGo_at (put := pName 19) (o := 0) (g := natD)
    (body := (fSeq (fSet (pName 20) (eLst (lCons (eVar 19) lNil))) (fSeq inL (fSeq (fIf (bCmp (cmpD .NotEq) (eComp 11 [11] (lRange (lCons (eVar 2) lNil)) (bCmp (cmpD .NotEq) (eOfB (bCmp inD (eTup (lCons (eLit (.str hasS)) (lCons (eVar 11) (lCons (eVar 19) lNil)))) (eVar 15))) (eOfB (bCmp (cmpD .In) (eVar 11) (eVar 20)))) (lOne (eVar 11))) (eLst lNil)) (fSeq (fRet (eLit (.bool false))) fNil) fNil) fNil))))
    (fun _ σ => Bs m cs σ) (List.range m) σ B (by
      intro pre f post τ e T
      obtain ⟨_, hf⟩ := range_at e
      obtain ⟨τ2, r, e2, T2, t19, t20, hr⟩ := inL_ok W (σ := (τ.put 19 (natD f)).put 20 (.list ([f].map natD))) ((T.put (by decide) (by decide) (by decide)).put (by decide) (by decide) (by decide)) f rfl rfl
      refine ⟨τ.put 19 (natD f), τ2, rfl, fSeq_ok (fSet_ok (d := .list ([f].map natD)) (eLst_ok (lOne_ok (eVar_ok rfl (by decide))) rfl) rfl) (fSeq_ok e2 (fSeq_ok (σ' := τ2) ?_ rfl)), T2⟩
      have hcomp : eComp 11 [11] (lRange (lCons (eVar 2) lNil)) (bCmp (cmpD .NotEq) (eOfB (bCmp inD (eTup (lCons (eLit (.str hasS)) (lCons (eVar 11) (lCons (eVar 19) lNil)))) (eVar 15))) (eOfB (bCmp (cmpD .In) (eVar 11) (eVar 20)))) (lOne (eVar 11)) 0 τ2 = some (.list (((List.range m).filter fun _ => false).map natD)) := by
        refine eComp_filter (rg τ2 T2.s2) (by decide) ?_ (fun i _ => eVar_ok rfl (by decide)) (by have := W.lt; simp; omega)
        intro i hi
        have hi' : i < m := List.mem_range.mp hi
        have d1 : eOfB (bCmp inD (eTup (lCons (eLit (.str hasS)) (lCons (eVar 11) (lCons (eVar 19) lNil)))) (eVar 15)) 0 ((τ2.del [11]).put 11 (natD i)) = some (.bool (decide ((i, f) ∈ tabK m (runK cs)))) := by
          refine eOfB_ok (bCmp_ok (x := keyD (i, f)) (y := .dict (tabL (tabK m (runK cs)))) (eTup_ok (lCons_ok rfl (lTwo_ok (eVar_ok rfl (by decide)) (eVar_ok ?_ (by decide)))) rfl) (eVar_ok ?_ (by decide)) (inD_tab _ _))
          · exact t19
          · exact T2.s15
        have d2 : eOfB (bCmp (cmpD .In) (eVar 11) (eVar 20)) 0 ((τ2.del [11]).put 11 (natD i)) = some (.bool (decide (i ∈ r))) := by
          refine eOfB_ok (bCmp_ok (x := natD i) (y := .list (r.map natD)) (eVar_ok rfl (by decide)) (eVar_ok ?_ (by decide)) (in_nats _ _))
          exact t20
        have heq : decide ((i, f) ∈ tabK m (runK cs)) = decide (i ∈ r) := by
          rw [Bool.eq_iff_iff]
          simp only [decide_eq_true_eq, mem_tabK, hr i hi']
          constructor
          · exact fun h => h.2.2
          · exact fun h => ⟨hi', hf, h⟩
        refine bCmp_ok d1 d2 ?_
        rw [ne_bools, heq, bne_self_eq_false]
      rw [fIf_ok (bCmp_ok hcomp (eLst_ok (xs := []) rfl rfl) (d := false) ?_)]
      · rfl
      · rw [show (List.range m).filter (fun _ => false) = [] by simp]
        decide +kernel)
  exact ⟨σ1, fFor_ok (rg σ B.s2) hgo, h⟩
end Hf
end

section
open PySem PySem.W PyProof.Rows PySem.Calls PySem.Spec
namespace Hf
set_option autoImplicit false
set_option maxRecDepth 100000
set_option Elab.async false
theorem law11_ok {m : Nat} {cs : List Call} (W : Wd m cs) {σ : Sg} (B : Bs m cs σ) : ∃ σ', Slaw_11 0 σ = some (.next 0 σ') ∧ Bs m cs σ' ∧ σ' 21 = some (.dict (tabL (tabK m (runK cs.reverse)))) := by
  refine ⟨_, fSet_ok (eCall_ok (lTwo_ok (eVar_ok B.s2 (by decide)) (?_ : eUn revD (eVar 9) 0 σ = some (callsD cs.reverse))) (has_ok m W.lt W.pos _ W.mem.rev)) rfl, B.put (by decide) (by decide) (by decide), rfl⟩
  have h9 : eVar 9 0 σ = some (callsD cs) := eVar_ok B.s9 (by decide)
  have : lenOK cs.length = true := by have := W.few; simp [lenOK]; omega
  simp [eUn, h9, callsD, revD, this]
noncomputable def fwd (c : Call) : Int × Int := ((c.1 : Int), (c.2 : Int))
noncomputable def bwd (c : Call) : Int × Int := ((c.2 : Int), (c.1 : Int))
theorem pairsL_map (g : Call → Int × Int) : ∀ (ks : List Call), pairsL (ks.map fun c => .tuple [.int (g c).1, .int (g c).2]) = some (ks.map g)
  | [] => rfl
  | c :: ks => by
    simp only [List.map_cons, pairsL, pairsL_map g ks]
    rfl
theorem nodupB_of : ∀ {l : List (Int × Int)}, l.Nodup → nodupB l = true
  | [], _ => rfl
  | p :: r, h => by
    obtain ⟨h1, h2⟩ := List.nodup_cons.mp h
    simp [nodupB, h1, nodupB_of h2]
theorem nodup_map {g : Call → Int × Int} (hg : ∀ a b, g a = g b → a = b) : ∀ {l : List Call}, l.Nodup → (l.map g).Nodup
  | [], _ => List.nodup_nil
  | x :: l, h => by
    obtain ⟨n1, n2⟩ := List.nodup_cons.mp h
    rw [List.map_cons, List.nodup_cons]
    refine ⟨fun q => ?_, nodup_map hg n2⟩
    obtain ⟨y, hy, e⟩ := List.mem_map.mp q
    exact n1 (hg _ _ e ▸ hy)
theorem fwd_inj (a b : Call) (h : fwd a = fwd b) : a = b := by
  simp only [fwd, Prod.mk.injEq] at h
  exact Prod.ext (by omega) (by omega)
theorem bwd_inj (a b : Call) (h : bwd a = bwd b) : a = b := by
  simp only [bwd, Prod.mk.injEq] at h
  exact Prod.ext (by omega) (by omega)
theorem sorted_ext : ∀ {l₁ l₂ : List (Int × Int)}, SortedP l₁ → SortedP l₂ → (∀ x, x ∈ l₁ ↔ x ∈ l₂) → l₁ = l₂
  | [], [], _, _, _ => rfl
  | [], q :: t, _, _, h => absurd ((h q).mpr (by simp)) (by simp)
  | p :: r, [], _, _, h => absurd ((h p).mp (by simp)) (by simp)
  | p :: r, q :: t, h1, h2, h => by
    obtain ⟨a1, a2⟩ := List.pairwise_cons.mp h1
    obtain ⟨b1, b2⟩ := List.pairwise_cons.mp h2
    have hpq : p = q := by
      rcases List.mem_cons.mp ((h p).mp List.mem_cons_self) with e | e
      · exact e
      · rcases List.mem_cons.mp ((h q).mpr List.mem_cons_self) with e2 | e2
        · exact e2.symm
        · have := pLt_tr (a1 q e2) (b1 p e)
          rw [pLt_irr] at this; cases this
    subst hpq
    have hp : p ∉ r := fun z => by have := a1 p z; rw [pLt_irr] at this; cases this
    have hq : p ∉ t := fun z => by have := b1 p z; rw [pLt_irr] at this; cases this
    rw [sorted_ext a2 b2]
    intro x
    constructor
    · intro hx
      rcases List.mem_cons.mp ((h x).mp (List.mem_cons_of_mem _ hx)) with e | e
      · exact absurd (e ▸ hx) hp
      · exact e
    · intro hx
      rcases List.mem_cons.mp ((h x).mpr (List.mem_cons_of_mem _ hx)) with e | e
      · exact absurd (e ▸ hx) hq
      · exact e
theorem sortD_ok {g : Call → Int × Int} (hg : ∀ a b, g a = g b → a = b) {ks : List Call} (hn : ks.Nodup) (h1 : ks.length < 64) (h2 : 0 < ks.length) : sortD (.list (ks.map fun c => .tuple [.int (g c).1, .int (g c).2])) = some (isort (ks.map g)) := by
  simp only [sortD, pairsL_map, Option.bind_some, List.length_map, nodupB_of (nodup_map hg hn), h1, h2, decide_true, Bool.and_self, if_true]
theorem tabK_len {m : Nat} (K : Nat → Nat → Bool) (h1 : m < 7) (h2 : 0 < m) (h : K 0 0 = true) : (tabK m K).length < 64 ∧ 0 < (tabK m K).length := by
  constructor
  · have := flat_len (n := m) (List.range m) (fun p _ => rowK_len m K p)
    rw [List.length_range] at this
    have h3 : m * m ≤ 6 * 6 := Nat.mul_le_mul (by omega) (by omega)
    unfold tabK
    omega
  · exact List.length_pos_of_mem (mem_tabK.mpr (⟨h2, h2, h⟩ : (0, 0).1 < m ∧ (0, 0).2 < m ∧ K (0, 0).1 (0, 0).2 = true))
theorem turn_ok (m : Nat) (cs : List Call) : isort ((tabK m (runK cs.reverse)).map bwd) = isort ((tabK m (runK cs)).map fwd) := by
  refine sorted_ext (isort_sorted (nodup_map bwd_inj (tabK_nodup _ _))) (isort_sorted (nodup_map fwd_inj (tabK_nodup _ _))) fun x => ?_
  rw [(isort_perm _).mem_iff, (isort_perm _).mem_iff, List.mem_map, List.mem_map]
  constructor
  · rintro ⟨c, hc, rfl⟩
    obtain ⟨a1, a2, a3⟩ := mem_tabK.mp hc
    exact ⟨(c.2, c.1), mem_tabK.mpr ⟨a2, a1, by rw [← run_rev]; exact a3⟩, rfl⟩
  · rintro ⟨c, hc, rfl⟩
    obtain ⟨a1, a2, a3⟩ := mem_tabK.mp hc
    exact ⟨(c.2, c.1), mem_tabK.mpr ⟨a2, a1, by rw [run_rev]; exact a3⟩, rfl⟩
theorem it_tab {i o : Nat} {σ : Sg} {ks : List Call} (h : σ i = some (.dict (tabL ks))) (hi : i ≠ o) : lIt (eVar i) o σ = some (ks.map keyD) := by
  unfold lIt
  rw [eVar_ok h hi]
  simp [itemsOf, tabL, entD, Function.comp_def]
theorem law12_ok {m : Nat} {cs : List Call} (W : Wd m cs) {σ : Sg} (B : Bs m cs σ) (h21 : σ 21 = some (.dict (tabL (tabK m (runK cs.reverse))))) : Slaw_12 0 σ = some (.ret (.bool true)) := by
  obtain ⟨a1, a2⟩ := tabK_len (runK cs.reverse) W.lt W.pos (run_self _ _)
  obtain ⟨b1, b2⟩ := tabK_len (runK cs) W.lt W.pos (run_self _ _)
  have e1 : eComp 22 [22] (lIt (eVar 21)) (bLit true) (lOne (eTup (lCons (eBin subD' (eVar 22) (eLit (.int 2))) (lCons (eBin subD' (eVar 22) (eLit (.int 1))) lNil)))) 0 σ = some (.list ((tabK m (runK cs.reverse)).map fun c => .tuple [.int (bwd c).1, .int (bwd c).2])) := by
    refine eComp_map (it_tab h21 (by decide)) (by decide) (fun c _ => ?_) (by omega)
    exact eTup_ok (lTwo_ok (eBin_ok (x := keyD c) (y := .int 2) (eVar_ok rfl (by decide)) rfl rfl) (eBin_ok (x := keyD c) (y := .int 1) (eVar_ok rfl (by decide)) rfl rfl)) rfl
  have e2 : eComp 22 [22] (lIt (eVar 15)) (bLit true) (lOne (eTup (lCons (eBin subD' (eVar 22) (eLit (.int 1))) (lCons (eBin subD' (eVar 22) (eLit (.int 2))) lNil)))) 0 σ = some (.list ((tabK m (runK cs)).map fun c => .tuple [.int (fwd c).1, .int (fwd c).2])) := by
    refine eComp_map (it_tab B.s15 (by decide)) (by decide) (fun c _ => ?_) (by omega)
    exact eTup_ok (lTwo_ok (eBin_ok (x := keyD c) (y := .int 1) (eVar_ok rfl (by decide)) rfl rfl) (eBin_ok (x := keyD c) (y := .int 2) (eVar_ok rfl (by decide)) rfl rfl)) rfl
  unfold Slaw_12 fSortedEq
  rw [e1, e2]
  simp only [Option.bind_some]
  rw [sortD_ok bwd_inj (tabK_nodup _ _) a1 a2, sortD_ok fwd_inj (tabK_nodup _ _) b1 b2]
  simp only [Option.bind_some, turn_ok, decide_true]
/-- the plain law -/
theorem law_true (l : List Int) (hl : l.length ≤ 63) : Slaw 0 (Sg.put (fun _ => none) 1 (.list (l.map .int))) = some (.ret (.bool true)) := by
  obtain ⟨m1, m2⟩ := many_lt l
  obtain ⟨σ1, e1, p1, p2⟩ := first_ok (manyN l) m1 m2 (.list (l.map .int))
  have W : Wd (manyN l) (csOf (manyN l) (l.take 8)) := ⟨m1, m2, csOf_in m2 _, by
    have := csOf_len (manyN l) (l.take 8)
    rw [List.length_take] at this; omega⟩
  obtain ⟨σ2, e2, q2, q9⟩ := law6_ok (manyN l) m1 m2 l (by omega) (σ1.put 9 (.list [])) p1 p2 rfl
  obtain ⟨σ3, e3, B3⟩ := law7_ok W q2 q9
  obtain ⟨σ4, e4, B4, h16⟩ := law8_ok B3
  obtain ⟨σ5, e5, B5⟩ := law9_ok W B4 h16
  obtain ⟨σ6, e6, B6⟩ := law10_ok W B5
  obtain ⟨σ7, e7, B7, h21⟩ := law11_ok W B6
  have e8 := law12_ok W B7 h21
  unfold Slaw
  refine fSeq_ok (law0_ok l) ?_
  rw [first_split]
  refine fSeq_ok e1 (fSeq_ok (fOwn_ok (d := .list []) rfl) (fSeq_ok e2 (fFreeze_ok (fSeq_ok e3 (fSeq_ok e4 (fSeq_ok e5 (fSeq_ok e6 (fSeq_ok e7 (fSeq_ret e8)))))))))
end Hf
end

section
open PySem PySem.W PyProof.Rows PySem.Calls PySem.Spec
namespace Hf
set_option autoImplicit false
set_option maxRecDepth 100000
set_option linter.unusedSectionVars false
set_option Elab.async false
section
variable [TheW]
noncomputable def Flaw : List PyData → Option PyData := runFn [1] Slaw
set_option maxHeartbeats 8000000 in
theorem fnlaw : FnOK 25 74 Flaw :=
  fn_ok (fun _ => ⟨_, rfl, rfl⟩) (fun _ => ⟨_, _, _, rfl, rfl, rfl⟩) bodylaw ⟨rfl, by decide +kernel, by decide +kernel⟩ (by decide) (by decide +kernel) (fun vs h => match vs, h with | [_], _ => rfl) rfl rfl
theorem globlaw : GlobF "law" 74 := fun _ => rfl
theorem Flaw_ok (l : List Int) (hl : l.length ≤ 63) : Flaw [.list (l.map .int)] = some (.bool true) := runFn_ok rfl (law_true l hl)
theorem ints_rep {Z : Heap} : ∀ {vs : List Value} {ns : List Int}, IntsAre vs ns → RepA Z vs (ns.map .int)
  | _, _, .nil => .nil
  | _, _, .cons n t r => .cons (.int n t) (ints_rep r)
end
end Hf
end

open PySem PySem.W PyProof.Rows
set_option autoImplicit false
set_option Elab.async false
namespace Hf
open PySem.Calls PySem.Spec
noncomputable abbrev tabsH : List (Addr × Addr) := [(20, 16), (27, 23)]
theorem oldK_of {h₀ h' : Heap} (hT : TabsAt tabsH h₀) (keep : ∀ b o, b ≠ 16 → b ≠ 23 → h₀.get? b = some o → h'.get? b = some o) (g1 : ∃ ps, h'.get? 16 = some (tabObj ps)) (g2 : ∃ ps, h'.get? 23 = some (tabObj ps)) : OldK h₀ h' := by
  have one : ∀ c P, (c, P) ∈ tabsH → (∃ ps, h'.get? P = some (tabObj ps)) → ∀ o, h₀.get? P = some o → asItWas h₀ h' P o := by
    intro c P hm ⟨ps, e⟩ o ho
    obtain ⟨k1, k2⟩ := hT (c, P) hm
    have k3 : h₀.get? P = some (tabObj #[]) := k2
    rw [ho] at k3
    obtain rfl := Option.some.inj k3
    exact .inr (.inl ⟨(CodeHd.tab k1 k2).isCodeTable, rfl, #[], ps, rfl, by rw [Array.empty_append]; exact e⟩)
  refine ⟨fun b o e => ?_, fun b o e => ?_⟩
  · by_cases b1 : b = 16
    · subst b1; exact one 20 16 (by simp) g1 o e
    · by_cases b2 : b = 23
      · subst b2; exact one 27 23 (by simp) g2 o e
      · exact .inl (keep b o b1 b2 e)
  · by_cases b1 : b = 16
    · subst b1; obtain ⟨ps, e'⟩ := g1; exact ⟨_, e'⟩
    · by_cases b2 : b = 23
      · subst b2; obtain ⟨ps, e'⟩ := g2; exact ⟨_, e'⟩
      · exact ⟨o, keep b o b1 b2 e⟩
theorem tabI_of {h : Heap} {pos : Pos} {qual : Str} {P : Addr} (hP : P ∈ tabsH.map (·.2)) (e : h.get? P = some (tabObj #[])) : TabI (ghostOf h tabsH) h pos qual P :=
  ⟨hideAll_none _ hP, #[], e, True.intro, .inl rfl⟩
end Hf
set_option maxRecDepth 100000 in
set_option maxHeartbeats 8000000 in
theorem PySem.Challenge.cw_hf0002_01_holds : PySem.Challenge.rw_hf0002_01.Holds := by
  refine Hf.hfHead ?_
  intro w s₀ s₁ mg mb G Y fa o pm cd doc dV kV ho hd hcd hD hmg hg args vals as hpre hlay hrd hwl hlo
  have X := km_in_of Y
  have hT8 := km_tabs_of Y
  refine Ground.open G ?_
  intro T B D TE TW
  have hT : TabsAt Hf.tabsH s₁.heap := by
    intro q hq
    rcases List.mem_cons.mp hq with rfl | hq
    · exact ⟨codeHd_of_K X (by kernel_rfl), hT8 16 (by simp)⟩
    · rcases List.mem_cons.mp hq with rfl | hq
      · exact ⟨codeHd_of_K X (by kernel_rfl), hT8 23 (by simp)⟩
      · cases hq
  clear B D TE TW
  wrow_args hpre hlay hrd hwl hlo
  rename_i ns _ _ _ _ _ _ _ a vs _ hL _ _ _ hI _ hlen _
  letI : Hf.TheW := ⟨w⟩
  have XC := ghost_code hT
  let c : Hf.Cx := { h0 := ghostOf s₁.heap Hf.tabsH, loose := _, mean := _, mg := mg, mb := mb, X := ghost_K hT X (by kernel_rfl), T := ghost_top hT T, C1 := XC.1, C2 := XC.2.1 }
  have I : Hf.Inv c (ghostOf s₁.heap Hf.tabsH) s₁.heap := ⟨fun b o e => of_hideAll _ e, Hf.Le.refl _, Hf.tabI_of (by simp) (hT8 16 (by simp)), Hf.tabI_of (by simp) (hT8 23 (by simp))⟩
  have hfa : fa = 74 := by
    have e := mg_of X T.g (Hf.globlaw w.params)
    have e2 : mg "law" = some (.ref fa) := hmg
    rw [e] at e2
    injection e2 with e2
    injection e2 with e2
    exact e2.symm
  subst hfa
  have hlist : (ghostOf s₁.heap Hf.tabsH).IsList a vs.toArray := ghost_list hT hL
  have hrep : Hf.RepA (ghostOf s₁.heap Hf.tabsH) [.ref a] [.list (ns.map .int)] := by
    obtain ⟨ob, e, hc, n, hdd⟩ := hlist
    exact .cons (.list_of e hc hdd (Hf.ints_rep hI)) .nil
  refine wpAny_mono (Hf.fnlaw c callerA (ghostOf s₁.heap Hf.tabsH) s₁ [.ref a] [.list (ns.map .int)] (.bool true) (fun v s' => GoodWG PySem.Challenge.rw_hf0002_01.row.claim (classAt s₀.heap) (ExcName.means s₀.heap) [ofPy (.list (ns.map .int))] s₁ (.ok (.ret v)) s') ⟨rfl, by decide, by decide⟩ I hrep (Hf.Flaw_ok ns (by omega)) ?_) (fun _ _ h => h) (fun _ _ h => h.elim)
  intro v Z' h' tk I' g x r
  have hv := r.bool_inv
  subst hv
  refine ⟨.inl ⟨.bool true, .bool true, [], rfl, fun _ => rfl, ReadsW.bool _, ?_, fun _ => ⟨List.nodup_nil, fun a h => nomatch h⟩⟩, ?_, rfl, .of_eq hg⟩
  · wrow_post
  · exact Hf.oldK_of hT x I'.tab16 I'.tab23
