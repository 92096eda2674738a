import PyProof.Rows.All
import Wide.All
import OpenK.AllK
import Wide.FinOn
import PyProof.NsDelKeeps
import PyProof.SumAny
import PyProof.IsiPairs
import PyProof.Rows.SumGenD
import KE.KIntText
import PyProof.WalksEnum
import Lean
import PySem.Challenge.RW_dn0207_11
set_option Elab.async false
set_option maxRecDepth 100000
set_option linter.all false
set_option genSizeOfSpec false
set_option bootstrap.genMatcherCode false
section
set_option Elab.async false
namespace Mine
theorem lin0 {a b : Nat} (i : a ≤ b) : a ≤ b := i
theorem lin1 {a b l r : Nat} (h : l ≤ r) (i : a + r ≤ b + l) : a ≤ b := Nat.le_of_add_le_add_right (Nat.le_trans (Nat.add_le_add_left h a) i)
theorem lin2 {a b l r l' r' : Nat} (h : l ≤ r) (h' : l' ≤ r') (i : a + (r + r') ≤ b + (l + l')) : a ≤ b := lin1 (Nat.add_le_add h h') i
theorem lin3 {a b l r l' r' m n : Nat} (h : l ≤ r) (h' : l' ≤ r') (h2 : m ≤ n) (i : a + (r + r' + n) ≤ b + (l + l' + m)) : a ≤ b := lin1 (Nat.add_le_add (Nat.add_le_add h h') h2) i
theorem lin4 {a b l r l' r' m n m' n' : Nat} (h : l ≤ r) (h' : l' ≤ r') (h2 : m ≤ n) (h3 : m' ≤ n') (i : a + (r + r' + n + n') ≤ b + (l + l' + m + m')) : a ≤ b := lin1 (Nat.add_le_add (Nat.add_le_add (Nat.add_le_add h h') h2) h3) i
theorem lin5 {a b l r l' r' m n m' n' p q : Nat} (h : l ≤ r) (h' : l' ≤ r') (h2 : m ≤ n) (h3 : m' ≤ n') (h4 : p ≤ q) (i : a + (r + r' + n + n' + q) ≤ b + (l + l' + m + m' + p)) : a ≤ b := lin1 (Nat.add_le_add (Nat.add_le_add (Nat.add_le_add (Nat.add_le_add h h') h2) h3) h4) i
theorem lin6 {a b l r l' r' m n m' n' p q p' q' : Nat} (h : l ≤ r) (h' : l' ≤ r') (h2 : m ≤ n) (h3 : m' ≤ n') (h4 : p ≤ q) (h5 : p' ≤ q') (i : a + (r + r' + n + n' + q + q') ≤ b + (l + l' + m + m' + p + p')) : a ≤ b := lin1 (Nat.add_le_add (Nat.add_le_add (Nat.add_le_add (Nat.add_le_add (Nat.add_le_add h h') h2) h3) h4) h5) i
theorem subl (a b : Nat) : a ≤ a - b + b := Nat.sub_le_iff_le_add.mp (Nat.le_refl _)
theorem subu {a b : Nat} (h : b ≤ a) : a - b + b ≤ a := Nat.le_of_eq (Nat.sub_add_cancel h)
theorem subz {a b : Nat} (h : a ≤ b) : a - b ≤ 0 := Nat.le_of_eq (Nat.sub_eq_zero_of_le h)
end Mine

end
section
open PySem PySem.W PySem.Calls PyProof.Rows
set_option Elab.async false
set_option maxRecDepth 100000

namespace Mine

inductive D where
  | none
  | bool (b : Bool)
  | int (i : Int)
  | str (l : List Nat)
  | list (ds : List D)
  | tup (ds : List D)
  | fset (ss : List (List Nat))
  | exc (m : List Nat)
  | rng (a b st : Int)
  | dict (ks vs : List D)
  | fn (q : Str) (params : Arguments) (body : FuncBody) (scope : Scope) (clo : List (Str × Addr))
  | val (v : Value)

structure Cx where
  prog : Program
  w : World
  base : Heap
  os : OsState
  mg : Str → Option Value
  mb : Str → Option Value
  tabs : List (Addr × Str)
  toml : Addr
  K : Frag

noncomputable abbrev Cx.M (C : Cx) : Model := model C.prog C.w
noncomputable def Cx.tabA (C : Cx) : List Addr := C.tabs.map (·.1)

noncomputable def Keep (C : Cx) (h h' : Heap) : Prop :=
  ∀ b o, b ∉ C.tabA → h.get? b = some o → (o.cls ≠ .type "frame" → h'.get? b = some o) ∧ ∃ sl, h'.get? b = some { o with slots := sl }

theorem Keep.refl (C : Cx) (h : Heap) : Keep C h h := fun _ o _ e => ⟨fun _ => e, o.slots, e⟩
theorem Keep.trans {C : Cx} {h₁ h₂ h₃ : Heap} (x : Keep C h₁ h₂) (y : Keep C h₂ h₃) : Keep C h₁ h₃ := fun b o hb e => by
  obtain ⟨x1, sl, x2⟩ := x b o hb e
  refine ⟨fun hc => (y b o hb (x1 hc)).1 hc, ?_⟩
  obtain ⟨_, sl', y2⟩ := y b _ hb x2
  exact ⟨sl', y2⟩
theorem Keep.of_keeps {C : Cx} {h h' : Heap} (k : ∀ b o, h.get? b = some o → h'.get? b = some o) : Keep C h h' :=
  fun b o _ e => ⟨fun _ => k b o e, o.slots, k b o e⟩

noncomputable def CodeAt (C : Cx) (h : Heap) (cv : Value) (q : Str) : Prop := ∃ c o vs t, cv = .ref c ∧ c ∉ C.tabA ∧ h.get? c = some o ∧ o.data = .fields vs ∧ vs[1]? = some (.str q t) ∧ o.cls = .type "code"
theorem CodeAt.rec {C : Cx} {h : Heap} {cv : Value} {q : Str} (x : CodeAt C h cv q) : h.CodeRec cv q :=
  by obtain ⟨c, o, vs, t, e1, _, e2, e3, e4, _⟩ := x; exact ⟨c, o, vs, t, e1, e2, e3, e4⟩
theorem CodeAt.keep {C : Cx} {h h' : Heap} {cv : Value} {q : Str} (x : CodeAt C h cv q) (k : Keep C h h') : CodeAt C h' cv q := by
  obtain ⟨c, o, vs, t, e1, hc, e2, e3, e4⟩ := x
  obtain ⟨_, sl, e⟩ := k c o hc e2
  exact ⟨c, _, vs, t, e1, hc, e, e3, e4⟩

structure CxOk (C : Cx) : Prop where
  g : C.base.Ns mainGlobals C.mg
  b : C.base.Ns builtinsNs C.mb
  nolimit : C.base.NoLimit
  nodigits : ∃ mc, C.base.Ns cStatics mc ∧ mc "sys.int_max_str_digits" = none
  builtins : ∀ x : Str, x ≠ "__name__" → C.mb x = bootBuiltins x
  bmain : ∃ bm ob, C.mg "__builtins__" = some (.ref bm) ∧ bm ≠ builtinsNs ∧ C.base.get? bm = some ob ∧ ob.cls = .type "module" ∧ ob.dict = some builtinsNs ∧ ob.data = .plain
  tabB : ∀ a ∈ C.tabA, C.base.get? a = none
  kin : C.K.In C.base

structure Inv (C : Cx) (s : Shared) : Prop where
  ok : CxOk C
  stays : C.base.StaysIn s.heap
  tabs : ∀ p ∈ C.tabs, ∃ ps, s.heap.get? p.1 = some (tabObj ps) ∧ TriplesOk ps.toList ∧ ∀ pos cv, codeAmong pos ps.toList = some cv → CodeAt C s.heap cv p.2
  gens : s.gens = #[]
  os : s.os = C.os

theorem Inv.toks {C : Cx} {s : Shared} (i : Inv C s) (t : Nat) : Inv C { s with toks := t } := ⟨i.ok, i.stays, i.tabs, i.gens, i.os⟩

theorem Inv.notTab {C : Cx} {s : Shared} (i : Inv C s) {b : Addr} {o : Obj} (e : s.heap.get? b = some o) (hc : o.cls ≠ .none) : b ∉ C.tabA := fun hm => by
  obtain ⟨p, hp, rfl⟩ := List.mem_map.mp hm
  obtain ⟨ps, h1, _⟩ := i.tabs p hp
  rw [e] at h1
  exact hc (by rw [Option.some.inj h1])

theorem Inv.keeps {C : Cx} {s : Shared} (i : Inv C s) {h' : Heap} {tk : Nat} {dr : Drawn} (k : ∀ b o, s.heap.get? b = some o → h'.get? b = some o) : Inv C { s with heap := h', toks := tk, drawn := dr } where
  ok := i.ok
  stays b o e := k b o (i.stays b o e)
  tabs p hp := (by obtain ⟨ps, h1, h2, h3⟩ := i.tabs p hp; exact ⟨ps, k _ _ h1, h2, fun pos cv e => (h3 pos cv e).keep (.of_keeps k)⟩)
  gens := i.gens
  os := i.os

structure Step (C : Cx) (s s' : Shared) : Prop where
  inv : Inv C s'
  keep : Keep C s.heap s'.heap

theorem Step.refl {C : Cx} {s : Shared} (i : Inv C s) : Step C s s := ⟨i, Keep.refl C _⟩
theorem Step.trans {C : Cx} {s₁ s₂ s₃ : Shared} (x : Step C s₁ s₂) (y : Step C s₂ s₃) : Step C s₁ s₃ := ⟨y.inv, x.keep.trans y.keep⟩
theorem Step.toks {C : Cx} {s s' : Shared} (x : Step C s s') (t : Nat) : Step C s { s' with toks := t } := ⟨x.inv.toks t, x.keep⟩
theorem Step.tok {C : Cx} {s : Shared} (i : Inv C s) (t : Nat) : Step C s { s with toks := t } := ⟨i.toks t, Keep.refl C _⟩
theorem Step.keeps {C : Cx} {s : Shared} (i : Inv C s) {h' : Heap} {tk : Nat} {dr : Drawn} (k : ∀ b o, s.heap.get? b = some o → h'.get? b = some o) : Step C s { s with heap := h', toks := tk, drawn := dr } :=
  ⟨i.keeps k, .of_keeps k⟩

noncomputable def SetRep (C : Cx) (h : Heap) (a : Addr) (ss : List (List Nat)) : Prop :=
  ∃ o, h.get? a = some o ∧ o.cls = .type "frozenset" ∧ o.dict = none ∧ o.slots = #[] ∧ ∃ es ep t, o.data = .set es ep t ∧ t.fits es.size = true ∧ es.size < scanBound ∧
    (∀ e ∈ es.toList, ∃ x u, e.2 = .str x u ∧ e.1 = hashStr C.w x) ∧ ∀ l : List Nat, l ∈ ss ↔ ∃ e ∈ es.toList, ∃ u, e.2 = .str ⟨l.toArray⟩ u

noncomputable def KeyOk (C : Cx) (es : Array DictEntry) (ks : List D) : Prop :=
  (∃ kvs : List (Int × Value), PySem.KeysOf (intKind C.prog C.w) es ∧ PySem.Pairs (intKind C.prog C.w) es.toList kvs ∧ (kvs.map (·.1)).Nodup ∧ ks = kvs.map fun p => .int p.1) ∨
  (∃ kvs : List (Str × Value), PySem.KeysOf (strKind C.prog C.w) es ∧ PySem.Pairs (strKind C.prog C.w) es.toList kvs ∧ (kvs.map (·.1)).Nodup ∧ ks = kvs.map fun p => .str p.1.cps.toList)

mutual
noncomputable def Rep (C : Cx) (X : Addr → Prop) (h : Heap) (v : Value) : D → Prop
  | .none => v = .none
  | .bool b => v = .bool b
  | .int i => ∃ t, v = .int i t
  | .str l => ∃ t, v = .str ⟨l.toArray⟩ t
  | .list ds => ∃ a vs, v = .ref a ∧ ¬ X a ∧ h.IsList a (List.toArray vs) ∧ Reps C X h vs ds
  | .tup ds => ∃ a vs, v = .ref a ∧ IsTup h a (List.toArray vs) ∧ Reps C X h vs ds
  | .fset ss => ∃ a, v = .ref a ∧ SetRep C h a ss
  | .exc m => ∃ a o vs t u, (v = .ref a ∧ ¬ X a) ∧ h.get? a = some o ∧ o.cls = .ref C.toml ∧ o.data = .fields vs ∧ vs[0]? = some (.ref t) ∧ IsTup h t #[.str ⟨m.toArray⟩ u]
  | .rng a b st => ∃ r t u t', v = .ref r ∧ ∃ o, h.get? r = some o ∧ o.cls = .type "range" ∧ o.data = .fields #[.int a t, .int b u, .int st t'] ∧ o.dict = none ∧ o.slots = #[]
  | .dict ks ws => ∃ a o es ep, v = .ref a ∧ ((a ≠ sysModules ∧ KeyOk C es ks) ∧ ¬ X a) ∧ h.get? a = some o ∧ o.ExactDict ∧ o.data = .dict es ep ∧ Reps C X h (es.toList.map (·.val)) ws
  | .fn q params body scope clo => ∃ a o fd, v = .ref a ∧ h.get? a = some o ∧ o.cls = .type "function" ∧ o.data = .func fd ∧
      (fd.qualname = q ∧ fd.params = params ∧ fd.body = body ∧ fd.scope = scope ∧ fd.closure = clo ∧ fd.globals = mainGlobals ∧ fd.builtins = builtinsNs ∧ fd.defaults = .none ∧ fd.kwdefaults = .none) ∧ CodeAt C h fd.code q
  | .val u => v = u
noncomputable def Reps (C : Cx) (X : Addr → Prop) (h : Heap) : List Value → List D → Prop
  | [], [] => True
  | v :: vs, d :: ds => Rep C X h v d ∧ Reps C X h vs ds
  | _, _ => False
end

theorem Keep.get {C : Cx} {h h' : Heap} (k : Keep C h h') {b : Addr} {o : Obj} (e : h.get? b = some o) (hb : b ∉ C.tabA) (hf : o.cls ≠ .type "frame") : h'.get? b = some o := (k b o hb e).1 hf

theorem IsList.keep {C : Cx} {s : Shared} {h' : Heap} (i : Inv C s) (k : Keep C s.heap h') {a : Addr} {vs : Array Value} (x : s.heap.IsList a vs) : h'.IsList a vs := by
  obtain ⟨o, e, hc, r⟩ := x
  exact ⟨o, k.get e (i.notTab e (by rw [hc]; simp)) (by rw [hc]; simp), hc, r⟩
noncomputable def Val (o : Obj) : Prop := o.cls ≠ .none ∧ o.cls ≠ .type "frame" ∧ ∀ v, o.data ≠ .cell v
noncomputable def datCls (C : Cx) (c : Value) : Prop := c = .type "list" ∨ c = .type "tuple" ∨ c = .type "frozenset" ∨ c = .ref C.toml ∨ c = .type "range" ∨ c = .type "dict" ∨ c = .type "function" ∨ c = .type "code"
noncomputable def Dat (C : Cx) (o : Obj) : Prop := Val o ∧ datCls C o.cls
theorem datCls.ne {C : Cx} {c : Value} (h : datCls C c) : c ≠ .none ∧ c ≠ .type "frame" := by
  rcases h with rfl | rfl | rfl | rfl | rfl | rfl | rfl | rfl <;> exact ⟨by simp, by simp⟩
theorem Dat.of {C : Cx} {o : Obj} {c : Value} (hc : o.cls = c) (h : datCls C c) (hd : ∀ v, o.data ≠ .cell v) : Dat C o := by
  subst hc; exact ⟨⟨h.ne.1, h.ne.2, hd⟩, h⟩
theorem datCls.no {C : Cx} {o : Obj} {c : Value} (hc : o.cls = c) (h1 : c ≠ .type "list") (h2 : c ≠ .type "dict") {P : Prop} : o.cls = .type "list" ∨ o.cls = .type "dict" → P := by
  subst hc; rintro (h | h)
  · exact (h1 h).elim
  · exact (h2 h).elim

section
variable {C : Cx} {X Y : Addr → Prop} {h h' : Heap}
theorem IsTup.moveD (k : ∀ b o, h.get? b = some o → Dat C o → o.cls ≠ .ref C.toml → (o.cls = .type "list" ∨ o.cls = .type "dict" → ¬ X b) → h'.get? b = some o) {a : Addr} {vs : Array Value} (x : IsTup h a vs) : IsTup h' a vs := by
  obtain ⟨o, e, hc, n, hd⟩ := x
  exact ⟨o, k a o e (.of hc (.inr (.inl rfl)) (by rw [hd]; simp)) (by rw [hc]; simp) (datCls.no (C := C) hc (by simp) (by simp)), hc, n, hd⟩
mutual
theorem Rep.moveX (k : ∀ b o, h.get? b = some o → Dat C o → o.cls ≠ .ref C.toml → (o.cls = .type "list" ∨ o.cls = .type "dict" → ¬ X b) → h'.get? b = some o) (kx : ∀ b o vs, h.get? b = some o → o.cls = .ref C.toml → o.data = .fields vs → ∃ o' vs', h'.get? b = some o' ∧ o'.cls = .ref C.toml ∧ o'.data = .fields vs' ∧ vs'[0]? = vs[0]?) (hY : ∀ b o, h'.get? b = some o → ¬ X b → ¬ Y b) {v : Value} : ∀ {d : D}, Rep C X h v d → Rep C Y h' v d
  | .none, x => x
  | .bool _, x => x
  | .int _, x => x
  | .str _, x => x
  | .list ds, x => by
    obtain ⟨a, vs, e1, e2, ⟨o, e, hc, n, hd⟩, e4⟩ := x
    have := k a o e (.of hc (.inl rfl) (by rw [hd]; simp)) (by rw [hc]; simp) fun _ => e2
    exact Exists.intro a ⟨vs, e1, hY a o this e2, ⟨o, this, hc, n, hd⟩, Reps.moveX k kx hY e4⟩
  | .tup ds, x => by
    obtain ⟨a, vs, e1, e3, e4⟩ := x
    exact Exists.intro a ⟨vs, e1, IsTup.moveD k e3, Reps.moveX k kx hY e4⟩
  | .fset ss, x => by
    obtain ⟨a, e1, o, e2, hc, e3, e4, es, ep, t, hd, r⟩ := x
    exact Exists.intro a ⟨e1, o, k a o e2 (.of hc (.inr (.inr (.inl rfl))) (by rw [hd]; simp)) (by rw [hc]; simp) (datCls.no (C := C) hc (by simp) (by simp)), hc, e3, e4, es, ep, t, hd, r⟩
  | .exc m, x => by
    obtain ⟨a, o, vs, t, u, e1, e2, e3, e4, e5, e6⟩ := x
    obtain ⟨o', vs', f1, f2, f3, f4⟩ := kx a o vs e2 e3 e4
    exact Exists.intro a ⟨o', vs', t, u, ⟨e1.1, hY a o' f1 e1.2⟩, f1, f2, f3, f4.trans e5, IsTup.moveD k e6⟩
  | .rng a b st, x => by
    obtain ⟨r, t, u, t', e1, o, e2, hc, e3⟩ := x
    exact Exists.intro r ⟨t, u, t', e1, o, k r o e2 (.of hc (.inr (.inr (.inr (.inr (.inl rfl))))) (by rw [e3.1]; simp)) (by rw [hc]; simp) (datCls.no (C := C) hc (by simp) (by simp)), hc, e3⟩
  | .dict ks ws, x => by
    obtain ⟨a, o, es, ep, e1, e2, e3, e4, e5, e7⟩ := x
    have := k a o e3 (.of e4.1 (.inr (.inr (.inr (.inr (.inr (.inl rfl)))))) (by rw [e5]; simp)) (by rw [e4.1]; simp) fun _ => e2.2
    exact Exists.intro a ⟨o, es, ep, e1, ⟨e2.1, hY a o this e2.2⟩, this, e4, e5, Reps.moveX k kx hY e7⟩
  | .fn q params body scope clo, x => by
    obtain ⟨a, o, fd, e1, e2, e3, e4, e5, c, oc, vs, t, f1, f2, f3, f4, f5, f6⟩ := x
    exact Exists.intro a ⟨o, fd, e1, k a o e2 (.of e3 (.inr (.inr (.inr (.inr (.inr (.inr (.inl rfl))))))) (by rw [e4]; simp)) (by rw [e3]; simp) (datCls.no (C := C) e3 (by simp) (by simp)), e3, e4, e5, c, oc, vs, t, f1, f2,
      k c oc f3 (.of f6 (.inr (.inr (.inr (.inr (.inr (.inr (.inr rfl))))))) (by rw [f4]; simp)) (by rw [f6]; simp) (datCls.no (C := C) f6 (by simp) (by simp)), f4, f5, f6⟩
  | .val _, x => x
theorem Reps.moveX (k : ∀ b o, h.get? b = some o → Dat C o → o.cls ≠ .ref C.toml → (o.cls = .type "list" ∨ o.cls = .type "dict" → ¬ X b) → h'.get? b = some o) (kx : ∀ b o vs, h.get? b = some o → o.cls = .ref C.toml → o.data = .fields vs → ∃ o' vs', h'.get? b = some o' ∧ o'.cls = .ref C.toml ∧ o'.data = .fields vs' ∧ vs'[0]? = vs[0]?) (hY : ∀ b o, h'.get? b = some o → ¬ X b → ¬ Y b) : ∀ {vs : List Value} {ds : List D}, Reps C X h vs ds → Reps C Y h' vs ds
  | [], [], x => x
  | _ :: _, _ :: _, x => ⟨Rep.moveX k kx hY x.1, Reps.moveX k kx hY x.2⟩
  | [], _ :: _, x => x.elim
  | _ :: _, [], x => x.elim
end
theorem Rep.move (k : ∀ b o, h.get? b = some o → Dat C o → (o.cls = .type "list" ∨ o.cls = .type "dict" → ¬ X b) → h'.get? b = some o) (hY : ∀ b o, h'.get? b = some o → ¬ X b → ¬ Y b) {v : Value} {d : D} (x : Rep C X h v d) : Rep C Y h' v d :=
  x.moveX (fun b o e hd _ hn => k b o e hd hn) (fun b o vs e hc hd => ⟨o, vs, k b o e (.of hc (.inr (.inr (.inr (.inl rfl)))) (by rw [hd]; simp)) (datCls.no (C := C) hc (by simp) (by simp)), hc, hd, rfl⟩) hY
theorem Reps.move (k : ∀ b o, h.get? b = some o → Dat C o → (o.cls = .type "list" ∨ o.cls = .type "dict" → ¬ X b) → h'.get? b = some o) (hY : ∀ b o, h'.get? b = some o → ¬ X b → ¬ Y b) {vs : List Value} {ds : List D} (x : Reps C X h vs ds) : Reps C Y h' vs ds :=
  x.moveX (fun b o e hd _ hn => k b o e hd hn) (fun b o vs e hc hd => ⟨o, vs, k b o e (.of hc (.inr (.inr (.inr (.inl rfl)))) (by rw [hd]; simp)) (datCls.no (C := C) hc (by simp) (by simp)), hc, hd, rfl⟩) hY

variable {v : Value} {vs : List Value} {d : D} {ds : List D}
theorem Rep.keepD (k : ∀ b o, h.get? b = some o → Dat C o → h'.get? b = some o) (x : Rep C X h v d) : Rep C X h' v d := x.move (fun b o e hd _ => k b o e hd) fun _ _ _ q => q
theorem Reps.keepD (k : ∀ b o, h.get? b = some o → Dat C o → h'.get? b = some o) (x : Reps C X h vs ds) : Reps C X h' vs ds := x.move (fun b o e hd _ => k b o e hd) fun _ _ _ q => q
theorem Rep.keepV (k : ∀ b o, h.get? b = some o → Val o → h'.get? b = some o) (x : Rep C X h v d) : Rep C X h' v d := x.keepD fun b o e hd => k b o e hd.1
theorem Reps.keepV (k : ∀ b o, h.get? b = some o → Val o → h'.get? b = some o) (x : Reps C X h vs ds) : Reps C X h' vs ds := x.keepD fun b o e hd => k b o e hd.1
theorem Keep.val {s : Shared} (i : Inv C s) (k : Keep C s.heap h') : ∀ b o, s.heap.get? b = some o → Val o → h'.get? b = some o := fun b o e hv => k.get e (i.notTab e hv.1) hv.2.1
theorem Rep.keep {s : Shared} (i : Inv C s) (k : Keep C s.heap h') (x : Rep C X s.heap v d) : Rep C X h' v d := x.keepV (k.val i)
theorem Reps.keep {s : Shared} (i : Inv C s) (k : Keep C s.heap h') (x : Reps C X s.heap vs ds) : Reps C X h' vs ds := x.keepV (k.val i)
theorem Rep.mono (hXY : ∀ a, Y a → X a) (x : Rep C X h v d) : Rep C Y h v d := x.move (fun _ _ e _ _ => e) fun b _ _ q y => q (hXY b y)
theorem Reps.mono (hXY : ∀ a, Y a → X a) (x : Reps C X h vs ds) : Reps C Y h vs ds := x.move (fun _ _ e _ _ => e) fun b _ _ q y => q (hXY b y)
theorem avoid_aux {b : Addr} (hb : h.get? b = none) : ∀ c o, h.get? c = some o → ¬ X c → ¬ (c = b ∨ X c) := fun c o e q y => y.elim (fun y => by rw [y, hb] at e; cases e) q
theorem Rep.avoid {b : Addr} (hb : h.get? b = none) (x : Rep C X h v d) : Rep C (fun c => c = b ∨ X c) h v d := x.move (fun _ _ e _ _ => e) (avoid_aux hb)
theorem Reps.avoid {b : Addr} (hb : h.get? b = none) (x : Reps C X h vs ds) : Reps C (fun c => c = b ∨ X c) h vs ds := x.move (fun _ _ e _ _ => e) (avoid_aux hb)
theorem keepA_aux {a : Addr} {ws : Array Value} (ha : h.IsList a ws) (hX : X a) (k : ∀ b o, b ≠ a → h.get? b = some o → Val o → h'.get? b = some o) :
    ∀ b o, h.get? b = some o → Dat C o → (o.cls = .type "list" ∨ o.cls = .type "dict" → ¬ X b) → h'.get? b = some o := fun b o e hd hn =>
  k b o (fun q => by
    obtain ⟨o', e', hc, _⟩ := ha
    rw [q, e'] at e; cases e
    exact hn (.inl hc) (q ▸ hX)) e hd.1
theorem Rep.keepA {a : Addr} {ws : Array Value} (ha : h.IsList a ws) (hX : X a) (k : ∀ b o, b ≠ a → h.get? b = some o → Val o → h'.get? b = some o) (x : Rep C X h v d) : Rep C X h' v d := x.move (keepA_aux ha hX k) fun _ _ _ q => q
theorem Reps.keepA {a : Addr} {ws : Array Value} (ha : h.IsList a ws) (hX : X a) (k : ∀ b o, b ≠ a → h.get? b = some o → Val o → h'.get? b = some o) (x : Reps C X h vs ds) : Reps C X h' vs ds := x.move (keepA_aux ha hX k) fun _ _ _ q => q
end

mutual
noncomputable def D.plain : D → Bool
  | .list _ => false
  | .tup ds => plains ds
  | .dict _ _ => false
  | .exc _ => false
  | _ => true
noncomputable def plains : List D → Bool
  | [] => true
  | d :: ds => d.plain && plains ds
end

mutual
theorem Rep.plain {C : Cx} {X Y : Addr → Prop} {h : Heap} {v : Value} : ∀ {d : D}, d.plain = true → Rep C X h v d → Rep C Y h v d
  | .none, _, x => x
  | .bool _, _, x => x
  | .int _, _, x => x
  | .str _, _, x => x
  | .list ds, p, x => absurd p Bool.false_ne_true
  | .tup ds, p, x => by
    obtain ⟨a, vs, e1, e3, e4⟩ := x
    exact Exists.intro a ⟨vs, e1, e3, Reps.plain p e4⟩
  | .fset ss, _, x => x
  | .exc m, p, x => absurd p Bool.false_ne_true
  | .rng a b st, _, x => x
  | .dict ks ws, p, x => absurd p Bool.false_ne_true
  | .fn _ _ _ _ _, _, x => x
  | .val _, _, x => x
theorem Reps.plain {C : Cx} {X Y : Addr → Prop} {h : Heap} : ∀ {vs : List Value} {ds : List D}, plains ds = true → Reps C X h vs ds → Reps C Y h vs ds
  | [], [], _, _ => trivial
  | _ :: _, d :: ds, p, x => And.intro (Rep.plain (Bool.and_eq_true_iff.mp p).1 x.1) (Reps.plain (Bool.and_eq_true_iff.mp p).2 x.2)
  | [], _ :: _, _, x => False.elim x
  | _ :: _, [], _, x => False.elim x
end

theorem Reps.length {C : Cx} {X : Addr → Prop} {h : Heap} : ∀ {vs : List Value} {ds : List D}, Reps C X h vs ds → vs.length = ds.length
  | [], [], _ => rfl
  | _ :: _, _ :: _, x => congrArg Nat.succ (Reps.length x.2)
  | [], _ :: _, x => False.elim x
  | _ :: _, [], x => False.elim x
theorem Reps.append {C : Cx} {X : Addr → Prop} {h : Heap} : ∀ {vs : List Value} {ds : List D} {vs' : List Value} {ds' : List D}, Reps C X h vs ds → Reps C X h vs' ds' → Reps C X h (vs ++ vs') (ds ++ ds')
  | [], [], _, _, _, y => y
  | _ :: _, _ :: _, _, _, x, y => And.intro x.1 (Reps.append x.2 y)
  | [], _ :: _, _, _, x, _ => False.elim x
  | _ :: _, [], _, _, x, _ => False.elim x
theorem Reps.get {C : Cx} {X : Addr → Prop} {h : Heap} : ∀ {vs : List Value} {ds : List D}, Reps C X h vs ds → ∀ {i : Nat} {d : D}, ds[i]? = some d → ∃ v, vs[i]? = some v ∧ Rep C X h v d
  | [], [], _, _, _, e => nomatch e
  | v :: _, _ :: _, x, 0, _, e => ⟨v, rfl, Option.some.inj e ▸ x.1⟩
  | _ :: vs, _ :: ds, x, i + 1, _, e => Reps.get (vs := vs) (ds := ds) x.2 (i := i) e
  | [], _ :: _, x, _, _, _ => False.elim x
  | _ :: _, [], x, _, _, _ => False.elim x
theorem Reps.take {C : Cx} {X : Addr → Prop} {h : Heap} : ∀ {vs : List Value} {ds : List D}, Reps C X h vs ds → ∀ n, Reps C X h (vs.take n) (ds.take n)
  | [], [], _, 0 => trivial
  | [], [], _, _ + 1 => trivial
  | _ :: _, _ :: _, _, 0 => trivial
  | _ :: _, _ :: _, x, n + 1 => And.intro x.1 (Reps.take x.2 n)
  | [], _ :: _, x, _ => False.elim x
  | _ :: _, [], x, _ => False.elim x
theorem Reps.drop {C : Cx} {X : Addr → Prop} {h : Heap} : ∀ {vs : List Value} {ds : List D}, Reps C X h vs ds → ∀ n, Reps C X h (vs.drop n) (ds.drop n)
  | [], [], _, 0 => trivial
  | [], [], _, _ + 1 => trivial
  | _ :: _, _ :: _, x, 0 => x
  | _ :: _, _ :: _, x, n + 1 => Reps.drop x.2 n
  | [], _ :: _, x, _ => False.elim x
  | _ :: _, [], x, _ => False.elim x
theorem Reps.ints {C : Cx} {X : Addr → Prop} {h : Heap} : ∀ {vs : List Value} {ns : List Int}, IntsAre vs ns → Reps C X h vs (ns.map D.int)
  | _, _, .nil => trivial
  | _, _, .cons _ _ y => And.intro (Exists.intro _ rfl) (Reps.ints y)

theorem Rep.mkInt {C : Cx} {X : Addr → Prop} {h : Heap} {i : Int} {t : Tok} : Rep C X h (.int i t) (.int i) := Exists.intro t rfl
theorem Rep.mkBool {C : Cx} {X : Addr → Prop} {h : Heap} {b : Bool} : Rep C X h (.bool b) (.bool b) := rfl
theorem Rep.mkStr {C : Cx} {X : Addr → Prop} {h : Heap} {x : Str} {t : Tok} {l : List Nat} (e : x.cps.toList = l) : Rep C X h (.str x t) (.str l) := by
  subst e; exact Exists.intro t rfl
theorem Rep.mkNone {C : Cx} {X : Addr → Prop} {h : Heap} : Rep C X h .none .none := rfl

end Mine

end
section
open PySem PySem.W PySem.Calls PyProof.Rows
set_option Elab.async false
set_option maxRecDepth 100000

namespace Mine

theorem Inv.notTabD {C : Cx} {s : Shared} (i : Inv C s) {b : Addr} {o : Obj} (e : s.heap.get? b = some o) (hc : ∀ vs, o.data ≠ .fields vs) : b ∉ C.tabA := fun hm => by
  obtain ⟨p, hp, rfl⟩ := List.mem_map.mp hm
  obtain ⟨ps, h1, _⟩ := i.tabs p hp
  rw [e] at h1
  exact hc ps (by rw [Option.some.inj h1])
theorem Inv.tabHere {C : Cx} {s : Shared} (i : Inv C s) {b : Addr} (hb : b ∈ C.tabA) : ∃ o, s.heap.get? b = some o := by
  obtain ⟨p, hp, rfl⟩ := List.mem_map.mp hb
  obtain ⟨ps, h1, _⟩ := i.tabs p hp
  exact ⟨_, h1⟩
theorem Ns.keep {C : Cx} {s : Shared} {h' : Heap} (i : Inv C s) (k : Keep C s.heap h') {a : Addr} {m : Str → Option Value} (x : s.heap.Ns a m) : h'.Ns a m := by
  obtain ⟨o, es, ep, e, hd, r⟩ := x
  obtain ⟨_, sl, e'⟩ := k a o (i.notTabD e (by rw [hd]; simp)) e
  exact ⟨_, es, ep, e', hd, r⟩
theorem IsCell.keep {C : Cx} {s : Shared} {h' : Heap} (i : Inv C s) (k : Keep C s.heap h') {a : Addr} {v : Option Value} (x : s.heap.IsCell a v) : h'.IsCell a v := by
  obtain ⟨o, e, hd⟩ := x
  obtain ⟨_, sl, e'⟩ := k a o (i.notTabD e (by rw [hd]; simp)) e
  exact ⟨_, e', hd⟩

noncomputable def VarAt (env : Env) (h : Heap) (x : Str) (v : Value) : Prop :=
  (env.kindOf x = some .local ∧ ∃ m, h.Ns env.locals m ∧ m x = some v) ∨
  ((env.kindOf x = some .cell ∨ env.kindOf x = some .free) ∧ ∃ c, env.cells.lookup x = some c ∧ h.IsCell c (some v))

theorem VarAt.keep {C : Cx} {s : Shared} {h' : Heap} {env : Env} {x : Str} {v : Value} (i : Inv C s) (k : Keep C s.heap h') (a : VarAt env s.heap x v) : VarAt env h' x v := by
  rcases a with ⟨hk, m, hn, hv⟩ | ⟨hk, c, hc, hv⟩
  · exact .inl ⟨hk, m, Ns.keep i k hn, hv⟩
  · exact .inr ⟨hk, c, hc, IsCell.keep i k hv⟩

noncomputable def FrAt (C : Cx) (h : Heap) (e : Env) : Prop :=
  e.scope.kind ≠ .module ∧ ∃ L o es ep, e.frame = some L ∧ C.base.get? L = none ∧ h.get? L = some o ∧ o.cls = .type "frame" ∧ o.data = .dict es ep
theorem FrAt.keep {C : Cx} {s : Shared} {h' : Heap} {e : Env} (i : Inv C s) (k : Keep C s.heap h') (x : FrAt C s.heap e) : FrAt C h' e := by
  obtain ⟨hk, L, o, es, ep, h1, h2, h3, h4, h5⟩ := x
  obtain ⟨_, sl, e'⟩ := k L o (i.notTabD h3 (by rw [h5]; simp)) h3
  exact ⟨hk, L, _, es, ep, h1, h2, e', h4, h5⟩

noncomputable def HOk (ch : Bool) (h : Heap) (v : Option Value) : Prop := ∀ u, v = some u → ∃ e o vs, u = .ref e ∧ h.get? e = some o ∧ (∃ c : Value, o.cls = c ∧ c ≠ .none ∧ c ≠ .type "frame" ∧ c ≠ .type "traceback") ∧ o.data = .fields vs ∧ (ch = true → vs[2]? = some .none)
theorem HOk.keep {C : Cx} {s : Shared} {h' : Heap} {ch : Bool} {v : Option Value} (i : Inv C s) (k : Keep C s.heap h') (x : HOk ch s.heap v) : HOk ch h' v := fun u hu => by
  obtain ⟨e, o, vs, h1, h2, ⟨c, h3, h4, h5⟩, h6, h7⟩ := x u hu
  exact ⟨e, o, vs, h1, k.get h2 (i.notTab h2 (by rw [h3]; exact h4)) (by rw [h3]; exact h5.1), ⟨c, h3, h4, h5⟩, h6, h7⟩

structure Fc where
  A : Around
  env : Env
  outer : List Env
  k : Nat
  ch : Bool

structure GOk (C : Cx) (G : Fc) (h : Heap) : Prop where
  depth : G.A.depth + 20 * G.k ≤ 900
  units : G.A.units + 200 * G.k ≤ 9000
  frames : ∃ fe, G.A.frames = some (fe :: G.outer) ∧ fe.frame = G.env.frame ∧ ∀ e ∈ fe :: G.outer, FrAt C h e
  kind : G.env.scope.kind = .function
  glob : G.env.globals = mainGlobals
  blt : G.env.builtins = builtinsNs
  loc : ∃ m, h.Ns G.env.locals m
  locB : C.base.get? G.env.locals = none
  cells : ∀ x c, G.env.cells.lookup x = some c → (∃ v, h.IsCell c v) ∧ C.base.get? c = none
  inj : ∀ x y c, G.env.cells.lookup x = some c → G.env.cells.lookup y = some c → x = y
  hnd : HOk G.ch h G.A.handled

theorem GOk.keep {C : Cx} {G : Fc} {s : Shared} {h' : Heap} (i : Inv C s) (k : Keep C s.heap h') (x : GOk C G s.heap) : GOk C G h' where
  depth := x.depth
  units := x.units
  frames := (by obtain ⟨fe, a, b, c⟩ := x.frames; exact ⟨fe, a, b, fun e he => (c e he).keep i k⟩)
  kind := x.kind
  glob := x.glob
  blt := x.blt
  loc := (by obtain ⟨m, a⟩ := x.loc; exact ⟨m, Ns.keep i k a⟩)
  locB := x.locB
  cells y c e := (by obtain ⟨⟨v, a⟩, b⟩ := x.cells y c e; exact ⟨⟨v, IsCell.keep i k a⟩, b⟩)
  inj := x.inj
  hnd := x.hnd.keep i k

noncomputable abbrev Vars := List (Str × D)

noncomputable def MutL (h : Heap) (a : Addr) : Prop := ∃ o, h.get? a = some o ∧ Val o ∧ (o.cls = .type "list" ∨ o.cls = .type "dict")
noncomputable def MutC (C : Cx) (h : Heap) (a : Addr) : Prop := ∃ o, h.get? a = some o ∧ Val o ∧ (o.cls = .type "list" ∨ o.cls = .type "dict" ∨ o.cls = .ref C.toml)
noncomputable def MutB (C : Cx) (B h : Heap) (a : Addr) : Prop := ∃ o, h.get? a = some o ∧ Val o ∧ (o.cls = .type "list" ∨ o.cls = .type "dict" ∨ (o.cls = .ref C.toml ∧ ∃ ob, B.get? a = some ob))
theorem MutC.keepV {C : Cx} {h h' : Heap} {a : Addr} (k : ∀ b o, h.get? b = some o → Val o → h'.get? b = some o) (m : MutC C h a) : MutC C h' a := by
  obtain ⟨o, e, hv, hc⟩ := m; exact ⟨o, k a o e hv, hv, hc⟩
theorem MutB.keepV {C : Cx} {B h h' : Heap} {a : Addr} (k : ∀ b o, h.get? b = some o → Val o → h'.get? b = some o) (m : MutB C B h a) : MutB C B h' a := by
  obtain ⟨o, e, hv, hc⟩ := m; exact ⟨o, k a o e hv, hv, hc⟩
theorem MutC.keep {C : Cx} {s : Shared} {h' : Heap} {a : Addr} (i : Inv C s) (k : Keep C s.heap h') (m : MutC C s.heap a) : MutC C h' a := m.keepV (k.val i)
theorem MutB.keep {C : Cx} {B : Heap} {s : Shared} {h' : Heap} {a : Addr} (i : Inv C s) (k : Keep C s.heap h') (m : MutB C B s.heap a) : MutB C B h' a := m.keepV (k.val i)
theorem MutL.c {C : Cx} {h : Heap} {a : Addr} (m : MutL h a) : MutC C h a := by
  obtain ⟨o, e, hv, hc⟩ := m; exact ⟨o, e, hv, hc.elim .inl fun q => .inr (.inl q)⟩
theorem MutL.b {C : Cx} {B h : Heap} {a : Addr} (m : MutL h a) : MutB C B h a := by
  obtain ⟨o, e, hv, hc⟩ := m; exact ⟨o, e, hv, hc.elim .inl fun q => .inr (.inl q)⟩
theorem MutB.c {C : Cx} {B h : Heap} {a : Addr} (m : MutB C B h a) : MutC C h a := by
  obtain ⟨o, e, hv, hc⟩ := m; exact ⟨o, e, hv, hc.elim .inl fun q => .inr (q.elim .inl fun q => .inr q.1)⟩
theorem MutB.dat {C : Cx} {o : Obj} {P : Prop} (hv : Val o) (hc : o.cls = .type "list" ∨ o.cls = .type "dict" ∨ (o.cls = .ref C.toml ∧ P)) : Dat C o :=
  ⟨hv, hc.elim .inl fun q => q.elim (fun q => .inr (.inr (.inr (.inr (.inr (.inl q)))))) fun q => .inr (.inr (.inr (.inl q.1)))⟩
theorem Heap.PlainList.mut {h : Heap} {a : Addr} {vs : Array Value} (x : h.PlainList a vs) : MutL h a := by
  obtain ⟨n, e⟩ := x; exact ⟨_, e, ⟨by simp, by simp, by simp⟩, .inl rfl⟩

structure Ok (C : Cx) (G : Fc) (X : Addr → Prop) (ρ : Vars) (s : Shared) : Prop where
  inv : Inv C s
  g : GOk C G s.heap
  x : ∀ a, X a → MutC C s.heap a
  vars : ∀ y d, ρ.lookup y = some d → ∃ v, VarAt G.env s.heap y v ∧ Rep C X s.heap v d

theorem Keep.here {C : Cx} {s s' : Shared} (i : Inv C s) (i' : Inv C s') (k : Keep C s.heap s'.heap) {a : Addr} (h : ∃ o, s.heap.get? a = some o) : ∃ o, s'.heap.get? a = some o := by
  obtain ⟨o, e⟩ := h
  by_cases ht : a ∈ C.tabA
  · exact i'.tabHere ht
  · obtain ⟨_, sl, e'⟩ := k a o ht e
    exact ⟨_, e'⟩
theorem Step.here {C : Cx} {s s' : Shared} (i : Inv C s) (x : Step C s s') {a : Addr} (h : ∃ o, s.heap.get? a = some o) : ∃ o, s'.heap.get? a = some o := Keep.here i x.inv x.keep h
theorem Step.fresh {C : Cx} {s s' : Shared} (i : Inv C s) (x : Step C s s') {a : Addr} (h : s'.heap.get? a = none) : s.heap.get? a = none := by
  cases e : s.heap.get? a with
  | none => rfl
  | some o => obtain ⟨o', e'⟩ := x.here i ⟨o, e⟩; rw [h] at e'; cases e'

theorem Ok.step {C : Cx} {G : Fc} {X : Addr → Prop} {ρ : Vars} {s s' : Shared} (o : Ok C G X ρ s) (x : Step C s s') : Ok C G X ρ s' where
  inv := x.inv
  g := o.g.keep o.inv x.keep
  x a ha := (o.x a ha).keep o.inv x.keep
  vars y d e := (by obtain ⟨v, a, b⟩ := o.vars y d e; exact ⟨v, a.keep o.inv x.keep, b.keep o.inv x.keep⟩)

theorem Rep.step {C : Cx} {X : Addr → Prop} {s s' : Shared} (i : Inv C s) (x : Step C s s') {v : Value} {d : D} (r : Rep C X s.heap v d) : Rep C X s'.heap v d := r.keep i x.keep
theorem Reps.step {C : Cx} {X : Addr → Prop} {s s' : Shared} (i : Inv C s) (x : Step C s s') {v : List Value} {d : List D} (r : Reps C X s.heap v d) : Reps C X s'.heap v d := r.keep i x.keep

inductive Exn where
  | bi (cls : String)
  | toml (m : List Nat)

noncomputable def excName (n : String) : Bool := !["frame", "traceback", "list", "tuple", "frozenset", "range", "dict", "function", "code"].contains n
noncomputable def XAt (C : Cx) (h0 h : Heap) (ev : Value) (x : Exn) (traced : Bool) : Prop :=
  ∃ a o vs, ev = .ref a ∧ h0.get? a = none ∧ C.base.get? a = none ∧ h.get? a = some o ∧ o.data = .fields vs ∧ 5 ≤ vs.size ∧
    (match x with
      | .bi n => (o.cls = .type n ∧ excName n = true) ∧ vs[2]? = some .none
      | .toml m => o.cls = .ref C.toml ∧ ∃ t u, vs[0]? = some (.ref t) ∧ IsTup h t #[.str ⟨m.toArray⟩ u]) ∧
    ((traced = false ∧ vs[1]? = some .none) ∨ ∃ T oT ts, vs[1]? = some (.ref T) ∧ h0.get? T = none ∧ C.base.get? T = none ∧ T ≠ a ∧ h.get? T = some oT ∧ oT.data = .fields ts ∧ 3 < ts.size ∧ oT.cls = .type "traceback")

theorem XAt.back {C : Cx} {s s' : Shared} (i : Inv C s) (st : Step C s s') {h : Heap} {ev : Value} {x : Exn} {b : Bool} (r : XAt C s'.heap h ev x b) : XAt C s.heap h ev x b := by
  obtain ⟨a, o, vs, h1, h2, h3, h4, h5, h6, h7, h8⟩ := r
  refine ⟨a, o, vs, h1, st.fresh i h2, h3, h4, h5, h6, h7, ?_⟩
  rcases h8 with h8 | ⟨T, oT, ts, g1, g2, g3⟩
  · exact .inl h8
  · exact .inr ⟨T, oT, ts, g1, st.fresh i g2, g3⟩

noncomputable def VP (C : Cx) (X : Addr → Prop) (s : Shared) (Q : D → Prop) (v : Value) (s' : Shared) : Prop := Step C s s' ∧ ∃ d, Rep C X s'.heap v d ∧ Q d
noncomputable def XP (C : Cx) (s : Shared) (Z : Exn → Prop) (ev : Value) (s' : Shared) : Prop := Step C s s' ∧ ∃ x, XAt C s.heap s'.heap ev x false ∧ Z x
noncomputable def BP (C : Cx) (s : Shared) (Q : Bool → Prop) (b : Bool) (s' : Shared) : Prop := Step C s s' ∧ Q b
noncomputable def LP (C : Cx) (X : Addr → Prop) (s : Shared) (Q : List D → Prop) (vs : List Value) (s' : Shared) : Prop := Step C s s' ∧ ∃ ds, Reps C X s'.heap vs ds ∧ Q ds

theorem VP.of {C : Cx} {X : Addr → Prop} {s s' : Shared} {Q : D → Prop} {v : Value} {d : D} (st : Step C s s') (r : Rep C X s'.heap v d) (q : Q d) : VP C X s Q v s' := ⟨st, d, r, q⟩
theorem VP.back {C : Cx} {X : Addr → Prop} {s s₁ s' : Shared} {Q : D → Prop} {v : Value} (st : Step C s s₁) (x : VP C X s₁ Q v s') : VP C X s Q v s' := ⟨st.trans x.1, x.2⟩
theorem BP.back {C : Cx} {s s₁ s' : Shared} {Q : Bool → Prop} {v : Bool} (st : Step C s s₁) (x : BP C s₁ Q v s') : BP C s Q v s' := ⟨st.trans x.1, x.2⟩
theorem XP.back {C : Cx} {s s₁ s' : Shared} {Z : Exn → Prop} {ev : Value} (i : Inv C s) (st : Step C s s₁) (x : XP C s₁ Z ev s') : XP C s Z ev s' :=
  by obtain ⟨a, y, b, c⟩ := x; exact ⟨st.trans a, y, b.back i st, c⟩

noncomputable def EvW (C : Cx) (G : Fc) (ρ : Vars) (e : Expr) (Q : D → Prop) (Z : Exn → Prop) : Prop :=
  ∀ X s, Ok C G X ρ s → wpAny C.M G.A (eval e G.env) (VP C X s Q) (XP C s Z) s
noncomputable def TsW (C : Cx) (G : Fc) (ρ : Vars) (e : Expr) (Q : Bool → Prop) (Z : Exn → Prop) : Prop :=
  ∀ X s, Ok C G X ρ s → wpAny C.M G.A (isTrue e G.env (eval e G.env)) (BP C s Q) (XP C s Z) s
noncomputable def EsW (C : Cx) (G : Fc) (ρ : Vars) (es : List Expr) (Q : List D → Prop) (Z : Exn → Prop) : Prop :=
  ∀ X s pos, Ok C G X ρ s → wpAny C.M G.A (spliced (backTo pos (starEach es G.env))) (LP C X s Q) (XP C s Z) s

noncomputable def OpW (C : Cx) (G : Fc) (ds : List D) (op : List Value → Sem Value) (Q : D → Prop) (Z : Exn → Prop) : Prop :=
  ∀ ρ X s vs, Ok C G X ρ s → Reps C X s.heap vs ds → wpAny C.M G.A (op vs) (VP C X s Q) (XP C s Z) s

section
variable {C : Cx} {G : Fc} {ρ : Vars} {Q : D → Prop} {Z : Exn → Prop}

theorem EvW.int {i : Int} {k : Nat} {pos : Pos} (h : Q (.int i)) : EvW C G ρ (.Constant (.int i) k pos) Q Z := fun X s o =>
  wpAny_Constant_int (VP.of (Step.tok o.inv _) Rep.mkInt h)
theorem EvW.str {x : Str} {k : Nat} {pos : Pos} (h : Q (.str x.cps.toList)) : EvW C G ρ (.Constant (.str x) k pos) Q Z := fun X s o =>
  wpAny_Constant_str (VP.of (Step.tok o.inv _) (Rep.mkStr rfl) h)
theorem EvW.bool {b : Bool} {k : Nat} {pos : Pos} (h : Q (.bool b)) : EvW C G ρ (.Constant (.bool b) k pos) Q Z := fun X s o =>
  wpAny_Constant_bool (VP.of (Step.refl o.inv) Rep.mkBool h)
theorem EvW.none {k : Nat} {pos : Pos} (h : Q .none) : EvW C G ρ (.Constant .none k pos) Q Z := fun X s o =>
  wpAny_Constant_none (VP.of (Step.refl o.inv) Rep.mkNone h)

theorem loadVar {env : Env} {h : Heap} {x : Str} {v : Value} (a : VarAt env h x v) (hk : env.scope.kind = .function) {M : Model} {A : Around} {E : Value → Shared → Prop} {s : Shared} {R : Value → Shared → Prop} (hs : s.heap = h) (q : R v s)
    (hn : (x == ("__classdict__" : Str)) = false) : wpAny M A (loadName env x) R E s := by
  subst hs
  rcases a with ⟨h1, m, h2, h3⟩ | ⟨h1, c, h2, h3⟩
  · exact wpAny_loadName_local hk h1 h2 h3 q
  · rcases h1 with h1 | h1
    · exact wpAny_loadName_cell hk h1 h2 h3 q
    · exact wpAny_loadName_free hk h1 h2 h3 q hn

theorem EvW.name {x : Str} {pos : Pos} {d : D} (hx : ρ.lookup x = some d) (h : Q d) (hd : (x == ("__debug__" : Str)) = false := by decide) (hn : (x == ("__classdict__" : Str)) = false := by decide) : EvW C G ρ (.Name x pos) Q Z := fun X s o => by
  obtain ⟨v, a, r⟩ := o.vars x d hx
  exact wpAny_Name (loadVar a o.g.kind rfl (VP.of (Step.refl o.inv) r h) hn) hd

end

end Mine

end
section
open PySem PySem.W PySem.Calls PyProof.Rows
set_option Elab.async false
set_option maxRecDepth 100000

namespace Mine

noncomputable def bop (op : Operator) : List Value → Sem Value | [x, y] => binaryOp op x y | _ => unsupported ""
noncomputable def cop (op : CmpOp) : List Value → Sem Value | [x, y] => compareOp op x y | _ => unsupported ""
noncomputable def iop (op : Operator) : List Value → Sem Value | [x, y] => inplaceOp op x y | _ => unsupported ""
noncomputable def uop (op : UnaryOp) : List Value → Sem Value | [x] => unaryOp op x | _ => unsupported ""
noncomputable def subT (value slice : Expr) : List Value → Sem Value | [o, i] => subscriptTail value slice o i | _ => unsupported ""

theorem Reps.uncons {C : Cx} {X : Addr → Prop} {h : Heap} {vs : List Value} {d : D} {ds : List D} (r : Reps C X h vs (d :: ds)) : ∃ v ws, vs = v :: ws ∧ Rep C X h v d ∧ Reps C X h ws ds := by
  cases vs with
  | nil => exact r.elim
  | cons v ws => exact ⟨v, ws, rfl, r.1, r.2⟩
theorem Reps.done {C : Cx} {X : Addr → Prop} {h : Heap} {vs : List Value} (r : Reps C X h vs []) : vs = [] := by
  cases vs with
  | nil => rfl
  | cons v ws => exact r.elim
theorem Reps.one {C : Cx} {X : Addr → Prop} {h : Heap} {vs : List Value} {d : D} (r : Reps C X h vs [d]) : ∃ v, vs = [v] ∧ Rep C X h v d := by
  obtain ⟨v, ws, rfl, h1, r⟩ := r.uncons
  obtain rfl := r.done
  exact ⟨v, rfl, h1⟩
theorem Reps.two {C : Cx} {X : Addr → Prop} {h : Heap} {vs : List Value} {d e : D} (r : Reps C X h vs [d, e]) : ∃ v w, vs = [v, w] ∧ Rep C X h v d ∧ Rep C X h w e := by
  obtain ⟨v, ws, rfl, h1, r⟩ := r.uncons
  obtain ⟨w, rfl, h2⟩ := r.one
  exact ⟨v, w, rfl, h1, h2⟩
theorem Reps.mk1 {C : Cx} {X : Addr → Prop} {h : Heap} {v : Value} {d : D} (r : Rep C X h v d) : Reps C X h [v] [d] := And.intro r trivial
theorem Reps.mk2 {C : Cx} {X : Addr → Prop} {h : Heap} {v w : Value} {d e : D} (r : Rep C X h v d) (r' : Rep C X h w e) : Reps C X h [v, w] [d, e] := And.intro r (And.intro r' trivial)
section
variable {C : Cx} {G : Fc} {ρ : Vars} {Q : D → Prop} {Z : Exn → Prop}

noncomputable abbrev kOp1 (C : Cx) (G : Fc) (op : List Value → Sem Value) (Q : D → Prop) (Z : Exn → Prop) (a : D) : Prop := OpW C G [a] op Q Z
noncomputable abbrev kOp2 (C : Cx) (G : Fc) (a : D) (op : List Value → Sem Value) (Q : D → Prop) (Z : Exn → Prop) (b : D) : Prop := OpW C G [a, b] op Q Z
noncomputable abbrev kEv2 (C : Cx) (G : Fc) (ρ : Vars) (r : Expr) (op : List Value → Sem Value) (Q : D → Prop) (Z : Exn → Prop) (a : D) : Prop := EvW C G ρ r (kOp2 C G a op Q Z) Z
theorem OpW.two {d e : D} {op : List Value → Sem Value} (h : ∀ ρ X s v w, Ok C G X ρ s → Rep C X s.heap v d → Rep C X s.heap w e → wpAny C.M G.A (op [v, w]) (VP C X s Q) (XP C s Z) s) : OpW C G [d, e] op Q Z :=
  fun ρ X s vs o r => by obtain ⟨v, w, rfl, r1, r2⟩ := r.two; exact h ρ X s v w o r1 r2
theorem OpW.one {d : D} {op : List Value → Sem Value} (h : ∀ ρ X s v, Ok C G X ρ s → Rep C X s.heap v d → wpAny C.M G.A (op [v]) (VP C X s Q) (XP C s Z) s) : OpW C G [d] op Q Z :=
  fun ρ X s vs o r => by obtain ⟨v, rfl, r1⟩ := r.one; exact h ρ X s v o r1

theorem EvW.mono {e : Expr} {Q' : D → Prop} {Z' : Exn → Prop} (h : EvW C G ρ e Q Z) (hq : ∀ d, Q d → Q' d) (hz : ∀ x, Z x → Z' x) : EvW C G ρ e Q' Z' := fun X s o =>
  wpAny_mono (h X s o) (fun v s' ⟨st, d, r, q⟩ => ⟨st, d, r, hq d q⟩) fun v s' ⟨st, x, r, q⟩ => ⟨st, x, r, hz x q⟩

theorem EvW.bin {l r : Expr} {op : Operator} {pos : Pos} (h : EvW C G ρ l (kEv2 C G ρ r (bop op) Q Z) Z) : EvW C G ρ (.BinOp l op r pos) Q Z := fun X s o => by
  refine wpAny_BinOp (wpAny_mono (h X s o) (fun v s₁ q9 => ?_) fun _ _ x => x)
  obtain ⟨st, d, rv, p⟩ := q9
  refine wpAny_mono (p X s₁ (o.step st)) (fun v' s₂ q9 => ?_) fun _ _ x => x.back o.inv st
  obtain ⟨st', d', rv', p'⟩ := q9
  exact wpAny_mono (p' ρ X s₂ [v, v'] ((o.step st).step st') (.mk2 (rv.step st.inv st') rv')) (fun v s' x => (x.back st').back st) fun _ _ x => (x.back st.inv st').back o.inv st
theorem EvW.un {x : Expr} {op : UnaryOp} {pos : Pos} (h : EvW C G ρ x (kOp1 C G (uop op) Q Z) Z) : EvW C G ρ (.UnaryOp op x pos) Q Z := fun X s o => by
  refine wpAny_UnaryOp (wpAny_mono (h X s o) (fun v s₁ q9 => ?_) fun _ _ x => x)
  obtain ⟨st, d, rv, p⟩ := q9
  exact wpAny_mono (p ρ X s₁ [v] (o.step st) (.mk1 rv)) (fun v s' x => x.back st) fun _ _ x => x.back o.inv st

/-! ints -/
theorem OpW.add_int {a b : Int} (h : Q (.int (a + b))) : OpW C G [.int a, .int b] (bop .Add) Q Z := .two fun ρ X s v w o r1 r2 => by
  obtain ⟨t, rfl⟩ := r1; obtain ⟨u, rfl⟩ := r2
  exact PyProof.Rows.add_int (VP.of (Step.tok o.inv _) .mkInt h)
theorem OpW.sub_int {a b : Int} (h : Q (.int (a - b))) : OpW C G [.int a, .int b] (bop .Sub) Q Z := .two fun ρ X s v w o r1 r2 => by
  obtain ⟨t, rfl⟩ := r1; obtain ⟨u, rfl⟩ := r2
  exact PyProof.Rows.sub_int' (VP.of (Step.tok o.inv _) .mkInt h)
theorem OpW.mul_int {a b : Int} (hm : PySem.IntMulOk a b) (h : Q (.int (a * b))) : OpW C G [.int a, .int b] (bop .Mult) Q Z := .two fun ρ X s v w o r1 r2 => by
  obtain ⟨t, rfl⟩ := r1; obtain ⟨u, rfl⟩ := r2
  exact PyProof.Rows.mul_int (VP.of (Step.tok o.inv _) .mkInt h) hm
theorem OpW.mod_int {a b : Int} (hb : b ≠ 0) (h : Q (.int (a.fmod b))) : OpW C G [.int a, .int b] (bop .Mod) Q Z := .two fun ρ X s v w o r1 r2 => by
  obtain ⟨t, rfl⟩ := r1; obtain ⟨u, rfl⟩ := r2
  exact PyProof.Rows.mod_int' hb (VP.of (Step.tok o.inv _) .mkInt h)
theorem OpW.pow_int {a b : Int} (hb : 0 ≤ b) (hb' : b ≤ 1000000) (ha : a.natAbs < 2 ^ 64) (h : Q (.int (a ^ b.toNat))) : OpW C G [.int a, .int b] (bop .Pow) Q Z := .two fun ρ X s v w o r1 r2 => by
  obtain ⟨t, rfl⟩ := r1; obtain ⟨u, rfl⟩ := r2
  exact PyProof.Rows.pow_int_small hb hb' ha (VP.of (Step.tok o.inv _) .mkInt h)
theorem OpW.neg_int {a : Int} (h : Q (.int (-a))) : OpW C G [.int a] (uop .USub) Q Z := .one fun ρ X s v o r1 => by
  obtain ⟨t, rfl⟩ := r1
  exact PySem.P.neg_int (VP.of (Step.tok o.inv _) .mkInt h)

end
end Mine

end
section
open PySem PySem.W PySem.Calls PyProof.Rows PySem.SeqAt
set_option Elab.async false
set_option maxRecDepth 100000

namespace Mine
theorem str_mk_beq (a b : List Nat) : ((⟨a.toArray⟩ : Str) == ⟨b.toArray⟩) = (a == b) := by
  rw [← SeqAt.str_beq]
theorem beq_dec {α : Type} [BEq α] [LawfulBEq α] [DecidableEq α] (a b : α) : (a == b) = decide (a = b) := by
  by_cases h : a = b
  · rw [decide_eq_true h, h]; exact beq_self_eq_true b
  · rw [decide_eq_false h]; exact beq_eq_false_iff_ne.mpr h
inductive Sc : D → Prop where
  | none : Sc .none
  | bool (b : Bool) : Sc (.bool b)
  | int (i : Int) : Sc (.int i)
  | str (l : List Nat) : Sc (.str l)
inductive Sc2 : D → Prop where
  | sc {d : D} (h : Sc d) : Sc2 d
  | tup (ds : List D) (h : ∀ d ∈ ds, Sc d) : Sc2 (.tup ds)
section
variable {C : Cx} {X Y : Addr → Prop} {s : Shared} {A : Around}
theorem Sc.at {d : D} {v w : Value} (S : Sc d) (x : Rep C X s.heap v d) (y : Rep C Y s.heap w d) : EqAt A s v w true := by
  cases S with
  | none => have x : v = .none := x; have y : w = .none := y; rw [x, y]; exact EqAt.same _
  | bool b => have x : v = .bool b := x; have y : w = .bool b := y; rw [x, y]; exact EqAt.same _
  | int i =>
    obtain ⟨t, rfl⟩ : ∃ t, v = .int i t := x
    obtain ⟨u, rfl⟩ : ∃ u, w = .int i u := y
    exact beq_self_eq_true i ▸ EqAt.int_int i t i u
  | str l =>
    obtain ⟨t, rfl⟩ : ∃ t, v = .str ⟨l.toArray⟩ t := x
    obtain ⟨u, rfl⟩ : ∃ u, w = .str ⟨l.toArray⟩ u := y
    exact beq_self_eq_true (⟨l.toArray⟩ : Str) ▸ EqAt.str_str ⟨l.toArray⟩ t ⟨l.toArray⟩ u
theorem items_at {vs ws : List Value} {ds : List D} (H : ∀ d ∈ ds, ∀ v w, Rep C X s.heap v d → Rep C Y s.heap w d → EqAt A s v w true) (r1 : Reps C X s.heap vs ds) (r2 : Reps C Y s.heap ws ds) :
    ∀ j (h1 : j < (List.toArray vs).size) (h2 : j < (List.toArray ws).size), EqAt A s (List.toArray vs)[j] (List.toArray ws)[j] true := fun j h1 h2 => by
  have hj : j < ds.length := by rw [← r1.length]; exact h1
  obtain ⟨v', e1, q1⟩ := r1.get (List.getElem?_eq_getElem hj)
  obtain ⟨w', e2, q2⟩ := r2.get (List.getElem?_eq_getElem hj)
  obtain ⟨_, g1⟩ := List.getElem?_eq_some_iff.mp e1
  obtain ⟨_, g2⟩ := List.getElem?_eq_some_iff.mp e2
  have := H _ (List.getElem_mem hj) v' w' q1 q2
  rw [← g1, ← g2] at this
  exact this
theorem all_true (n : Nat) : (List.range n).all (fun _ => true) = true := List.all_eq_true.mpr fun _ _ => rfl
theorem len_same {vs ws : List Value} {ds : List D} (r1 : Reps C X s.heap vs ds) (r2 : Reps C Y s.heap ws ds) : (List.toArray vs).size = (List.toArray ws).size := r1.length.trans r2.length.symm
theorem Sc2.at {d : D} {v w : Value} (S : Sc2 d) (hu : A.units < cLine) (x : Rep C X s.heap v d) (y : Rep C Y s.heap w d) : EqAt A s v w true := by
  cases S with
  | sc S => exact S.at x y
  | tup ds S =>
    obtain ⟨a, vs, rfl, h1, r1⟩ : ∃ a vs, v = .ref a ∧ IsTup s.heap a (List.toArray vs) ∧ Reps C X s.heap vs ds := x
    obtain ⟨b, ws, rfl, h2, r2⟩ : ∃ a vs, w = .ref a ∧ IsTup s.heap a (List.toArray vs) ∧ Reps C Y s.heap vs ds := y
    by_cases hab : a = b
    · subst hab; exact EqAt.same _
    · refine EqAt.of_refs hab ?_
      have := RcAt.tuples (e := fun _ => true) h1 h2 hu (items_at (fun d hd v w => (S d hd).at) r1 r2)
      rw [all_true, len_same r1 r2, beq_self_eq_true] at this
      exact this
theorem isL {v : Value} {ds : List D} {h : Heap} (x : Rep C X h v (.list ds)) : ∃ a vs, v = .ref a ∧ h.IsList a (List.toArray vs) ∧ Reps C X h vs ds := by
  obtain ⟨a, vs, e, _, h1, h2⟩ := x
  exact ⟨a, vs, e, h1, h2⟩
theorem rcn_same {ds : List D} {v w : Value} (S : ∀ d ∈ ds, Sc2 d) (hu : A.units + 1 < cLine) (x : Rep C X s.heap v (.list ds)) (y : Rep C Y s.heap w (.list ds)) : RcNeAt A s v w false := by
  obtain ⟨a, vs, rfl, h1, r1⟩ := isL x
  obtain ⟨b, ws, rfl, h2, r2⟩ := isL y
  have := RcNeAt.lists (e := fun _ => true) h1 h2 (len_same r1 r2) (Nat.lt_of_succ_lt hu) (items_at (fun d hd v w => (S d hd).at (A := A.in1) hu) r1 r2)
  rwa [all_true] at this
theorem rc_nil {ds : List D} {v w : Value} (hu : A.units < cLine) (x : Rep C X s.heap v (.list ds)) (y : Rep C Y s.heap w (.list [])) : RcAt A s v w ds.isEmpty := by
  obtain ⟨a, vs, rfl, h1, r1⟩ := isL x
  obtain ⟨b, ws, rfl, h2, r2⟩ := isL y
  have e2 : ws = [] := List.eq_nil_of_length_eq_zero r2.length
  subst e2
  cases ds with
  | nil =>
    have e1 : vs = [] := List.eq_nil_of_length_eq_zero r1.length
    subst e1
    exact RcAt.lists (e := fun _ => true) h1 h2 rfl hu fun j h => absurd h (Nat.not_lt_zero _)
  | cons d ds =>
    have : vs.length = ds.length + 1 := r1.length
    refine RcAt.lists_lengths h1 h2 ?_ hu
    show (vs.length != 0) = true
    rw [this]; rfl
end
end Mine

end
section
open PySem PySem.W PySem.Calls PyProof.Rows PySem.SeqAt
set_option Elab.async false
set_option maxRecDepth 100000

namespace Mine
section
variable {C : Cx} {G : Fc} {ρ : Vars} {Q : D → Prop} {Z : Exn → Prop}

theorem Ok.unitsOk {X : Addr → Prop} {s : Shared} (o : Ok C G X ρ s) (n : Nat) (h : n ≤ 800) : G.A.units + n + 1 < cLine := by
  have := o.g.units
  have : cLine = 9900 := rfl
  (lia)

theorem Ok.unitsLt {X : Addr → Prop} {s : Shared} (o : Ok C G X ρ s) : G.A.units + 1 < cLine := o.unitsOk 0 (Nat.zero_le _)
theorem OpW.eq_str {a b c : List Nat} (e : b = c) (h : Q (.bool (decide (a = c)))) : OpW C G [.str a, .str b] (cop .Eq) Q Z := .two fun ρ X s v w o r1 r2 => by
  obtain ⟨t, rfl⟩ := r1; obtain ⟨u, rfl⟩ := r2
  subst e
  rw [← beq_dec, ← str_mk_beq] at h
  exact RcAt.str_str ⟨a.toArray⟩ t ⟨b.toArray⟩ u C.prog C.w _ _ (VP.of (Step.refl o.inv) .mkBool h)
theorem OpW.eq_none_str {b : List Nat} (h : Q (.bool false)) : OpW C G [.none, .str b] (cop .Eq) Q Z := .two fun ρ X s v w o r1 r2 => by
  obtain rfl := r1; obtain ⟨u, rfl⟩ := r2
  exact RcAt.none_str ⟨b.toArray⟩ u C.prog C.w _ _ (VP.of (Step.refl o.inv) .mkBool h)
theorem int_dec (a b : Nat) : ((a : Int) == (b : Int)) = decide (a = b) := (beq_dec _ _).trans (decide_eq_decide.mpr Int.ofNat_inj)
theorem OpW.eq_int {a b : Nat} (h : Q (.bool (decide (a = b)))) : OpW C G [.int (a : Int), .int (b : Int)] (cop .Eq) Q Z := .two fun ρ X s v w o r1 r2 => by
  obtain ⟨t, rfl⟩ := r1; obtain ⟨u, rfl⟩ := r2
  rw [← int_dec] at h
  exact RcAt.int_int a t b u C.prog C.w _ _ (VP.of (Step.refl o.inv) .mkBool h)
theorem OpW.ne_int {a b : Nat} (h : Q (.bool (!decide (a = b)))) : OpW C G [.int (a : Int), .int (b : Int)] (cop .NotEq) Q Z := .two fun ρ X s v w o r1 r2 => by
  obtain ⟨t, rfl⟩ := r1; obtain ⟨u, rfl⟩ := r2
  rw [← int_dec] at h
  exact RcNeAt.int_int a t b u C.prog C.w _ _ (VP.of (Step.refl o.inv) .mkBool h)
theorem OpW.eq_nil {ds : List D} (h : Q (.bool ds.isEmpty)) : OpW C G [.list ds, .list []] (cop .Eq) Q Z := .two fun ρ X s v w o r1 r2 =>
  rc_nil (Nat.lt_of_succ_lt o.unitsLt) r1 r2 C.prog C.w _ _ (VP.of (Step.refl o.inv) .mkBool h)
theorem OpW.ne_same {ds : List D} (S : ∀ d ∈ ds, Sc2 d) (h : Q (.bool false)) : OpW C G [.list ds, .list ds] (cop .NotEq) Q Z := .two fun ρ X s v w o r1 r2 =>
  rcn_same S o.unitsLt r1 r2 C.prog C.w _ _ (VP.of (Step.refl o.inv) .mkBool h)

theorem OpW.lt_int {a b : Int} (h : Q (.bool (decide (a < b)))) : OpW C G [.int a, .int b] (cop .Lt) Q Z := .two fun ρ X s v w o r1 r2 => by
  obtain ⟨t, rfl⟩ := r1; obtain ⟨u, rfl⟩ := r2
  exact PySem.P.lt_int (VP.of (Step.refl o.inv) .mkBool h)
theorem OpW.ge_int {a b : Int} (h : Q (.bool (decide (b ≤ a)))) : OpW C G [.int a, .int b] (cop .GtE) Q Z := .two fun ρ X s v w o r1 r2 => by
  obtain ⟨t, rfl⟩ := r1; obtain ⟨u, rfl⟩ := r2
  exact PySem.P.ge_int (VP.of (Step.refl o.inv) .mkBool h)
noncomputable def TrW (C : Cx) (G : Fc) (d : D) (Q : Bool → Prop) (Z : Exn → Prop) : Prop :=
  ∀ ρ X s v, Ok C G X ρ s → Rep C X s.heap v d → wpAny C.M G.A (truthy v) (BP C s Q) (XP C s Z) s
variable {R : Bool → Prop}
noncomputable abbrev kTr (C : Cx) (G : Fc) (R : Bool → Prop) (Z : Exn → Prop) (c : D) : Prop := TrW C G c R Z
theorem TrW.bool {b : Bool} (h : R b) : TrW C G (.bool b) R Z := fun ρ X s v o r => by
  obtain rfl := r
  exact wpAny_truthy_bool ⟨Step.refl o.inv, h⟩
theorem TsW.cmp1 {l r : Expr} {op : CmpOp} {pos : Pos} (h : EvW C G ρ l (kEv2 C G ρ r (cop op) (kTr C G R Z) Z) Z) (hm : behindInMarks op r = false := by rfl) : TsW C G ρ (.Compare l [op] [r] pos) R Z := fun X s o => by
  refine wpAny_isTrue_Compare1 ?_ hm
  refine wpAny_mono (h X s o) (fun v s₁ q9 => ?_) fun _ _ x => x
  obtain ⟨st, d, rv, p⟩ := q9
  refine wpAny_mono (p X s₁ (o.step st)) (fun v' s₂ q9 => ?_) fun _ _ x => x.back o.inv st
  obtain ⟨st', d', rv', p'⟩ := q9
  refine wpAny_mono (p' ρ X s₂ [v, v'] ((o.step st).step st') (.mk2 (rv.step st.inv st') rv')) (fun v s' q9 => ?_) fun _ _ x => (x.back st.inv st').back o.inv st
  obtain ⟨st₃, d₃, r₃, p₃⟩ := q9
  exact wpAny_mono (p₃ ρ X s' v (((o.step st).step st').step st₃) r₃) (fun _ _ x => ((x.back st₃).back st').back st) fun _ _ x => ((x.back st'.inv st₃).back st.inv st').back o.inv st

theorem TsW.not {x : Expr} {pos : Pos} (h : TsW C G ρ x (fun b => R (!b)) Z) : TsW C G ρ (.UnaryOp .Not x pos) R Z := fun X s o =>
  wpAny_isTrue_Not (wpAny_mono (h X s o) (fun _ _ x => ⟨x.1, x.2⟩) fun _ _ x => x)

noncomputable def AllW (C : Cx) (G : Fc) (ρ : Vars) (op : BoolOp) (es : List Expr) (R : Bool → Prop) (Z : Exn → Prop) : Prop :=
  ∀ X s, Ok C G X ρ s → wpAny C.M G.A (allTrue op es G.env) (BP C s R) (XP C s Z) s
noncomputable abbrev kAnd (C : Cx) (G : Fc) (ρ : Vars) (es : List Expr) (R : Bool → Prop) (Z : Exn → Prop) (b : Bool) : Prop := (b = true → AllW C G ρ .And es R Z) ∧ (b = false → R false)
noncomputable abbrev kOr (C : Cx) (G : Fc) (ρ : Vars) (es : List Expr) (R : Bool → Prop) (Z : Exn → Prop) (b : Bool) : Prop := (b = true → R true) ∧ (b = false → AllW C G ρ .Or es R Z)
noncomputable abbrev kIfE (C : Cx) (G : Fc) (ρ : Vars) (b c : Expr) (Q : D → Prop) (Z : Exn → Prop) (k : Bool) : Prop := (k = true → EvW C G ρ b Q Z) ∧ (k = false → EvW C G ρ c Q Z)
theorem AllW.and_nil (h : R true) : AllW C G ρ .And [] R Z := fun X s o => wpAny_allTrue_And_nil ⟨Step.refl o.inv, h⟩
theorem AllW.or_nil (h : R false) : AllW C G ρ .Or [] R Z := fun X s o => wpAny_allTrue_Or_nil ⟨Step.refl o.inv, h⟩
theorem AllW.and_cons {e : Expr} {es : List Expr} (h : TsW C G ρ e (kAnd C G ρ es R Z) Z) : AllW C G ρ .And (e :: es) R Z := fun X s o => by
  refine wpAny_allTrue_And_cons (wpAny_mono (h X s o) (fun b s₁ q9 => ?_) fun _ _ x => x)
  obtain ⟨st, p⟩ := q9
  cases b with
  | true => exact wpAny_mono (p.1 rfl X s₁ (o.step st)) (fun _ _ x => x.back st) fun _ _ x => x.back o.inv st
  | false => exact ⟨st, p.2 rfl⟩
theorem AllW.or_cons {e : Expr} {es : List Expr} (h : TsW C G ρ e (kOr C G ρ es R Z) Z) : AllW C G ρ .Or (e :: es) R Z := fun X s o => by
  refine wpAny_allTrue_Or_cons (wpAny_mono (h X s o) (fun b s₁ q9 => ?_) fun _ _ x => x)
  obtain ⟨st, p⟩ := q9
  cases b with
  | false => exact wpAny_mono (p.2 rfl X s₁ (o.step st)) (fun _ _ x => x.back st) fun _ _ x => x.back o.inv st
  | true => exact ⟨st, p.1 rfl⟩
theorem TsW.boolOp {op : BoolOp} {es : List Expr} {pos : Pos} (h : AllW C G ρ op es R Z) : TsW C G ρ (.BoolOp op es pos) R Z := fun X s o => wpAny_isTrue_BoolOp (h X s o)

noncomputable def plainTest : Expr → Bool
  | .UnaryOp .Not _ _ => false
  | .BoolOp .. => false
  | .IfExp .. => false
  | .Compare .. => false
  | _ => true
theorem isTrue_plain {e : Expr} {env : Env} {whole : Sem Value} (h : plainTest e = true) : isTrue e env whole = (do let v ← whole; standAt e.pos; holding [v] (truthy v)) := by
  cases e <;> first | rfl | (exact Bool.noConfusion (show false = true from h)) | skip
  rename_i op x p
  cases op <;> first | rfl | (exact Bool.noConfusion (show false = true from h))
theorem TsW.val {e : Expr} (hp : plainTest e = true) (h : EvW C G ρ e (kTr C G R Z) Z) : TsW C G ρ e R Z := fun X s o => by
  rw [isTrue_plain hp]
  refine wpAny_bind (wpAny_mono (h X s o) (fun v s₁ q9 => ?_) fun _ _ x => x)
  obtain ⟨st, d, rv, p⟩ := q9
  exact wpAny_bind (wpAny_standAt (wpAny_holding (wpAny_mono (p ρ X s₁ v (o.step st) rv) (fun _ _ x => x.back st) fun _ _ x => x.back o.inv st)))

theorem EvW.ifExp {t b c : Expr} {pos : Pos} (h : TsW C G ρ t (kIfE C G ρ b c Q Z) Z) : EvW C G ρ (.IfExp t b c pos) Q Z := fun X s o => by
  refine wpAny_IfExp (wpAny_mono (h X s o) (fun k s₁ q9 => ?_) fun _ _ x => x)
  obtain ⟨st, p⟩ := q9
  cases k with
  | true => exact wpAny_mono (p.1 rfl X s₁ (o.step st)) (fun _ _ x => x.back st) fun _ _ x => x.back o.inv st
  | false => exact wpAny_mono (p.2 rfl X s₁ (o.step st)) (fun _ _ x => x.back st) fun _ _ x => x.back o.inv st

noncomputable def notStar : Expr → Bool
  | .Starred .. => false
  | _ => true
variable {S : List D → Prop}
theorem EsW.nil (h : S []) : EsW C G ρ [] S Z := fun X s pos o => wpAny_items_nil ⟨Step.refl o.inv, [], trivial, h⟩
theorem starEach_cons {e : Expr} {es : List Expr} {env : Env} (h : notStar e = true) : starEach (e :: es) env = (false, eval e env) :: starEach es env := by
  cases e <;> first | rfl | (exact Bool.noConfusion (show false = true from h))
noncomputable abbrev kCons (S : List D → Prop) (d : D) (ds : List D) : Prop := S (d :: ds)
noncomputable abbrev kEs (C : Cx) (G : Fc) (ρ : Vars) (es : List Expr) (S : List D → Prop) (Z : Exn → Prop) (d : D) : Prop := EsW C G ρ es (kCons S d) Z
noncomputable abbrev kLen (S : List D → Prop) (ds : List D) : Prop := ds.length ≤ sizeLine ∧ S ds
noncomputable abbrev kTup (Q : D → Prop) (ds : List D) : Prop := ds.length ≤ sizeLine ∧ Q (.tup ds)
noncomputable abbrev kList (Q : D → Prop) (ds : List D) : Prop := Q (.list ds)
theorem EsW.cons {e : Expr} {es : List Expr} (h : EvW C G ρ e (kEs C G ρ es S Z) Z) (hs : notStar e = true := by rfl) : EsW C G ρ (e :: es) S Z := fun X s pos o => by
  refine wpAny_items_cons ?_ (starEach_cons hs)
  refine wpAny_mono (h X s o) (fun v s₁ q9 => ?_) fun _ _ x => x
  obtain ⟨st, d, rv, p⟩ := q9
  exact wpAny_mono (p X s₁ pos (o.step st)) (fun vs s₂ ⟨st', ds, rs, q⟩ => ⟨st.trans st', d :: ds, And.intro (rv.step st.inv st') rs, q⟩) fun _ _ x => x.back o.inv st

theorem get_size (h : Heap) : h.get? h.objs.size = Option.none := by
  cases e : h.get? h.objs.size with
  | none => rfl
  | some o => exact absurd (Heap.lt_size e) (Nat.lt_irrefl _)
theorem Ok.freshX {X : Addr → Prop} {s : Shared} (o : Ok C G X ρ s) : ¬ X s.heap.objs.size := fun h => by
  obtain ⟨ob, e, _⟩ := o.x _ h
  rw [get_size] at e; cases e
theorem Step.push {s : Shared} (i : Inv C s) (ob : Obj) : Step C s { s with heap := s.heap.push ob } := Step.keeps (tk := s.toks) (dr := s.drawn) i fun b o e => Heap.get?_push_of_some ob e

theorem PL.keep {s : Shared} {h' : Heap} (i : Inv C s) (k : Keep C s.heap h') {a : Addr} {vs : Array Value} (x : s.heap.PlainList a vs) : h'.PlainList a vs := (by obtain ⟨n, e⟩ := x; exact ⟨n, k.get e (i.notTab e (by simp)) (by simp)⟩)
theorem PL.keepV {h h' : Heap} (k : ∀ b o, h.get? b = some o → Val o → h'.get? b = some o) {a : Addr} {vs : Array Value} (x : h.PlainList a vs) : h'.PlainList a vs := (by obtain ⟨n, e⟩ := x; exact ⟨n, k a _ e ⟨by simp, by simp, by simp⟩⟩)
noncomputable def FvP (C : Cx) (X : Addr → Prop) (s : Shared) (S : List D → Prop) (v : Value) (s' : Shared) : Prop :=
  Step C s s' ∧ ∃ a vs ds, v = .ref a ∧ s.heap.get? a = Option.none ∧ s'.heap.PlainList a (List.toArray vs) ∧ Reps C (fun c => c = a ∨ X c) s'.heap vs ds ∧ S ds
noncomputable def FvW (C : Cx) (G : Fc) (ρ : Vars) (e : Expr) (S : List D → Prop) (Z : Exn → Prop) : Prop :=
  ∀ X s, Ok C G X ρ s → wpAny C.M G.A (eval e G.env) (FvP C X s S) (XP C s Z) s
theorem FvP.back {X : Addr → Prop} {s s₁ s' : Shared} {v : Value} (i : Inv C s) (st : Step C s s₁) (x : FvP C X s₁ S v s') : FvP C X s S v s' :=
  by obtain ⟨a, b, vs, ds, h1, h2, h3, h4, h5⟩ := x; exact ⟨st.trans a, b, vs, ds, h1, st.fresh i h2, h3, h4, h5⟩
theorem FvP.vp {X : Addr → Prop} {s s' : Shared} {v : Value} (o : Ok C G X ρ s) (x : FvP C X s S v s') : VP C X s (fun d => ∃ ds, d = .list ds ∧ S ds) v s' := by
  obtain ⟨st, a, vs, ds, rfl, h2, h3, h4, h5⟩ := x
  refine ⟨st, .list ds, ?_, ds, rfl, h5⟩
  refine Exists.intro a ⟨vs, rfl, fun hx => ?_, h3.isList, h4.mono fun _ q => .inr q⟩
  obtain ⟨ob, e, _⟩ := o.x a hx; rw [h2] at e; cases e
theorem FvW.ev {e : Expr} (h : FvW C G ρ e (kList Q) Z) : EvW C G ρ e Q Z := fun X s o =>
  wpAny_mono (h X s o) (fun v s' x => (by obtain ⟨st, d, r, ds, e1, e2⟩ := x.vp o; exact ⟨st, d, r, e1 ▸ e2⟩)) fun _ _ x => x

theorem FvP.new {X : Addr → Prop} {s s₁ : Shared} {vs : List Value} {ds : List D} (o : Ok C G X ρ s) (st : Step C s s₁) (r : Reps C X s₁.heap vs ds) (h : S ds) :
    FvP C X s S (.ref s₁.heap.objs.size) { s₁ with heap := s₁.heap.push { cls := .type "list", data := .seq vs.toArray } } := by
  have sp := Step.push st.inv { cls := .type "list", data := .seq vs.toArray }
  refine ⟨st.trans sp, _, vs, ds, rfl, st.fresh o.inv (get_size _), ⟨_, Heap.get?_push_size _ rfl⟩, (r.avoid (get_size _)).step st.inv sp, h⟩

theorem FvW.list {es : List Expr} {pos : Pos} (h : EsW C G ρ es (kLen S) Z) : FvW C G ρ (.List es pos) S Z := fun X s o => by
  refine wpAny_List (wpAny_mono (h X s pos o) (fun vs s₁ q9 => ?_) fun _ _ x => x)
  obtain ⟨st, ds, rs, hl, q⟩ := q9
  exact ⟨by rw [rs.length]; exact hl, FvP.new o st rs q⟩
theorem EvW.tuple {es : List Expr} {k : Nat} {pos : Pos} (h : EsW C G ρ es (kTup Q) Z) : EvW C G ρ (.Tuple es k pos) Q Z := fun X s o => by
  refine wpAny_Tuple (wpAny_mono (h X s pos o) (fun vs s₁ q9 => ?_) fun _ _ x => x)
  obtain ⟨st, ds, rs, hl, q⟩ := q9
  have sp := Step.push st.inv { cls := .type "tuple", data := .seq vs.toArray }
  refine ⟨by rw [rs.length]; exact hl, VP.of (st.trans sp) ?_ q⟩
  exact Exists.intro _ ⟨vs, rfl, ⟨_, Heap.get?_push_size _ rfl, rfl, _, rfl⟩, rs.step st.inv sp⟩

end
end Mine

end
section
open PySem PySem.W PySem.Calls PyProof.Rows PySem.Builtin PySem.Builtin.Str
set_option Elab.async false
set_option maxRecDepth 100000

namespace Mine
section
variable {C : Cx} {G : Fc} {ρ : Vars} {Q : D → Prop} {Z : Exn → Prop} {S : List D → Prop}

noncomputable def isSlice : Expr → Bool
  | .Slice .. => true
  | _ => false
theorem subscripted_idx {slice : Expr} (h : isSlice slice = false) (o i : Value) : subscripted slice false o i = operate [o, i] (getItem o i) := by
  cases slice <;> first | rfl | (exact Bool.noConfusion (show true = false from h))

theorem EvW.sub {value slice : Expr} {pos : Pos} (h : EvW C G ρ value (kEv2 C G ρ slice (subT value slice) Q Z) Z) : EvW C G ρ (.Subscript value slice pos) Q Z := fun X s o => by
  refine PyProof.Rows.Subscript_ (wpAny_mono (h X s o) (fun v s₁ q9 => ?_) fun _ _ x => x)
  obtain ⟨st, d, rv, p⟩ := q9
  refine wpAny_mono (p X s₁ (o.step st)) (fun v' s₂ q9 => ?_) fun _ _ x => x.back o.inv st
  obtain ⟨st', d', rv', p'⟩ := q9
  exact wpAny_mono (p' ρ X s₂ [v, v'] ((o.step st).step st') (.mk2 (rv.step st.inv st') rv')) (fun v s' x => (x.back st').back st) fun _ _ x => (x.back st.inv st').back o.inv st

theorem OpW.idx_str {value slice : Expr} {l : List Nat} {k : Int} {j c : Nat} (hlo : -(2 ^ 63) ≤ k) (hhi : k < 2 ^ 63) (hj : seqIndex? k l.length = some j) (hc : l[j]? = some c) (h : Q (.str [c])) (hs : isSlice slice = false := by rfl) :
    OpW C G [.str l, .int k] (subT value slice) Q Z := .two fun ρ X s v w o r1 r2 => by
  obtain ⟨t, rfl⟩ := r1; obtain ⟨u, rfl⟩ := r2
  refine PyProof.Rows.tail_any (typeIs_str s _ t) PySem.F.slot_str_getitem.lookup ?_ (subscripted_idx hs _ _)
  refine PySem.P.getItem_str (c := c) (by simp; (lia)) ?_ (VP.of (Step.tok o.inv _) (.mkStr rfl) h)
  show (seqIndex? k (List.toArray l).size).bind ((List.toArray l)[·]?) = some c
  simp only [List.size_toArray, hj, Option.bind_some]
  simpa using hc
theorem seqIndex_nonneg {k : Int} {n : Nat} (h0 : 0 ≤ k) (hn : k < n) : seqIndex? k n = some k.toNat := PySem.seqIndex_of h0 hn
theorem seqIndex_negative {k : Int} {n : Nat} (h0 : k < 0) (h1 : -(n : Int) ≤ k) : seqIndex? k n = some (k + n).toNat := PySem.seqIndex_neg h0 h1
theorem OpW.idx_str' {value slice : Expr} {l : List Nat} {k : Int} (h0 : 0 ≤ k) (hn : k < l.length) (hl : l.length < 2 ^ 62) (h : Q (.str [l.getD k.toNat 0])) (hs : isSlice slice = false := by rfl) :
    OpW C G [.str l, .int k] (subT value slice) Q Z :=
  OpW.idx_str (by (lia)) (by (lia)) (seqIndex_nonneg h0 hn) (by rw [List.getElem?_eq_getElem (show k.toNat < l.length by (lia))]; simp [List.getD_eq_getElem?_getD, show k.toNat < l.length by (lia)]) h hs

theorem OpW.idx_list {value slice : Expr} {l : List D} {k : Int} {j : Nat} {c : D} (hlo : -(2 ^ 63) ≤ k) (hhi : k < 2 ^ 63) (hj : seqIndex? k l.length = some j) (hc : l[j]? = some c) (h : Q c) (hs : isSlice slice = false := by rfl) :
    OpW C G [.list l, .int k] (subT value slice) Q Z := .two fun ρ X s v w o r1 r2 => by
  obtain ⟨a, vs, rfl, hX, h1, h2⟩ := r1; obtain ⟨u, rfl⟩ := r2
  obtain ⟨x, e1, q1⟩ := h2.get hc
  have hjl : j < l.length := (List.getElem?_eq_some_iff.mp hc).1
  refine PyProof.Rows.tail_any h1.typeIs slot_list_getitem.lookup ?_ (subscripted_idx hs _ _)
  by_cases h0 : 0 ≤ k
  · have hk : k < (l.length : Int) := by
      apply Decidable.byContradiction; intro hn
      have := PyProof.Rows.seqIndex_none (i := k) (n := l.length) (.inr (by (lia)))
      rw [this] at hj; cases hj
    rw [seqIndex_nonneg h0 hk] at hj; cases hj
    exact PySem.wpAny_getItem_list h1 h0 hhi (by simpa using e1) (VP.of (Step.refl o.inv) q1 h)
  · have hk : -(l.length : Int) ≤ k := by
      apply Decidable.byContradiction; intro hn
      have := PyProof.Rows.seqIndex_none (i := k) (n := l.length) (.inl (by (lia)))
      rw [this] at hj; cases hj
    rw [seqIndex_negative (by (lia)) hk] at hj; cases hj
    refine PySem.wpAny_getItem_list_neg h1 (by (lia)) (by simp [h2.length]; (assumption)) hlo ?_ (VP.of (Step.refl o.inv) q1 h)
    simpa [h2.length] using e1
theorem OpW.idx_list' {value slice : Expr} {l : List D} {k : Int} (h0 : 0 ≤ k) (hn : k < l.length) (hl : l.length < 2 ^ 62) (h : Q (l.getD k.toNat .none)) (hs : isSlice slice = false := by rfl) :
    OpW C G [.list l, .int k] (subT value slice) Q Z :=
  OpW.idx_list (by (lia)) (by (lia)) (seqIndex_nonneg h0 hn) (by rw [List.getElem?_eq_getElem (show k.toNat < l.length by (lia))]; simp [List.getD_eq_getElem?_getD, show k.toNat < l.length by (lia)]) h hs
noncomputable def EoW (C : Cx) (G : Fc) (ρ : Vars) (e : Option Expr) (Q : D → Prop) (Z : Exn → Prop) : Prop :=
  ∀ X s, Ok C G X ρ s → wpAny C.M G.A (evalPart e G.env) (VP C X s Q) (XP C s Z) s
theorem EoW.none (h : Q .none) : EoW C G ρ Option.none Q Z := fun X s o => by rw [evalPart_none]; exact wpAny_pure (VP.of (Step.refl o.inv) .mkNone h)
theorem EoW.some {e : Expr} (h : EvW C G ρ e Q Z) : EoW C G ρ (some e) Q Z := fun X s o => by rw [evalPart_some]; exact h X s o

noncomputable def D.bound? : D → Option (Option Int)
  | .none => some Option.none
  | .int i => some (some i)
  | _ => Option.none
noncomputable def pslice {α : Type} (lo hi : Option Int) (xs : List α) : List α := (xs.drop (lo.elim 0 (clipAt xs.length))).take (hi.elim xs.length (clipAt xs.length) - lo.elim 0 (clipAt xs.length))

theorem bound_part {X : Addr → Prop} {h : Heap} {v : Value} {d : D} {b : Option Int} (e : d.bound? = some b) (r : Rep C X h v d) : ∃ p : Option (Int × Tok), v = partValue p ∧ p.map (·.1) = b := by
  cases d <;> simp only [D.bound?, Option.some.injEq, reduceCtorEq] at e
  · subst e; exact ⟨Option.none, r, rfl⟩
  · subst e; obtain ⟨t, rfl⟩ := r; exact ⟨some (_, t), rfl, rfl⟩
theorem bound_isPart {X : Addr → Prop} {h : Heap} {v : Value} {d : D} {b : Option Int} (e : d.bound? = some b) (r : Rep C X h v d) : IsPart v b := by
  cases d <;> simp only [D.bound?, Option.some.injEq, reduceCtorEq] at e
  · subst e; obtain rfl := r; exact IsPart.none
  · subst e; obtain ⟨t, rfl⟩ := r; exact IsPart.int _ _

theorem strSlice_idx (lo hi : Option Int) (n : Nat) : strSliceIndices lo hi 1 n = (List.range (hi.elim n (clipAt n) - lo.elim 0 (clipAt n))).map (lo.elim 0 (clipAt n) + ·) := by
  have : strSliceIndices lo hi 1 n = sliceRange ((lo.elim 0 (clipAt n) : Nat) : Int) ((hi.elim n (clipAt n) : Nat) : Int) 1 := by
    unfold strSliceIndices
    simp only [show (1 : Int) > 0 from by decide, if_true]
    cases lo <;> cases hi <;> simp only [Option.elim, clipAt_cast] <;> rfl
  rw [this, sliceRange_one]
theorem strSlice_eq (lo hi : Option Int) (l : List Nat) : (strSliceIndices lo hi 1 l.length).filterMap ((List.toArray l)[·]?) = pslice lo hi l := by
  rw [strSlice_idx, pick_run]
  rfl
theorem clipAt_le (n : Nat) (i : Int) : clipAt n i ≤ n := by unfold clipAt; (lia)
theorem pslice_full {α : Type} {lo hi : Option Int} {l : List α} (h : (strSliceIndices lo hi 1 l.length).length = l.length) : pslice lo hi l = l := by
  rw [strSlice_idx] at h
  simp only [List.length_map, List.length_range] at h
  have h1 : hi.elim l.length (clipAt l.length) ≤ l.length := by cases hi <;> simp [clipAt_le]
  unfold pslice
  by_cases h0 : l.length = 0
  · rw [List.eq_nil_of_length_eq_zero h0]; simp
  · have ha : lo.elim 0 (clipAt l.length) = 0 := by (lia)
    have hb : hi.elim l.length (clipAt l.length) = l.length := by (exact Nat.le_antisymm (lin1 h1 (by simp +arith only)) (lin2 (Nat.le_of_eq (Eq.symm h)) (subu (a := hi.elim l.length (clipAt l.length)) (b := lo.elim 0 (clipAt l.length)) (lin1 (Nat.le_of_eq ha) (by simp +arith only))) (by simp +arith only)))
    rw [ha, hb]; simp
theorem pslice_length_le {α : Type} (lo hi : Option Int) (l : List α) : (pslice lo hi l).length ≤ l.length := by
  unfold pslice; simp only [List.length_take, List.length_drop]; (exact lin2 (Nat.min_le_right (hi.elim l.length (clipAt l.length) - lo.elim 0 (clipAt l.length)) (l.length - lo.elim 0 (clipAt l.length))) (Nat.sub_le (l.length) (lo.elim 0 (clipAt l.length))) (by simp +arith only))

noncomputable abbrev kSl3 (Q : D → Prop) (a l u : D) : Prop :=
    (∃ xs bl bu, a = .str xs ∧ l.bound? = some bl ∧ u.bound? = some bu ∧ xs.length ≤ sizeLine ∧ Q (.str (pslice bl bu xs))) ∨
    (∃ xs bl bu, a = .list xs ∧ l.bound? = some bl ∧ u.bound? = some bu ∧ xs.length ≤ sizeLine ∧ Q (.list (pslice bl bu xs)))
noncomputable abbrev kSl2 (C : Cx) (G : Fc) (ρ : Vars) (hi : Option Expr) (Q : D → Prop) (Z : Exn → Prop) (a l : D) : Prop := EoW C G ρ hi (kSl3 Q a l) Z
noncomputable abbrev kSl1 (C : Cx) (G : Fc) (ρ : Vars) (lo hi : Option Expr) (Q : D → Prop) (Z : Exn → Prop) (a : D) : Prop := EoW C G ρ lo (kSl2 C G ρ hi Q Z a) Z
theorem EvW.slice {value : Expr} {lo hi : Option Expr} {p pos : Pos} (h : EvW C G ρ value (kSl1 C G ρ lo hi Q Z) Z) :
    EvW C G ρ (.Subscript value (.Slice lo hi Option.none p) pos) Q Z := fun X s o => by
  refine PyProof.Rows.Subscript_ (wpAny_mono (h X s o) (fun v s₁ q9 => ?_) fun _ _ x => x)
  obtain ⟨st, d, rv, p₁⟩ := q9
  refine PySem.wpAny_Slice (wpAny_mono (p₁ X s₁ (o.step st)) (fun vl s₂ q9 => ?_) fun _ _ x => x.back o.inv st)
  obtain ⟨st₂, dl, rl, p₂⟩ := q9
  refine wpAny_mono (p₂ X s₂ ((o.step st).step st₂)) (fun vu s₃ q9 => ?_) fun _ _ x => (x.back st.inv st₂).back o.inv st
  obtain ⟨st₃, du, ru, p₃⟩ := q9
  rw [evalPart_none]
  refine wpAny_pure ?_
  have sp := Step.push st₃.inv { cls := .type "slice", data := .fields #[vl, vu, .none] }
  have sall := ((st.trans st₂).trans st₃).trans sp
  have rl' := rl.step st₂.inv st₃
  rcases p₃ with ⟨xs, bl, bu, rfl, e1, e2, hsz, q⟩ | ⟨xs, bl, bu, rfl, e1, e2, hsz, q⟩
  · obtain ⟨t, rfl⟩ := rv
    obtain ⟨pl, rfl, hpl⟩ := bound_part e1 rl'
    obtain ⟨pu, rfl, hpu⟩ := bound_part e2 ru
    refine PyProof.Rows.tail_any (typeIs_str _ _ t) PySem.F.slot_str_getitem.lookup ?_ rfl
    refine PySem.wpAny_getItem_str_slice (l := pl) (u := pu) (st := Option.none) ⟨_, Heap.get?_push_size _ rfl, rfl, rfl⟩ rfl ?_
    have hpick : (slicePicked ⟨xs.toArray⟩ pl pu Option.none).filterMap ((List.toArray xs)[·]?) = pslice bl bu xs := by
      unfold slicePicked
      rw [hpl, hpu]
      exact strSlice_eq bl bu xs
    unfold sliceMade
    split
    · rename_i hc
      refine VP.of sall (.mkStr ?_) q
      show xs.toArray.toList = _
      simp only [Bool.and_eq_true, beq_iff_eq] at hc
      have h2 : (strSliceIndices bl bu 1 xs.length).length = xs.length := by
        have := hc.2
        unfold slicePicked at this
        rw [hpl, hpu] at this
        exact this
      rw [pslice_full h2]
    · refine ⟨?_, VP.of (sall.toks _) (.mkStr ?_) q⟩
      · show (List.toArray _).size ≤ _
        rw [hpick, List.size_toArray]
        exact Nat.le_trans (pslice_length_le _ _ _) hsz
      · show (List.toArray _).toList = _
        rw [hpick]
  · have rv' := (rv.step st.inv st₂).step st₂.inv st₃
    obtain ⟨a, vs, rfl, hX, h1, h2⟩ := rv'
    have h1' := IsList.keep st₃.inv sp.keep h1
    refine PyProof.Rows.tail_any h1'.typeIs slot_list_getitem.lookup ?_ rfl
    refine PySem.wpAny_getItem_list_slice (lo := bl) (hi := bu) (st := Option.none) h1' ⟨_, Heap.get?_push_size _ rfl, rfl, rfl⟩ (bound_isPart e1 rl') (bound_isPart e2 ru) .none (by simp) ?_ (by simpa [h2.length] using hsz)
    have hpick : slicePick (List.toArray vs) bl bu Option.none = (pslice bl bu vs).toArray := by
      rw [slicePick_plain]; simp [pslice]
    rw [hpick]
    have rs := ((h2.step st₃.inv sp).drop (bl.elim 0 (clipAt vs.length))).take (bu.elim vs.length (clipAt vs.length) - bl.elim 0 (clipAt vs.length))
    have hds : (xs.drop (bl.elim 0 (clipAt vs.length))).take (bu.elim vs.length (clipAt vs.length) - bl.elim 0 (clipAt vs.length)) = pslice bl bu xs := by unfold pslice; rw [h2.length]
    rw [hds] at rs
    have := FvP.new (S := fun ds => Q (.list ds)) o sall rs q
    obtain ⟨st', d, r, ds, e1, e2⟩ := this.vp o
    exact ⟨st', d, r, e1 ▸ e2⟩

end
end Mine

end
section
open PySem PySem.W PySem.Calls PyProof.Rows PySem.Builtin PySem.Builtin.Str
set_option Elab.async false
set_option maxRecDepth 100000

namespace Mine
section
variable {C : Cx} {G : Fc} {ρ : Vars} {Q : D → Prop} {Z : Exn → Prop} {S : List D → Prop}

noncomputable def callV (f : Value) : List Value → Sem Value := fun vs => call f vs

noncomputable def Means (C : Cx) (x : Str) (v : Value) : Prop := CxOk C → C.mg x = some v ∨ (C.mg x = Option.none ∧ C.mb x = some v)
theorem loadGlob {x : Str} {pos : Pos} {v : Value} {X : Addr → Prop} {s : Shared} {R : Value → Shared → Prop} {E : Value → Shared → Prop} (o : Ok C G X ρ s) (hx : G.env.kindOf x = some .globalImplicit) (hm : Means C x v) (h : R v s) (hd : (x == ("__debug__" : Str)) = false) :
    wpAny C.M G.A (eval (.Name x pos) G.env) R E s := by
  refine Name_function_global o.g.kind hx ?_ hd
  have k := o.inv.ok
  have hg : s.heap.Ns G.env.globals C.mg := by rw [o.g.glob]; exact k.g.keeps o.inv.stays
  have hb : s.heap.Ns G.env.builtins C.mb := by rw [o.g.blt]; exact k.b.keeps o.inv.stays
  rcases hm k with h1 | ⟨h1, h2⟩
  · exact loadGlobal_global hg h1 h
  · exact loadGlobal_builtin hg h1 hb h2 h

noncomputable def Callee (C : Cx) (f : Value) : Prop := CxOk C → ∀ M h, C.base.StaysIn h → ∃ k, (k = Keeper.frame ∨ k = Keeper.machine ∨ k = Keeper.boundFrame) ∧ Looks M h (keeperOf f) k
theorem Callee.blt {id : String} : Callee C (.builtin id) := fun _ M h _ => ⟨.machine, .inr (.inl rfl), Looks.of_pure rfl⟩
theorem Callee.ty {id : String} : Callee C (.type id) := fun _ M h _ => ⟨.machine, .inr (.inl rfl), Looks.of_pure rfl⟩
theorem Callee.kin {f : Value} (hk : keepIn C.K f = true) : Callee C f := fun k M h st => keeps_K hk h (k.kin.keeps st)

noncomputable def noStars : List Expr → Bool
  | [] => true
  | e :: es => notStar e && noStars es
theorem noStars_any {env : Env} {pos : Pos} : ∀ {es : List Expr}, noStars es = true → (backTo pos (starEach es env)).any (·.1) = false
  | [], _ => rfl
  | e :: es, h => by
    simp only [noStars, Bool.and_eq_true] at h
    rw [starEach_cons h.1]
    have := noStars_any (env := env) (pos := pos) h.2
    show ((false || (backTo pos (starEach es env)).any (·.1))) = false
    rw [this]; rfl

theorem callWith_core {f : Value} {first : List Value} {es : List Expr} {pos : Pos} {X : Addr → Prop} {s : Shared} {R : Value → Shared → Prop} {E : Value → Shared → Prop} (hf : Callee C f) (hs : noStars es = true) (o : Ok C G X ρ s)
    (h : wpAny C.M G.A (spliced (backTo pos (starEach es G.env))) (fun vs s₁ => Step C s s₁ ∧ wpAny C.M G.A (call f (first ++ vs)) R E s₁) E s) :
    wpAny C.M G.A (callWith pos f first (backTo pos (starEach es G.env)) []) R E s := by
  refine callWith_of (P := fun h => C.base.StaysIn h) ?_ (fun h st => hf o.inv.ok C.M h st) ?_
  · rw [noStars_any hs]; rfl
  · cases es with
    | nil => exact evalArgs_nil3 (by
        have := h
        rw [show backTo pos (starEach [] G.env) = [] from rfl] at this
        obtain ⟨st, h2⟩ := (show Step C s s ∧ wpAny C.M G.A (call f (first ++ [])) R E s from ⟨Step.refl o.inv, by
          have h3 : wpAny C.M G.A (pure []) (fun vs s₁ => Step C s s₁ ∧ wpAny C.M G.A (call f (first ++ vs)) R E s₁) E s := this
          exact fun Γ p hΓ => (h3 Γ p hΓ).2 Γ p hΓ⟩)
        exact ⟨st.inv.stays, h2⟩)
    | cons e es =>
      simp only [noStars, Bool.and_eq_true] at hs
      rw [starEach_cons hs.1] at h ⊢
      exact evalArgs_plain (wpAny_mono h (fun vs s₁ ⟨st, h2⟩ => ⟨st.inv.stays, h2⟩) fun _ _ x => x)

noncomputable abbrev kCall (C : Cx) (G : Fc) (f : Value) (Q : D → Prop) (Z : Exn → Prop) (ds : List D) : Prop := OpW C G ds (callV f) Q Z
theorem EvW.call {x : Str} {np pos : Pos} {es : List Expr} {f : Value} (hx : G.env.kindOf x = some .globalImplicit) (hm : Means C x f) (hf : Callee C f)
    (h : EsW C G ρ es (kCall C G f Q Z) Z) (hs : noStars es = true := by rfl) (hd : (x == ("__debug__" : Str)) = false := by decide) : EvW C G ρ (.Call (.Name x np) es [] pos) Q Z := fun X s o => by
  refine PySem.wpAny_Call_NameR (loadGlob o hx hm ?_ hd)
  refine callWith_core hf hs o (wpAny_mono (h X s pos o) (fun vs s₁ ⟨st, ds, rs, p⟩ => ⟨st, ?_⟩) fun _ _ x => x)
  exact wpAny_mono (p ρ X s₁ vs (o.step st) rs) (fun _ _ x => x.back st) fun _ _ x => x.back o.inv st

theorem EvW.meth {ob : Expr} {name : Str} {apos pos : Pos} {es : List Expr} {T id : String} (pa : PlainAttrs T) (slot : Slot T name id) (hty : typeOf (.builtin id) = pure (.type "method_descriptor"))
    (h : EvW C G ρ ob (fun a => (∀ X s v, Inv C s → Rep C X s.heap v a → s.TypeIs v T ∧ ∀ b, v = .ref b → ∃ ob, s.heap.get? b = some ob ∧ ob.dict = Option.none) ∧ EsW C G ρ es (fun ds => OpW C G (a :: ds) (callV (.builtin id)) Q Z) Z) Z)
    (hbase : ∀ env w, attributeBase ob name env w = w := by intros; rfl) (hs : noStars es = true := by rfl) (hn : es.length < 20 := by decide) (hline : (apos.endLine == pos.line) = true := by rfl) :
    EvW C G ρ (.Call (.Attribute ob name apos) es [] pos) Q Z := fun X s o => by
  refine PySem.wpAny_Call_method (T := T) (id := id) (hbase _ _) ?_ hline pa slot hty ?_
  · have : (backTo pos (starEach es G.env)).all (fun x => !x.1) = true := by
      have := noStars_any (env := G.env) (pos := pos) hs
      rw [List.any_eq_false] at this
      rw [List.all_eq_true]
      intro x hx
      have := this x hx
      simpa using this
    rw [this]
    simp
    refine ⟨fun a b hm => (List.not_mem_nil hm).elim, by (exact Nat.lt_of_lt_of_le (by assumption) (by decide))⟩
  · refine wpAny_mono (h X s o) (fun v s₁ q9 => ?_) fun _ _ x => x
    obtain ⟨st, d, rv, hT, p⟩ := q9
    obtain ⟨t1, t2⟩ := hT X s₁ v st.inv rv
    refine ⟨t1, t2, ?_⟩
    refine callWith_core (first := [v]) Callee.blt hs (o.step st) (wpAny_mono (p X s₁ pos (o.step st)) (fun vs s₂ ⟨st', ds, rs, q⟩ => ⟨st', ?_⟩) fun _ _ x => x.back o.inv st)
    exact wpAny_mono (q ρ X s₂ (v :: vs) ((o.step st).step st') (And.intro (rv.step st.inv st') rs)) (fun _ _ x => (x.back st').back st) fun _ _ x => (x.back st.inv st').back o.inv st

theorem EvW.mStr {ob : Expr} {name : Str} {apos pos : Pos} {es : List Expr} {id : String} (slot : Slot "str" name id) (hty : typeOf (.builtin id) = pure (.type "method_descriptor"))
    (h : EvW C G ρ ob (fun a => ∃ l, a = .str l ∧ EsW C G ρ es (fun ds => OpW C G (.str l :: ds) (callV (.builtin id)) Q Z) Z) Z)
    (hbase : ∀ env w, attributeBase ob name env w = w := by intros; rfl) (hs : noStars es = true := by rfl) (hn : es.length < 20 := by decide) (hline : (apos.endLine == pos.line) = true := by rfl) :
    EvW C G ρ (.Call (.Attribute ob name apos) es [] pos) Q Z :=
  EvW.meth F.plainAttrs_str slot hty (h.mono (fun d ⟨l, e, p⟩ => ⟨fun X s v i r => by
    subst e; obtain ⟨t, rfl⟩ := r; exact ⟨typeIs_str s _ t, fun b e => nomatch e⟩, by subst e; exact p⟩) fun _ x => x) hbase hs hn hline

theorem EvW.m_count {ob : Expr} {apos pos : Pos} {es : List Expr} (h : EvW C G ρ ob (fun a => ∃ l, a = .str l ∧ EsW C G ρ es (fun ds => OpW C G (.str l :: ds) (callV (.builtin "str.count")) Q Z) Z) Z)
    (hbase : ∀ env w, attributeBase ob "count" env w = w := by intros; rfl) (hs : noStars es = true := by rfl) (hn : es.length < 20 := by decide) (hline : (apos.endLine == pos.line) = true := by rfl) : EvW C G ρ (.Call (.Attribute ob "count" apos) es [] pos) Q Z :=
  EvW.mStr F.slot_str_count F.type_str_count h hbase hs hn hline
theorem EvW.m_rindex {ob : Expr} {apos pos : Pos} {es : List Expr} (h : EvW C G ρ ob (fun a => ∃ l, a = .str l ∧ EsW C G ρ es (fun ds => OpW C G (.str l :: ds) (callV (.builtin "str.rindex")) Q Z) Z) Z)
    (hbase : ∀ env w, attributeBase ob "rindex" env w = w := by intros; rfl) (hs : noStars es = true := by rfl) (hn : es.length < 20 := by decide) (hline : (apos.endLine == pos.line) = true := by rfl) : EvW C G ρ (.Call (.Attribute ob "rindex" apos) es [] pos) Q Z :=
  EvW.mStr F.slot_str_rindex F.type_str_rindex h hbase hs hn hline
theorem EvW.m_index {ob : Expr} {apos pos : Pos} {es : List Expr} (h : EvW C G ρ ob (fun a => ∃ l, a = .str l ∧ EsW C G ρ es (fun ds => OpW C G (.str l :: ds) (callV (.builtin "str.index")) Q Z) Z) Z)
    (hbase : ∀ env w, attributeBase ob "index" env w = w := by intros; rfl) (hs : noStars es = true := by rfl) (hn : es.length < 20 := by decide) (hline : (apos.endLine == pos.line) = true := by rfl) : EvW C G ρ (.Call (.Attribute ob "index" apos) es [] pos) Q Z :=
  EvW.mStr F.slot_str_index F.type_str_index h hbase hs hn hline
theorem EvW.m_split {ob : Expr} {apos pos : Pos} {es : List Expr} (h : EvW C G ρ ob (fun a => ∃ l, a = .str l ∧ EsW C G ρ es (fun ds => OpW C G (.str l :: ds) (callV (.builtin "str.split")) Q Z) Z) Z)
    (hbase : ∀ env w, attributeBase ob "split" env w = w := by intros; rfl) (hs : noStars es = true := by rfl) (hn : es.length < 20 := by decide) (hline : (apos.endLine == pos.line) = true := by rfl) : EvW C G ρ (.Call (.Attribute ob "split" apos) es [] pos) Q Z :=
  EvW.mStr F.slot_str_split F.type_str_split h hbase hs hn hline
theorem EvW.m_join {ob : Expr} {apos pos : Pos} {es : List Expr} (h : EvW C G ρ ob (fun a => ∃ l, a = .str l ∧ EsW C G ρ es (fun ds => OpW C G (.str l :: ds) (callV (.builtin "str.join")) Q Z) Z) Z)
    (hbase : ∀ env w, attributeBase ob "join" env w = w := by intros; rfl) (hs : noStars es = true := by rfl) (hn : es.length < 20 := by decide) (hline : (apos.endLine == pos.line) = true := by rfl) : EvW C G ρ (.Call (.Attribute ob "join" apos) es [] pos) Q Z :=
  EvW.mStr F.slot_str_join F.type_str_join h hbase hs hn hline
theorem EvW.m_startswith {ob : Expr} {apos pos : Pos} {es : List Expr} (h : EvW C G ρ ob (fun a => ∃ l, a = .str l ∧ EsW C G ρ es (fun ds => OpW C G (.str l :: ds) (callV (.builtin "str.startswith")) Q Z) Z) Z)
    (hbase : ∀ env w, attributeBase ob "startswith" env w = w := by intros; rfl) (hs : noStars es = true := by rfl) (hn : es.length < 20 := by decide) (hline : (apos.endLine == pos.line) = true := by rfl) : EvW C G ρ (.Call (.Attribute ob "startswith" apos) es [] pos) Q Z :=
  EvW.mStr F.slot_str_startswith F.type_str_startswith h hbase hs hn hline
end
end Mine

end
section
open PySem PySem.W PySem.Calls PyProof.Rows PySem.Builtin PySem.Builtin.Str
set_option Elab.async false
set_option maxRecDepth 100000

namespace Mine
section
variable {C : Cx} {G : Fc} {ρ : Vars} {Q : D → Prop} {Z : Exn → Prop} {S : List D → Prop}

theorem Reps.three {X : Addr → Prop} {h : Heap} {vs : List Value} {d e f : D} (r : Reps C X h vs [d, e, f]) : ∃ v w u, vs = [v, w, u] ∧ Rep C X h v d ∧ Rep C X h w e ∧ Rep C X h u f := by
  obtain ⟨v, ws, rfl, h1, r⟩ := r.uncons
  obtain ⟨w, u, rfl, h2⟩ := r.two
  exact ⟨v, w, u, rfl, h1, h2⟩
theorem Reps.four {X : Addr → Prop} {h : Heap} {vs : List Value} {d e f g : D} (r : Reps C X h vs [d, e, f, g]) : ∃ v w u x, vs = [v, w, u, x] ∧ Rep C X h v d ∧ Rep C X h w e ∧ Rep C X h u f ∧ Rep C X h x g := by
  obtain ⟨v, ws, rfl, h1, r⟩ := r.uncons
  obtain ⟨w, u, x, rfl, h2⟩ := r.three
  exact ⟨v, w, u, x, rfl, h1, h2⟩
theorem OpW.three {d e f : D} {op : List Value → Sem Value} (h : ∀ ρ X s v w u, Ok C G X ρ s → Rep C X s.heap v d → Rep C X s.heap w e → Rep C X s.heap u f → wpAny C.M G.A (op [v, w, u]) (VP C X s Q) (XP C s Z) s) : OpW C G [d, e, f] op Q Z :=
  fun ρ X s vs o r => by obtain ⟨v, w, u, rfl, r1, r2, r3⟩ := r.three; exact h ρ X s v w u o r1 r2 r3
theorem OpW.four {d e f g : D} {op : List Value → Sem Value} (h : ∀ ρ X s v w u x, Ok C G X ρ s → Rep C X s.heap v d → Rep C X s.heap w e → Rep C X s.heap u f → Rep C X s.heap x g → wpAny C.M G.A (op [v, w, u, x]) (VP C X s Q) (XP C s Z) s) : OpW C G [d, e, f, g] op Q Z :=
  fun ρ X s vs o r => by obtain ⟨v, w, u, x, rfl, r1, r2, r3, r4⟩ := r.four; exact h ρ X s v w u x o r1 r2 r3 r4

theorem made_str {X : Addr → Prop} {s : Shared} {x : Str} {l : List Nat} (i : Inv C s) (e : x.cps.toList = l) (hl : l.length ≤ sizeLine) (h : Q (.str l)) : (Made.str x).post (VP C X s Q) s :=
  ⟨by show x.cps.size ≤ _; rw [← Array.length_toList, e]; exact hl, VP.of (Step.tok i _) (.mkStr e) h⟩

theorem OpW.add_str {a b : List Nat} (hl : (a ++ b).length ≤ sizeLine) (h : Q (.str (a ++ b))) : OpW C G [.str a, .str b] (bop .Add) Q Z := .two fun ρ X s v w o r1 r2 => by
  obtain ⟨t, rfl⟩ := r1; obtain ⟨u, rfl⟩ := r2
  refine PySem.P.add_str ?_
  split
  · rename_i hc
    have : a = [] := List.eq_nil_of_length_eq_zero (by simpa [Str.length] using hc)
    subst this
    exact VP.of (Step.refl o.inv) (.mkStr rfl) h
  · split
    · rename_i hc
      have : b = [] := List.eq_nil_of_length_eq_zero (by simpa [Str.length] using hc)
      subst this
      exact VP.of (Step.refl o.inv) (.mkStr (by simp)) h
    · exact made_str o.inv (by show ((List.toArray a) ++ (List.toArray b)).toList = _; simp) hl h
theorem OpW.floordiv_int {a b : Int} (hb : b ≠ 0) (hs : b.natAbs.log2 < 9000) (h : Q (.int (a.fdiv b))) : OpW C G [.int a, .int b] (bop .FloorDiv) Q Z := .two fun ρ X s v w o r1 r2 => by
  obtain ⟨t, rfl⟩ := r1; obtain ⟨u, rfl⟩ := r2
  exact PyProof.Rows.floordiv_int hb (VP.of (Step.tok o.inv _) .mkInt h) (.inl (PyProof.noPylong_of_log2 hs))

theorem FvP.op {X : Addr → Prop} {s : Shared} {vs : List Value} {ds : List D} (o : Ok C G X ρ s) (r : Reps C X s.heap vs ds) (h : S ds) :
    FvP C X s S (.ref s.heap.objs.size) { s with heap := s.heap.push { cls := .type "list", data := .seq vs.toArray } } := FvP.new o (Step.refl o.inv) r h

noncomputable def FoW (C : Cx) (G : Fc) (ds : List D) (op : List Value → Sem Value) (S : List D → Prop) (Z : Exn → Prop) : Prop :=
  ∀ ρ X s vs, Ok C G X ρ s → Reps C X s.heap vs ds → wpAny C.M G.A (op vs) (FvP C X s S) (XP C s Z) s
theorem FoW.op {ds : List D} {op : List Value → Sem Value} (h : FoW C G ds op (fun es => Q (.list es)) Z) : OpW C G ds op Q Z := fun ρ X s vs o r =>
  wpAny_mono (h ρ X s vs o r) (fun v s' x => (by obtain ⟨st, d, r, ds, e1, e2⟩ := x.vp o; exact ⟨st, d, r, e1 ▸ e2⟩)) fun _ _ x => x
theorem FvW.bin {l r : Expr} {op : Operator} {pos : Pos} (h : EvW C G ρ l (fun a => EvW C G ρ r (fun b => FoW C G [a, b] (bop op) S Z) Z) Z) : FvW C G ρ (.BinOp l op r pos) S Z := fun X s o => by
  refine wpAny_BinOp (wpAny_mono (h X s o) (fun v s₁ q9 => ?_) fun _ _ x => x)
  obtain ⟨st, d, rv, p⟩ := q9
  refine wpAny_mono (p X s₁ (o.step st)) (fun v' s₂ q9 => ?_) fun _ _ x => x.back o.inv st
  obtain ⟨st', d', rv', p'⟩ := q9
  exact wpAny_mono (p' ρ X s₂ [v, v'] ((o.step st).step st') (.mk2 (rv.step st.inv st') rv')) (fun v s' x => (x.back st.inv st').back o.inv st) fun _ _ x => (x.back st.inv st').back o.inv st
theorem FoW.add_list {a b : List D} (hl : (a ++ b).length ≤ sizeLine) (h : S (a ++ b)) : FoW C G [.list a, .list b] (bop .Add) S Z := fun ρ X s vs o r => by
  obtain ⟨v, w, rfl, r1, r2⟩ := r.two
  obtain ⟨l, xs, rfl, hX, h1, h2⟩ := r1; obtain ⟨l', ys, rfl, hX', h1', h2'⟩ := r2
  obtain ⟨⟨cls, dd, data, sl⟩, ho, hc, n, hd⟩ := id h1
  obtain ⟨⟨cls2, dd2, data2, sl2⟩, ho2, hc2, n2, hd2⟩ := id h1'
  simp only at hc hd hc2 hd2
  subst hc hd hc2 hd2
  have e : xs.toArray ++ ys.toArray = (xs ++ ys).toArray := by simp
  refine concat_meets ⟨_, ho, rfl⟩ ⟨_, ho2, rfl⟩ noFill_list_add seq_list_add PySem.F.slot_list_add PySem.F.entry_list_add (PySem.F.args_list_add_2 _ _) (list_addW l l' xs.toArray ys.toArray n n2 dd dd2 sl sl2 (by simpa [h2.length, h2'.length] using hl)) ⟨ho, ho2, ?_⟩
  rw [e]
  exact FvP.op o (h2.append h2') h

/-! len, chr, ord, abs .. -/
theorem OpW.len_str {l : List Nat} (hl : l.length < 2 ^ 62) (h : Q (.int l.length)) : OpW C G [.str l] (callV (.builtin "len")) Q Z := .one fun ρ X s v o r1 => by
  obtain ⟨t, rfl⟩ := r1
  refine PySem.P.len_str (by simp [Str.length]; (lia)) (VP.of (Step.tok o.inv _) ?_ h)
  exact .mkInt
theorem OpW.len_list {l : List D} (hl : l.length < 2 ^ 62) (h : Q (.int l.length)) : OpW C G [.list l] (callV (.builtin "len")) Q Z := .one fun ρ X s v o r1 => by
  obtain ⟨a, vs, rfl, hX, h1, h2⟩ := r1
  refine PyProof.Rows.len_list h1 (by simp [h2.length]; (lia)) (VP.of (Step.tok o.inv _) ?_ h)
  have : (List.toArray vs).size = l.length := by simp [h2.length]
  rw [this]; exact .mkInt
theorem OpW.chr {i : Int} (h0 : 0 ≤ i) (h1 : i ≤ 1114111) (h : Q (.str [i.toNat])) : OpW C G [.int i] (callV (.builtin "chr")) Q Z := .one fun ρ X s v o r1 => by
  obtain ⟨t, rfl⟩ := r1
  exact PyProof.Rows.chr_of_range h0 h1 (VP.of (Step.tok o.inv _) (.mkStr rfl) h)
theorem OpW.ord {c : Nat} (h : Q (.int c)) : OpW C G [.str [c]] (callV (.builtin "ord")) Q Z := .one fun ρ X s v o r1 => by
  obtain ⟨t, rfl⟩ := r1
  exact PySem.P.ord_of_char (VP.of (Step.tok o.inv _) .mkInt h)
theorem OpW.divmod {a b : Int} (hb : b ≠ 0) (hs : b.natAbs.log2 < 9000) (h : Q (.tup [.int (a.fdiv b), .int (a.fmod b)])) : OpW C G [.int a, .int b] (callV (.builtin "divmod")) Q Z := .two fun ρ X s v w o r1 r2 => by
  obtain ⟨t, rfl⟩ := r1; obtain ⟨u, rfl⟩ := r2
  refine PyProof.Rows.divmod_int hb ?_ (.inl (PyProof.noPylong_of_log2 hs))
  refine VP.of (Step.keeps (dr := s.drawn) o.inv fun b o e => Heap.get?_push_of_some _ e) ?_ h
  refine Exists.intro _ ⟨[.int (a.fdiv b) s.toks, .int (a.fmod b) (s.toks + 1)], rfl, ⟨_, Heap.get?_push_size _ rfl, rfl, _, rfl⟩, ?_⟩
  exact .mk2 .mkInt .mkInt
end
end Mine

end
section
open PySem PySem.W PySem.Calls PyProof.Rows PySem.Builtin PySem.Builtin.Str
set_option Elab.async false
set_option maxRecDepth 100000

namespace Mine

/-! ### pure text lemmas -/

theorem at_one (l : List Nat) (c hi i : Nat) (hh : hi ≤ l.length) : StrLaws.At ⟨l.toArray⟩ ⟨#[c]⟩ hi i ↔ (i < hi ∧ l[i]? = some c) := by
  unfold StrLaws.At
  rw [StrLaws.subAt_eq]
  show (i + 1 ≤ hi ∧ ((l.toArray.toList.drop i).take 1 == [c]) = true) ↔ _
  rw [StrLaws.take1_drop]
  simp
  (lia)

theorem count_take_succ (l : List Nat) (c k : Nat) : (l.take (k + 1)).count c = (l.take k).count c + (if l[k]? = some c then 1 else 0) := by
  rw [List.take_add_one, List.count_append]
  cases h : l[k]? with
  | none => simp
  | some x =>
    simp only [Option.toList, Option.some.injEq]
    by_cases hx : x = c
    · subst hx; simp
    · rw [if_neg hx, List.count_cons_of_ne hx]; simp

theorem occ_one_run (l : List Nat) (c hi limit : Nat) (hh : hi ≤ l.length) (hl : l.length < limit) : ∀ (m cur : Nat) (st : Array Nat × Nat), st.1.size = (l.take (min cur hi)).count c → st.2 ≤ cur →
    (forIn (List.range' cur m) st (StrLaws.occBody ⟨l.toArray⟩ ⟨#[c]⟩ hi limit)).run.1.size = (l.take (min (cur + m) hi)).count c
  | 0, cur, st, h2, h3 => by
    simp only [List.range'_zero, List.forIn_nil]
    exact h2
  | m + 1, cur, st, h2, h3 => by
    rw [List.range'_succ, List.forIn_cons]
    have ih := occ_one_run l c hi limit hh hl m (cur + 1)
    rw [show cur + (m + 1) = cur + 1 + m by (exact Nat.le_antisymm (lin0 (by simp +arith only)) (lin0 (by simp +arith only)))]
    have hlt : st.1.size < limit := by
      rw [h2]; have := List.count_le_length (a := c) (l := l.take (min cur hi)); simp at this; (exact lin4 this (Nat.min_le_right (cur) (Min.min hi l.length)) (Nat.min_le_right (hi) (l.length)) hl (by simp +arith only))
    have hat := at_one l c hi cur hh
    unfold StrLaws.At at hat
    by_cases hc : cur < hi ∧ l[cur]? = some c
    · have h4 := hat.mpr hc
      have hb : StrLaws.occBody ⟨l.toArray⟩ ⟨#[c]⟩ hi limit cur st = pure (ForInStep.yield (st.1.push cur, cur + 1)) := by
        unfold StrLaws.occBody
        rw [if_pos ⟨⟨⟨hlt, h3⟩, h4.1⟩, h4.2⟩]
        rfl
      rw [hb]
      refine ih (st.1.push cur, cur + 1) ?_ (Nat.le_refl _)
      show (st.1.push cur).size = _
      rw [Array.size_push, h2, Nat.min_eq_left (Nat.le_of_lt hc.1), Nat.min_eq_left (show cur + 1 ≤ hi by (exact lin1 hc.1 (by simp +arith only))), count_take_succ, if_pos hc.2]
    · have hb : StrLaws.occBody ⟨l.toArray⟩ ⟨#[c]⟩ hi limit cur st = pure (ForInStep.yield (st.1, st.2)) := by
        unfold StrLaws.occBody
        rw [if_neg fun h => hc (hat.mp ⟨h.1.2, h.2⟩)]
      rw [hb]
      refine ih (st.1, st.2) ?_ (Nat.le_succ_of_le h3)
      show st.1.size = _
      rw [h2]
      by_cases h5 : cur < hi
      · rw [Nat.min_eq_left (Nat.le_of_lt h5), Nat.min_eq_left (show cur + 1 ≤ hi by (assumption)), count_take_succ, if_neg (fun h => hc ⟨h5, h⟩)]; rfl
      · rw [Nat.min_eq_right (by (exact lin1 (Nat.le_of_not_lt h5) (by simp +arith only))), Nat.min_eq_right (by (exact lin1 (Nat.le_of_not_lt h5) (by simp +arith only)))]

theorem occ_one_count (l : List Nat) (c hi limit : Nat) (hh : hi ≤ l.length) (hl : l.length < limit) : (occurrences ⟨l.toArray⟩ ⟨#[c]⟩ 0 hi limit).length = (l.take hi).count c := by
  rw [StrLaws.occ_eq, Array.length_toList]
  have := occ_one_run l c hi limit hh hl (hi + 1 - 0) 0 (#[], 0) (by simp) (Nat.le_refl _)
  rw [this, Nat.min_eq_right (by (exact lin1 (subl (hi + 1) (0)) (by simp +arith only)))]

theorem last_one (l : List Nat) (c hi : Nat) (hh : hi ≤ l.length) :
    (lastOccurrence ⟨l.toArray⟩ ⟨#[c]⟩ 0 hi = none ∧ ∀ i, i < hi → l[i]? ≠ some c) ∨
    ∃ i, lastOccurrence ⟨l.toArray⟩ ⟨#[c]⟩ 0 hi = some i ∧ i < hi ∧ l[i]? = some c ∧ ∀ k, i < k → k < hi → l[k]? ≠ some c := by
  have key := StrLaws.last_run ⟨l.toArray⟩ ⟨#[c]⟩ hi (List.range' 0 (hi + 1 - 0)) [] none (fun _ h => nomatch h) (fun _ h => nomatch h) (by simpa using List.pairwise_lt_range' (s := 0) (n := hi + 1 - 0))
  rw [StrLaws.last_eq]
  generalize (forIn (List.range' 0 (hi + 1 - 0)) none (StrLaws.lastBody ⟨l.toArray⟩ ⟨#[c]⟩ hi)).run = r at key
  cases r with
  | none =>
    refine .inl ⟨rfl, fun i hi' hc => ?_⟩
    exact key i (by simp [List.mem_range']; (exact lin1 hi' (by simp +arith only))) ((at_one l c hi i hh).mpr ⟨hi', hc⟩)
  | some a =>
    obtain ⟨h1, h2⟩ := key
    have h1' := (at_one l c hi a hh).mp h1
    refine .inr ⟨a, rfl, h1'.1, h1'.2, fun k hk hk' hc => ?_⟩
    exact h2 k (by simp [List.mem_range']; (exact lin1 hk' (by simp +arith only))) hk ((at_one l c hi k hh).mpr ⟨hk', hc⟩)

noncomputable def lastIdx (c : Nat) : List Nat → Option Nat
  | [] => none
  | x :: r => match lastIdx c r with
    | some i => some (i + 1)
    | none => if x = c then some 0 else none
theorem lastIdx_none {c : Nat} : ∀ {l : List Nat}, lastIdx c l = none ↔ c ∉ l
  | [] => by simp [lastIdx]
  | x :: r => by
    simp only [lastIdx]
    have ih := lastIdx_none (c := c) (l := r)
    cases h : lastIdx c r with
    | some i => rw [h] at ih; simp at ih; simp [ih]
    | none =>
      rw [h] at ih; simp at ih
      by_cases hx : x = c
      · simp [hx]
      · simp [hx, ih, Ne.symm hx]
theorem lastIdx_some {c : Nat} : ∀ {l : List Nat} {i : Nat}, lastIdx c l = some i → l[i]? = some c ∧ ∀ k, i < k → l[k]? ≠ some c
  | [], i, h => by simp [lastIdx] at h
  | x :: r, i, h => by
    simp only [lastIdx] at h
    cases hr : lastIdx c r with
    | some j =>
      rw [hr] at h; simp at h; subst h
      obtain ⟨h1, h2⟩ := lastIdx_some hr
      refine ⟨by simpa using h1, fun k hk => ?_⟩
      cases k with
      | zero => (lia)
      | succ k => simpa using h2 k (by (exact lin1 hk (by simp +arith only)))
    | none =>
      rw [hr] at h
      have hn := lastIdx_none.mp hr
      by_cases hx : x = c
      · simp [hx] at h; subst h
        refine ⟨by simp [hx], fun k hk => ?_⟩
        cases k with
        | zero => (lia)
        | succ k =>
          simp only [List.getElem?_cons_succ]
          intro hc
          exact hn (List.mem_of_getElem? hc)
      · simp [hx] at h

theorem lastIdx_unique {c : Nat} {l : List Nat} {i : Nat} (h1 : l[i]? = some c) (h2 : ∀ k, i < k → l[k]? ≠ some c) : lastIdx c l = some i := by
  cases h : lastIdx c l with
  | none => exact absurd (List.mem_of_getElem? h1) (lastIdx_none.mp h)
  | some j =>
    obtain ⟨g1, g2⟩ := lastIdx_some h
    rcases Nat.lt_trichotomy i j with hlt | rfl | hlt
    · exact absurd g1 (h2 j hlt)
    · rfl
    · exact absurd h1 (g2 i hlt)

theorem last_one' (l : List Nat) (c hi : Nat) (hh : hi ≤ l.length) : lastOccurrence ⟨l.toArray⟩ ⟨#[c]⟩ 0 hi = lastIdx c (l.take hi) := by
  rcases last_one l c hi hh with ⟨h1, h2⟩ | ⟨i, h1, h2, h3, h4⟩
  · rw [h1]
    symm
    rw [lastIdx_none]
    intro hm
    obtain ⟨k, hk⟩ := List.getElem?_of_mem hm
    rw [List.getElem?_take] at hk
    by_cases hlt : k < hi
    · rw [if_pos hlt] at hk; exact h2 k hlt hk
    · rw [if_neg hlt] at hk; cases hk
  · rw [h1]
    symm
    refine lastIdx_unique (by rw [List.getElem?_take, if_pos h2]; exact h3) fun k hk => ?_
    rw [List.getElem?_take]
    by_cases hlt : k < hi
    · rw [if_pos hlt]; exact h4 k hk hlt
    · rw [if_neg hlt]; simp

noncomputable def splitOn (c : Nat) : List Nat → List (List Nat)
  | [] => [[]]
  | x :: r => if x = c then [] :: splitOn c r else match splitOn c r with
    | [] => [[x]]
    | p :: ps => (x :: p) :: ps
noncomputable def joinL (sep : List Nat) : List (List Nat) → List Nat
  | [] => []
  | [x] => x
  | x :: r => x ++ sep ++ joinL sep r

theorem splitOn_ne (c : Nat) : ∀ l, splitOn c l ≠ []
  | [] => by simp [splitOn]
  | x :: r => by
    simp only [splitOn]
    split
    · simp
    · split <;> simp
theorem splitOn_free {c : Nat} : ∀ {l : List Nat}, c ∉ l → splitOn c l = [l]
  | [], _ => rfl
  | x :: r, h => by
    simp at h
    simp only [splitOn]
    rw [if_neg (Ne.symm h.1), splitOn_free h.2]
theorem splitOn_append {c : Nat} : ∀ {a : List Nat} (b : List Nat), c ∉ a → splitOn c (a ++ c :: b) = a :: splitOn c b
  | [], b, _ => by simp [splitOn]
  | x :: r, b, h => by
    simp at h
    simp only [List.cons_append, splitOn]
    rw [if_neg (Ne.symm h.1), splitOn_append b h.2]
theorem splitOn_join {c : Nat} : ∀ {ls : List (List Nat)}, ls ≠ [] → (∀ p ∈ ls, c ∉ p) → splitOn c (joinL [c] ls) = ls
  | [], h, _ => (h rfl).elim
  | [x], _, h => by simp only [joinL]; exact splitOn_free (h x (by simp))
  | x :: y :: r, _, h => by
    simp only [joinL]
    rw [List.append_assoc, List.singleton_append, splitOn_append _ (h x (by simp)), splitOn_join (by simp) fun p hp => h p (by simp [hp])]

theorem str_join_eq (sep : Str) : ∀ ts : List Str, (Str.join sep ts).cps.toList = joinL sep.cps.toList (ts.map fun x => x.cps.toList)
  | [] => rfl
  | [x] => rfl
  | x :: y :: r => by
    have ih := str_join_eq sep (y :: r)
    simp only [List.map_cons] at ih ⊢
    simp only [Str.join, joinL, Str.cps_append, Array.toList_append]
    rw [ih]

theorem txt_split_one (l : List Nat) (c : Nat) : (Txt.split ⟨l.toArray⟩ ⟨#[c]⟩).map (fun x => x.cps.toList) = splitOn c l := by
  have h1 := StrLaws.join_split ⟨l.toArray⟩ ⟨#[c]⟩
  have h2 := StrLaws.split_free ⟨l.toArray⟩ c
  have h3 := PyProof.Rows.split_pos ⟨l.toArray⟩ ⟨#[c]⟩
  have h4 : l = joinL [c] ((Txt.split ⟨l.toArray⟩ ⟨#[c]⟩).map fun x => x.cps.toList) := by
    have := str_join_eq ⟨#[c]⟩ (Txt.split ⟨l.toArray⟩ ⟨#[c]⟩)
    rw [h1] at this
    exact this
  generalize Txt.split ⟨l.toArray⟩ ⟨#[c]⟩ = ts at h2 h3 h4 ⊢
  have hne : (ts.map fun x => x.cps.toList) ≠ [] := by
    intro h; have := congrArg List.length h; simp at this; subst this; simp at h3
  have := splitOn_join hne fun p hp => by
    obtain ⟨t, ht, rfl⟩ := List.mem_map.mp hp
    exact h2 t ht
  rw [← h4] at this
  exact this.symm

end Mine

end
section
open PySem PySem.W PySem.Calls PyProof.Rows PySem.Builtin PySem.Builtin.Str
set_option Elab.async false
set_option maxRecDepth 100000

namespace Mine
section
variable {C : Cx} {G : Fc} {ρ : Vars} {Q : D → Prop} {Z : Exn → Prop} {S : List D → Prop}

theorem gives_count4 (x y : Str) (i j : Int) (t u v z : Tok) : Gives («str.count» ⟨[.str x t, .str y u, .int i v, .int j z], []⟩) (.int (occurrences x y (fromIndex x.length i) (min (fromIndex x.length j) x.length) (x.length + 1)).length) := .of_eq rfl
theorem gives_rindex4 (x y : Str) (i j : Int) (t u v z : Tok) (k : Nat) (h : lastOccurrence x y (fromIndex x.length i) (min (fromIndex x.length j) x.length) = some k) : Gives («str.rindex» ⟨[.str x t, .str y u, .int i v, .int j z], []⟩) (.int k) := by
  show Gives (match lastOccurrence x y (fromIndex x.length i) (min (fromIndex x.length j) x.length) with | some i => retInt i | none => (do rule "str.rindex.not-found"; raiseError "ValueError" "substring not found")) _
  rw [h]
  exact .of_eq rfl

theorem fromIndex_zero (n : Nat) : fromIndex n 0 = 0 := by simp [fromIndex]
theorem fromIndex_nat {n : Nat} {j : Int} (h : 0 ≤ j) : fromIndex n j = j.toNat := by
  unfold fromIndex; rw [if_neg (by (lia))]; (lia)

theorem OpW.count4 {l : List Nat} {c : Nat} {j : Int} (h0 : 0 ≤ j) (h : Q (.int ((l.take j.toNat).count c))) : OpW C G [.str l, .str [c], .int 0, .int j] (callV (.builtin "str.count")) Q Z := .four fun ρ X s v w u x o r1 r2 r3 r4 => by
  obtain ⟨t1, rfl⟩ := r1; obtain ⟨t2, rfl⟩ := r2; obtain ⟨t3, rfl⟩ := r3; obtain ⟨t4, rfl⟩ := r4
  refine call_gives F.slot_str_count (typeIs_str _ _ _) F.entry_str_count (F.args_str_count_4 _ _ _ _) (gives_count4 _ _ _ _ _ _ _ _) ?_
  refine VP.of (Step.tok o.inv _) ?_ h
  rw [fromIndex_zero, fromIndex_nat h0]
  have hl : (⟨l.toArray⟩ : Str).length = l.length := by simp [Str.length]
  rw [hl, occ_one_count l c _ _ (Nat.min_le_right _ _) (Nat.lt_succ_self _)]
  have : (l.take (min j.toNat l.length)) = l.take j.toNat := by
    rw [← List.take_take, List.take_length]
  rw [this]
  exact .mkInt
theorem OpW.rindex4 {l : List Nat} {c k : Nat} {j : Int} (h0 : 0 ≤ j) (hk : lastIdx c (l.take j.toNat) = some k) (h : Q (.int k)) : OpW C G [.str l, .str [c], .int 0, .int j] (callV (.builtin "str.rindex")) Q Z := .four fun ρ X s v w u x o r1 r2 r3 r4 => by
  obtain ⟨t1, rfl⟩ := r1; obtain ⟨t2, rfl⟩ := r2; obtain ⟨t3, rfl⟩ := r3; obtain ⟨t4, rfl⟩ := r4
  refine call_gives F.slot_str_rindex (typeIs_str _ _ _) F.entry_str_rindex (F.args_str_rindex_4 _ _ _ _) (gives_rindex4 _ _ _ _ _ _ _ _ k ?_) (VP.of (Step.tok o.inv _) .mkInt h)
  rw [fromIndex_zero, fromIndex_nat h0]
  have hl : (⟨l.toArray⟩ : Str).length = l.length := by simp [Str.length]
  rw [hl, last_one' l c _ (Nat.min_le_right _ _)]
  have : (l.take (min j.toNat l.length)) = l.take j.toNat := by
    rw [← List.take_take, List.take_length]
  rw [this]; exact hk

theorem strsAre_values {vs : List (Str × Tok)} {X : Addr → Prop} {h : Heap} : Reps C X h (strValues vs) ((vs.map (·.1)).map fun x => D.str x.cps.toList) := by
  induction vs with
  | nil => simp [strValues, Reps]
  | cons p r ih =>
    show Reps C X h (.str p.1 p.2 :: strValues r) _
    simp only [List.map_cons, Reps]
    exact ⟨.mkStr rfl, ih⟩

theorem FoW.split {l sep : List Nat} (hsep : sep ≠ []) (hl : l.length + 2 ≤ sizeLine) (h : S ((Txt.split ⟨l.toArray⟩ ⟨sep.toArray⟩).map fun x => .str x.cps.toList)) : FoW C G [.str l, .str sep] (callV (.builtin "str.split")) S Z := fun ρ X s vs o r => by
  obtain ⟨v, w, rfl, r1, r2⟩ := r.two
  obtain ⟨t1, rfl⟩ := r1; obtain ⟨t2, rfl⟩ := r2
  have hlen : (⟨l.toArray⟩ : Str).length = l.length := by simp [Str.length]
  have hsl : (⟨sep.toArray⟩ : Str).length = sep.length := by simp [Str.length]
  have hy : ((⟨sep.toArray⟩ : Str).length == 0) = false := by
    rw [hsl]; cases sep with | nil => exact (hsep rfl).elim | cons a b => rfl
  have fin : ∀ (vs : List (Str × Tok)) (k : Nat), vs.map (·.1) = Txt.split ⟨l.toArray⟩ ⟨sep.toArray⟩ →
      FvP C X s S (.ref s.heap.objs.size) { s with toks := k, heap := s.heap.push { cls := .type "list", data := .seq (strValues vs).toArray } } := fun vs k e => by
    have sp : Step C s { s with toks := k, heap := s.heap.push { cls := .type "list", data := .seq (strValues vs).toArray } } := Step.keeps (dr := s.drawn) o.inv fun b ob e => Heap.get?_push_of_some _ e
    refine ⟨sp, _, strValues vs, _, rfl, get_size _, ⟨_, Heap.get?_push_size _ rfl⟩, strsAre_values, ?_⟩
    rw [e]; exact h
  have hsz : (⟨l.toArray⟩ : Str).length ≤ sizeLine := by rw [hlen]; (exact lin1 hl (by simp +arith only))
  cases h1 : (decide ((⟨l.toArray⟩ : Str).length < (⟨sep.toArray⟩ : Str).length) || decide (Builtin.Str.strKind ⟨l.toArray⟩ < Builtin.Str.strKind ⟨sep.toArray⟩))
  · cases hf : (occurrences ⟨l.toArray⟩ ⟨sep.toArray⟩ 0 (⟨l.toArray⟩ : Str).length ((⟨l.toArray⟩ : Str).length + 1)).isEmpty
    · have hsz2 : (partsBetween ⟨l.toArray⟩ (occurrences ⟨l.toArray⟩ ⟨sep.toArray⟩ 0 (⟨l.toArray⟩ : Str).length ((⟨l.toArray⟩ : Str).length + 1)) (⟨sep.toArray⟩ : Str).length).length ≤ sizeLine := by
        rw [PyProof.Rows.len_partsBetween]
        have := StrLaws.occ_length_le ⟨l.toArray⟩ ⟨sep.toArray⟩ 0 (⟨l.toArray⟩ : Str).length ((⟨l.toArray⟩ : Str).length + 1)
        rw [hlen] at this ⊢
        (exact lin2 this hl (by simp +arith only))
      refine call_meets F.slot_str_split (typeIs_str _ _ _) F.entry_str_split (F.args_str_split_2 _ _) (meets_str_split_sep _ _ t1 t2 h1 hy hf hsz hsz2) ?_
      show wants _ _ _ { s with toks := _, heap := s.heap.push { cls := .type "list", data := .seq (strsFrom s.toks (partsBetween ⟨l.toArray⟩ (occurrences ⟨l.toArray⟩ ⟨sep.toArray⟩ 0 (⟨l.toArray⟩ : Str).length ((⟨l.toArray⟩ : Str).length + 1)) (⟨sep.toArray⟩ : Str).length)).toArray } }
      rw [strsFrom_eq]
      exact fin (numbered s.toks _) _ ((numbered_texts _ _).trans ((if_neg (ne_true_of_eq_false h1)).trans (if_neg (ne_true_of_eq_false hf))).symm)
    · exact call_meets F.slot_str_split (typeIs_str _ _ _) F.entry_str_split (F.args_str_split_2 _ _) (meets_str_split_not_found _ _ t1 t2 h1 hy hf)
        (fin [(_, t1)] s.toks ((if_neg (ne_true_of_eq_false h1)).trans (if_pos hf)).symm)
  · exact call_meets F.slot_str_split (typeIs_str _ _ _) F.entry_str_split (F.args_str_split_2 _ _) (meets_str_split_cannot_occur _ _ t1 t2 h1)
      (fin [(_, t1)] s.toks (if_pos h1).symm)

theorem reps_strs {X : Addr → Prop} {h : Heap} : ∀ {vs : List Value} {ls : List (List Nat)}, Reps C X h vs (ls.map D.str) → StrsAre vs (ls.map fun l => ⟨l.toArray⟩)
  | [], [], _ => .nil
  | v :: vs, l :: ls, r => by
    obtain ⟨t, rfl⟩ := r.1
    exact .cons _ t (reps_strs r.2)
  | [], _ :: _, r => False.elim r
  | _ :: _, [], r => False.elim r

theorem OpW.join {sep : List Nat} {ds : List D} {ls : List (List Nat)} (e : ds = ls.map D.str) (hl : (ls.map List.length).sum + ls.length * sep.length ≤ 16777216) (h : Q (.str (joinL sep ls))) : OpW C G [.str sep, .list ds] (callV (.builtin "str.join")) Q Z := .two fun ρ X s v w o r1 r2 => by
  subst e
  obtain ⟨t1, rfl⟩ := r1; obtain ⟨a, vs, rfl, hX, h1, h2⟩ := r2
  have hs := reps_strs h2
  refine PyProof.Rows.join_list h1 hs ?_ fun t' k => ?_
  · simpa [Str.length, Function.comp_def] using hl
  · refine VP.of (Step.tok o.inv _) (.mkStr ?_) h
    show (glued _ _).cps.toList = _
    rw [StrLaws.glued_eq_join, str_join_eq]
    simp [Function.comp_def]

end
end Mine

end
section
open PySem PySem.W PySem.Calls PyProof.Rows PySem.Builtin PySem.Builtin.Str
set_option Elab.async false
set_option maxRecDepth 100000

namespace Mine
section
variable {C : Cx} {G : Fc} {ρ : Vars} {Q : D → Prop} {Z : Exn → Prop} {S : List D → Prop}

noncomputable def digs (i : Int) : List Nat := (PySem.Str.ofString (toString i)).cps.toList

theorem OpW.str_int {i : Int} (hi : i.natAbs.log2 < 1920) (h : Q (.str (digs i))) : OpW C G [.int i] (callV (.type "str")) Q Z := .one fun ρ X s v o r1 => by
  obtain ⟨t, rfl⟩ := r1
  exact PySem.P.str_of_int hi (VP.of (Step.tok o.inv _) (.mkStr rfl) h)

noncomputable def FmtW (C : Cx) (G : Fc) (d : D) (Q : D → Prop) (Z : Exn → Prop) : Prop := OpW C G [d] (fun | [v] => formatField v Str.empty | _ => unsupported "") Q Z
theorem FmtW.int {i : Int} (hi : i.natAbs.log2 < 1920) (h : Q (.str (digs i))) : FmtW C G (.int i) Q Z := .one fun ρ X s v o r1 => by
  obtain ⟨t, rfl⟩ := r1
  exact PySem.wpAny_formatField_int hi (VP.of (Step.tok o.inv _) (.mkStr rfl) h)
theorem FmtW.str {l : List Nat} (hl : l.length ≤ sizeLine) (h : Q (.str l)) : FmtW C G (.str l) Q Z := .one fun ρ X s v o r1 => by
  obtain ⟨t, rfl⟩ := r1
  exact PySem.wpAny_formatField_str (VP.of (Step.refl o.inv) (.mkStr rfl) h) (VP.of (Step.tok o.inv _) (.mkStr rfl) h) (by simpa [Str.length] using hl)
theorem EvW.fmt {value : Expr} {pos : Pos} (h : EvW C G ρ value (fun d => FmtW C G d Q Z) Z) : EvW C G ρ (.FormattedValue value (-1) Option.none pos) Q Z := fun X s o => by
  refine PySem.wpAny_FormattedValue_plain (wpAny_mono (h X s o) (fun v s₁ q9 => ?_) fun _ _ x => x)
  obtain ⟨st, d, rv, p⟩ := q9
  exact wpAny_mono (p ρ X s₁ [v] (o.step st) (.mk1 rv)) (fun v s' x => x.back st) fun _ _ x => x.back o.inv st

noncomputable def repr_ (l : List Nat) : List Nat := (reprText ⟨l.toArray⟩).cps.toList
theorem EvW.fmtR {value : Expr} {pos : Pos} (h : EvW C G ρ value (fun d => ∃ l, d = .str l ∧ (repr_ l).length ≤ sizeLine ∧ Q (.str (repr_ l))) Z) : EvW C G ρ (.FormattedValue value 114 Option.none pos) Q Z := fun X s o => by
  refine PySem.wpAny_FormattedValue_repr (wpAny_mono (h X s o) (fun v s₁ q9 => ?_) fun _ _ x => x)
  obtain ⟨st, d, rv, l, e, hl, p⟩ := q9
  subst e
  obtain ⟨t, rfl⟩ := rv
  have hl' : (reprText ⟨l.toArray⟩).length ≤ sizeLine := by show (reprText _).cps.size ≤ _; rw [← Array.length_toList]; exact hl
  refine PySem.pyReprObj_str ?_ hl'
  exact PySem.wpAny_formatField_str (VP.of (st.trans (Step.tok st.inv _)) (.mkStr rfl) p) (VP.of (st.trans ((Step.tok st.inv _).toks _)) (.mkStr rfl) p) hl'

noncomputable def JsW (C : Cx) (G : Fc) (ρ : Vars) (es : List Expr) (acc : List Nat) (Q : D → Prop) (Z : Exn → Prop) : Prop :=
  ∀ X s, Ok C G X ρ s → Joins C.M G.A (XP C s Z) (evalEach es G.env) ⟨acc.toArray⟩ (fun out s₁ => out.length ≤ sizeLine ∧ VP C X s Q (.str out s₁.toks) { s₁ with toks := s₁.toks + 1 }) s
theorem joins_mono {M : Model} {A : Around} {E E' : Value → Shared → Prop} (hE : ∀ e s, E e s → E' e s) : ∀ {parts : List (Sem Value)} {acc : Str} {P P' : Str → Shared → Prop} {s : Shared}, (∀ x s, P x s → P' x s) → Joins M A E parts acc P s → Joins M A E' parts acc P' s
  | [], _, _, _, _, hP, h => hP _ _ h
  | _ :: _, _, _, _, _, hP, h => wpAny_mono h (fun v s₁ ⟨y, t, e, hl, hj⟩ => ⟨y, t, e, hl, joins_mono hE hP hj⟩) hE
theorem JsW.nil {acc : List Nat} (hl : acc.length ≤ sizeLine) (h : Q (.str acc)) : JsW C G ρ [] acc Q Z := fun X s o =>
  ⟨by simpa [Str.length] using hl, VP.of (Step.tok o.inv _) (.mkStr rfl) h⟩
theorem JsW.cons {e : Expr} {es : List Expr} {acc : List Nat} (h : EvW C G ρ e (fun d => ∃ l, d = .str l ∧ (acc ++ l).length ≤ sizeLine ∧ JsW C G ρ es (acc ++ l) Q Z) Z) : JsW C G ρ (e :: es) acc Q Z := fun X s o => by
  refine wpAny_mono (h X s o) (fun v s₁ q9 => ?_) fun _ _ x => x
  obtain ⟨st, d, rv, l, e, hl, p⟩ := q9
  subst e
  obtain ⟨t, rfl⟩ := rv
  have hacc : (⟨acc.toArray⟩ : Str) ++ ⟨l.toArray⟩ = ⟨(acc ++ l).toArray⟩ := Str.ext' (by simp [Str.cps_append])
  refine ⟨_, t, rfl, ?_, ?_⟩
  · rw [hacc]; simpa [Str.length] using hl
  · rw [hacc]
    exact joins_mono (fun _ _ x => x.back o.inv st) (fun out s' x => ⟨x.1, x.2.back st⟩) (p X s₁ (o.step st))
theorem EvW.joined {e₁ e₂ : Expr} {es : List Expr} {pos : Pos} (h : JsW C G ρ (e₁ :: e₂ :: es) [] Q Z) : EvW C G ρ (.JoinedStr (e₁ :: e₂ :: es) pos) Q Z := fun X s o =>
  PySem.wpAny_JoinedStr (h X s o)

end
end Mine

end
section
open PySem PySem.W PySem.Calls PyProof.Rows PySem.Builtin PySem.Builtin.Str
set_option Elab.async false
set_option maxRecDepth 100000

namespace Mine

theorem wpAny_nsSetC {M : Model} {A : Around} {E : Value → Shared → Prop} {s : Shared} {a : Addr} {m : PySem.Str → Option Value} {name : PySem.Str} {v : Value} {Q : Unit → Shared → Prop} (hn : s.heap.Ns a m)
    (h : ∀ h', h'.Ns a (fun x => if x = name then some v else m x) → Heap.SameBut a s.heap h' → (∀ o, s.heap.get? a = some o → ∃ o' es ep, h'.get? a = some o' ∧ o'.cls = o.cls ∧ o'.data = .dict es ep) → Q () { s with heap := h', toks := s.toks + 1 }) :
    wpAny M A (nsSet a name v) Q E s := fun Γ p _ => by
  obtain ⟨o, es, ep, ho, hd, hk, hm⟩ := hn
  simp only [nsSet, strHash, Sem.wp_bind', Sem.wp_cmd_ask, Sem.wp_pure', Sem.wp_cmd_mkText]
  rw [Sem.wp_loadPart_of M Γ _ p { s with toks := s.toks + 1 } (o := o) _ ho]
  have hany : es.any (·.refKey) = false := by
    rw [Array.any_eq_false']; intro e he; obtain ⟨n, t, h⟩ := hk e he; simp [DictEntry.refKey, h]
  simp only [hd, aRefKeyMayBeTheName_eq, aRefKeyMayBeTheNameByArray, hany, Bool.and_false, Bool.false_eq_true, if_false, Sem.wp_cmd_updatePart]
  obtain ⟨c, d, dt, sl⟩ := o
  simp only at hd
  subst hd
  refine ⟨by rw [ho]; rfl, h _ ?_ (Heap.SameBut.update ..) fun o' ho' => ?_⟩
  · cases hi : es.findIdx? (·.key.isStr name) with
    | some i =>
      refine ⟨_, _, ep, Heap.get?_update_self _ ho (by simp only [Obj.putName_eq, Obj.putNameByArray, hi]; rfl), by simp only [Obj.putName_eq, Obj.putNameByArray, hi]; rfl, hk.modify _ _, fun x => ?_⟩
      show _ = if x = name then some v else m x
      rw [← hm]; exact findBy_modify (fun n v => v.isStr n) Value.isStr_inj es name x v i hi
    | none =>
      refine ⟨_, _, ep + 1, Heap.get?_update_self _ ho (by simp only [Obj.putName_eq, Obj.putNameByArray, hi]; rfl), by simp only [Obj.putName_eq, Obj.putNameByArray, hi]; rfl, hk.push _ _ _ _, fun x => ?_⟩
      show _ = if x = name then some v else m x
      rw [← hm]
      exact findBy_push (fun n v => v.isStr n) es name x _ _ v (fun y => by
        show (name == y) = decide (y = name)
        by_cases h : y = name
        · subst h; simp
        · have : ¬ name = y := fun e => h e.symm
          simp [h, this]) hi
  · rw [ho] at ho'; cases ho'
    cases hi : es.findIdx? (·.key.isStr name) with
    | some i => exact ⟨_, _, ep, Heap.get?_update_self _ ho (by simp only [Obj.putName_eq, Obj.putNameByArray, hi]; rfl), by simp only [Obj.putName_eq, Obj.putNameByArray, hi], by simp only [Obj.putName_eq, Obj.putNameByArray, hi]; rfl⟩
    | none => exact ⟨_, _, ep + 1, Heap.get?_update_self _ ho (by simp only [Obj.putName_eq, Obj.putNameByArray, hi]; rfl), by simp only [Obj.putName_eq, Obj.putNameByArray, hi], by simp only [Obj.putName_eq, Obj.putNameByArray, hi]; rfl⟩

inductive Fl where
  | nxt
  | brk
  | cont
  | ret (d : D)

noncomputable def inl (own : List (PySem.Str × Addr)) (X : Addr → Prop) : Addr → Prop := fun a => X a ∨ ∃ p ∈ own, p.2 = a

noncomputable def VarOk (C : Cx) (env : Env) (h : Heap) (X : Addr → Prop) (O : List PySem.Str) (own : List (PySem.Str × Addr)) (y : PySem.Str) (d : D) : Prop :=
  (y ∈ O → ∃ a ds vs, d = .list ds ∧ (y, a) ∈ own ∧ VarAt env h y (.ref a) ∧ h.PlainList a (List.toArray vs) ∧ Reps C (inl own X) h vs ds) ∧
  (y ∉ O → ∃ v, VarAt env h y v ∧ Rep C (inl own X) h v d)

structure OkS (C : Cx) (G : Fc) (B : Heap) (X : Addr → Prop) (O : List PySem.Str) (ρ : Vars) (own : List (PySem.Str × Addr)) (s : Shared) : Prop where
  inv : Inv C s
  g : GOk C G s.heap
  kb : Keep C B s.heap
  bt : ∀ a ∈ C.tabA, B.get? a = none
  bb : ∀ b ob, C.base.get? b = some ob → ∃ ob', B.get? b = some ob'
  bL : B.get? G.env.locals = none
  bC : ∀ x c, G.env.cells.lookup x = some c → B.get? c = none
  bO : ∀ p ∈ own, B.get? p.2 = none
  nX : ∀ p ∈ own, ¬ X p.2
  xH : ∀ a, X a → MutB C B s.heap a
  oN : ∀ p ∈ own, p.1 ∈ O
  oH : ∀ p ∈ own, ∃ vs, s.heap.PlainList p.2 vs
  oI : ∀ p ∈ own, ∀ q ∈ own, p.2 = q.2 → p.1 = q.1
  vars : ∀ y d, ρ.lookup y = some d → VarOk C G.env s.heap X O own y d

section
variable {C : Cx} {G : Fc} {B : Heap} {X : Addr → Prop} {O : List PySem.Str} {ρ : Vars} {own : List (PySem.Str × Addr)} {s s' : Shared}

theorem OkS.fromB (o : OkS C G B X O ρ own s) {a : Addr} (h : ∃ ob, B.get? a = some ob) : ∃ ob, s.heap.get? a = some ob := by
  obtain ⟨ob, e⟩ := h
  have ht : a ∉ C.tabA := fun hm => by rw [o.bt a hm] at e; cases e
  obtain ⟨_, sl, e'⟩ := o.kb a ob ht e
  exact ⟨_, e'⟩
theorem OkS.freshB (o : OkS C G B X O ρ own s) {a : Addr} (h : s.heap.get? a = none) : B.get? a = none := by
  cases e : B.get? a with
  | none => rfl
  | some ob => obtain ⟨_, e'⟩ := o.fromB ⟨ob, e⟩; rw [h] at e'; cases e'
theorem OkS.notX (o : OkS C G B X O ρ own s) {p : PySem.Str × Addr} (hp : p ∈ own) : ¬ X p.2 := o.nX p hp

theorem OkS.full (o : OkS C G B X O ρ own s) : Ok C G X ρ s where
  inv := o.inv
  g := o.g
  x a ha := (o.xH a ha).c
  vars y d e := by
    by_cases hy : y ∈ O
    · obtain ⟨a, ds, vs, rfl, hm, hv, hl, hr⟩ := (o.vars y d e).1 hy
      refine ⟨_, hv, ?_⟩
      exact Exists.intro a ⟨vs, rfl, o.notX hm, hl.isList, hr.mono fun b hb => .inl hb⟩
    · obtain ⟨v, hv, hr⟩ := (o.vars y d e).2 hy
      exact ⟨v, hv, hr.mono fun b hb => .inl hb⟩

noncomputable def safe (O : List PySem.Str) (ρ : Vars) : Vars := ρ.filter fun p => !O.contains p.1
theorem lookup_safe {y : PySem.Str} {d : D} : ∀ {ρ : Vars}, (safe O ρ).lookup y = some d → ρ.lookup y = some d ∧ y ∉ O
  | [], h => by simp [safe] at h
  | (x, e) :: r, h => by
    unfold safe at h
    rw [List.filter_cons] at h
    by_cases hx : x ∈ O
    · rw [if_neg (by simpa using hx)] at h
      have ih := lookup_safe (ρ := r) h
      refine ⟨?_, ih.2⟩
      rw [List.lookup_cons]
      have : (y == x) = false := by simp; rintro rfl; exact ih.2 hx
      rw [this]; exact ih.1
    · rw [if_pos (by simpa using hx)] at h
      rw [List.lookup_cons] at h ⊢
      cases hb : y == x with
      | true =>
        rw [hb] at h
        have : y = x := eq_of_beq hb
        exact ⟨h, this ▸ hx⟩
      | false =>
        rw [hb] at h
        exact lookup_safe (ρ := r) h

theorem OkS.safeE (o : OkS C G B X O ρ own s) : Ok C G (inl own X) (safe O ρ) s where
  inv := o.inv
  g := o.g
  x a ha := by
    rcases ha with ha | ⟨p, hp, rfl⟩
    · exact (o.xH a ha).c
    · obtain ⟨vs, h⟩ := o.oH p hp; exact (Heap.PlainList.mut h).c
  vars y d e := by
    obtain ⟨e1, hy⟩ := lookup_safe e
    exact (o.vars y d e1).2 hy

theorem VarOk.step {y : PySem.Str} {d : D} (i : Inv C s) (st : Step C s s') (v : VarOk C G.env s.heap X O own y d) : VarOk C G.env s'.heap X O own y d :=
  ⟨fun hy => (by obtain ⟨a, ds, vs, h1, h2, h3, h4, h5⟩ := v.1 hy; exact ⟨a, ds, vs, h1, h2, h3.keep i st.keep, PL.keep i st.keep h4, h5.step i st⟩),
   fun hy => (by obtain ⟨w, h1, h2⟩ := v.2 hy; exact ⟨w, h1.keep i st.keep, h2.step i st⟩)⟩
theorem OkS.step (o : OkS C G B X O ρ own s) (st : Step C s s') : OkS C G B X O ρ own s' where
  inv := st.inv
  g := o.g.keep o.inv st.keep
  kb := o.kb.trans st.keep
  bt := o.bt
  bb := o.bb
  bL := o.bL
  bC := o.bC
  bO := o.bO
  nX := o.nX
  xH a ha := (o.xH a ha).keep o.inv st.keep
  oN := o.oN
  oH p hp := (by obtain ⟨vs, h⟩ := o.oH p hp; exact ⟨vs, PL.keep o.inv st.keep h⟩)
  oI := o.oI
  vars y d e := (o.vars y d e).step o.inv st

noncomputable def put (x : PySem.Str) (d : D) : Vars → Vars
  | [] => [(x, d)]
  | (y, e) :: r => if y == x then (y, d) :: r else (y, e) :: put x d r
theorem lookup_put (x : PySem.Str) (d : D) (y : PySem.Str) : ∀ ρ : Vars, (put x d ρ).lookup y = if y = x then some d else ρ.lookup y
  | [] => by
    simp only [put, List.lookup_cons, List.lookup_nil]
    by_cases h : y = x
    · simp [h]
    · have : (y == x) = false := by simpa using h
      simp [h, this]
  | (z, e) :: r => by
    simp only [put]
    by_cases hz : z = x
    · subst hz
      simp only [beq_self_eq_true, if_true, List.lookup_cons]
      by_cases h : y = z
      · simp [h]
      · have : (y == z) = false := by simpa using h
        simp [h, this]
    · have hz' : (z == x) = false := by simpa using hz
      simp only [hz', Bool.false_eq_true, if_false, List.lookup_cons]
      rw [lookup_put x d y r]
      by_cases h : y = z
      · subst h; simp [hz]
      · have : (y == z) = false := by simpa using h
        simp [this]

theorem Inv.change (i : Inv C s) {a : Addr} {ob : Obj} {h' : Heap} {tk : Nat} (hs : Heap.SameBut a s.heap h') (hb : C.base.get? a = none) (ha : s.heap.get? a = some ob) (hd : ∀ vs, ob.data ≠ .fields vs) : Inv C { s with heap := h', toks := tk } where
  ok := i.ok
  stays b o e := (hs.2 b fun q => by rw [q, hb] at e; cases e).trans (i.stays b o e)
  tabs p hp := by
    obtain ⟨ps, h1, h2, h3⟩ := i.tabs p hp
    have hne : ∀ (b : Addr) (o' : Obj) (vs : Array Value), s.heap.get? b = some o' → o'.data = .fields vs → b ≠ a := fun b o' vs e hd' q => by
      rw [q, ha] at e; cases e; exact hd vs hd'
    refine ⟨ps, (hs.2 _ (hne _ _ ps h1 rfl)).trans h1, h2, fun pos cv e => ?_⟩
    obtain ⟨c, o', vs, t, e1, e2, e3, e4, e5⟩ := h3 pos cv e
    exact ⟨c, o', vs, t, e1, e2, (hs.2 _ (hne _ _ vs e3 e4)).trans e3, e4, e5⟩
  gens := i.gens
  os := i.os

theorem FrAt.change {e : Env} {a : Addr} {h' : Heap} (x : FrAt C s.heap e) (hs : Heap.SameBut a s.heap h') (hc : ∀ o, s.heap.get? a = some o → o.cls = .type "frame" → (∃ es ep, o.data = .dict es ep) → ∃ o' es ep, h'.get? a = some o' ∧ o'.cls = o.cls ∧ o'.data = .dict es ep) : FrAt C h' e := by
  obtain ⟨hk, L, o, es, ep, h1, h2, h3, h4, h5⟩ := x
  by_cases hL : L = a
  · subst hL
    obtain ⟨o', es', ep', g1, g2, g3⟩ := hc o h3 h4 ⟨es, ep, h5⟩
    exact ⟨hk, L, o', es', ep', h1, h2, g1, g2.trans h4, g3⟩
  · exact ⟨hk, L, o, es, ep, h1, h2, (hs.2 L hL).trans h3, h4, h5⟩

end
end Mine

end
section
open PySem PySem.W PySem.Calls PyProof.Rows PySem.Builtin PySem.Builtin.Str
set_option Elab.async false
set_option maxRecDepth 100000

namespace Mine
section
variable {C : Cx} {G : Fc} {B : Heap} {X : Addr → Prop} {O : List PySem.Str} {ρ : Vars} {own : List (PySem.Str × Addr)} {s s' : Shared}

structure Loc (C : Cx) (G : Fc) (s : Shared) (h' : Heap) (a : Addr) (x : PySem.Str) (v : Value) : Prop where
  same : Heap.SameBut a s.heap h'
  base : C.base.get? a = none
  obj : ∃ ob, s.heap.get? a = some ob ∧ (∀ vs, ob.data ≠ .fields vs)
  here : (a = G.env.locals ∧ G.env.kindOf x = some .local ∧ (∃ m, s.heap.Ns a m ∧ h'.Ns a (fun y => if y = x then some v else m y)) ∧ ∀ o, s.heap.get? a = some o → ∃ o' es ep, h'.get? a = some o' ∧ o'.cls = o.cls ∧ o'.data = .dict es ep) ∨
    ((G.env.kindOf x = some .cell ∨ G.env.kindOf x = some .free) ∧ G.env.cells.lookup x = some a ∧ h'.IsCell a (some v) ∧ ∃ v₀, s.heap.IsCell a v₀)

theorem Loc.inv {a : Addr} {x : PySem.Str} {v : Value} {h' : Heap} {tk : Nat} (l : Loc C G s h' a x v) (i : Inv C s) : Inv C { s with heap := h', toks := tk } :=
  by obtain ⟨_, e1, e2⟩ := l.obj; exact i.change l.same l.base e1 e2
theorem cell_ns {h : Heap} {a : Addr} {m : PySem.Str → Option Value} {v : Option Value} (x : h.Ns a m) (y : h.IsCell a v) : False := by
  obtain ⟨o, es, ep, e, hd, _⟩ := x
  obtain ⟨o', e', hd'⟩ := y
  rw [e] at e'; cases e'; rw [hd] at hd'; cases hd'
theorem Loc.ns {a : Addr} {x : PySem.Str} {v : Value} {h' : Heap} (l : Loc C G s h' a x v) (hn : ∃ m, s.heap.Ns G.env.locals m) : ∃ m, h'.Ns G.env.locals m := by
  rcases l.here with ⟨rfl, _, ⟨m, _, h⟩, _⟩ | ⟨_, h2, h3, v₀, h4⟩
  · exact ⟨_, h⟩
  · obtain ⟨m, hm⟩ := hn
    exact ⟨m, hm.sameBut l.same fun q => cell_ns hm (q ▸ h4)⟩
theorem Loc.cells {a : Addr} {x : PySem.Str} {v : Value} {h' : Heap} (l : Loc C G s h' a x v) {c : Addr} (hc : ∃ v, s.heap.IsCell c v) : ∃ v, h'.IsCell c v := by
  by_cases hca : c = a
  · subst hca
    rcases l.here with ⟨rfl, _, ⟨m, h1, _⟩, _⟩ | ⟨_, _, h3, _⟩
    · obtain ⟨v, hv⟩ := hc; exact (cell_ns h1 hv).elim
    · exact ⟨_, h3⟩
  · obtain ⟨v, hv⟩ := hc
    exact ⟨v, hv.sameBut l.same hca⟩
theorem Loc.g {a : Addr} {x : PySem.Str} {v : Value} {h' : Heap} (l : Loc C G s h' a x v) (g : GOk C G s.heap) : GOk C G h' where
  depth := g.depth
  units := g.units
  frames := let ⟨fe, p, q, r⟩ := g.frames; ⟨fe, p, q, fun e he => (r e he).change l.same fun o ho hcl ⟨es, ep, hd⟩ => by
    rcases l.here with ⟨rfl, _, _, h⟩ | ⟨_, _, _, v₀, h4⟩
    · exact h o ho
    · obtain ⟨o', e', hd'⟩ := h4
      rw [ho] at e'; cases e'; rw [hd] at hd'; cases hd'⟩
  kind := g.kind
  glob := g.glob
  blt := g.blt
  loc := l.ns g.loc
  locB := g.locB
  cells y c e := (by obtain ⟨p, q⟩ := g.cells y c e; exact ⟨l.cells p, q⟩)
  inj := g.inj
  hnd u hu := by
    obtain ⟨e, o, vs, h1, h2, h3, h4, h5⟩ := g.hnd u hu
    obtain ⟨ob, e1, e2⟩ := l.obj
    refine ⟨e, o, vs, h1, (l.same.2 e fun q => ?_).trans h2, h3, h4, h5⟩
    rw [q, e1] at h2; cases h2; exact e2 vs h4

theorem Loc.var {a : Addr} {x : PySem.Str} {v : Value} {h' : Heap} (l : Loc C G s h' a x v) : VarAt G.env h' x v := by
  rcases l.here with ⟨rfl, hk, ⟨m, _, h⟩, _⟩ | ⟨hk, hc, h, _⟩
  · exact .inl ⟨hk, _, h, by simp⟩
  · exact .inr ⟨hk, a, hc, h⟩
theorem ns_unique {h : Heap} {a : Addr} {m m' : PySem.Str → Option Value} (x : h.Ns a m) (y : h.Ns a m') : m = m' := by
  obtain ⟨o, es, ep, e, hd, _, r⟩ := x
  obtain ⟨o', es', ep', e', hd', _, r'⟩ := y
  rw [e] at e'; cases e'; rw [hd] at hd'; cases hd'
  funext n; rw [← r n, ← r' n]
theorem Loc.other {a : Addr} {x y : PySem.Str} {v u : Value} {h' : Heap} (l : Loc C G s h' a x v) (g : GOk C G s.heap) (hy : y ≠ x) (hv : VarAt G.env s.heap y u) : VarAt G.env h' y u := by
  rcases l.here with ⟨rfl, hk, ⟨m, h0, h⟩, _⟩ | ⟨hk, hc, h, v₀, h4⟩
  · rcases hv with ⟨hk', m', hn', hm'⟩ | ⟨hk', c, hc', hv'⟩
    · have := ns_unique hn' h0; subst this
      exact .inl ⟨hk', _, h, by simp [hy, hm']⟩
    · refine .inr ⟨hk', c, hc', hv'.sameBut l.same fun q => ?_⟩
      exact cell_ns h0 (q ▸ hv')
  · rcases hv with ⟨hk', m', hn', hm'⟩ | ⟨hk', c, hc', hv'⟩
    · exact .inl ⟨hk', m', hn'.sameBut l.same (fun q => cell_ns hn' (q ▸ h4)), hm'⟩
    · refine .inr ⟨hk', c, hc', hv'.sameBut l.same fun q => ?_⟩
      subst q
      exact hy (g.inj y x c hc' hc)

theorem store_loc {x : PySem.Str} {v : Value} {M : Model} {A : Around} {E : Value → Shared → Prop} {R : Unit → Shared → Prop} (g : GOk C G s.heap) (hk : G.env.kindOf x = some .local ∨ G.env.kindOf x = some .cell ∧ ∃ c, G.env.cells.lookup x = some c)
    (h : ∀ h' tk a, Loc C G s h' a x v → R () { s with heap := h', toks := tk }) : wpAny M A (storeName G.env x v) R E s := by
  rcases hk with hk | ⟨hk, c, hc⟩
  · rw [storeName_local hk (by rw [g.kind]; rfl)]
    obtain ⟨m, hm⟩ := g.loc
    refine wpAny_nsSetC hm fun h' h1 h2 h3 => h h' _ G.env.locals ⟨h2, g.locB, ?_, .inl ⟨rfl, hk, ⟨m, hm, h1⟩, h3⟩⟩
    obtain ⟨o, es, ep, e, hd, _⟩ := hm
    exact ⟨o, e, by rw [hd]; simp⟩
  · obtain ⟨⟨v₀, hv₀⟩, hb⟩ := g.cells x c hc
    refine wpAny_storeName_cell g.kind hk hc hv₀ fun h' h1 h2 => ?_
    have := h h' s.toks c ⟨h2, hb, ?_, .inr ⟨.inl hk, hc, h1, v₀, hv₀⟩⟩
    · exact this
    · obtain ⟨o, e, hd⟩ := hv₀
      exact ⟨o, e, by rw [hd]; simp⟩

noncomputable def Framed (G : Fc) (h : Heap) : Prop := ∀ o, h.get? G.env.locals = some o → o.cls = .type "frame"
theorem Loc.val {a : Addr} {x : PySem.Str} {v : Value} {h' : Heap} (l : Loc C G s h' a x v) (hf : Framed G s.heap) : ∀ b o, s.heap.get? b = some o → Val o → h'.get? b = some o := fun b o e hv => by
  refine (l.same.2 b fun q => ?_).trans e
  subst q
  rcases l.here with ⟨rfl, _, _, _⟩ | ⟨_, _, _, v₀, h4⟩
  · exact hv.2.1 (hf o e)
  · obtain ⟨o', e', hd'⟩ := h4
    rw [e] at e'; cases e'; exact hv.2.2 _ hd'
theorem GOk.framed {h : Heap} (g : GOk C G h) (hl : G.env.frame = some G.env.locals) : Framed G h := fun o e => by
  obtain ⟨fe, h1, h2, h3⟩ := g.frames
  obtain ⟨_, L, o', _, _, h4, _, h5, h6, _⟩ := h3 fe (.head _)
  rw [h2, hl] at h4; cases h4
  rw [e] at h5; cases h5; exact h6

theorem OkS.store {x : PySem.Str} {v : Value} {d : D} {h' : Heap} {tk : Nat} {a : Addr} (o : OkS C G B X O ρ own s) (hf : G.env.frame = some G.env.locals) (l : Loc C G s h' a x v) (hx : x ∉ O) (r : Rep C (inl own X) s.heap v d) :
    OkS C G B X O (put x d ρ) own { s with heap := h', toks := tk } := by
  have hfr := o.g.framed hf
  have hB : B.get? a = none := by
    rcases l.here with ⟨rfl, _⟩ | ⟨_, hc, _⟩
    · exact o.bL
    · exact o.bC x a hc
  refine { inv := l.inv o.inv, g := l.g o.g, kb := fun b ob ht e => ?_, bt := o.bt, bb := o.bb, bL := o.bL, bC := o.bC, bO := o.bO, nX := o.nX, xH := fun a ha => (o.xH a ha).keepV (l.val hfr), oN := o.oN, oH := fun p hp => ?_, oI := o.oI, vars := fun y e hy => ?_ }
  · have hne : b ≠ a := fun q => by rw [q, hB] at e; cases e
    obtain ⟨k1, sl, k2⟩ := o.kb b ob ht e
    exact ⟨fun hc => (l.same.2 b hne).trans (k1 hc), sl, (l.same.2 b hne).trans k2⟩
  · obtain ⟨vs, hv⟩ := o.oH p hp
    exact ⟨vs, PL.keepV (l.val hfr) hv⟩
  · rw [lookup_put] at hy
    by_cases hyx : y = x
    · subst hyx
      rw [if_pos rfl] at hy; cases hy
      exact ⟨fun hm => (hx hm).elim, fun _ => ⟨v, l.var, r.keepV (l.val hfr)⟩⟩
    · rw [if_neg hyx] at hy
      have := o.vars y e hy
      exact ⟨fun hm => (by obtain ⟨b, ds, vs, h1, h2, h3, h4, h5⟩ := this.1 hm; exact ⟨b, ds, vs, h1, h2, l.other o.g hyx h3, PL.keepV (l.val hfr) h4, h5.keepV (l.val hfr)⟩),
        fun hm => (by obtain ⟨w, h1, h2⟩ := this.2 hm; exact ⟨w, l.other o.g hyx h1, h2.keepV (l.val hfr)⟩)⟩

theorem OkS.storeOwn {s₀ : Shared} {x : PySem.Str} {ds : List D} {vs : List Value} {h' : Heap} {tk : Nat} {a b : Addr} (o₀ : OkS C G B X O ρ own s₀) (st : Step C s₀ s) (hf : G.env.frame = some G.env.locals) (l : Loc C G s h' a x (.ref b)) (hx : x ∈ O)
    (hb : s₀.heap.get? b = none) (hl : s.heap.PlainList b (List.toArray vs)) (hr : Reps C (fun c => c = b ∨ inl own X c) s.heap vs ds) :
    OkS C G B X O (put x (.list ds) ρ) ((x, b) :: own.filter (fun p => p.1 != x)) { s with heap := h', toks := tk } := by
  have o := o₀.step st
  have hfr := o.g.framed hf
  have hB : B.get? a = none := by
    rcases l.here with ⟨rfl, _⟩ | ⟨_, hc, _⟩
    · exact o.bL
    · exact o.bC x a hc
  have ho : ∀ p ∈ own, p.2 ≠ b := fun p hp q => by
    obtain ⟨vs, n, e⟩ := o₀.oH p hp
    rw [q, hb] at e; cases e
  have hsub : ∀ c, inl ((x, b) :: own.filter (fun p => p.1 != x)) X c → c = b ∨ inl own X c := fun c hc => by
    rcases hc with hc | ⟨p, hp, rfl⟩
    · exact .inr (.inl hc)
    · rcases List.mem_cons.mp hp with rfl | hp
      · exact .inl rfl
      · exact .inr (.inr ⟨p, (List.mem_filter.mp hp).1, rfl⟩)
  refine { inv := l.inv o.inv, g := l.g o.g, kb := fun b ob ht e => ?_, bt := o.bt, bb := o.bb, bL := o.bL, bC := o.bC, bO := fun p hp => ?_, nX := fun p hp => ?_, xH := fun a ha => (o.xH a ha).keepV (l.val hfr), oN := fun p hp => ?_, oH := fun p hp => ?_, oI := fun p hp q hq e => ?_, vars := fun y e hy => ?_ }
  · have hne : b ≠ a := fun q => by rw [q, hB] at e; cases e
    obtain ⟨k1, sl, k2⟩ := o.kb b ob ht e
    exact ⟨fun hc => (l.same.2 b hne).trans (k1 hc), sl, (l.same.2 b hne).trans k2⟩
  · rcases List.mem_cons.mp hp with rfl | hp
    · exact o₀.freshB hb
    · exact o.bO p (List.mem_filter.mp hp).1
  · rcases List.mem_cons.mp hp with rfl | hp
    · exact fun hX => by obtain ⟨ob, e, _⟩ := o₀.xH _ hX; rw [hb] at e; cases e
    · exact o.nX p (List.mem_filter.mp hp).1
  · rcases List.mem_cons.mp hp with rfl | hp
    · exact hx
    · exact o.oN p (List.mem_filter.mp hp).1
  · rcases List.mem_cons.mp hp with rfl | hp
    · exact ⟨_, PL.keepV (l.val hfr) hl⟩
    · obtain ⟨vs, hv⟩ := o.oH p (List.mem_filter.mp hp).1
      exact ⟨vs, PL.keepV (l.val hfr) hv⟩
  · rcases List.mem_cons.mp hp with rfl | hp <;> rcases List.mem_cons.mp hq with rfl | hq
    · rfl
    · exact absurd e.symm (ho q (List.mem_filter.mp hq).1)
    · exact absurd e (ho p (List.mem_filter.mp hp).1)
    · exact o.oI p (List.mem_filter.mp hp).1 q (List.mem_filter.mp hq).1 e
  · rw [lookup_put] at hy
    by_cases hyx : y = x
    · subst hyx
      rw [if_pos rfl] at hy; cases hy
      exact ⟨fun _ => ⟨b, ds, vs, rfl, .head _, l.var, PL.keepV (l.val hfr) hl, (hr.mono hsub).keepV (l.val hfr)⟩, fun hm => (hm hx).elim⟩
    · rw [if_neg hyx] at hy
      have := o₀.vars y e hy
      refine ⟨fun hm => ?_, fun hm => ?_⟩
      · obtain ⟨c, es, ws, h1, h2, h3, h4, h5⟩ := this.1 hm
        exact ⟨c, es, ws, h1, .tail _ (List.mem_filter.mpr ⟨h2, by simpa using hyx⟩), l.other o.g hyx (h3.keep o₀.inv st.keep), PL.keepV (l.val hfr) (PL.keep o₀.inv st.keep h4), (((h5.avoid hb).step o₀.inv st).mono hsub).keepV (l.val hfr)⟩
      · obtain ⟨w, h1, h2⟩ := this.2 hm
        exact ⟨w, l.other o.g hyx (h1.keep o₀.inv st.keep), (((h2.avoid hb).step o₀.inv st).mono hsub).keepV (l.val hfr)⟩

end
end Mine

end
section
open PySem
set_option Elab.async false
namespace Mine
theorem runs_toks {M : Model} {Γ : Ctx} {p : Pos} {t : Sem Fin} {fs : List Frame} {s : Shared} {e : End} {s' : Shared} (h : Runs M Γ p t fs s e s') : s.toks ≤ s'.toks := by
  induction h with
  | done | raise | «yield» => exact Nat.le_refl _
  | fresh _ ih => exact Nat.le_trans (Nat.le_succ _) ih
  | call _ _ i1 i2 => exact Nat.le_trans i1 i2
  | resumeFresh _ _ _ _ i1 i2 => exact Nat.le_trans i1 i2
  | resumeSuspended _ _ _ _ i1 i2 => exact Nat.le_trans i1 i2
  | segRet _ _ i1 i2 => exact Nat.le_trans i1 i2
  | segGen _ _ i1 i2 => exact Nat.le_trans i1 i2
  | segSuspGen _ _ _ _ i1 i2 => exact Nat.le_trans i1 i2
  | _ => first | assumption | (rename_i ih; exact ih)
theorem wakes_toks {M : Model} {Γ : Ctx} {p : Pos} {g : Nat} {r : Resume} {s : Shared} {res : GenResult} {s' : Shared} (h : Wakes M Γ p g r s res s') : s.toks ≤ s'.toks := by
  unfold Wakes at h
  split at h
  · exact h.elim
  · split at h
    · obtain ⟨e₁, s₁, h1, _, _, rfl⟩ := h; exact (show (s.setGen g .running).toks ≤ s₁.toks from runs_toks h1)
    · rw [h.2]; exact Nat.le_refl _
    · rw [h.2]; exact Nat.le_refl _
  · obtain ⟨e₁, s₁, h1, _, _, rfl⟩ := h; exact (show (s.setGen g .running).toks ≤ s₁.toks from runs_toks h1)
  · rw [h.2]; exact Nat.le_refl _
  · rw [h.2]; exact Nat.le_refl _
theorem wp_toks {α : Type} {M : Model} {Γ : Ctx} {n : Nat} {Q : α → Pos → Shared → Prop} {E : Value → Pos → Shared → Prop} : ∀ (t : Sem α) (p : Pos) (s : Shared), n ≤ s.toks → Sem.wp M Γ t Q E p s →
    Sem.wp M Γ t (fun a p' s' => n ≤ s'.toks ∧ Q a p' s') (fun e p' s' => n ≤ s'.toks ∧ E e p' s') p s := by
  intro t
  induction t with
  | pure a => intro p s hn h; rw [Sem.wp] at h ⊢; exact ⟨hn, h⟩
  | raise e => intro p s hn h; rw [Sem.wp] at h ⊢; exact ⟨hn, h⟩
  | load a _ k ih => intro p s hn h; rw [Sem.wp] at h ⊢; obtain ⟨o, h1, h2⟩ := h; exact ⟨o, h1, ih _ _ _ hn h2⟩
  | update a _ f k ih => intro p s hn h; rw [Sem.wp] at h ⊢; exact ⟨h.1, ih _ _ _ hn h.2⟩
  | fresh k ih => intro p s hn h; rw [Sem.wp] at h ⊢; exact ih _ _ _ (Nat.le_succ_of_le hn) h
  | choose src m k ih => intro p s hn h; rw [Sem.wp] at h ⊢; exact ⟨h.1, ih _ _ _ hn h.2⟩
  | call c hd g l k ih =>
    intro p s hn h; rw [Sem.wp] at h ⊢
    obtain ⟨r, s', h1, h2⟩ := h
    exact ⟨r, s', h1, ih _ _ _ (Nat.le_trans hn (runs_toks h1)) h2⟩
  | genState g k ih => intro p s hn h; rw [Sem.wp] at h ⊢; obtain ⟨st, h1, h2⟩ := h; exact ⟨st, h1, ih _ _ _ hn h2⟩
  | resume g r l k ih =>
    intro p s hn h; rw [Sem.wp] at h ⊢
    obtain ⟨r, s', h1, h2⟩ := h
    exact ⟨r, s', h1, ih _ _ _ (Nat.le_trans hn (wakes_toks h1)) h2⟩
  | _ => intro p s hn h; rw [Sem.wp] at h ⊢; first | exact h | (rename_i ih; exact ih _ _ _ hn h)
theorem any_toks {α : Type} {M : Model} {A : Around} {n : Nat} {Q : α → Shared → Prop} {E : Value → Shared → Prop} {t : Sem α} {s : Shared} (hn : n ≤ s.toks) (h : wpAny M A t Q E s) :
    wpAny M A t (fun a s' => n ≤ s'.toks ∧ Q a s') (fun e s' => n ≤ s'.toks ∧ E e s') s := fun Γ p hΓ => wp_toks t p s hn (h Γ p hΓ)
theorem wpAny_tk {α : Type} {M : Model} {A : Around} {n : Nat} {Q : α → Shared → Prop} {E : Value → Shared → Prop} {t : Sem α} {s : Shared} (hn : n ≤ s.toks) (h : wpAny M A t (fun a s' => n ≤ s'.toks → Q a s') (fun e s' => n ≤ s'.toks → E e s') s) : wpAny M A t Q E s :=
  wpAny_mono (any_toks hn h) (fun _ _ x => x.2 x.1) fun _ _ x => x.2 x.1
end Mine

end
section
open PySem PySem.W PySem.Calls PyProof.Rows PySem.Builtin PySem.Builtin.Str
set_option Elab.async false
set_option maxRecDepth 100000

namespace Mine

theorem ne_of_cls {h : Heap} {a : Addr} {ws : Array Value} {b : Addr} {o : Obj} (ha : h.IsList a ws) (e : h.get? b = some o) (hc : o.cls ≠ .type "list") : b ≠ a := fun q => by
  obtain ⟨o', e', c', _⟩ := ha
  rw [q, e'] at e; cases e; exact hc c'
section
variable {C : Cx} {G : Fc} {B : Heap} {X : Addr → Prop} {O : List PySem.Str} {ρ : Vars} {own : List (PySem.Str × Addr)} {s s' : Shared}

theorem OkS.changeOwn {x : PySem.Str} {a : Addr} {vs : List Value} {ds : List D} {h' : Heap} {tk : Nat} {ws : Array Value} (o : OkS C G B X O ρ own s) (hm : (x, a) ∈ own) (hl0 : s.heap.IsList a ws) (hs : Heap.SameBut a s.heap h') (hl : h'.PlainList a (List.toArray vs))
    (hv : VarAt G.env s.heap x (.ref a)) (hr : Reps C (inl own X) s.heap vs ds) : OkS C G B X O (put x (.list ds) ρ) own { s with heap := h', toks := tk } := by
  have hXa : inl own X a := .inr ⟨(x, a), hm, rfl⟩
  have kv : ∀ b ob, b ≠ a → s.heap.get? b = some ob → Val ob → h'.get? b = some ob := fun b ob hne e _ => (hs.2 b hne).trans e
  obtain ⟨oa, ea, ca, na, da⟩ := id hl0
  have hbase : C.base.get? a = none := by
    cases e : C.base.get? a with
    | none => rfl
    | some ob =>
      obtain ⟨ob', e'⟩ := o.bb a ob e
      rw [o.bO (x, a) hm] at e'; cases e'
  have hne : ∀ (b : Addr) (ob : Obj), s.heap.get? b = some ob → ob.cls ≠ .type "list" → b ≠ a := fun b ob e hc => ne_of_cls hl0 e hc
  have hned : ∀ (b : Addr) (ob : Obj), s.heap.get? b = some ob → (∀ vs n, ob.data ≠ .seq vs n) → b ≠ a := fun b ob e hc q => by
    rw [q, ea] at e; cases e; exact hc _ _ da
  have inv' : Inv C { s with heap := h', toks := tk } := o.inv.change hs hbase ea (by rw [da]; simp)
  have var' : ∀ {y : PySem.Str} {u : Value}, VarAt G.env s.heap y u → VarAt G.env h' y u := fun {y u} hv => by
    rcases hv with ⟨hk, m, hn, hm⟩ | ⟨hk, c, hc, hv⟩
    · refine .inl ⟨hk, m, hn.sameBut hs ?_, hm⟩
      obtain ⟨ob, es, ep, e, hd, _⟩ := hn
      exact hned _ _ e (by rw [hd]; simp)
    · refine .inr ⟨hk, c, hc, hv.sameBut hs ?_⟩
      obtain ⟨ob, e, hd⟩ := hv
      exact hned _ _ e (by rw [hd]; simp)
  refine { inv := inv', g := ?_, kb := fun b ob ht e => ?_, bt := o.bt, bb := o.bb, bL := o.bL, bC := o.bC, bO := o.bO, nX := o.nX, xH := fun b hb => (by have hba : b ≠ a := (fun q => o.nX _ hm (q ▸ hb)); obtain ⟨ob, e, r⟩ := o.xH b hb; exact ⟨ob, (hs.2 b hba).trans e, r⟩), oN := o.oN, oH := fun p hp => ?_, oI := o.oI, vars := fun y e hy => ?_ }
  · have g := o.g
    refine { depth := g.depth, units := g.units, frames := ?_, kind := g.kind, glob := g.glob, blt := g.blt, loc := ?_, locB := g.locB, cells := fun y c e => ?_, inj := g.inj, hnd := fun u hu => ?_ }
    · obtain ⟨fe, p, q, r⟩ := g.frames
      refine ⟨fe, p, q, fun e he => (r e he).change hs fun ob ho hcl _ => ?_⟩
      rw [ea] at ho; cases ho; rw [ca] at hcl; simp at hcl
    · obtain ⟨m, hn⟩ := g.loc
      refine ⟨m, hn.sameBut hs ?_⟩
      obtain ⟨ob, es, ep, e, hd, _⟩ := hn
      exact hned _ _ e (by rw [hd]; simp)
    · obtain ⟨⟨v, hv⟩, hb⟩ := g.cells y c e
      refine ⟨⟨v, hv.sameBut hs ?_⟩, hb⟩
      obtain ⟨ob, e, hd⟩ := hv
      exact hned _ _ e (by rw [hd]; simp)
    · obtain ⟨e, ob, us, h1, h2, h3, h4, h5⟩ := g.hnd u hu
      exact ⟨e, ob, us, h1, (hs.2 e (hned _ _ h2 (by rw [h4]; simp))).trans h2, h3, h4, h5⟩
  · have hneB : b ≠ a := fun q => by rw [q, o.bO (x, a) hm] at e; cases e
    obtain ⟨k1, sl, k2⟩ := o.kb b ob ht e
    exact ⟨fun hc => (hs.2 b hneB).trans (k1 hc), sl, (hs.2 b hneB).trans k2⟩
  · by_cases hpa : p.2 = a
    · rw [hpa]; exact ⟨_, hl⟩
    · obtain ⟨us, n, e⟩ := o.oH p hp
      exact ⟨us, n, (hs.2 _ hpa).trans e⟩
  · rw [lookup_put] at hy
    by_cases hyx : y = x
    · subst hyx
      rw [if_pos rfl] at hy; cases hy
      exact ⟨fun _ => ⟨a, ds, vs, rfl, hm, var' hv, hl, hr.keepA hl0 hXa kv⟩, fun h => (h (o.oN _ hm)).elim⟩
    · rw [if_neg hyx] at hy
      have := o.vars y e hy
      refine ⟨fun h => ?_, fun h => ?_⟩
      · obtain ⟨c, es, us, h1, h2, h3, h4, h5⟩ := this.1 h
        have hca : c ≠ a := fun q => hyx (o.oI _ h2 _ hm q)
        obtain ⟨n, e⟩ := h4
        exact ⟨c, es, us, h1, h2, var' h3, ⟨n, (hs.2 _ hca).trans e⟩, h5.keepA hl0 hXa kv⟩
      · obtain ⟨w, h1, h2⟩ := this.2 h
        exact ⟨w, var' h1, h2.keepA hl0 hXa kv⟩

/-! ### statements -/
noncomputable def SP (C : Cx) (G : Fc) (B : Heap) (X : Addr → Prop) (O : List PySem.Str) (P : Fl → Vars → Prop) (fl : Flow) (s' : Shared) : Prop :=
  ∃ ρ' own', OkS C G B X O ρ' own' s' ∧ match fl with
    | .next => P .nxt ρ'
    | .brk => P .brk ρ'
    | .cont => P .cont ρ'
    | .ret v => ∃ d, Rep C X s'.heap v d ∧ P (.ret d) ρ'
noncomputable def SX (C : Cx) (G : Fc) (B : Heap) (X : Addr → Prop) (O : List PySem.Str) (t : Bool) (Zs : Exn → Vars → Prop) (ev : Value) (s' : Shared) : Prop :=
  ∃ ρ' own', OkS C G B X O ρ' own' s' ∧ ∃ x, XAt C B s'.heap ev x t ∧ Zs x ρ'

noncomputable def S1W (C : Cx) (G : Fc) (O : List PySem.Str) (ρ : Vars) (st : Stmt) (P : Fl → Vars → Prop) (Zs : Exn → Vars → Prop) : Prop :=
  ∀ B X own s, OkS C G B X O ρ own s → wpAny C.M G.A (exec st G.env) (SP C G B X O P) (SX C G B X O false Zs) s
noncomputable def SW (C : Cx) (G : Fc) (O : List PySem.Str) (ρ : Vars) (ss : List Stmt) (P : Fl → Vars → Prop) (Zs : Exn → Vars → Prop) : Prop :=
  ∀ B X own s, OkS C G B X O ρ own s → wpAny C.M G.A (execs ss G.env) (SP C G B X O P) (SX C G B X O false Zs) s

noncomputable def SWT (n : Nat) (C : Cx) (G : Fc) (O : List PySem.Str) (ρ : Vars) (ss : List Stmt) (P : Fl → Vars → Prop) (Zs : Exn → Vars → Prop) : Prop :=
  ∀ B X own s, OkS C G B X O ρ own s → n ≤ s.toks → wpAny C.M G.A (execs ss G.env) (SP C G B X O P) (SX C G B X O false Zs) s
noncomputable def S1WT (n : Nat) (C : Cx) (G : Fc) (O : List PySem.Str) (ρ : Vars) (st : Stmt) (P : Fl → Vars → Prop) (Zs : Exn → Vars → Prop) : Prop :=
  ∀ B X own s, OkS C G B X O ρ own s → n ≤ s.toks → wpAny C.M G.A (exec st G.env) (SP C G B X O P) (SX C G B X O false Zs) s

theorem XAt.toB (o : OkS C G B X O ρ own s) {h : Heap} {ev : Value} {x : Exn} {b : Bool} (r : XAt C s.heap h ev x b) : XAt C B h ev x b := by
  obtain ⟨a, ob, vs, h1, h2, h3, h4, h5, h6, h7, h8⟩ := r
  refine ⟨a, ob, vs, h1, o.freshB h2, h3, h4, h5, h6, h7, ?_⟩
  rcases h8 with h8 | ⟨T, oT, ts, g1, g2, g3⟩
  · exact .inl h8
  · exact .inr ⟨T, oT, ts, g1, o.freshB g2, g3⟩
theorem XP.sx {Zs : Exn → Vars → Prop} {ev : Value} (o : OkS C G B X O ρ own s) (x : XP C s (fun e => Zs e ρ) ev s') : SX C G B X O false Zs ev s' :=
  by obtain ⟨st, y, r, z⟩ := x; exact ⟨ρ, own, o.step st, y, r.toB o, z⟩

variable {P : Fl → Vars → Prop} {Zs : Exn → Vars → Prop}

theorem SW.nil (h : P .nxt ρ) : SW C G O ρ [] P Zs := fun B X own s o => wpAny_execs_nil ⟨ρ, own, o, h⟩
noncomputable abbrev kNx (C : Cx) (G : Fc) (O : List PySem.Str) (ss : List Stmt) (P : Fl → Vars → Prop) (Zs : Exn → Vars → Prop) (fl : Fl) (ρ' : Vars) : Prop := match fl with | .nxt => SW C G O ρ' ss P Zs | fl => P fl ρ'
noncomputable abbrev kIf (C : Cx) (G : Fc) (O : List PySem.Str) (ρ : Vars) (a b : List Stmt) (P : Fl → Vars → Prop) (Zs : Exn → Vars → Prop) (k : Bool) : Prop := (k = true → SW C G O ρ a P Zs) ∧ (k = false → SW C G O ρ b P Zs)
noncomputable abbrev kZ (Zs : Exn → Vars → Prop) (ρ : Vars) (x : Exn) : Prop := Zs x ρ
noncomputable abbrev kRet (P : Fl → Vars → Prop) (ρ : Vars) (d : D) : Prop := P (.ret d) ρ
noncomputable abbrev kPut (P : Fl → Vars → Prop) (x : PySem.Str) (ρ : Vars) (d : D) : Prop := P .nxt (put x d ρ)
noncomputable abbrev kPutP (P : Fl → Vars → Prop) (x : PySem.Str) (ρ : Vars) (d : D) : Prop := d.plain = true ∧ P .nxt (put x d ρ)
theorem SW.cons {st : Stmt} {ss : List Stmt} (h : S1W C G O ρ st (kNx C G O ss P Zs) Zs) : SW C G O ρ (st :: ss) P Zs := fun B X own s o => by
  refine wpAny_execs_cons (wpAny_mono (h B X own s o) (fun fl s₁ q9 => ?_) fun _ _ x => x)
  obtain ⟨ρ', own', o', p⟩ := q9
  cases fl with
  | next => exact p B X own' s₁ o'
  | brk => exact ⟨ρ', own', o', p⟩
  | cont => exact ⟨ρ', own', o', p⟩
  | ret v => exact ⟨ρ', own', o', p⟩
theorem SW.t {n : Nat} {ss : List Stmt} (h : SW C G O ρ ss P Zs) : SWT n C G O ρ ss P Zs := fun B X own s o _ => h B X own s o
theorem S1W.t {n : Nat} {st : Stmt} (h : S1W C G O ρ st P Zs) : S1WT n C G O ρ st P Zs := fun B X own s o _ => h B X own s o
noncomputable abbrev kNxT (n : Nat) (C : Cx) (G : Fc) (O : List PySem.Str) (ss : List Stmt) (P : Fl → Vars → Prop) (Zs : Exn → Vars → Prop) (fl : Fl) (ρ' : Vars) : Prop := match fl with | .nxt => SWT n C G O ρ' ss P Zs | fl => P fl ρ'
theorem SWT.cons {n : Nat} {st : Stmt} {ss : List Stmt} (h : S1WT n C G O ρ st (kNxT n C G O ss P Zs) Zs) : SWT n C G O ρ (st :: ss) P Zs := fun B X own s o hn => by
  refine wpAny_execs_cons (wpAny_tk hn (wpAny_mono (h B X own s o hn) (fun fl s₁ q9 hn₁ => ?_) fun _ _ x _ => x))
  obtain ⟨ρ', own', o', p⟩ := q9
  cases fl with
  | next => exact p B X own' s₁ o' hn₁
  | brk => exact ⟨ρ', own', o', p⟩
  | cont => exact ⟨ρ', own', o', p⟩
  | ret v => exact ⟨ρ', own', o', p⟩
theorem SW.mono {ss : List Stmt} {P' : Fl → Vars → Prop} {Zs' : Exn → Vars → Prop} (h : SW C G O ρ ss P Zs) (hp : ∀ fl ρ, P fl ρ → P' fl ρ) (hz : ∀ x ρ, Zs x ρ → Zs' x ρ) : SW C G O ρ ss P' Zs' := fun B X own s o =>
  wpAny_mono (h B X own s o) (fun fl s₁ ⟨ρ', own', o', p⟩ => ⟨ρ', own', o', by cases fl <;> first | exact hp _ _ p | exact (by obtain ⟨d, r, q⟩ := p; exact ⟨d, r, hp _ _ q⟩)⟩) fun _ _ ⟨ρ', own', o', x, r, z⟩ => ⟨ρ', own', o', x, r, hz _ _ z⟩
theorem S1W.mono {st : Stmt} {P' : Fl → Vars → Prop} {Zs' : Exn → Vars → Prop} (h : S1W C G O ρ st P Zs) (hp : ∀ fl ρ, P fl ρ → P' fl ρ) (hz : ∀ x ρ, Zs x ρ → Zs' x ρ) : S1W C G O ρ st P' Zs' := fun B X own s o =>
  wpAny_mono (h B X own s o) (fun fl s₁ ⟨ρ', own', o', p⟩ => ⟨ρ', own', o', by cases fl <;> first | exact hp _ _ p | exact (by obtain ⟨d, r, q⟩ := p; exact ⟨d, r, hp _ _ q⟩)⟩) fun _ _ ⟨ρ', own', o', x, r, z⟩ => ⟨ρ', own', o', x, r, hz _ _ z⟩

theorem S1W.ret {e : Expr} {pos : Pos} (h : EvW C G ρ e (kRet P ρ) (kZ Zs ρ)) : S1W C G O ρ (.Return (some e) pos) P Zs := fun B X own s o => by
  refine wpAny_Return_some (wpAny_mono (h X s o.full) (fun v s₁ ⟨st, d, r, p⟩ => ⟨ρ, own, o.step st, d, r, p⟩) fun _ _ x => x.sx o)
theorem S1W.brk {pos : Pos} (h : P .brk ρ) : S1W C G O ρ (.Break pos) P Zs := fun B X own s o => wpAny_Break ⟨ρ, own, o, h⟩
theorem S1WT.ifs {n : Nat} {t : Expr} {a b : List Stmt} {pos : Pos} (h : TsW C G ρ t (fun k => (k = true → SWT n C G O ρ a P Zs) ∧ (k = false → SWT n C G O ρ b P Zs)) (kZ Zs ρ)) : S1WT n C G O ρ (.If t a b pos) P Zs := fun B X own s o hn => by
  refine wpAny_If (wpAny_tk hn (wpAny_mono (h X s o.full) (fun k s₁ q9 hn₁ => ?_) fun _ _ x _ => x.sx o))
  obtain ⟨st, p⟩ := q9
  cases k with
  | true => exact p.1 rfl B X own s₁ (o.step st) hn₁
  | false => exact p.2 rfl B X own s₁ (o.step st) hn₁
theorem S1W.ifs {t : Expr} {a b : List Stmt} {pos : Pos} (h : TsW C G ρ t (kIf C G O ρ a b P Zs) (kZ Zs ρ)) : S1W C G O ρ (.If t a b pos) P Zs := fun B X own s o => by
  refine wpAny_If (wpAny_mono (h X s o.full) (fun k s₁ q9 => ?_) fun _ _ x => x.sx o)
  obtain ⟨st, p⟩ := q9
  cases k with
  | true => exact p.1 rfl B X own s₁ (o.step st)
  | false => exact p.2 rfl B X own s₁ (o.step st)

noncomputable def Storable (G : Fc) (x : PySem.Str) : Prop := G.env.kindOf x = some .local ∨ G.env.kindOf x = some .cell ∧ ∃ c, G.env.cells.lookup x = some c
structure Fun (G : Fc) : Prop where
  fr : G.env.frame = some G.env.locals
  top : G.A.frames = some (G.env :: G.outer)
  cel : ∀ x, G.env.kindOf x = some .cell → ∃ c, G.env.cells.lookup x = some c

noncomputable def isComp : Expr → Bool
  | .ListComp .. => true
  | .SetComp .. => true
  | .DictComp .. => true
  | _ => false
theorem swaps_plain {value : Expr} {t : Option Expr} {n : Nat} {env : Env} (h : isComp value = false) : swapsWith value t n env = pure false := by
  cases value <;> first | rfl | (exact Bool.noConfusion (show true = false from h))

theorem S1W.asg {x : PySem.Str} {xp pos : Pos} {e : Expr} (hF : Fun G) (hk : Storable G x) (hx : x ∉ O) (hc : isComp e = false) (h : EvW C G (safe O ρ) e (kPut P x ρ) (kZ Zs ρ)) :
    S1W C G O ρ (.Assign [.Name x xp] e pos) P Zs := fun B X own s o => by
  refine wpAny_Assign_Name ?_ (swaps_plain hc)
  refine wpAny_mono (h _ s o.safeE) (fun v s₁ q9 => ?_) fun _ _ x => x.sx o
  obtain ⟨st, d, r, p⟩ := q9
  exact store_loc (o.step st).g hk fun h' tk a l => ⟨_, own, (o.step st).store hF.fr l hx r, p⟩
theorem S1W.asgP {x : PySem.Str} {xp pos : Pos} {e : Expr} (hF : Fun G) (hk : Storable G x) (hx : x ∉ O) (hc : isComp e = false) (h : EvW C G ρ e (kPutP P x ρ) (kZ Zs ρ)) :
    S1W C G O ρ (.Assign [.Name x xp] e pos) P Zs := fun B X own s o => by
  refine wpAny_Assign_Name ?_ (swaps_plain hc)
  refine wpAny_mono (h _ s o.full) (fun v s₁ q9 => ?_) fun _ _ x => x.sx o
  obtain ⟨st, d, r, hp, p⟩ := q9
  exact store_loc (o.step st).g hk fun h' tk a l => ⟨_, own, (o.step st).store hF.fr l hx (r.plain hp), p⟩
theorem S1W.asgO {x : PySem.Str} {xp pos : Pos} {e : Expr} (hF : Fun G) (hk : Storable G x) (hx : x ∈ O) (hc : isComp e = false) (h : FvW C G (safe O ρ) e (fun ds => P .nxt (put x (.list ds) ρ)) (fun z => Zs z ρ)) :
    S1W C G O ρ (.Assign [.Name x xp] e pos) P Zs := fun B X own s o => by
  refine wpAny_Assign_Name ?_ (swaps_plain hc)
  refine wpAny_mono (h _ s o.safeE) (fun v s₁ q9 => ?_) fun _ _ x => x.sx o
  obtain ⟨st, b, vs, ds, e, h1, h2, h3, p⟩ := q9
  subst e
  exact store_loc (o.step st).g hk fun h' tk a l => ⟨_, _, o.storeOwn st hF.fr l hx h1 h2 h3, p⟩

end
end Mine

end
section
open PySem PySem.W PySem.Calls PyProof.Rows PySem.Builtin PySem.Builtin.Str
set_option Elab.async false
set_option maxRecDepth 100000

namespace Mine
section
variable {C : Cx} {G : Fc} {B : Heap} {X : Addr → Prop} {O : List PySem.Str} {ρ ρ' : Vars} {own : List (PySem.Str × Addr)} {s s' : Shared}

theorem OkS.congr (o : OkS C G B X O ρ own s) (h : ∀ y d, ρ'.lookup y = some d → ρ.lookup y = some d) : OkS C G B X O ρ' own s :=
  { o with vars := fun y d e => o.vars y d (h y d e) }

noncomputable def puts : List PySem.Str → List D → Vars → Vars
  | x :: xs, d :: ds, ρ => puts xs ds (put x d ρ)
  | _, _, ρ => ρ
noncomputable def ItemOk (C : Cx) (h : Heap) (X : Addr → Prop) (O : List PySem.Str) (own : List (PySem.Str × Addr)) (x : PySem.Str) (v : Value) (d : D) : Prop :=
  (x ∈ O → ∃ a ds vs, v = .ref a ∧ d = .list ds ∧ (x, a) ∈ own ∧ h.PlainList a (List.toArray vs) ∧ Reps C (inl own X) h vs ds) ∧
  (x ∉ O → Rep C (inl own X) h v d)
theorem ItemOk.step {x : PySem.Str} {v : Value} {d : D} (i : Inv C s) (st : Step C s s') (k : ItemOk C s.heap X O own x v d) : ItemOk C s'.heap X O own x v d :=
  ⟨fun hx => (by obtain ⟨a, ds, vs, h1, h2, h3, h4, h5⟩ := k.1 hx; exact ⟨a, ds, vs, h1, h2, h3, PL.keep i st.keep h4, h5.step i st⟩), fun hx => (k.2 hx).step i st⟩
noncomputable def ItemsOk (C : Cx) (h : Heap) (X : Addr → Prop) (O : List PySem.Str) (own : List (PySem.Str × Addr)) : List PySem.Str → List Value → List D → Prop
  | [], vs, ds => vs = [] ∧ ds = []
  | x :: xs, vs, ds => ∃ v vs' d ds', vs = v :: vs' ∧ ds = d :: ds' ∧ ItemOk C h X O own x v d ∧ ItemsOk C h X O own xs vs' ds'
theorem ItemsOk.step (i : Inv C s) (st : Step C s s') : ∀ {xs : List PySem.Str} {vs : List Value} {ds : List D}, ItemsOk C s.heap X O own xs vs ds → ItemsOk C s'.heap X O own xs vs ds
  | [], _, _, k => k
  | _ :: _, _, _, q => by obtain ⟨v, vs', d, ds', h1, h2, h3, h4⟩ := q; exact ⟨v, vs', d, ds', h1, h2, h3.step i st, ItemsOk.step i st h4⟩

theorem OkS.storeItem {x : PySem.Str} {v : Value} {d : D} {h' : Heap} {tk : Nat} {a : Addr} (o : OkS C G B X O ρ own s) (hf : G.env.frame = some G.env.locals) (l : Loc C G s h' a x v) (k : ItemOk C s.heap X O own x v d) :
    OkS C G B X O (put x d ρ) own { s with heap := h', toks := tk } := by
  by_cases hx : x ∈ O
  · obtain ⟨b, ds, vs, rfl, rfl, hm, hl, hr⟩ := k.1 hx
    have hfr := o.g.framed hf
    have hB : B.get? a = none := by
      rcases l.here with ⟨rfl, _⟩ | ⟨_, hc, _⟩
      · exact o.bL
      · exact o.bC x a hc
    refine { inv := l.inv o.inv, g := l.g o.g, kb := fun b ob ht e => ?_, bt := o.bt, bb := o.bb, bL := o.bL, bC := o.bC, bO := o.bO, nX := o.nX, xH := fun a ha => (o.xH a ha).keepV (l.val hfr), oN := o.oN, oH := fun p hp => ?_, oI := o.oI, vars := fun y e hy => ?_ }
    · have hne : b ≠ a := fun q => by rw [q, hB] at e; cases e
      obtain ⟨k1, sl, k2⟩ := o.kb b ob ht e
      exact ⟨fun hc => (l.same.2 b hne).trans (k1 hc), sl, (l.same.2 b hne).trans k2⟩
    · obtain ⟨vs, hv⟩ := o.oH p hp
      exact ⟨vs, PL.keepV (l.val hfr) hv⟩
    · rw [lookup_put] at hy
      by_cases hyx : y = x
      · subst hyx
        rw [if_pos rfl] at hy; cases hy
        exact ⟨fun _ => ⟨b, ds, vs, rfl, hm, l.var, PL.keepV (l.val hfr) hl, hr.keepV (l.val hfr)⟩, fun h => (h hx).elim⟩
      · rw [if_neg hyx] at hy
        have := o.vars y e hy
        exact ⟨fun hm => (by obtain ⟨b, ds, vs, h1, h2, h3, h4, h5⟩ := this.1 hm; exact ⟨b, ds, vs, h1, h2, l.other o.g hyx h3, PL.keepV (l.val hfr) h4, h5.keepV (l.val hfr)⟩),
          fun hm => (by obtain ⟨w, h1, h2⟩ := this.2 hm; exact ⟨w, l.other o.g hyx h1, h2.keepV (l.val hfr)⟩)⟩
  · exact o.store hf l hx (k.2 hx)
theorem ItemOk.loc {x y : PySem.Str} {v u : Value} {d : D} {h' : Heap} {a : Addr} (o : OkS C G B X O ρ own s) (hf : G.env.frame = some G.env.locals) (l : Loc C G s h' a x v) (k : ItemOk C s.heap X O own y u d) : ItemOk C h' X O own y u d :=
  have hfr := o.g.framed hf
  ⟨fun hx => (by obtain ⟨a, ds, vs, h1, h2, h3, h4, h5⟩ := k.1 hx; exact ⟨a, ds, vs, h1, h2, h3, PL.keepV (l.val hfr) h4, h5.keepV (l.val hfr)⟩), fun hx => (k.2 hx).keepV (l.val hfr)⟩
theorem ItemsOk.loc {x : PySem.Str} {v : Value} {h' : Heap} {a : Addr} (o : OkS C G B X O ρ own s) (hf : G.env.frame = some G.env.locals) (l : Loc C G s h' a x v) : ∀ {xs : List PySem.Str} {vs : List Value} {ds : List D}, ItemsOk C s.heap X O own xs vs ds → ItemsOk C h' X O own xs vs ds
  | [], _, _, k => k
  | _ :: _, _, _, ⟨v, vs', d, ds', h1, h2, h3, h4⟩ => ⟨v, vs', d, ds', h1, h2, h3.loc o hf l, ItemsOk.loc o hf l h4⟩

theorem ItemsOk.len {h : Heap} : ∀ {xs : List PySem.Str} {vs : List Value} {ds : List D}, ItemsOk C h X O own xs vs ds → vs.length = xs.length ∧ ds.length = xs.length
  | [], _, _, q => by obtain ⟨e1, e2⟩ := q; simp [e1, e2]
  | _ :: _, _, _, q => by obtain ⟨v, vs', d, ds', h1, h2, h3, h4⟩ := q; have := ItemsOk.len h4; simp [this, h1, h2]
theorem ItemsOk.of_reps {h : Heap} : ∀ {xs : List PySem.Str} {vs : List Value} {ds : List D}, (∀ x ∈ xs, x ∉ O) → xs.length = ds.length → Reps C (inl own X) h vs ds → ItemsOk C h X O own xs vs ds
  | [], [], [], _, _, _ => ⟨rfl, rfl⟩
  | x :: xs, v :: vs, d :: ds, hx, hl, r => by
    exact ⟨v, vs, d, ds, rfl, rfl, ⟨fun h => (hx x (.head _) h).elim, fun _ => r.1⟩, ItemsOk.of_reps (fun y hy => hx y (.tail _ hy)) (by simpa using hl) r.2⟩
  | [], _, _ :: _, _, hl, _ => by simp at hl
  | _ :: _, _, [], _, hl, _ => by simp at hl
  | _, [], _ :: _, _, _, r => False.elim r
  | _, _ :: _, [], _, _, r => False.elim r

noncomputable def nameTs (xs : List (PySem.Str × Pos)) : List Expr := xs.map fun p => .Name p.1 p.2
theorem assignEach_names (env : Env) : ∀ xs : List (PySem.Str × Pos), assignEach (nameTs xs) env = xs.map fun p => (false, assign (.Name p.1 p.2) env)
  | [] => rfl
  | p :: r => by
    show (false, assign (.Name p.1 p.2) env) :: assignEach (nameTs r) env = _
    rw [assignEach_names env r]; rfl

noncomputable def okSwap : Expr → Bool
  | .Call _ _ _ _ => true
  | _ => false
theorem okSwap_call {e : Expr} (h : okSwap e = true) : ∃ f as ks p, e = .Call f as ks p := by
  cases e <;> first | exact ⟨_, _, _, _, rfl⟩ | exact absurd h Bool.false_ne_true
theorem swapped_names {xs : List (PySem.Str × Pos)} {k : Nat} {tp : Pos} {value : Expr} {env : Env} (h : okSwap value = true) :
    swappedStores [.Tuple (nameTs xs) k tp] value env = pure Option.none := by
  obtain ⟨f, as, ks, p, rfl⟩ := okSwap_call h
  rfl

theorem findIdx_names (env : Env) : ∀ xs : List (PySem.Str × Pos), (xs.map fun p => (false, assign (.Name p.1 p.2) env)).findIdx? (·.1) = none := fun xs => by
  rw [List.findIdx?_eq_none_iff]; intro x hx; obtain ⟨p, _, rfl⟩ := List.mem_map.mp hx; rfl

theorem unpack_items {E : Value → Shared → Prop} {R : Unit → Shared → Prop} {t : Addr} {vs : List Value} {ds : List D} {xs : List (PySem.Str × Pos)} {k : Nat} {tp : Pos} (hF : Fun G) (hh : G.A.handled = none)
    (o : OkS C G B X O ρ own s) (hk : ∀ p ∈ xs, Storable G p.1) (ht : IsTup s.heap t vs.toArray) (hi : ItemsOk C s.heap X O own (xs.map (·.1)) vs ds) (h : ∀ s', OkS C G B X O (puts (xs.map (·.1)) ds ρ) own s' → R () s') :
    wpAny C.M G.A (assign (.Tuple (nameTs xs) k tp) G.env (.ref t)) R E s := by
  refine assign_Tuple_tuple hh ht ?_ ?_ fun h' he => ?_
  · rw [assignEach_names]; simp [hi.len.1]
  · rw [assignEach_names]; exact findIdx_names _ _
  · have st : Step C s { s with heap := h' } := Step.keeps (tk := s.toks) (dr := s.drawn) o.inv fun b ob e => he b ob (Nat.ne_of_lt (Heap.lt_size e)) e
    rw [assignEach_names, List.map_map]
    have : (xs.map ((·.2) ∘ fun p => (false, assign (.Name p.1 p.2) G.env))) = xs.map fun p => assign (.Name p.1 p.2) G.env := rfl
    rw [this]
    have hgen : ∀ (xs : List (PySem.Str × Pos)) {vs : List Value} {ds : List D} {ρ : Vars} {s : Shared}, OkS C G B X O ρ own s → (∀ p ∈ xs, Storable G p.1) → ItemsOk C s.heap X O own (xs.map (·.1)) vs ds →
      (∀ s', OkS C G B X O (puts (xs.map (·.1)) ds ρ) own s' → R () s') → wpAny C.M G.A (assignInOrder (xs.map fun p => assign (.Name p.1 p.2) G.env) vs) R E s := by
      intro xs
      induction xs with
      | nil => rintro vs ds ρ s o _ ⟨rfl, rfl⟩ h; exact wpAny_pure (h s o)
      | cons p xs ih =>
        rintro _ _ ρ s o hk ⟨v, vs, d, ds, rfl, rfl, k1, k2⟩ h
        refine wpAny_bind (wpAny_holding (assign_Name (store_loc o.g (hk p (.head _)) fun h' tk a l => ?_)))
        exact ih (o.storeItem hF.fr l k1) (fun y hy => hk y (.tail _ hy)) (k2.loc o hF.fr l) h
    exact hgen xs (o.step st) hk (hi.step o.inv st) h
variable {P : Fl → Vars → Prop} {Zs : Exn → Vars → Prop}
theorem swaps_sole {t value : Expr} {n : Nat} {env : Env} (h : isComp value = false) : swapsWithSole [t] value n env = pure false := by
  rw [swapsWithSole]; exact swaps_plain h
theorem unpackW {xs : List (PySem.Str × Pos)} {k : Nat} {tp pos : Pos} {e : Expr} (hF : Fun G) (hh : G.A.handled = none) (hn : (xs.map (·.1)).Nodup) (hk : ∀ p ∈ xs, Storable G p.1) (hc : isComp e = false) (hw : okSwap e = true)
    {E : Value → Shared → Prop} {R : Flow → Shared → Prop}
    (h : wpAny C.M G.A (eval e G.env) (fun v s₁ => ∃ t vs ds ρ' own', v = .ref t ∧ IsTup s₁.heap t (List.toArray vs) ∧ OkS C G B X O ρ' own' s₁ ∧ ItemsOk C s₁.heap X O own' (xs.map (·.1)) vs ds ∧ ∀ s', OkS C G B X O (puts (xs.map (·.1)) ds ρ') own' s' → R .next s') E s) :
    wpAny C.M G.A (exec (.Assign [.Tuple (nameTs xs) k tp] e pos) G.env) R E s := by
  refine Assign_Tuple (wpAny_mono h (fun v s₁ q9 => ?_) fun _ _ x => x) (swaps_sole hc) (swapped_names hw)
  obtain ⟨t, vs, ds, ρ', own', e1, e2, e3, e4, e5⟩ := q9
  subst e1
  exact unpack_items hF hh e3 hk e2 e4 e5

theorem S1W.unpP {xs : List (PySem.Str × Pos)} {ts : List Expr} {k : Nat} {tp pos : Pos} {e : Expr} (hF : Fun G) (hh : G.A.handled = none) (hts : ts = nameTs xs) (hn : (xs.map (·.1)).Nodup) (hk : ∀ p ∈ xs, Storable G p.1) (hx : ∀ x ∈ xs.map (·.1), x ∉ O) (hc : isComp e = false) (hw : okSwap e = true)
    (h : EvW C G ρ e (fun d => ∃ ds, d = .tup ds ∧ ds.length = xs.length ∧ plains ds = true ∧ P .nxt (puts (xs.map (·.1)) ds ρ)) (fun z => Zs z ρ)) : S1W C G O ρ (.Assign [.Tuple ts k tp] e pos) P Zs := fun B X own s o => by
  subst hts
  refine unpackW (B := B) (X := X) (O := O) hF hh hn hk hc hw (wpAny_mono (h _ s o.full) (fun v s₁ q9 => ?_) fun _ _ x => x.sx o)
  obtain ⟨st, d, r, ds, e1, e2, hp, p⟩ := q9
  subst e1
  obtain ⟨t, vs, rfl, ht, hr⟩ := r
  exact ⟨t, vs, ds, ρ, own, rfl, ht, o.step st, ItemsOk.of_reps hx (by simp [e2]) (hr.plain hp), fun s' o' => ⟨_, own, o', p⟩⟩

end
end Mine

end
section
open PySem PySem.W PySem.Calls PyProof.Rows PySem.Builtin PySem.Builtin.Str
set_option Elab.async false
set_option maxRecDepth 100000

namespace Mine

theorem PL.keepD {C : Cx} {h h' : Heap} (k : ∀ b o, h.get? b = some o → Dat C o → h'.get? b = some o) {a : Addr} {vs : Array Value} (x : h.PlainList a vs) : h'.PlainList a vs := (by obtain ⟨n, e⟩ := x; exact ⟨n, k a _ e ⟨⟨by simp, by simp, by simp⟩, .inl rfl⟩⟩)
noncomputable def ExtButs (l : List Addr) (h h' : Heap) : Prop := ∀ b o, b ∉ l → h.get? b = some o → h'.get? b = some o
noncomputable def ItObj (o : Obj) : Prop := (∃ c, o.cls = .type c ∧ c ≠ "frame" ∧ c ≠ "list" ∧ c ≠ "tuple" ∧ c ≠ "frozenset" ∧ c ≠ "range" ∧ c ≠ "dict" ∧ c ≠ "function" ∧ c ≠ "code") ∧ ∃ ws, o.data = .fields ws ∧ ∀ q t, ws[1]? ≠ some (.str q t)
noncomputable def ItCh (l : List Addr) (h h' : Heap) : Prop := ExtButs l h h' ∧ ∀ a ∈ l, ∃ o, h.get? a = some o ∧ ItObj o

theorem ItCh.dat {C : Cx} {l : List Addr} {h h' : Heap} (x : ItCh l h h') : ∀ b o, h.get? b = some o → Dat C o → h'.get? b = some o := fun b o e hd => by
  refine x.1 b o (fun hm => ?_) e
  obtain ⟨o', e', ⟨c, hc, h1, h2, h3, h4, h5, h6, h7, h8⟩, _⟩ := x.2 b hm
  rw [e] at e'; cases e'
  rcases hd.2 with q | q | q | q | q | q | q | q <;> rw [hc] at q <;> simp_all
theorem ItCh.other {l : List Addr} {h h' : Heap} (x : ItCh l h h') {b : Addr} {o : Obj} (e : h.get? b = some o) (hd : (∀ vs, o.data ≠ .fields vs) ∨ o.cls = .none ∨ (∃ vs q t, o.data = .fields vs ∧ vs[1]? = some (.str q t))) : h'.get? b = some o := by
  refine x.1 b o (fun hm => ?_) e
  obtain ⟨o', e', ⟨c, hc, _⟩, ws, h1, h2⟩ := x.2 b hm
  rw [e] at e'; cases e'
  rcases hd with q | q | ⟨vs, p, t, q, q'⟩
  · exact q ws h1
  · rw [hc] at q; cases q
  · rw [h1] at q; cases q; exact h2 _ _ q'
theorem ItCh.frame {l : List Addr} {h h' : Heap} (x : ItCh l h h') {b : Addr} {o : Obj} (e : h.get? b = some o) (hc : o.cls = .type "frame") : h'.get? b = some o := by
  refine x.1 b o (fun hm => ?_) e
  obtain ⟨o', e', ⟨c, hc', h1, _⟩, ws, _⟩ := x.2 b hm
  rw [e] at e'; cases e'
  rw [hc] at hc'; simp at hc'; exact h1 hc'.symm

section
variable {C : Cx} {G : Fc} {B : Heap} {X : Addr → Prop} {O : List PySem.Str} {ρ ρ' : Vars} {own : List (PySem.Str × Addr)} {s s' : Shared}

theorem Inv.itCh (i : Inv C s) {l : List Addr} {h' : Heap} {tk : Nat} {dr : Drawn} (x : ItCh l s.heap h') (hb : ∀ a ∈ l, C.base.get? a = none) : Inv C { s with heap := h', toks := tk, drawn := dr } where
  ok := i.ok
  stays b o e := x.1 b o (fun hm => by rw [hb b hm] at e; cases e) (i.stays b o e)
  tabs p hp := by
    obtain ⟨ps, h1, h2, h3⟩ := i.tabs p hp
    refine ⟨ps, x.other h1 (.inr (.inl rfl)), h2, fun pos cv e => ?_⟩
    obtain ⟨c, o', vs, t, e1, e2, e3, e4, e5⟩ := h3 pos cv e
    exact ⟨c, o', vs, t, e1, e2, x.other e3 (.inr (.inr ⟨vs, _, _, e4, e5.1⟩)), e4, e5⟩
  gens := i.gens
  os := i.os
theorem Ns.itCh {l : List Addr} {h h' : Heap} (x : ItCh l h h') {a : Addr} {m : PySem.Str → Option Value} (y : h.Ns a m) : h'.Ns a m := by
  obtain ⟨o, es, ep, e, hd, r⟩ := y
  exact ⟨o, es, ep, x.other e (.inl (by rw [hd]; simp)), hd, r⟩
theorem IsCell.itCh {l : List Addr} {h h' : Heap} (x : ItCh l h h') {a : Addr} {v : Option Value} (y : h.IsCell a v) : h'.IsCell a v := by
  obtain ⟨o, e, hd⟩ := y
  exact ⟨o, x.other e (.inl (by rw [hd]; simp)), hd⟩
theorem VarAt.itCh {l : List Addr} {h h' : Heap} {env : Env} {x : PySem.Str} {v : Value} (c : ItCh l h h') (a : VarAt env h x v) : VarAt env h' x v := by
  rcases a with ⟨hk, m, hn, hv⟩ | ⟨hk, a, hc, hv⟩
  · exact .inl ⟨hk, m, Ns.itCh c hn, hv⟩
  · exact .inr ⟨hk, a, hc, IsCell.itCh c hv⟩
theorem GOk.itCh {l : List Addr} {h h' : Heap} (c : ItCh l h h') (hH : ∀ u, G.A.handled = some u → ∀ e, u = .ref e → e ∉ l) (g : GOk C G h) : GOk C G h' where
  depth := g.depth
  units := g.units
  frames := let ⟨fe, a, b, r⟩ := g.frames; ⟨fe, a, b, fun e he => by
    obtain ⟨hk, L, o, es, ep, h1, h2, h3, h4, h5⟩ := r e he
    exact ⟨hk, L, o, es, ep, h1, h2, c.frame h3 h4, h4, h5⟩⟩
  kind := g.kind
  glob := g.glob
  blt := g.blt
  loc := (by obtain ⟨m, a⟩ := g.loc; exact ⟨m, Ns.itCh c a⟩)
  locB := g.locB
  cells y a e := (by obtain ⟨⟨v, p⟩, q⟩ := g.cells y a e; exact ⟨⟨v, IsCell.itCh c p⟩, q⟩)
  inj := g.inj
  hnd u hu := by
    obtain ⟨e, o, vs, h1, h2, h3⟩ := g.hnd u hu
    exact ⟨e, o, vs, h1, c.1 e o (hH u hu e h1) h2, h3⟩
theorem OkS.itCh {l : List Addr} {h' : Heap} {tk : Nat} {dr : Drawn} (o : OkS C G B X O ρ own s) (x : ItCh l s.heap h') (hB : ∀ a ∈ l, B.get? a = none) (hH : ∀ u, G.A.handled = some u → ∀ e, u = .ref e → e ∉ l) : OkS C G B X O ρ own { s with heap := h', toks := tk, drawn := dr } where
  inv := o.inv.itCh x fun a ha => by
    cases e : C.base.get? a with
    | none => rfl
    | some ob => obtain ⟨ob', e'⟩ := o.bb a ob e; rw [hB a ha] at e'; cases e'
  g := o.g.itCh x hH
  kb b ob ht e := by
    obtain ⟨k1, sl, k2⟩ := o.kb b ob ht e
    have hb : b ∉ l := fun hm => by rw [hB b hm] at e; cases e
    exact ⟨fun hc => x.1 b _ hb (k1 hc), sl, x.1 b _ hb k2⟩
  bt := o.bt
  bb := o.bb
  bL := o.bL
  bC := o.bC
  bO := o.bO
  nX := o.nX
  xH a ha := by
    obtain ⟨ob, e, hv, hc⟩ := o.xH a ha
    exact ⟨ob, x.dat (C := C) a ob e (MutB.dat hv hc), hv, hc⟩
  oN := o.oN
  oH p hp := (by obtain ⟨vs, h⟩ := o.oH p hp; exact ⟨vs, PL.keepD (C := C) x.dat h⟩)
  oI := o.oI
  vars y d e := ⟨fun hy => (by obtain ⟨a, ds, vs, h1, h2, h3, h4, h5⟩ := (o.vars y d e).1 hy; exact ⟨a, ds, vs, h1, h2, h3.itCh x, PL.keepD (C := C) x.dat h4, h5.keepD x.dat⟩),
    fun hy => (by obtain ⟨w, h1, h2⟩ := (o.vars y d e).2 hy; exact ⟨w, h1.itCh x, h2.keepD x.dat⟩)⟩

end
end Mine

end
section
open PySem PySem.W PySem.Calls PyProof.Rows PySem.Builtin PySem.Builtin.Str
set_option Elab.async false
set_option maxRecDepth 100000

namespace Mine

section
variable {C : Cx} {G : Fc} {B S : Heap} {X : Addr → Prop} {O : List PySem.Str} {ρ ρ' : Vars} {own own' : List (PySem.Str × Addr)} {s s' : Shared}

noncomputable def hid (C : Cx) (G : Fc) (own : List (PySem.Str × Addr)) : List Addr := G.env.locals :: ((G.env.cells.filterMap fun p => G.env.cells.lookup p.1) ++ own.map (·.2) ++ C.tabA)
noncomputable def prot (C : Cx) (G : Fc) (own : List (PySem.Str × Addr)) (h : Heap) : Heap := hideAll h (hid C G own)

theorem mem_cells {l : List (PySem.Str × Addr)} {x : PySem.Str} {c : Addr} (e : l.lookup x = some c) : c ∈ l.filterMap fun p => l.lookup p.1 := by
  have : ∀ l : List (PySem.Str × Addr), l.lookup x = some c → ∃ p ∈ l, p.1 = x := fun l e => by
    induction l with
    | nil => simp at e
    | cons p r ih =>
      by_cases hp : p.1 = x
      · exact ⟨p, .head _, hp⟩
      · obtain ⟨p1, p2⟩ := p
        rw [List.lookup_cons] at e
        have : (x == p1) = false := by simpa using fun h => hp h.symm
        rw [this] at e
        obtain ⟨q, hq, h⟩ := ih e
        exact ⟨q, .tail _ hq, h⟩
  obtain ⟨p, hp, rfl⟩ := this l e
  exact List.mem_filterMap.mpr ⟨p, hp, e⟩
theorem hid_cases {a : Addr} (h : a ∈ hid C G own) : a = G.env.locals ∨ (∃ x, G.env.cells.lookup x = some a) ∨ (∃ p ∈ own, p.2 = a) ∨ a ∈ C.tabA := by
  simp only [hid, List.mem_cons, List.mem_append, List.mem_filterMap, List.mem_map] at h
  rcases h with h | (⟨p, _, h⟩ | ⟨p, hp, h⟩) | h
  · exact .inl h
  · exact .inr (.inl ⟨_, h⟩)
  · exact .inr (.inr (.inl ⟨p, hp, h⟩))
  · exact .inr (.inr (.inr h))
theorem hid_loc : G.env.locals ∈ hid C G own := .head _
theorem hid_cell {x : PySem.Str} {c : Addr} (e : G.env.cells.lookup x = some c) : c ∈ hid C G own := .tail _ (List.mem_append.mpr (.inl (List.mem_append.mpr (.inl (mem_cells e)))))
theorem hid_own {p : PySem.Str × Addr} (hp : p ∈ own) : p.2 ∈ hid C G own := .tail _ (List.mem_append.mpr (.inl (List.mem_append.mpr (.inr (List.mem_map_of_mem hp)))))
theorem hid_tab {a : Addr} (ha : a ∈ C.tabA) : a ∈ hid C G own := .tail _ (List.mem_append.mpr (.inr ha))

theorem OkS.hidB (o : OkS C G B X O ρ own s) {a : Addr} (h : a ∈ hid C G own) : B.get? a = none := by
  rcases hid_cases h with rfl | ⟨x, e⟩ | ⟨p, hp, rfl⟩ | ht
  · exact o.bL
  · exact o.bC x a e
  · exact o.bO p hp
  · exact o.bt a ht
theorem OkS.protB (o : OkS C G B X O ρ own s) {b : Addr} {ob : Obj} (e : B.get? b = some ob) : (ob.cls ≠ .type "frame" → (prot C G own s.heap).get? b = some ob) ∧ ∃ sl, (prot C G own s.heap).get? b = some { ob with slots := sl } := by
  have hn : b ∉ hid C G own := fun hm => by rw [o.hidB hm] at e; cases e
  have ht : b ∉ C.tabA := fun hm => by rw [o.bt b hm] at e; cases e
  obtain ⟨k1, sl, k2⟩ := o.kb b ob ht e
  exact ⟨fun hc => hideAll_get _ (k1 hc) hn, sl, hideAll_get _ k2 hn⟩
theorem OkS.protNone (o : OkS C G B X O ρ own s) {b : Addr} (e : (prot C G own s.heap).get? b = none) : B.get? b = none := by
  cases h : B.get? b with
  | none => rfl
  | some ob => obtain ⟨_, sl, e'⟩ := o.protB h; rw [e] at e'; cases e'

theorem OkS.narrow (o : OkS C G B X O ρ own s) : OkS C G (prot C G own s.heap) X O ρ own s where
  inv := o.inv
  g := o.g
  kb := Keep.of_keeps fun b ob e => of_hideAll _ e
  bt a ha := hideAll_none _ (hid_tab ha)
  bb b ob e := by
    obtain ⟨ob', e'⟩ := o.bb b ob e
    obtain ⟨_, sl, h⟩ := o.protB e'
    exact ⟨_, h⟩
  bL := hideAll_none _ hid_loc
  bC x c e := hideAll_none _ (hid_cell e)
  bO p hp := hideAll_none _ (hid_own hp)
  nX := o.nX
  xH a ha := by
    obtain ⟨ob, e, hv, hc⟩ := o.xH a ha
    refine ⟨ob, e, hv, ?_⟩
    rcases hc with hc | hc | ⟨hc, ob', e'⟩
    · exact .inl hc
    · exact .inr (.inl hc)
    · obtain ⟨_, sl, h⟩ := o.protB e'
      exact .inr (.inr ⟨hc, _, h⟩)
  oN := o.oN
  oH := o.oH
  oI := o.oI
  vars := o.vars

theorem OkS.widen (o : OkS C G B X O ρ own s) (o' : OkS C G (prot C G own s.heap) X O ρ' own' s') : OkS C G B X O ρ' own' s' :=
  { o' with
    kb := fun b ob ht e => by
      obtain ⟨h1, sl, h2⟩ := o.protB e
      refine ⟨fun hc => (o'.kb b ob ht (h1 hc)).1 hc, ?_⟩
      obtain ⟨_, sl', h3⟩ := o'.kb b _ ht h2
      exact ⟨sl', h3⟩
    bt := o.bt
    bb := o.bb
    bL := o.bL
    bC := o.bC
    bO := fun p hp => o.protNone (o'.bO p hp)
    xH := fun a ha => by
      obtain ⟨o1, e1, hv1, hc1⟩ := o.xH a ha
      obtain ⟨o2, e2, hv2, hc2⟩ := o'.xH a ha
      refine ⟨o2, e2, hv2, ?_⟩
      rcases hc2 with hc2 | hc2 | ⟨hc2, ob, e⟩
      · exact .inl hc2
      · exact .inr (.inl hc2)
      · refine .inr (.inr ⟨hc2, ?_⟩)
        have h1 := of_hideAll _ e
        rw [e1] at h1; cases h1
        have h2 := (o'.kb a o1 (o.inv.notTab e1 hv1.1) e).1 hv1.2.1
        rw [e2] at h2; cases h2
        rcases hc1 with hc1 | hc1 | hc1
        · rw [hc1] at hc2; simp at hc2
        · rw [hc1] at hc2; simp at hc2
        · exact hc1.2 }
theorem XAt.widen (o : OkS C G B X O ρ own s) {h : Heap} {ev : Value} {x : Exn} {b : Bool} (r : XAt C (prot C G own s.heap) h ev x b) : XAt C B h ev x b := by
  obtain ⟨a, ob, vs, h1, h2, h3, h4, h5, h6, h7, h8⟩ := r
  refine ⟨a, ob, vs, h1, o.protNone h2, h3, h4, h5, h6, h7, ?_⟩
  rcases h8 with h8 | ⟨T, oT, ts, g1, g2, g3⟩
  · exact .inl h8
  · exact .inr ⟨T, oT, ts, g1, o.protNone g2, g3⟩
theorem SX.widen {t : Bool} {Zs : Exn → Vars → Prop} {ev : Value} (o : OkS C G B X O ρ own s) (x : SX C G (prot C G own s.heap) X O t Zs ev s') : SX C G B X O t Zs ev s' :=
  by obtain ⟨ρ', own', o', y, r, z⟩ := x; exact ⟨ρ', own', o.widen o', y, r.widen o, z⟩

noncomputable def out (X : Addr → Prop) (S : Heap) : Addr → Prop := fun a => X a ∨ S.get? a = none
theorem OkS.notHid (hF : Fun G) (o : OkS C G B X O ρ own s) {b : Addr} {ob : Obj} (e : s.heap.get? b = some ob) (hd : Dat C ob) (hX : ob.cls = .type "list" ∨ ob.cls = .type "dict" → ¬ inl own X b) : b ∉ hid C G own := fun hm => by
  rcases hid_cases hm with rfl | ⟨x, ec⟩ | ⟨p, hp, rfl⟩ | ht
  · exact hd.1.2.1 (o.g.framed hF.fr ob e)
  · obtain ⟨⟨v, o', e', hdd⟩, _⟩ := o.g.cells x b ec
    rw [e] at e'; cases e'
    exact hd.1.2.2 _ hdd
  · obtain ⟨vs, n, e'⟩ := o.oH p hp
    rw [e] at e'; cases e'
    exact hX (.inl rfl) (.inr ⟨p, hp, rfl⟩)
  · exact o.inv.notTab e hd.1.1 ht

theorem OkS.toS (hF : Fun G) (o : OkS C G B X O ρ own s) : (∀ b ob, s.heap.get? b = some ob → Dat C ob → (ob.cls = .type "list" ∨ ob.cls = .type "dict" → ¬ inl own X b) → (prot C G own s.heap).get? b = some ob) ∧
    (∀ b ob, (prot C G own s.heap).get? b = some ob → ¬ inl own X b → ¬ out X (prot C G own s.heap) b) :=
  ⟨fun b ob e hd hX => hideAll_get _ e (o.notHid hF e hd hX), fun b ob e hn q => by
    rcases q with q | q
    · exact hn (.inl q)
    · rw [e] at q; cases q⟩
theorem ofS {h : Heap} (k : Keep C S h) (ht : ∀ a ∈ C.tabA, S.get? a = none) : ∀ b ob, S.get? b = some ob → Dat C ob → (ob.cls = .type "list" ∨ ob.cls = .type "dict" → ¬ out X S b) → h.get? b = some ob := fun b ob e hd _ =>
  (k b ob (fun hm => by rw [ht b hm] at e; cases e) e).1 hd.1.2.1
theorem Rep.ofS {h : Heap} (k : Keep C S h) (ht : ∀ a ∈ C.tabA, S.get? a = none) {v : Value} {d : D} (r : Rep C (out X S) S v d) : Rep C (out X S) h v d := r.move (Mine.ofS k ht) fun _ _ _ q => q
theorem OkS.outO (o : OkS C G S X O ρ own s) : ∀ a, inl own X a → out X S a := fun a ha => by
  rcases ha with ha | ⟨p, hp, rfl⟩
  · exact .inl ha
  · exact .inr (o.bO p hp)

structure Itr (C : Cx) (A : Around) (X : Addr → Prop) (S : Heap) (I : Addr) (ds : List D) (fp : List Addr) (P : Nat → Value → Prop) (St : Nat → Heap → Prop) : Prop where
  W : Walks C.prog C.w A I fp [I] ds.length P St
  obj : ∀ i h, St i h → ∃ o c, h.get? I = some o ∧ ItObj o ∧ o.cls = .type c ∧ ["enumerate", "zip", "dict_itemiterator", "dict_reverseitemiterator", "odict_iterator", "itertools.zip_longest", "itertools.pairwise"].contains c = false
  fpS : ∀ b ∈ fp, b ≠ I → ∃ o, S.get? b = some o ∧ o.cls ≠ .type "frame"
  rep : ∀ i d v h, ds[i]? = some d → P i v → Keep C S h → Rep C (out X S) h v d

noncomputable def rngL (a b st : Int) : List Int := List.range (PySem.Builtin.Range.rangeSize a b st).toNat |>.map fun (i : Nat) => a + (i : Int) * st
noncomputable def iterOf : D → Option (List D)
  | .list ds => some ds
  | .tup ds => some ds
  | .str l => some (l.map fun c => .str [c])
  | .rng a b st => if st = 0 then none else some ((rngL a b st).map .int)
  | _ => none

theorem pyIter_specG {A : Around} {Y : Addr → Prop} (hh : A.handled = none) {d : D} {ds : List D} {v : Value} {E : Value → Shared → Prop} (hd : iterOf d = some ds) (i : Inv C s) (r : Rep C Y s.heap v d)
    (hS : (∀ b ob, s.heap.get? b = some ob → Dat C ob → (ob.cls = .type "list" ∨ ob.cls = .type "dict" → ¬ Y b) → S.get? b = some ob) ∧ (∀ b ob, S.get? b = some ob → ¬ Y b → ¬ out X S b)) (hbt : ∀ a ∈ C.tabA, S.get? a = none) :
    wpAny C.M A (pyIter v) (fun it s' => Step C s s' ∧ ∃ I fp P St, it = .ref I ∧ s.heap.get? I = none ∧ Itr C A X S I ds fp P St ∧ St 0 s'.heap) E s := by
  cases d with
  | list es =>
    simp only [iterOf, Option.some.injEq] at hd
    subst hd
    obtain ⟨l, vs, rfl, hX, hl, hr⟩ := r
    refine wpAny_pyIter_list hl ⟨Step.keeps (tk := s.toks) (dr := s.drawn) i (fun b ob e => Heap.get?_push_of_some _ e), s.heap.objs.size, [s.heap.objs.size, l], (fun i v => vs.toArray[i]? = some v), (fun i h => h.IsListIter s.heap.objs.size l i ∧ h.IsList l vs.toArray), rfl, get_size _, ⟨?_, fun j h sti => ?_, fun b hb hne => ?_, fun j d v h hd hp k => ?_⟩, ⟨_, Heap.get?_push_size _ rfl, rfl, rfl⟩, hl.push _⟩
    · have := Walks.list (prog := C.prog) (w := C.w) (A := A) hh s.heap.objs.size l (by obtain ⟨ol, e, _⟩ := hl; exact Nat.ne_of_lt (Heap.lt_size e)) vs.toArray
      rw [show vs.toArray.size = es.length by simp [hr.length]] at this
      exact this
    · obtain ⟨ob, e, hc, hd⟩ := sti.1
      exact ⟨ob, _, e, ⟨⟨_, hc, by decide, by decide, by decide, by decide, by decide, by decide, by decide, by decide⟩, _, hd, by simp⟩, hc, by decide⟩
    · simp only [List.mem_cons, List.not_mem_nil, or_false] at hb
      rcases hb with rfl | rfl
      · exact absurd rfl hne
      · obtain ⟨ob, e, hc, n, hd⟩ := hl
        exact ⟨ob, hS.1 _ ob e ⟨⟨by rw [hc]; simp, by rw [hc]; simp, by rw [hd]; simp⟩, by simp [hc, datCls]⟩ fun _ => hX, by rw [hc]; simp⟩
    · have hrS := hr.move hS.1 hS.2
      obtain ⟨v', h1, h2⟩ := hrS.get hd
      have : v = v' := by
        have hp' : vs[j]? = some v := by simpa using hp
        rw [h1] at hp'; exact (Option.some.inj hp').symm
      subst this
      exact h2.ofS k hbt
  | tup es =>
    simp only [iterOf, Option.some.injEq] at hd
    subst hd
    obtain ⟨l, vs, rfl, hl, hr⟩ := r
    refine iter_tuple hl ⟨Step.keeps (tk := s.toks) (dr := s.drawn) i (fun b ob e => Heap.get?_push_of_some _ e), s.heap.objs.size, [s.heap.objs.size, l], (fun i v => vs.toArray[i]? = some v), (fun i h => h.IsTupleIter s.heap.objs.size l i ∧ h.IsTuple l vs.toArray), rfl, get_size _, ⟨?_, fun j h sti => ?_, fun b hb hne => ?_, fun j d v h hd hp k => ?_⟩, ⟨_, Heap.get?_push_size _ rfl, rfl, rfl⟩, hl.push _⟩
    · have := Walks.tuple (prog := C.prog) (w := C.w) (A := A) hh s.heap.objs.size l (by obtain ⟨ol, e, _⟩ := hl; exact Nat.ne_of_lt (Heap.lt_size e)) vs.toArray
      rw [show vs.toArray.size = es.length by simp [hr.length]] at this
      exact this
    · obtain ⟨ob, e, hc, hd⟩ := sti.1
      exact ⟨ob, _, e, ⟨⟨_, hc, by decide, by decide, by decide, by decide, by decide, by decide, by decide, by decide⟩, _, hd, by simp⟩, hc, by decide⟩
    · simp only [List.mem_cons, List.not_mem_nil, or_false] at hb
      rcases hb with rfl | rfl
      · exact absurd rfl hne
      · obtain ⟨ob, e, hc, n, hd⟩ := hl
        exact ⟨ob, hS.1 _ ob e ⟨⟨by rw [hc]; simp, by rw [hc]; simp, by rw [hd]; simp⟩, by simp [hc, datCls]⟩ (by rw [hc]; simp), by rw [hc]; simp⟩
    · have hrS := hr.move hS.1 hS.2
      obtain ⟨v', h1, h2⟩ := hrS.get hd
      have : v = v' := by
        have hp' : vs[j]? = some v := by simpa using hp
        rw [h1] at hp'; exact (Option.some.inj hp').symm
      subst this
      exact h2.ofS k hbt
  | str l =>
    simp only [iterOf, Option.some.injEq] at hd
    subst hd
    obtain ⟨t, rfl⟩ := r
    have hrep : ∀ (i : Nat) (d : D) (v : Value) (h : Heap), (l.map fun c => D.str [c])[i]? = some d → SignAt ⟨l.toArray⟩ i v → Keep C S h → Rep C (out X S) h v d := fun j d v h hd hp k => by
      obtain ⟨c, u, h1, rfl⟩ := hp
      have h1' : l[j]? = some c := by simpa using h1
      simp only [List.getElem?_map, h1', Option.map_some, Option.some.injEq] at hd
      subst hd
      exact Exists.intro u rfl
    cases ha : (⟨l.toArray⟩ : PySem.Str).cps.all (· < 128)
    · refine wpAny_pyIter_wide ha ⟨Step.keeps (tk := s.toks) (dr := s.drawn) i (fun b ob e => Heap.get?_push_of_some _ e), s.heap.objs.size, [s.heap.objs.size], SignAt ⟨l.toArray⟩, (fun i h => h.IsStrIter s.heap.objs.size "str_iterator" ⟨l.toArray⟩ t i), rfl, get_size _, ⟨?_, fun j h sti => ?_, fun b hb hne => ?_, hrep⟩, ⟨_, Heap.get?_push_size _ rfl, rfl, rfl⟩⟩
      · have := Walks.strWide (prog := C.prog) (w := C.w) (A := A) hh s.heap.objs.size ⟨l.toArray⟩ t
        rw [show (⟨l.toArray⟩ : PySem.Str).cps.size = (l.map fun c => D.str [c]).length by simp] at this
        exact this
      · obtain ⟨ob, e, hc, hd⟩ := sti
        exact ⟨ob, _, e, ⟨⟨_, hc, by decide, by decide, by decide, by decide, by decide, by decide, by decide, by decide⟩, _, hd, by simp⟩, hc, by decide⟩
      · simp at hb; exact absurd hb hne
    · refine wpAny_pyIter_ascii ha ⟨Step.keeps (tk := s.toks) (dr := s.drawn) i (fun b ob e => Heap.get?_push_of_some _ e), s.heap.objs.size, [s.heap.objs.size], SignAt ⟨l.toArray⟩, (fun i h => h.IsStrIter s.heap.objs.size "str_ascii_iterator" ⟨l.toArray⟩ t i), rfl, get_size _, ⟨?_, fun j h sti => ?_, fun b hb hne => ?_, hrep⟩, ⟨_, Heap.get?_push_size _ rfl, rfl, rfl⟩⟩
      · have := Walks.strAscii (prog := C.prog) (w := C.w) (A := A) hh s.heap.objs.size ⟨l.toArray⟩ t
        rw [show (⟨l.toArray⟩ : PySem.Str).cps.size = (l.map fun c => D.str [c]).length by simp] at this
        exact this
      · obtain ⟨ob, e, hc, hd⟩ := sti
        exact ⟨ob, _, e, ⟨⟨_, hc, by decide, by decide, by decide, by decide, by decide, by decide, by decide, by decide⟩, _, hd, by simp⟩, hc, by decide⟩
      · simp at hb; exact absurd hb hne
  | rng a b st =>
    simp only [iterOf] at hd
    split at hd
    · cases hd
    rename_i hst
    simp only [Option.some.injEq] at hd
    subst hd
    obtain ⟨r, t, u, t', rfl, ob, e, hc, hdt, hdi, hsl⟩ := r
    have hr : IsRange s.heap r a b st t u t' := by
      obtain ⟨c, d, dt, sl⟩ := ob
      simp only at hc hdt hdi hsl
      subst hc hdt hdi hsl
      exact e
    have hn : 0 ≤ PySem.Builtin.Range.rangeSize a b st := by
      unfold PySem.Builtin.Range.rangeSize
      split
      · split
        · have := Int.ediv_nonneg (show 0 ≤ b - a - 1 by (lia)) (show 0 ≤ st by (lia)); (lia)
        · (decide)
      · split
        · have := Int.ediv_nonneg (show 0 ≤ a - b - 1 by (lia)) (show 0 ≤ -st by (lia)); (lia)
        · (decide)
    have hlen : ((rngL a b st).map D.int).length = (PySem.Builtin.Range.rangeSize a b st).toNat := by simp [rngL]
    have hrep : ∀ (i : Nat) (d : D) (v : Value) (h : Heap), ((rngL a b st).map D.int)[i]? = some d → (∃ t, v = .int (a + i * st) t) → Keep C S h → Rep C (out X S) h v d := fun i d v h hd ⟨t, hp⟩ k => by
      have hi : i < (PySem.Builtin.Range.rangeSize a b st).toNat := by
        rw [← hlen]; exact (List.getElem?_eq_some_iff.mp hd).1
      simp only [rngL, List.getElem?_map, List.getElem?_range hi, Option.map_some, Option.some.injEq] at hd
      subst hd; subst hp
      exact Exists.intro t rfl
    have hnn : (((PySem.Builtin.Range.rangeSize a b st).toNat : Nat) : Int) = PySem.Builtin.Range.rangeSize a b st := Int.toNat_of_nonneg hn
    cases hs : PySem.Builtin.Range.small a b st
    · refine wpAny_pyIter_longrange hr hs ⟨Step.keeps (tk := s.toks) (dr := s.drawn) i (fun b ob e => Heap.get?_push_of_some _ e), s.heap.objs.size, [s.heap.objs.size], (fun i v => ∃ t, v = .int (a + i * st) t), (fun i h => IsLongIter h s.heap.objs.size (a + (i : Nat) * st) ((((PySem.Builtin.Range.rangeSize a b st).toNat : Nat) : Int) - (i : Nat)) st), rfl, get_size _, ⟨?_, fun j h sti => ?_, fun b hb hne => ?_, hrep⟩, ?_⟩
      · have := Walks.longrange (prog := C.prog) (w := C.w) (A := A) hh s.heap.objs.size a st (PySem.Builtin.Range.rangeSize a b st).toNat
        rw [hlen]; exact this
      · exact ⟨_, _, sti, ⟨⟨_, rfl, by decide, by decide, by decide, by decide, by decide, by decide, by decide, by decide⟩, _, rfl, by simp [rawInt]⟩, rfl, by decide⟩
      · simp at hb; exact absurd hb hne
      · show IsLongIter _ _ _ _ _
        rw [hnn]; simp only [Int.zero_mul, Int.add_zero, Int.sub_zero, Int.natCast_zero]
        exact Heap.get?_push_size _ rfl
    · refine wpAny_pyIter_range hr hs ⟨Step.keeps (tk := s.toks) (dr := s.drawn) i (fun b ob e => Heap.get?_push_of_some _ e), s.heap.objs.size, [s.heap.objs.size], (fun i v => ∃ t, v = .int (a + i * st) t), (fun i h => IsRangeIter h s.heap.objs.size (a + (i : Nat) * st) ((((PySem.Builtin.Range.rangeSize a b st).toNat : Nat) : Int) - (i : Nat)) st), rfl, get_size _, ⟨?_, fun j h sti => ?_, fun b hb hne => ?_, hrep⟩, ?_⟩
      · have := Walks.range (prog := C.prog) (w := C.w) (A := A) hh s.heap.objs.size a st (PySem.Builtin.Range.rangeSize a b st).toNat
        rw [hlen]; exact this
      · exact ⟨_, _, sti, ⟨⟨_, rfl, by decide, by decide, by decide, by decide, by decide, by decide, by decide, by decide⟩, _, rfl, by simp [rawInt]⟩, rfl, by decide⟩
      · simp at hb; exact absurd hb hne
      · show IsRangeIter _ _ _ _ _
        rw [hnn]; simp only [Int.zero_mul, Int.add_zero, Int.sub_zero, Int.natCast_zero]
        exact Heap.get?_push_size _ rfl
  | _ => simp [iterOf] at hd


theorem pyIter_spec (hF : Fun G) (hh : G.A.handled = none) {d : D} {ds : List D} {v : Value} {E : Value → Shared → Prop} (hd : iterOf d = some ds) (o : OkS C G B X O ρ own s) (r : Rep C (inl own X) s.heap v d) :
    wpAny C.M G.A (pyIter v) (fun it s' => Step C s s' ∧ ∃ I fp P St, it = .ref I ∧ s.heap.get? I = none ∧ Itr C G.A X (prot C G own s.heap) I ds fp P St ∧ St 0 s'.heap) E s :=
  wpAny_mono (pyIter_specG (X := X) hh hd o.inv r (o.toS hF) fun a ha => hideAll_none _ (hid_tab ha)) (fun _ _ x => x) fun _ _ x => x

end
end Mine

end
section
open PySem PySem.W PySem.Calls PyProof.Rows PySem.Builtin PySem.Builtin.Str
set_option Elab.async false
set_option maxRecDepth 100000

namespace Mine
section
variable {C : Cx} {G : Fc} {B S : Heap} {X : Addr → Prop} {O : List PySem.Str} {ρ ρ' : Vars} {own own' : List (PySem.Str × Addr)} {s s' : Shared}
variable {P : Fl → Vars → Prop} {Zs : Exn → Vars → Prop}

noncomputable def NoteOk (C : Cx) (G : Fc) (O : List PySem.Str) (Zs : Exn → Vars → Prop) : Prop :=
  ∀ B X ev s, (∀ t, SX C G B X O t Zs ev s → notedBy C.M G.A G.env (fun e s' => SX C G B X O true Zs e s') ev s) ∧ (SX C G B X O true Zs ev s → cameBackBy C.M G.A G.env (SX C G B X O false Zs) ev s)
theorem NoteOk.none (h : ∀ x ρ, ¬ Zs x ρ) : NoteOk C G O Zs := fun B X ev s => ⟨fun t ⟨_, _, _, x, _, z⟩ => (h _ _ z).elim, fun ⟨_, _, _, x, _, z⟩ => (h _ _ z).elim⟩

theorem SX.f {t : Bool} {ev : Value} (x : SX C G B X O t Zs ev s) : SX C G B X O false Zs ev s := by
  obtain ⟨ρ', own', o, y, ⟨a, ob, vs, h1, h2, h3, h4, h5, h6, h7, h8⟩, z⟩ := x
  refine ⟨ρ', own', o, y, ⟨a, ob, vs, h1, h2, h3, h4, h5, h6, h7, ?_⟩, z⟩
  rcases h8 with h8 | h8
  · exact .inl ⟨rfl, h8.2⟩
  · exact .inr h8

theorem S1W.whl {t : Expr} {body : List Stmt} {pos : Pos} (hN : NoteOk C G O Zs) (I : Nat → Vars → Prop) (n : Nat) (h0 : I n ρ)
    (turn : ∀ n ρ, I n ρ → TsW C G ρ t (fun k => (k = false → P .nxt ρ) ∧ (k = true → SW C G O ρ body (fun fl ρ' => match fl with
      | .nxt => ∃ m, m < n ∧ I m ρ'
      | .cont => ∃ m, m < n ∧ I m ρ'
      | .brk => P .nxt ρ'
      | .ret d => P (.ret d) ρ') Zs)) (fun x => Zs x ρ)) : S1W C G O ρ (.While t body [] pos) P Zs := fun B X own s o => by
  refine wpAny_While (codeAny_whileLoop (fun n s => ∃ ρ own, OkS C G B X O ρ own s ∧ I n ρ) (fun n s q9 => ?_) n ⟨ρ, own, o, h0⟩)
  obtain ⟨ρ, own, o, hI⟩ := q9
  have hE : ∀ ev s', SX C G B X O false Zs ev s' → notedBy C.M G.A G.env (fun e s'' => (match (Except.error e : Result) with | .ok f => SP C G B X O P f s'' | .error e => cameBackBy C.M G.A G.env (SX C G B X O false Zs) e s'')) ev s' := fun ev s' x =>
    wpAny_mono ((hN B X ev s').1 _ x) (fun _ s'' y => (hN B X ev s'').2 y) fun e s'' y => (hN B X e s'').2 y
  refine wpAny_mono (turn n ρ hI X s o.full) (fun k s₁ q9 => ?_) fun ev s' x => hE ev s' (x.sx o)
  obtain ⟨st, p⟩ := q9
  have o₁ := o.step st
  cases k with
  | true =>
    show wpAny C.M G.A (execs body G.env) _ _ s₁
    refine wpAny_mono (p.2 rfl B X own s₁ o₁) (fun fl s₂ q9 => ?_) fun ev s' x => hE ev s' x
    obtain ⟨ρ', own', o', q⟩ := q9
    cases fl with
    | next => obtain ⟨m, hm, hI'⟩ := q; exact ⟨m, hm, ρ', own', o', hI'⟩
    | cont => obtain ⟨m, hm, hI'⟩ := q; exact ⟨m, hm, ρ', own', o', hI'⟩
    | brk => exact ⟨ρ', own', o', q⟩
    | ret v => exact ⟨ρ', own', o', q⟩
  | false =>
    show wpAny C.M G.A (execs [] G.env) _ _ s₁
    exact wpAny_execs_nil ⟨ρ, own, o₁, p.1 rfl⟩

noncomputable def TgW (C : Cx) (G : Fc) (O : List PySem.Str) (tgt : Expr) (d : D) (f : Vars → Vars) : Prop :=
  ∀ B X own ρ s v (E : Value → Shared → Prop) (R : Unit → Shared → Prop), OkS C G B X O ρ own s → Rep C (inl own X) s.heap v d → (∀ s', OkS C G B X O (f ρ) own s' → R () s') → wpAny C.M G.A (assign tgt G.env v) R E s
theorem TgW.name {x : PySem.Str} {p : Pos} {d : D} (hF : Fun G) (hk : Storable G x) (hx : x ∉ O) : TgW C G O (.Name x p) d (put x d) := fun B X own ρ s v E R o r h =>
  PyProof.Rows.assign_Name (store_loc o.g hk fun h' tk a l => h _ (o.store hF.fr l hx r))
theorem owned_go {A : Around} {M : Model} {E : Value → Shared → Prop} {R : Unit → Shared → Prop} {I : Addr} {o : Obj} {c : String} {v : Value} (tgt : Expr) (e : s.heap.get? I = some o) (hc : o.cls = .type c) (hw : ∃ ws, o.data = .fields ws)
    (hn : ["enumerate", "zip", "dict_itemiterator", "dict_reverseitemiterator", "odict_iterator", "itertools.zip_longest", "itertools.pairwise"].contains c = false) (h : R () s) : wpAny M A (letOwnedTupleGo tgt (.ref I) v) R E s := by
  obtain ⟨ws, hw⟩ := hw
  have go : ∀ a : Addr, wpAny M A (do
      let o ← load I
      match o.cls, o.data with
      | .type n, .fields vs =>
        if ["enumerate", "zip", "dict_itemiterator", "dict_reverseitemiterator", "odict_iterator", "itertools.zip_longest", "itertools.pairwise"].contains n && vs[0]? == some (rawInt a) then do
          rule "for.unpacks-the-owned-tuple"
          updateField I 0 .none
      | _, _ => pure ()) R E s := fun a => by
    refine wpAny_bind (wpAny_load e ?_)
    rw [hc, hw]
    simp only [hn, Bool.false_and, Bool.false_eq_true, if_false]
    exact wpAny_pure h
  cases tgt <;> first
    | exact wpAny_pure h
    | (unfold letOwnedTupleGo
       cases v <;> first
         | exact wpAny_pure h
         | exact go _)

end
end Mine

end
section
open PySem PySem.W PySem.Calls PyProof.Rows PySem.Builtin PySem.Builtin.Str
set_option Elab.async false
set_option maxRecDepth 100000

namespace Mine
section
variable {C : Cx} {G : Fc} {B S : Heap} {X : Addr → Prop} {O : List PySem.Str} {ρ ρ' : Vars} {own own' : List (PySem.Str × Addr)} {s s' : Shared}
variable {P : Fl → Vars → Prop} {Zs : Exn → Vars → Prop}

theorem OkS.keepS (o : OkS C G S X O ρ own s) {b : Addr} {ob : Obj} (e : S.get? b = some ob) (hc : ob.cls ≠ .type "frame") : s.heap.get? b = some ob :=
  (o.kb b ob (fun hm => by rw [o.bt b hm] at e; cases e) e).1 hc
theorem OkS.itNotHid (o : OkS C G B X O ρ own s) (hF : Fun G) {I : Addr} {ob : Obj} (e : s.heap.get? I = some ob) (hi : ItObj ob) : I ∉ hid C G own := fun hm => by
  obtain ⟨⟨c, hc, h1, h2, _⟩, ws, hw, _⟩ := hi
  rcases hid_cases hm with rfl | ⟨x, ec⟩ | ⟨p, hp, rfl⟩ | ht
  · have := o.g.framed hF.fr ob e
    rw [hc] at this; simp at this; exact h1 this
  · obtain ⟨⟨v, o', e', hdd⟩, _⟩ := o.g.cells x I ec
    rw [e] at e'; cases e'; rw [hw] at hdd; cases hdd
  · obtain ⟨vs, n, e'⟩ := o.oH p hp
    rw [e] at e'; cases e'; simp at hc; exact h2 hc.symm
  · exact o.inv.notTab e (by rw [hc]; simp) ht

theorem for_loop {m : Nat} {tgt : Expr} {body : List Stmt} {I : Addr} {ds : List D} {fp : List Addr} {Pv : Nat → Value → Prop} {St : Nat → Heap → Prop} (hF : Fun G) (hh : G.A.handled = none) (hN : NoteOk C G O Zs)
    (T : Itr C G.A X S I ds fp Pv St) (hI : S.get? I = none) (J : Nat → Vars → Prop)
    (turn : ∀ i d ρ', ds[i]? = some d → J i ρ' → ∃ f, TgW C G O tgt d f ∧ SWT m C G O (f ρ') body (fun fl ρ'' => match fl with
      | .nxt => J (i + 1) ρ''
      | .cont => J (i + 1) ρ''
      | .brk => P .nxt ρ''
      | .ret d => P (.ret d) ρ'') Zs)
    (fin : ∀ ρ', J ds.length ρ' → P .nxt ρ') {R : Result → Shared → Prop} (hR : ∀ f s', SP C G S X O P f s' → R (.ok f) s') (hE : ∀ ev s', SX C G S X O true Zs ev s' → R (.error ev) s')
    (o : OkS C G S X O ρ own s) (h0 : J 0 ρ) (hst : St 0 s.heap) (hm : m ≤ s.toks) : codeAny C.M G.A (.forLoop tgt (.ref I) body [] G.env) R s := by
  have hNE : ∀ ev s', SX C G S X O false Zs ev s' → notedBy C.M G.A G.env (fun e s'' => R (.error e) s'') ev s' := fun ev s' x =>
    wpAny_mono ((hN S X ev s').1 _ x) (fun _ s'' y => hE _ s'' y) fun e s'' y => hE _ s'' y
  refine codeAny_forLoop_any (fun n s => ∃ i ρ own, n + i = ds.length ∧ OkS C G S X O ρ own s ∧ J i ρ ∧ St i s.heap ∧ m ≤ s.toks) (fun n s q9 => ?_) ds.length ⟨0, ρ, own, by (exact rfl), o, h0, hst, hm⟩
  obtain ⟨i, ρ, own, hi, o, hJ, hst, hm⟩ := q9
  obtain ⟨oi, c, ei, hio, hci, hcn⟩ := T.obj i s.heap hst
  have hH : ∀ u, G.A.handled = some u → ∀ e, u = .ref e → e ∉ [I] := fun u hu => by rw [hh] at hu; cases hu
  by_cases hlt : i < ds.length
  · refine wpAny_tk hm (T.W.item i s _ _ hlt hst fun v h' tk hp hst' hk hm₁ => ?_)
    have hch : ItCh [I] s.heap h' := ⟨fun b ob hb e => hk b ob hb e, fun a ha => by simp at ha; subst ha; exact ⟨oi, ei, hio⟩⟩
    have o₁ : OkS C G S X O ρ own { s with heap := h', toks := tk } := o.itCh (dr := s.drawn) hch (fun a ha => by simp at ha; subst ha; exact hI) hH
    obtain ⟨oj, c', ej, hjo, hcj, hcn'⟩ := T.obj (i + 1) h' hst'
    have hds : ds[i]? = some ds[i] := List.getElem?_eq_getElem hlt
    obtain ⟨f, hf, hb⟩ := turn i ds[i] ρ hds hJ
    have hr := (T.rep i ds[i] v h' hds hp o₁.kb).mono o₁.outO
    refine owned_go tgt ej hcj ((by obtain ⟨ws, x, _⟩ := hjo.2; exact ⟨ws, x⟩)) hcn' ?_
    -- the body, with the state ahead of the store protected
    have key : ∀ {s₂ : Shared}, OkS C G (prot C G own h') X O (f ρ) own s₂ → m ≤ s₂.toks → wpAny C.M G.A (execs body G.env) (fun fl s₃ => match fl with
        | .next | .cont => ∃ k, k < n ∧ ∃ i ρ own, k + i = ds.length ∧ OkS C G S X O ρ own s₃ ∧ J i ρ ∧ St i s₃.heap ∧ m ≤ s₃.toks
        | .brk => R (.ok .next) s₃
        | .ret v => R (.ok (.ret v)) s₃) (notedBy C.M G.A G.env fun e s' => R (.error e) s') s₂ := fun {s₂} o₂ hm₂ => by
      refine wpAny_tk hm₂ (wpAny_mono (hb _ X own s₂ o₂ hm₂) (fun fl s₃ q9 hm₃ => ?_) fun ev s' x _ => hNE ev s' (SX.widen o₁ x))
      obtain ⟨ρ', own', o', q⟩ := q9
      have o₃ := o₁.widen o'
      have hst₃ : St (i + 1) s₃.heap := by
        refine T.W.frame (i + 1) h' s₃.heap hst' fun b hb ob e => ?_
        by_cases hbI : b = I
        · subst hbI
          rw [ej] at e; cases e
          have : (prot C G own h').get? b = some oj := hideAll_get _ ej (o₁.itNotHid hF ej hjo)
          exact o'.keepS this (by rw [hcj]; obtain ⟨⟨c2, h1, h2, _⟩, _⟩ := hjo; rw [hcj] at h1; simp at h1; subst h1; simpa using h2)
        · obtain ⟨ob', e', hc'⟩ := T.fpS b hb hbI
          have h1 := o₁.keepS e' hc'
          have h2 := o₃.keepS e' hc'
          rw [e] at h1; cases h1; exact h2
      cases fl with
      | next => exact ⟨n - 1, by (exact lin1 (subu (a := n) (b := 1) (lin2 hlt (Nat.le_of_eq (Eq.symm hi)) (by simp +arith only))) (by simp +arith only)), i + 1, ρ', own', by (exact Nat.le_antisymm (lin2 (subu (a := n) (b := 1) (lin2 hlt (Nat.le_of_eq (Eq.symm hi)) (by simp +arith only))) (Nat.le_of_eq hi) (by simp +arith only)) (lin2 (Nat.le_of_eq (Eq.symm hi)) (subl (n) (1)) (by simp +arith only))), o₃, q, hst₃, hm₃⟩
      | cont => exact ⟨n - 1, by (exact lin1 (subu (a := n) (b := 1) (lin2 hlt (Nat.le_of_eq (Eq.symm hi)) (by simp +arith only))) (by simp +arith only)), i + 1, ρ', own', by (exact Nat.le_antisymm (lin2 (subu (a := n) (b := 1) (lin2 hlt (Nat.le_of_eq (Eq.symm hi)) (by simp +arith only))) (Nat.le_of_eq hi) (by simp +arith only)) (lin2 (Nat.le_of_eq (Eq.symm hi)) (subl (n) (1)) (by simp +arith only))), o₃, q, hst₃, hm₃⟩
      | brk => exact hR _ _ ⟨ρ', own', o₃, q⟩
      | ret v => exact hR _ _ ⟨ρ', own', o₃, q⟩
    exact wpAny_tk hm₁ (hf _ X own ρ _ v _ _ o₁.narrow hr fun s₂ o₂ hm₂ => key o₂ hm₂)
  · have hil : i = ds.length := by (exact Nat.le_antisymm (lin1 (Nat.le_of_eq hi) (by simp +arith only)) (lin1 (Nat.le_of_not_lt hlt) (by simp +arith only)))
    subst hil
    refine T.W.done s _ _ hst fun h' tk hk => ?_
    have hch : ItCh [I] s.heap h' := ⟨fun b ob hb e => hk b ob hb e, fun a ha => by simp at ha; subst ha; exact ⟨oi, ei, hio⟩⟩
    have o₁ : OkS C G S X O ρ own { s with heap := h', toks := tk } := o.itCh (dr := s.drawn) hch (fun a ha => by simp at ha; subst ha; exact hI) hH
    exact wpAny_execs_nil (hR _ _ ⟨ρ, own, o₁, fin ρ hJ⟩)

theorem S1WT.for_ {m : Nat} {tgt it : Expr} {body : List Stmt} {pos : Pos} (hF : Fun G) (hh : G.A.handled = none) (hN : NoteOk C G O Zs) (hs : ∀ x, foldedSetIterable it G.env x = pure x)
    (h : EvW C G (safe O ρ) it (fun d => ∃ ds, iterOf d = some ds ∧ ∃ J : Nat → Vars → Prop, J 0 ρ ∧ (∀ ρ', J ds.length ρ' → P .nxt ρ') ∧
      ∀ i d ρ', ds[i]? = some d → J i ρ' → ∃ f, TgW C G O tgt d f ∧ SWT m C G O (f ρ') body (fun fl ρ'' => match fl with
      | .nxt => J (i + 1) ρ''
      | .cont => J (i + 1) ρ''
      | .brk => P .nxt ρ''
      | .ret d => P (.ret d) ρ'') Zs) (fun z => Zs z ρ)) : S1WT m C G O ρ (.For tgt it body [] pos) P Zs := fun B X own s o hm => by
  refine wpAny_For (wpAny_tk hm (wpAny_mono (h _ s o.safeE) (fun v s₁ q9 hm₁ => ?_) fun _ _ x _ => x.sx o)) hs
  obtain ⟨st, d, r, ds, hd, J, h0, fin, turn⟩ := q9
  have o₁ := o.step st
  refine wpAny_tk hm₁ (wpAny_mono (pyIter_spec hF hh (E := fun _ _ => False) hd o₁ r) (fun itv s₂ q9 hm₂ => ?_) fun _ _ x => x.elim)
  obtain ⟨st₂, I, fp, Pv, St, e, hfr, T, hst⟩ := q9
  subst e
  have o₂ := o₁.narrow.step st₂
  have hI : (prot C G own s₁.heap).get? I = none := by
    cases e : (prot C G own s₁.heap).get? I with
    | none => rfl
    | some ob => have := of_hideAll _ e; rw [hfr] at this; cases this
  refine for_loop hF hh hN T hI J turn fin (fun f s' ⟨ρ', own', o', q⟩ => ?_) (fun ev s' x => ?_) o₂ h0 hst hm₂
  · exact ⟨ρ', own', o₁.widen o', q⟩
  · exact (hN B X ev s').2 (x.widen o₁)

theorem S1W.for_ {tgt it : Expr} {body : List Stmt} {pos : Pos} (hF : Fun G) (hh : G.A.handled = none) (hN : NoteOk C G O Zs) (hs : ∀ x, foldedSetIterable it G.env x = pure x)
    (h : EvW C G (safe O ρ) it (fun d => ∃ ds, iterOf d = some ds ∧ ∃ J : Nat → Vars → Prop, J 0 ρ ∧ (∀ ρ', J ds.length ρ' → P .nxt ρ') ∧
      ∀ i d ρ', ds[i]? = some d → J i ρ' → ∃ f, TgW C G O tgt d f ∧ SW C G O (f ρ') body (fun fl ρ'' => match fl with
      | .nxt => J (i + 1) ρ''
      | .cont => J (i + 1) ρ''
      | .brk => P .nxt ρ''
      | .ret d => P (.ret d) ρ'') Zs) (fun z => Zs z ρ)) : S1W C G O ρ (.For tgt it body [] pos) P Zs := fun B X own s o =>
  S1WT.for_ (m := 0) hF hh hN hs (h.mono (fun d q => by
    obtain ⟨ds, hd, J, h0, fin, turn⟩ := q
    exact ⟨ds, hd, J, h0, fin, fun i d ρ' a b => by obtain ⟨f, p, q⟩ := turn i d ρ' a b; exact ⟨f, p, q.t⟩⟩) fun _ z => z) B X own s o (Nat.zero_le _)

end
end Mine

end
section
open PySem PySem.W PySem.Calls PyProof.Rows PySem.Builtin PySem.Builtin.Str
set_option Elab.async false
set_option maxRecDepth 100000

namespace Mine
section
variable {C : Cx} {G : Fc} {ρ : Vars} {Q : D → Prop} {Z : Exn → Prop}
theorem OpW.iadd_int {a b : Int} (h : Q (.int (a + b))) : OpW C G [.int a, .int b] (iop .Add) Q Z := .two fun ρ X s v w o r1 r2 => by
  obtain ⟨t, rfl⟩ := r1; obtain ⟨u, rfl⟩ := r2
  exact PyProof.Rows.iadd_int (VP.of (Step.tok o.inv _) .mkInt h)
theorem OpW.iadd_str {a b : List Nat} (hl : (a ++ b).length ≤ sizeLine) (h : Q (.str (a ++ b))) : OpW C G [.str a, .str b] (iop .Add) Q Z := .two fun ρ X s v w o r1 r2 => by
  obtain ⟨t, rfl⟩ := r1; obtain ⟨u, rfl⟩ := r2
  refine PySem.P.iadd_str ?_
  split
  · rename_i h0
    have : a = [] := by simpa [Str.length] using h0
    subst this
    exact VP.of (Step.refl o.inv) (.mkStr rfl) h
  · split
    · rename_i h0
      have : b = [] := by simpa [Str.length] using h0
      subst this
      exact VP.of (Step.refl o.inv) (.mkStr rfl) (by simpa using h)
    · refine made_str o.inv ?_ hl h
      show (a.toArray ++ b.toArray).toList = _
      simp
end

section
variable {C : Cx} {G : Fc} {B S : Heap} {X : Addr → Prop} {O : List PySem.Str} {ρ ρ' : Vars} {own own' : List (PySem.Str × Addr)} {s s' : Shared}
variable {P : Fl → Vars → Prop} {Zs : Exn → Vars → Prop}

theorem S1W.aug {x : PySem.Str} {np pos : Pos} {op : Operator} {e : Expr} {d0 : D} (hF : Fun G) (hk : Storable G x) (hx : x ∉ O) (hd : ρ.lookup x = some d0)
    (h : EvW C G ρ e (fun d => OpW C G [d0, d] (iop op) (fun r => r.plain = true ∧ P .nxt (put x r ρ)) (fun z => Zs z ρ)) (fun z => Zs z ρ)) (hn : (x == ("__classdict__" : PySem.Str)) = false := by decide) :
    S1W C G O ρ (.AugAssign (.Name x np) op e pos) P Zs := fun B X own s o => by
  refine wpAny_AugAssign_Name ?_
  obtain ⟨v0, a0, r0⟩ := o.full.vars x d0 hd
  refine loadVar a0 o.g.kind rfl ?_ hn
  refine wpAny_mono (h X s o.full) (fun v s₁ q9 => ?_) fun _ _ x => x.sx o
  obtain ⟨st, d, r, p⟩ := q9
  have o₁ := o.step st
  refine wpAny_mono (p ρ X s₁ [v0, v] o₁.full (.mk2 (r0.step o.inv st) r)) (fun w s₂ q9 => ?_) fun _ _ x => x.sx o₁
  obtain ⟨st₂, d₂, r₂, hp, q⟩ := q9
  have o₂ := o₁.step st₂
  exact store_loc o₂.g hk fun h' tk a l => ⟨_, own, o₂.store hF.fr l hx (r₂.plain hp), q⟩

end
end Mine

end
section
open PySem PySem.W PySem.Calls PyProof.Rows PySem.Builtin PySem.Builtin.Str
set_option Elab.async false
set_option maxRecDepth 100000

namespace Mine

theorem cellsFrom_app : ∀ (names : List (PySem.Str × NameKind)) (n : Nat) (acc : List (PySem.Str × Addr)), cellsFrom n names acc = cellsFrom n names [] ++ acc
  | [], n, acc => rfl
  | (x, k) :: r, n, acc => by
    simp only [cellsFrom]
    split
    · rw [cellsFrom_app r (n + 1) ((x, n) :: acc), cellsFrom_app r (n + 1) [(x, n)]]; simp
    · exact cellsFrom_app r n acc
theorem cellsFrom_new : ∀ (names : List (PySem.Str × NameKind)) (n : Nat) {x : PySem.Str} {c : Addr}, (x, c) ∈ cellsFrom n names [] → n ≤ c ∧ (x, NameKind.cell) ∈ names
  | [], n, x, c, h => by simp [cellsFrom] at h
  | (y, k) :: r, n, x, c, h => by
    simp only [cellsFrom] at h
    split at h
    · rename_i hk
      rw [cellsFrom_app] at h
      rcases List.mem_append.mp h with h | h
      · obtain ⟨h1, h2⟩ := cellsFrom_new r (n + 1) h
        exact ⟨by (exact Nat.le_of_lt (by assumption)), .tail _ h2⟩
      · simp at h
        obtain ⟨rfl, rfl⟩ := h
        have : k = NameKind.cell := by simpa using hk
        subst this
        exact ⟨Nat.le_refl _, .head _⟩
    · obtain ⟨h1, h2⟩ := cellsFrom_new r n h
      exact ⟨h1, .tail _ h2⟩
theorem lookup_app {α : Type} (y : PySem.Str) : ∀ (l m : List (PySem.Str × α)), (l ++ m).lookup y = match l.lookup y with | some c => some c | none => m.lookup y
  | [], m => rfl
  | (x, c) :: r, m => by
    simp only [List.cons_append, List.lookup_cons]
    cases y == x with
    | true => rfl
    | false => exact lookup_app y r m
theorem lookup_none {α : Type} {y : PySem.Str} : ∀ {l : List (PySem.Str × α)}, (∀ c, (y, c) ∉ l) → l.lookup y = none
  | [], _ => rfl
  | (x, c) :: r, h => by
    rw [List.lookup_cons]
    cases hb : y == x with
    | true => exact absurd (.head _) (eq_of_beq hb ▸ h c)
    | false => exact lookup_none fun c' hm => h c' (.tail _ hm)
theorem lookup_some_of_mem {α : Type} {y : PySem.Str} {c : α} : ∀ {l : List (PySem.Str × α)}, (y, c) ∈ l → ∃ c', l.lookup y = some c' ∧ (y, c') ∈ l
  | (x, e) :: r, h => by
    rw [List.lookup_cons]
    cases hb : y == x with
    | true => exact ⟨e, rfl, eq_of_beq hb ▸ .head _⟩
    | false =>
      rcases List.mem_cons.mp h with h | h
      · cases h; simp at hb
      · obtain ⟨c', h1, h2⟩ := lookup_some_of_mem h
        exact ⟨c', h1, .tail _ h2⟩
theorem cellsFrom_has : ∀ (names : List (PySem.Str × NameKind)) (n : Nat) {x : PySem.Str}, (x, NameKind.cell) ∈ names → ∃ c, (x, c) ∈ cellsFrom n names []
  | (y, k) :: r, n, x, h => by
    simp only [cellsFrom]
    rcases List.mem_cons.mp h with h | h
    · cases h
      simp only [beq_self_eq_true, if_true]
      rw [cellsFrom_app]
      exact ⟨n, List.mem_append.mpr (.inr (.head _))⟩
    · split
      · rw [cellsFrom_app]
        obtain ⟨c, hc⟩ := cellsFrom_has r (n + 1) h
        exact ⟨c, List.mem_append.mpr (.inl hc)⟩
      · exact cellsFrom_has r n h

noncomputable def clo (cells : List (PySem.Str × Addr)) : List (PySem.Str × NameKind) → List (PySem.Str × Addr) → List (PySem.Str × Addr)
  | [], acc => acc
  | (x, k) :: r, acc => if k == .free then clo cells r ((x, (cells.lookup x).getD 0) :: acc) else clo cells r acc
theorem closure_eq {env : Env} : ∀ {scope : Scope}, (∀ x, (x, NameKind.free) ∈ scope.names → ∃ c, env.cells.lookup x = some c) → closureFor scope env = pure (clo env.cells scope.names []) := fun {scope} h => by
  have go : ∀ (names : List (PySem.Str × NameKind)) (acc : List (PySem.Str × Addr)), (∀ x, (x, NameKind.free) ∈ names → ∃ c, env.cells.lookup x = some c) →
      (forIn names acc (fun (p : PySem.Str × NameKind) (cs : List (PySem.Str × Addr)) => if (p.2 == .free) = true then (do let c ← cellOf env p.1; pure (ForInStep.yield ((p.1, c) :: cs))) else pure (ForInStep.yield cs)) : Sem _) = pure (clo env.cells names acc) := by
    intro names
    induction names with
    | nil => intro acc _; rfl
    | cons p r ih =>
      obtain ⟨x, k⟩ := p
      intro acc h
      rw [List.forIn_cons]
      simp only [clo]
      by_cases hk : (k == NameKind.free) = true
      · rw [if_pos hk, if_pos hk]
        have hk' : k = NameKind.free := by simpa using hk
        obtain ⟨c, hc⟩ := h x (by rw [hk']; exact .head _)
        have : cellOf env x = pure c := by unfold cellOf; rw [hc]
        rw [this, hc]
        simp only [pure_bind]
        exact ih _ fun y hy => h y (.tail _ hy)
      · rw [if_neg hk, if_neg hk]
        simp only [pure_bind]
        exact ih _ fun y hy => h y (.tail _ hy)
  unfold closureFor
  have := go scope.names [] h
  simpa using this
theorem clo_mem {cells : List (PySem.Str × Addr)} : ∀ (names : List (PySem.Str × NameKind)) (acc : List (PySem.Str × Addr)) {y : PySem.Str} {c : Addr}, (y, c) ∈ clo cells names acc → (y, c) ∈ acc ∨ ((y, NameKind.free) ∈ names ∧ c = (cells.lookup y).getD 0)
  | [], acc, y, c, h => .inl h
  | (x, k) :: r, acc, y, c, h => by
    simp only [clo] at h
    split at h
    · rename_i hk
      have hk' : k = NameKind.free := by simpa using hk
      rcases clo_mem r _ h with h | ⟨h, e⟩
      · rcases List.mem_cons.mp h with h | h
        · cases h; subst hk'; exact .inr ⟨.head _, rfl⟩
        · exact .inl h
      · exact .inr ⟨.tail _ h, e⟩
    · rcases clo_mem r _ h with h | ⟨h, e⟩
      · exact .inl h
      · exact .inr ⟨.tail _ h, e⟩
theorem clo_has {cells : List (PySem.Str × Addr)} : ∀ (names : List (PySem.Str × NameKind)) (acc : List (PySem.Str × Addr)) {y : PySem.Str}, (y, NameKind.free) ∈ names ∨ (∃ c, (y, c) ∈ acc) → ∃ c, (y, c) ∈ clo cells names acc
  | [], acc, y, h => h.elim (fun h => by simp at h) id
  | (x, k) :: r, acc, y, h => by
    simp only [clo]
    split
    · rename_i hk
      refine clo_has r _ ?_
      rcases h with h | ⟨c, h⟩
      · rcases List.mem_cons.mp h with h | h
        · cases h; exact .inr ⟨_, .head _⟩
        · exact .inl h
      · exact .inr ⟨c, .tail _ h⟩
    · rename_i hk
      refine clo_has r _ ?_
      rcases h with h | ⟨c, h⟩
      · rcases List.mem_cons.mp h with h | h
        · cases h; simp at hk
        · exact .inl h
      · exact .inr ⟨c, h⟩

structure NamesOk (G : Fc) (scope : Scope) : Prop where
  kind : scope.kind = .function
  nodup : (scope.names.map (·.1)).Nodup
  free : ∀ x, (x, NameKind.free) ∈ scope.names → (∃ c, G.env.cells.lookup x = some c) ∧ (G.env.kindOf x = some .cell ∨ G.env.kindOf x = some .free)

noncomputable def ccells (G : Fc) (scope : Scope) (n : Nat) : List (PySem.Str × Addr) := cellsFrom n scope.names (clo G.env.cells scope.names [])
theorem kind_unique {scope : Scope} (h : (scope.names.map (·.1)).Nodup) {x : PySem.Str} {k k' : NameKind} (a : (x, k) ∈ scope.names) (b : (x, k') ∈ scope.names) : k = k' := by
  revert h a b
  generalize scope.names = l
  intro h a b
  induction l with
  | nil => simp at a
  | cons p r ih =>
    simp only [List.map_cons, List.nodup_cons, List.mem_map, not_exists, not_and] at h
    rcases List.mem_cons.mp a with a1 | a1 <;> rcases List.mem_cons.mp b with b1 | b1
    · rw [← a1] at b1; cases b1; rfl
    · exact absurd (by rw [← a1]) (h.1 _ b1)
    · exact absurd (by rw [← b1]) (h.1 _ a1)
    · exact ih h.2 a1 b1
theorem ccells_free {G : Fc} {scope : Scope} {n : Nat} (N : NamesOk G scope) {x : PySem.Str} (h : (x, NameKind.free) ∈ scope.names) : (ccells G scope n).lookup x = G.env.cells.lookup x := by
  obtain ⟨⟨c, hc⟩, _⟩ := N.free x h
  unfold ccells
  rw [cellsFrom_app, lookup_app]
  have h1 : (cellsFrom n scope.names []).lookup x = none := lookup_none fun c' hm => by
    have := (cellsFrom_new _ _ hm).2
    have := kind_unique N.nodup h this
    cases this
  rw [h1]
  obtain ⟨c', hm⟩ := clo_has (cells := G.env.cells) scope.names [] (.inl h)
  obtain ⟨c2, e2, m2⟩ := lookup_some_of_mem hm
  rcases clo_mem _ _ m2 with q | ⟨_, q⟩
  · simp at q
  · show (clo G.env.cells scope.names []).lookup x = _
    rw [e2, q, hc]; rfl
theorem ccells_cases {G : Fc} {scope : Scope} {n : Nat} (N : NamesOk G scope) {x : PySem.Str} {c : Addr} (h : (ccells G scope n).lookup x = some c) : (x, c) ∈ cellsFrom n scope.names [] ∨ ((x, NameKind.free) ∈ scope.names ∧ G.env.cells.lookup x = some c) := by
  unfold ccells at h
  rw [cellsFrom_app, lookup_app] at h
  cases e : (cellsFrom n scope.names []).lookup x with
  | some c' => rw [e] at h; cases h; exact .inl (mem_of_lookup e)
  | none =>
    rw [e] at h
    have hm := mem_of_lookup (show (clo G.env.cells scope.names []).lookup x = some c from h)
    rcases clo_mem _ _ hm with q | ⟨q1, q2⟩
    · simp at q
    · obtain ⟨⟨c', hc⟩, _⟩ := N.free x q1
      rw [hc] at q2; cases q2
      exact .inr ⟨q1, hc⟩
theorem relabel_kind {G : Fc} {scope : Scope} (N : NamesOk G scope) {x : PySem.Str} (h : (x, NameKind.free) ∈ scope.names) : (relabel scope G.env).names.lookup x = some .cell ∨ (relabel scope G.env).names.lookup x = some .free := by
  have : ∀ l : List (PySem.Str × NameKind), (l.map (·.1)).Nodup → (x, NameKind.free) ∈ l →
      (l.map fun (n, k) => if (k == .free && G.env.scope.kind == .function && G.env.kindOf n == some .cell) then (n, NameKind.cell) else (n, k)).lookup x = some .cell ∨
      (l.map fun (n, k) => if (k == .free && G.env.scope.kind == .function && G.env.kindOf n == some .cell) then (n, NameKind.cell) else (n, k)).lookup x = some .free := by
    intro l
    induction l with
    | nil => intro _ h; simp at h
    | cons p r ih =>
      obtain ⟨y, k⟩ := p
      intro hn h
      simp only [List.map_cons, List.nodup_cons] at hn
      rcases List.mem_cons.mp h with h1 | h1
      · cases h1
        simp only [List.map_cons]
        split
        · left; simp
        · right; simp
      · have hxy : (x == y) = false := by
          simp only [beq_eq_false_iff_ne, ne_eq]
          rintro rfl
          exact hn.1 (List.mem_map_of_mem (f := (·.1)) h1)
        simp only [List.map_cons]
        split <;> simp only [List.lookup_cons, hxy] <;> exact ih hn.2 h1
  exact this scope.names N.nodup h

end Mine

end
section
open PySem PySem.W PySem.Calls PyProof.Rows PySem.Builtin PySem.Builtin.Str
set_option Elab.async false
set_option maxRecDepth 100000

namespace Mine
section
variable {C : Cx} {G : Fc} {B S : Heap} {X : Addr → Prop} {O : List PySem.Str} {ρ ρ' : Vars} {own own' : List (PySem.Str × Addr)} {s s' : Shared}

theorem GOk.listCh {h h' : Heap} {a : Addr} {ws : Array Value} (g : GOk C G h) (hl : h.IsList a ws) (hs : Heap.SameBut a h h') : GOk C G h' := by
  obtain ⟨oa, ea, ca, na, da⟩ := hl
  have hned : ∀ (b : Addr) (ob : Obj), h.get? b = some ob → (∀ vs n, ob.data ≠ .seq vs n) → b ≠ a := fun b ob e hc q => by
    rw [q, ea] at e; cases e; exact hc _ _ da
  refine { depth := g.depth, units := g.units, frames := ?_, kind := g.kind, glob := g.glob, blt := g.blt, loc := ?_, locB := g.locB, cells := fun y c e => ?_, inj := g.inj, hnd := fun u hu => ?_ }
  · obtain ⟨fe, p, q, r⟩ := g.frames
    refine ⟨fe, p, q, fun e he => ?_⟩
    obtain ⟨hk, L, o, es, ep, h1, h2, h3, h4, h5⟩ := r e he
    exact ⟨hk, L, o, es, ep, h1, h2, (hs.2 L (hned _ _ h3 (by rw [h5]; simp))).trans h3, h4, h5⟩
  · obtain ⟨m, hn⟩ := g.loc
    refine ⟨m, hn.sameBut hs ?_⟩
    obtain ⟨ob, es, ep, e, hd, _⟩ := hn
    exact hned _ _ e (by rw [hd]; simp)
  · obtain ⟨⟨v, hv⟩, hb⟩ := g.cells y c e
    refine ⟨⟨v, hv.sameBut hs ?_⟩, hb⟩
    obtain ⟨ob, e, hd⟩ := hv
    exact hned _ _ e (by rw [hd]; simp)
  · obtain ⟨e, ob, us, h1, h2, h3, h4, h5⟩ := g.hnd u hu
    exact ⟨e, ob, us, h1, (hs.2 e (hned _ _ h2 (by rw [h4]; simp))).trans h2, h3, h4, h5⟩

noncomputable def cG (G : Fc) (scope : Scope) (L : Addr) : Fc := { G with env := compEnvC scope (ccells G scope (L + 1)) L G.env }
noncomputable def compVars (scope : Scope) (ρ : Vars) : Vars := ρ.filter fun p => scope.names.contains (p.1, NameKind.free)

theorem newEnv_comp {M : Model} {A : Around} {E : Value → Shared → Prop} {scope : Scope} {globals : Addr} {cl : List (PySem.Str × Addr)} {qual : PySem.Str} {env : Env} {Q : Env → Shared → Prop}
    (h : Q { scope := scope, locals := s.heap.objs.size, globals := globals, cells := cellsFrom (s.heap.objs.size + 1) scope.names cl, qual := qual, func := none, code := env.code, frame := env.frame, builtins := env.builtins }
      { s with heap := pushCells (s.heap.push { cls := .type "dict", data := .dict #[] }) scope.names }) :
    wpAny M A (newFunctionEnv scope globals cl [] qual none .none (some env)) Q E s := by
  simp only [newFunctionEnv, Option.isSome_some, if_true]
  refine wpAny_bind (wpAny_alloc ?_)
  refine wpAny_bind (wpAny_layCells _ (fun name kind cells => by cases hkc : kind == NameKind.cell <;> simp [hkc]) _ _ _ _ ?_)
  rw [show ({ s with heap := s.heap.push { cls := .type "dict", data := .dict #[] } } : Shared).heap.objs.size = s.heap.objs.size + 1 from Heap.size_push ..]
  simp only [List.forIn_nil]
  exact wpAny_bind (wpAny_pure (wpAny_pure h))

theorem lookup_compVars {scope : Scope} {y : PySem.Str} {d : D} : ∀ {ρ : Vars}, (compVars scope ρ).lookup y = some d → ρ.lookup y = some d ∧ (y, NameKind.free) ∈ scope.names
  | [], h => by simp [compVars] at h
  | (x, e) :: r, h => by
    unfold compVars at h
    rw [List.filter_cons] at h
    by_cases hx : (x, NameKind.free) ∈ scope.names
    · rw [if_pos (by simpa using hx)] at h
      rw [List.lookup_cons] at h ⊢
      cases hb : y == x with
      | true => rw [hb] at h; exact ⟨h, eq_of_beq hb ▸ hx⟩
      | false => rw [hb] at h; exact lookup_compVars (ρ := r) h
    · rw [if_neg (by simpa using hx)] at h
      have ih := lookup_compVars (ρ := r) h
      refine ⟨?_, ih.2⟩
      rw [List.lookup_cons]
      have : (y == x) = false := by simp; rintro rfl; exact hx ih.2
      rw [this]; exact ih.1

structure CS (C : Cx) (G : Fc) (scope : Scope) (X : Addr → Prop) (s₁ : Shared) (D L : Addr) (es : List Mine.D) (s : Shared) : Prop where
  step : Step C s₁ s
  g : GOk C (cG G scope L) s.heap
  acc : ∃ vs, s.heap.PlainList D (List.toArray vs) ∧ Reps C (fun c => c = D ∨ c = L ∨ X c) s.heap vs es
  loc : ∃ o es ep, s.heap.get? L = some o ∧ o.cls = .type "dict" ∧ o.data = .dict es ep
  fL : s₁.heap.get? L = none
  fD : s₁.heap.get? D = none
  fC : ∀ y c, (y, c) ∈ cellsFrom (L + 1) scope.names [] → s₁.heap.get? c = none

variable {scope : Scope} {D L : Addr} {es : List Mine.D} {s₁ : Shared}
theorem CS.keep (c : CS C G scope X s₁ D L es s) (st : Step C s s') : CS C G scope X s₁ D L es s' where
  step := c.step.trans st
  g := c.g.keep c.step.inv st.keep
  acc := (by obtain ⟨vs, h1, h2⟩ := c.acc; exact ⟨vs, PL.keep c.step.inv st.keep h1, h2.step c.step.inv st⟩)
  loc := by
    obtain ⟨o, es, ep, e, hc, hd⟩ := c.loc
    exact ⟨o, es, ep, st.keep.get e (c.step.inv.notTab e (by rw [hc]; simp)) (by rw [hc]; simp), hc, hd⟩
  fL := c.fL
  fD := c.fD
  fC := c.fC
theorem Inv.baseNone {s : Shared} (i : Inv C s) {a : Addr} (h : s.heap.get? a = none) : C.base.get? a = none := by
  cases e : C.base.get? a with
  | none => rfl
  | some o => rw [i.stays a o e] at h; cases h
theorem CS.itCh (c : CS C G scope X s₁ D L es s) (i₁ : Inv C s₁) {Wl : List Addr} {h' : Heap} {tk : Nat} (x : ItCh Wl s.heap h') (hI : ∀ a ∈ Wl, s₁.heap.get? a = none) (hh : G.A.handled = none) : CS C G scope X s₁ D L es { s with heap := h', toks := tk } where
  step := ⟨c.step.inv.itCh (dr := s.drawn) x fun a ha => i₁.baseNone (hI a ha), fun b o hb e => by
    obtain ⟨k1, sl, k2⟩ := c.step.keep b o hb e
    have hne : b ∉ Wl := fun hm => by rw [hI b hm] at e; cases e
    exact ⟨fun hc => x.1 b _ hne (k1 hc), sl, x.1 b _ hne k2⟩⟩
  g := c.g.itCh x fun u hu => by rw [show (cG G scope L).A.handled = none from hh] at hu; cases hu
  acc := (by obtain ⟨vs, h1, h2⟩ := c.acc; exact ⟨vs, PL.keepD (C := C) x.dat h1, h2.keepD x.dat⟩)
  loc := by
    obtain ⟨o, es, ep, e, hc, hd⟩ := c.loc
    exact ⟨o, es, ep, x.other e (.inl (by rw [hd]; simp)), hc, hd⟩
  fL := c.fL
  fD := c.fD
  fC := c.fC

theorem CS.addr {x : PySem.Str} {a : Addr} {v : Value} {h' : Heap} (N : NamesOk G scope) (c : CS C G scope X s₁ D L es s) (hx : (x, NameKind.local) ∈ scope.names ∨ (x, NameKind.cell) ∈ scope.names) (l : Loc C (cG G scope L) s h' a x v) : s₁.heap.get? a = none ∧ (a = L ∨ ∃ y, (y, a) ∈ cellsFrom (L + 1) scope.names []) := by
  rcases l.here with ⟨rfl, _⟩ | ⟨_, hc, _⟩
  · exact ⟨c.fL, .inl rfl⟩
  · rcases ccells_cases N hc with h | ⟨h, _⟩
    · exact ⟨c.fC x a h, .inr ⟨x, h⟩⟩
    · rcases hx with hx | hx <;> have := kind_unique N.nodup h hx <;> cases this
theorem CS.dat {x : PySem.Str} {a : Addr} {v : Value} {h' : Heap} (c : CS C G scope X s₁ D L es s) (l : Loc C (cG G scope L) s h' a x v) :
    ∀ b o, s.heap.get? b = some o → Dat C o → (o.cls = .type "list" ∨ o.cls = .type "dict" → ¬ (b = D ∨ b = L ∨ X b)) → h'.get? b = some o := fun b o e hd hX => by
  refine (l.same.2 b fun q => ?_).trans e
  subst q
  rcases l.here with ⟨hb, _⟩ | ⟨_, _, _, v₀, o', e', hd'⟩
  · have hb' : b = L := hb
    subst hb'
    obtain ⟨o', es, ep, e', hc, _⟩ := c.loc
    rw [e] at e'; cases e'
    exact hX (.inr hc) (.inr (.inl rfl))
  · rw [e] at e'; cases e'
    exact hd.1.2.2 _ hd'
theorem CS.store {x : PySem.Str} {a : Addr} {v : Value} {h' : Heap} {tk : Nat} (N : NamesOk G scope) (c : CS C G scope X s₁ D L es s) (i₁ : Inv C s₁) (hx : (x, NameKind.local) ∈ scope.names ∨ (x, NameKind.cell) ∈ scope.names) (l : Loc C (cG G scope L) s h' a x v) (hDL : D ≠ L) :
    CS C G scope X s₁ D L es { s with heap := h', toks := tk } where
  step := ⟨l.inv c.step.inv, fun b o hb e => by
    obtain ⟨k1, sl, k2⟩ := c.step.keep b o hb e
    have hne : b ≠ a := by rintro rfl; rw [(c.addr N hx l).1] at e; cases e
    exact ⟨fun hc => (l.same.2 b hne).trans (k1 hc), sl, (l.same.2 b hne).trans k2⟩⟩
  g := l.g c.g
  acc := by
    obtain ⟨vs, ⟨n, e⟩, h2⟩ := c.acc
    refine ⟨vs, ⟨n, (l.same.2 D fun q => ?_).trans e⟩, h2.move (c.dat l) fun _ _ _ q => q⟩
    subst q
    rcases l.here with ⟨hb, _⟩ | ⟨_, _, _, v₀, o', e', hd'⟩
    · exact hDL hb
    · rw [e] at e'; cases e'; cases hd'
  loc := by
    obtain ⟨o, es, ep, e, hc, hd⟩ := c.loc
    by_cases hL : L = a
    · subst hL
      rcases l.here with ⟨_, _, _, h⟩ | ⟨_, _, _, v₀, o', e', hd'⟩
      · obtain ⟨o', es', ep', h1, h2, h3⟩ := h o e
        exact ⟨o', es', ep', h1, h2.trans hc, h3⟩
      · rw [e] at e'; cases e'; rw [hd] at hd'; cases hd'
    · exact ⟨o, es, ep, (l.same.2 L hL).trans e, hc, hd⟩
  fL := c.fL
  fD := c.fD
  fC := c.fC
theorem CS.append {v : Value} {e : Mine.D} {vs : List Value} {h' : Heap} (c : CS C G scope X s₁ D L es s) (hl : s.heap.PlainList D vs.toArray) (hr : Reps C (fun c => c = D ∨ c = L ∨ X c) s.heap vs es) (hv : Rep C (fun c => c = D ∨ c = L ∨ X c) s.heap v e)
    (h1 : h'.PlainList D (vs ++ [v]).toArray) (hs : Heap.SameBut D s.heap h') (i₁ : Inv C s₁) : CS C G scope X s₁ D L (es ++ [e]) { s with heap := h' } where
  step := ⟨by
      obtain ⟨n, eD⟩ := hl
      exact c.step.inv.change (tk := s.toks) hs (i₁.baseNone c.fD) eD (by nofun), fun b o hb eb => by
    obtain ⟨k1, sl, k2⟩ := c.step.keep b o hb eb
    have hne : b ≠ D := by rintro rfl; rw [c.fD] at eb; cases eb
    exact ⟨fun hc => (hs.2 b hne).trans (k1 hc), sl, (hs.2 b hne).trans k2⟩⟩
  g := c.g.listCh hl.isList hs
  acc := by
    refine ⟨vs ++ [v], h1, ?_⟩
    have k : ∀ b o, b ≠ D → s.heap.get? b = some o → Val o → h'.get? b = some o := fun b o hne eb _ => (hs.2 b hne).trans eb
    exact (hr.keepA hl.isList (.inl rfl) k).append (Reps.mk1 (hv.keepA hl.isList (.inl rfl) k))
  loc := by
    obtain ⟨o, es, ep, eL, hc, hd⟩ := c.loc
    obtain ⟨n, eD⟩ := hl
    refine ⟨o, es, ep, (hs.2 L fun q => ?_).trans eL, hc, hd⟩
    subst q
    rw [eD] at eL; cases eL; cases hd
  fL := c.fL
  fD := c.fD
  fC := c.fC

end
end Mine

end
section
open PySem PySem.W PySem.Calls PyProof.Rows PySem.Builtin PySem.Builtin.Str
set_option Elab.async false
set_option maxRecDepth 100000

namespace Mine
section
variable {C : Cx} {G : Fc} {B : Heap} {X : Addr → Prop} {O : List PySem.Str} {ρ ρ' : Vars} {own own' : List (PySem.Str × Addr)} {s s' : Shared}
variable {scope : Scope} {Da L : Addr} {es : List D} {s₁ : Shared}

theorem CS.ok {ρx : Vars} (N : NamesOk G scope) (c : CS C G scope X s₁ Da L es s) (o₁ : Ok C G X ρ s₁) (hv : ∀ y d, ρx.lookup y = some d → ∃ v, VarAt (cG G scope L).env s.heap y v ∧ Rep C (fun c => c = Da ∨ c = L ∨ X c) s.heap v d) :
    Ok C (cG G scope L) (fun c => c = Da ∨ c = L ∨ X c) (ρx ++ compVars scope ρ) s where
  inv := c.step.inv
  g := c.g
  x a ha := by
    rcases ha with rfl | rfl | ha
    · obtain ⟨vs, h, _⟩ := c.acc; exact (Heap.PlainList.mut h).c
    · obtain ⟨o, es, ep, e, hc, hd⟩ := c.loc; exact ⟨_, e, ⟨by rw [hc]; simp, by rw [hc]; simp, by rw [hd]; simp⟩, .inr (.inl hc)⟩
    · exact (o₁.x a ha).keep o₁.inv c.step.keep
  vars y d e := by
    rw [lookup_app] at e
    cases hx : ρx.lookup y with
    | some d' => rw [hx] at e; cases e; exact hv y d hx
    | none =>
      rw [hx] at e
      obtain ⟨e1, hf⟩ := lookup_compVars (show (compVars scope ρ).lookup y = some d from e)
      obtain ⟨v, a, r⟩ := o₁.vars y d e1
      obtain ⟨_, hk⟩ := N.free y hf
      refine ⟨v, ?_, ((((r.avoid c.fL).avoid c.fD).mono ?_).step o₁.inv c.step)⟩
      · rcases a with ⟨hk', _⟩ | ⟨_, cc, hc, hv⟩
        · rw [hk'] at hk; rcases hk with h | h <;> cases h
        · exact .inr ⟨relabel_kind N hf, cc, (ccells_free N hf).trans hc, IsCell.keep o₁.inv c.step.keep hv⟩
      · intro a ha; rcases ha with h | h | h
        · exact .inl h
        · exact .inr (.inl h)
        · exact .inr (.inr h)

noncomputable def IfsW (C : Cx) (G : Fc) (ρ : Vars) (ifs : List Expr) (Q : Bool → Prop) : Prop :=
  ∀ X s (E : Value → Shared → Prop), Ok C G X ρ s → wpAny C.M G.A (forIn ifs true fun c r => if r = true then do let ok ← isTrue c G.env (eval c G.env); pure (ForInStep.yield ok) else pure (ForInStep.yield r)) (BP C s Q) E s
theorem IfsW.nil {Q : Bool → Prop} (h : Q true) : IfsW C G ρ [] Q := fun X s E o => by
  rw [List.forIn_nil]; exact wpAny_pure ⟨Step.refl o.inv, h⟩
theorem ifs_false {env : Env} {M : Model} {A : Around} {E : Value → Shared → Prop} {R : Bool → Shared → Prop} : ∀ {ifs : List Expr} {s : Shared}, R false s →
    wpAny M A (forIn ifs false fun c r => if r = true then do let ok ← isTrue c env (eval c env); pure (ForInStep.yield ok) else pure (ForInStep.yield r)) R E s
  | [], s, h => by rw [List.forIn_nil]; exact wpAny_pure h
  | c :: r, s, h => by
    rw [List.forIn_cons]
    exact wpAny_bind (wpAny_pure (ifs_false h))
theorem IfsW.cons {t : Expr} {ts : List Expr} {Q : Bool → Prop} (h : TsW C G ρ t (fun b => (b = true → IfsW C G ρ ts Q) ∧ (b = false → Q false)) (fun _ => False)) : IfsW C G ρ (t :: ts) Q := fun X s E o => by
  rw [List.forIn_cons]
  refine wpAny_bind ?_
  show wpAny C.M G.A (isTrue t G.env (eval t G.env) >>= fun ok => pure (ForInStep.yield ok)) _ E s
  refine wpAny_bind (wpAny_mono (h X s o) (fun b s₁ ⟨st, p⟩ => wpAny_pure ?_) fun _ _ ⟨_, _, _, z⟩ => z.elim)
  cases b with
  | true => exact wpAny_mono (p.1 rfl X s₁ E (o.step st)) (fun b s₂ x => x.back st) fun _ _ x => x
  | false => exact ifs_false ⟨st, p.2 rfl⟩

noncomputable def IfsT (n : Nat) (C : Cx) (G : Fc) (ρ : Vars) (ifs : List Expr) (Q : Bool → Nat → Prop) : Prop :=
  ∀ X s (E : Value → Shared → Prop), Ok C G X ρ s → n ≤ s.toks → wpAny C.M G.A (forIn ifs true fun c r => if r = true then do let ok ← isTrue c G.env (eval c G.env); pure (ForInStep.yield ok) else pure (ForInStep.yield r)) (fun b s' => Step C s s' ∧ Q b s'.toks) E s
noncomputable def EvT (n : Nat) (C : Cx) (G : Fc) (ρ : Vars) (e : Expr) (Q : D → Nat → Prop) (Z : Exn → Prop) : Prop :=
  ∀ X s, Ok C G X ρ s → n ≤ s.toks → wpAny C.M G.A (eval e G.env) (fun v s' => Step C s s' ∧ ∃ d, Rep C X s'.heap v d ∧ Q d s'.toks) (XP C s Z) s
theorem EvW.t {n : Nat} {e : Expr} {Q : D → Prop} {Z : Exn → Prop} (h : EvW C G ρ e Q Z) : EvT n C G ρ e (fun d _ => Q d) Z := fun X s o _ => h X s o
variable {S : List D → Prop} {Z : Exn → Prop}
theorem cellsNew (scope : Scope) (h : Heap) : ∀ y c, (y, c) ∈ cellsFrom h.objs.size scope.names [] → (pushCells h scope.names).IsCell c none ∧ h.get? c = none := fun y c hm => by
  have ok := cellsFrom_ok scope.names h h.objs.size [] ⟨fun _ _ hm => (nomatch hm), List.Pairwise.nil⟩ (Nat.le_refl _)
  refine ⟨(ok.empty y c hm).1, ?_⟩
  cases e : h.get? c with
  | none => rfl
  | some o => exact absurd (Heap.lt_size e) (Nat.not_lt.mpr (ok.empty y c hm).2)
theorem cellsInj (scope : Scope) (h : Heap) : ∀ x y c, (x, c) ∈ cellsFrom h.objs.size scope.names [] → (y, c) ∈ cellsFrom h.objs.size scope.names [] → x = y := fun x y c a b =>
  name_of_addr (cellsFrom_ok scope.names h h.objs.size [] ⟨fun _ _ hm => (nomatch hm), List.Pairwise.nil⟩ (Nat.le_refl _)).apart a b

theorem cG_storable (N : NamesOk G scope) {x : PySem.Str} (hx : (x, NameKind.local) ∈ scope.names ∨ (x, NameKind.cell) ∈ scope.names) : Storable (cG G scope L) x := by
  have key : ∀ (k : NameKind), k ≠ .free → (x, k) ∈ scope.names → (relabel scope G.env).names.lookup x = some k := fun k hk hm => by
    have : ∀ l : List (PySem.Str × NameKind), (l.map (·.1)).Nodup → (x, k) ∈ l →
        (l.map fun (n, k) => if (k == .free && G.env.scope.kind == .function && G.env.kindOf n == some .cell) then (n, NameKind.cell) else (n, k)).lookup x = some k := by
      intro l
      induction l with
      | nil => intro _ h; simp at h
      | cons p r ih =>
        obtain ⟨y, k'⟩ := p
        intro hn h
        simp only [List.map_cons, List.nodup_cons] at hn
        rcases List.mem_cons.mp h with h1 | h1
        · cases h1
          simp [hk]
        · have hxy : (x == y) = false := by
            simp only [beq_eq_false_iff_ne, ne_eq]
            rintro rfl
            exact hn.1 (List.mem_map_of_mem (f := (·.1)) h1)
          simp only [List.map_cons]
          split <;> simp only [List.lookup_cons, hxy] <;> exact ih hn.2 h1
    exact this scope.names N.nodup hm
  rcases hx with hx | hx
  · exact .inl (key _ (by decide) hx)
  · refine .inr ⟨key _ (by decide) hx, ?_⟩
    obtain ⟨c, hc⟩ := cellsFrom_has scope.names (L + 1) hx
    obtain ⟨c', e, _⟩ := lookup_some_of_mem hc
    refine ⟨c', ?_⟩
    show (ccells G scope (L + 1)).lookup x = some c'
    unfold ccells
    rw [cellsFrom_app, lookup_app, e]

theorem comp_tests {prog : Program} {w : World} {A : Around} {R : Result → Shared → Prop} {s : Shared} {elt target iter : Expr} {ifs : List Expr} {pos : Pos} {it acc : Value} {env : Env} (I : Nat → Shared → Prop)
    (turn : ∀ n s, I n s → wpAny (model prog w) A (pyNext it) (fun r s₁ => match r with
      | none => R (.ok .next) s₁
      | some v => wpAny (model prog w) A (letOwnedTupleGo target it v) (fun _ s₁ => wpAny (model prog w) A (assign target env v) (fun _ s₂ =>
          wpAny (model prog w) A (forIn ifs true fun c r => if r = true then do let ok ← isTrue c env (eval c env); pure (ForInStep.yield ok) else pure (ForInStep.yield r)) (fun ok s₃ =>
            if ok = true then wpAny (model prog w) A (eval elt env) (fun x s₄ =>
              wpAny (model prog w) A (call (.builtin "list.append") [acc, x]) (fun _ s₅ => ∃ m, m < n ∧ I m s₅) (notedBy (model prog w) A env fun e s' => R (.error e) s') s₄) (notedBy (model prog w) A env fun e s' => R (.error e) s') s₃
            else ∃ m, m < n ∧ I m s₃) (notedBy (model prog w) A env fun e s' => R (.error e) s') s₂) (notedBy (model prog w) A env fun e s' => R (.error e) s') s₁) (notedBy (model prog w) A env fun e s' => R (.error e) s') s₁) (notedBy (model prog w) A env fun e s' => R (.error e) s') s)
    (n : Nat) (h : I n s) :
    codeAny (model prog w) A (.compLoop (.ListComp elt [⟨target, iter, ifs, 0⟩] scope pos) 0 it acc env) R s := by
  refine codeAny_loop rfl I (fun n s hI => ?_) n h
  show wpAny _ A ((compTurn (.ListComp elt [⟨target, iter, ifs, 0⟩] scope pos) 0 it acc env).onRaise (fun x => do noteFrame x env; theTreesLotGoes x)) _ _ s
  refine wpAny_noted ?_
  rw [compTurn_list]
  refine wpAny_bind (wpAny_standAt (wpAny_bind (wpAny_mono (turn n s hI) (fun r s₁ h₁ => ?_) fun _ _ h' => h')))
  cases r with
  | none => exact wpAny_pure h₁
  | some v =>
    refine wpAny_bind (wpAny_mono h₁ (fun _ s₁ h₁ => ?_) fun _ _ h' => h')
    refine wpAny_bind (wpAny_mono h₁ (fun _ s₂ h₂ => wpAny_bind (wpAny_mono h₂ (fun ok s₃ h₃ => ?_) fun _ _ h' => h')) fun _ _ h' => h')
    cases ok with
    | false => exact wpAny_pure ⟨rfl, h₃⟩
    | true =>
      exact wpAny_bind (wpAny_bind (wpAny_mono h₃ (fun x s₄ h₄ => wpAny_bind (wpAny_mono h₄ (fun _ s₅ h₅ => wpAny_pure (wpAny_pure ⟨rfl, h₅⟩)) fun _ _ h' => h')) fun _ _ h' => h'))

noncomputable def TgC (C : Cx) (G : Fc) (scope : Scope) (tgt : Expr) (d : D) (bs : Vars) : Prop :=
  ∀ (X : Addr → Prop) (s₁ : Shared) (Da L : Addr) (es : List D) (s : Shared) (v : Value) (E : Value → Shared → Prop) (R : Unit → Shared → Prop), Inv C s₁ → Da ≠ L → CS C G scope X s₁ Da L es s → Rep C (fun c => c = Da ∨ c = L ∨ X c) s.heap v d →
    (∀ s', CS C G scope X s₁ Da L es s' → (∀ b o, s.heap.get? b = some o → ItObj o → s'.heap.get? b = some o) → (∀ y e, bs.lookup y = some e → ∃ v, VarAt (cG G scope L).env s'.heap y v ∧ Rep C (fun c => c = Da ∨ c = L ∨ X c) s'.heap v e) → R () s') →
    wpAny C.M G.A (assign tgt (cG G scope L).env v) R E s
theorem TgC.one {x : PySem.Str} {d : D} {bs : Vars} {v : Value} {E : Value → Shared → Prop} {R : Unit → Shared → Prop} (N : NamesOk G scope) (hx : (x, NameKind.local) ∈ scope.names ∨ (x, NameKind.cell) ∈ scope.names) (i₁ : Inv C s₁) (hDL : Da ≠ L) (c : CS C G scope X s₁ Da L es s)
    (r : Rep C (fun c => c = Da ∨ c = L ∨ X c) s.heap v d) (hb : ∀ y e, bs.lookup y = some e → ∃ v, VarAt (cG G scope L).env s.heap y v ∧ Rep C (fun c => c = Da ∨ c = L ∨ X c) s.heap v e)
    (h : ∀ s', CS C G scope X s₁ Da L es s' → (∀ b o, s.heap.get? b = some o → ItObj o → s'.heap.get? b = some o) → (∀ b o, s.heap.get? b = some o → Dat C o → (o.cls = .type "list" ∨ o.cls = .type "dict" → ¬ (b = Da ∨ b = L ∨ X b)) → s'.heap.get? b = some o) →
      (∀ y e, ((x, d) :: bs).lookup y = some e → ∃ v, VarAt (cG G scope L).env s'.heap y v ∧ Rep C (fun c => c = Da ∨ c = L ∨ X c) s'.heap v e) → R () s') : wpAny C.M G.A (storeName (cG G scope L).env x v) R E s := by
  refine store_loc (G := cG G scope L) c.g (cG_storable N hx) fun h' tk a l => ?_
  refine h _ (CS.store N c i₁ hx l hDL) (fun b o e hi => ?_) (c.dat l) fun y e hy => ?_
  · refine (l.same.2 b fun q => ?_).trans e
    subst q
    obtain ⟨⟨cc, hcc, _, _, _, _, _, h7, _⟩, ws, hw, _⟩ := hi
    rcases l.here with ⟨hb, _⟩ | ⟨_, _, _, v₀, o', e', hd'⟩
    · have hb' : b = L := hb
      obtain ⟨o', es, ep, e', hc, _⟩ := c.loc
      rw [← hb', e] at e'; cases e'
      rw [hcc] at hc; simp at hc; exact h7 hc
    · rw [e] at e'; cases e'; rw [hw] at hd'; cases hd'
  · rw [List.lookup_cons] at hy
    cases hbq : y == x with
    | true =>
      rw [hbq] at hy; cases hy
      have := eq_of_beq hbq; subst this
      exact ⟨v, l.var, r.move (c.dat l) fun _ _ _ q => q⟩
    | false =>
      rw [hbq] at hy
      obtain ⟨u, h1, h2⟩ := hb y e hy
      exact ⟨u, l.other c.g (by simpa using hbq) h1, h2.move (c.dat l) fun _ _ _ q => q⟩
theorem TgC.name {x : PySem.Str} {px : Pos} {d : D} (N : NamesOk G scope) (hx : (x, NameKind.local) ∈ scope.names ∨ (x, NameKind.cell) ∈ scope.names) : TgC C G scope (.Name x px) d [(x, d)] := fun X s₁ Da L es s v E R i₁ hDL c r h =>
  PyProof.Rows.assign_Name (TgC.one (bs := []) N hx i₁ hDL c r (fun y e q => by simp at q) fun s' c' f _ b => h s' c' f b)
noncomputable def bsT : List PySem.Str → List D → Vars → Vars
  | x :: xs, d :: ds, bs => bsT xs ds ((x, d) :: bs)
  | _, _, bs => bs
theorem TgC.tup {xs : List (PySem.Str × Pos)} {ts : List Expr} {k : Nat} {tp : Pos} {ds : List D} (hh : G.A.handled = none) (N : NamesOk G scope) (hx : ∀ p ∈ xs, (p.1, NameKind.local) ∈ scope.names ∨ (p.1, NameKind.cell) ∈ scope.names) (hts : ts = nameTs xs) (hl : ds.length = xs.length) :
    TgC C G scope (.Tuple ts k tp) (.tup ds) (bsT (xs.map (·.1)) ds []) := fun X s₁ Da L es s v E R i₁ hDL c r h => by
  subst hts
  obtain ⟨t, vs, rfl, ht, hr⟩ := r
  refine assign_Tuple_tuple hh ht ?_ ?_ fun h' he => ?_
  · rw [assignEach_names]; simp [hr.length, hl]
  · rw [assignEach_names]; exact findIdx_names _ _
  · have st : Step C s { s with heap := h' } := Step.keeps (tk := s.toks) (dr := s.drawn) c.step.inv fun b ob e => he b ob (Nat.ne_of_lt (Heap.lt_size e)) e
    rw [assignEach_names, List.map_map]
    have : (xs.map ((·.2) ∘ fun p => (false, assign (.Name p.1 p.2) (cG G scope L).env))) = xs.map fun p => assign (.Name p.1 p.2) (cG G scope L).env := rfl
    rw [this]
    have hgen : ∀ (xs : List (PySem.Str × Pos)) {vs : List Value} {ds : List D} {bs : Vars} {s : Shared}, CS C G scope X s₁ Da L es s → (∀ p ∈ xs, (p.1, NameKind.local) ∈ scope.names ∨ (p.1, NameKind.cell) ∈ scope.names) → Reps C (fun c => c = Da ∨ c = L ∨ X c) s.heap vs ds → ds.length = xs.length →
      (∀ y e, bs.lookup y = some e → ∃ v, VarAt (cG G scope L).env s.heap y v ∧ Rep C (fun c => c = Da ∨ c = L ∨ X c) s.heap v e) →
      (∀ s', CS C G scope X s₁ Da L es s' → (∀ b o, s.heap.get? b = some o → ItObj o → s'.heap.get? b = some o) → (∀ y e, (bsT (xs.map (·.1)) ds bs).lookup y = some e → ∃ v, VarAt (cG G scope L).env s'.heap y v ∧ Rep C (fun c => c = Da ∨ c = L ∨ X c) s'.heap v e) → R () s') → wpAny C.M G.A (assignInOrder (xs.map fun p => assign (.Name p.1 p.2) (cG G scope L).env) vs) R E s := by
      intro xs
      induction xs with
      | nil =>
        intro vs ds bs s c _ hr hl hb h
        cases ds with
        | cons d ds => simp at hl
        | nil => cases vs with
          | cons v vs => exact hr.elim
          | nil => exact wpAny_pure (h s c (fun _ _ e _ => e) hb)
      | cons p xs ih =>
        intro vs ds bs s c hx hr hl hb h
        cases ds with
        | nil => simp at hl
        | cons d ds => cases vs with
          | nil => exact hr.elim
          | cons v vs =>
            refine wpAny_bind (wpAny_holding (assign_Name (TgC.one N (hx p (.head _)) i₁ hDL c hr.1 hb fun s' c' f dk b => ?_)))
            exact ih c' (fun y hy => hx y (.tail _ hy)) (hr.2.move dk fun _ _ _ q => q) (by simpa using hl) b fun s'' c'' f' b' => h s'' c'' (fun b o e hi => f' b o (f b o e hi) hi) b'
    exact hgen xs (c.keep st) hx (hr.step c.step.inv st) hl (fun y e q => by simp at q) fun s' c' f b => h s' c' (fun b o e hi => f b o (he b o (Nat.ne_of_lt (Heap.lt_size e)) e) hi) b

structure ItrG (C : Cx) (A : Around) (tgt : Expr) (Y : Addr → Prop) (S : Heap) (I : Addr) (ds : List D) (fp Wl : List Addr) (St : Nat → Heap → Prop) : Prop where
  frame : ∀ i h h', St i h → (∀ b ∈ fp, ∀ o, h.get? b = some o → h'.get? b = some o) → St i h'
  obj : ∀ i h, St i h → ∀ a ∈ Wl, ∃ o, h.get? a = some o ∧ ItObj o
  fpS : ∀ b ∈ fp, b ∉ Wl → ∃ o, S.get? b = some o ∧ o.cls ≠ .type "frame"
  next : ∀ i d (s : Shared) (K : Value → Shared → Prop) (E : Value → Shared → Prop), ds[i]? = some d → St i s.heap → (∀ v h' tk, s.toks ≤ tk → ItCh Wl s.heap h' → (Keep C S h' → Rep C Y h' v d) → St (i + 1) h' → K v { s with heap := h', toks := tk }) →
    wpAny C.M A (pyNext (.ref I)) (fun r s₁ => match r with
      | none => False
      | some v => wpAny C.M A (letOwnedTupleGo tgt (.ref I) v) (fun _ s₂ => K v s₂) E s₁) E s
  done : ∀ (s : Shared) (Q : Option Value → Shared → Prop) (E : Value → Shared → Prop), St ds.length s.heap → (∀ h' tk, s.toks ≤ tk → ItCh Wl s.heap h' → Q none { s with heap := h', toks := tk }) → wpAny C.M A (pyNext (.ref I)) Q E s
  self : ∀ i (s : Shared) (Q : Value → Shared → Prop) (E : Value → Shared → Prop), St i s.heap → Q (.ref I) s → wpAny C.M A (pyIter (.ref I)) Q E s
theorem Itr.g {A : Around} {Y : Addr → Prop} {S : Heap} {I : Addr} {ds : List D} {fp : List Addr} {Pv : Nat → Value → Prop} {St : Nat → Heap → Prop} {tgt : Expr} (T : Itr C A Y S I ds fp Pv St) : ItrG C A tgt (out Y S) S I ds fp [I] St where
  frame := T.W.frame
  obj i h st a ha := by
    obtain ⟨o, c, e, hi, _⟩ := T.obj i h st
    rw [List.mem_singleton.mp ha]; exact ⟨o, e, hi⟩
  fpS b hb hn := T.fpS b hb fun q => hn (List.mem_singleton.mpr q)
  next i d s K E hd hst hK := by
    obtain ⟨oi, c, ei, hio, hci, hcn⟩ := T.obj i s.heap hst
    refine wpAny_tk (Nat.le_refl s.toks) (T.W.item i s _ _ (List.getElem?_eq_some_iff.mp hd).1 hst fun v h' tk hp hst' hk ht => ?_)
    obtain ⟨oj, cj, ej, hjo, hcj, hcn'⟩ := T.obj (i + 1) h' hst'
    refine owned_go tgt ej hcj (by obtain ⟨ws, x, _⟩ := hjo.2; exact ⟨ws, x⟩) hcn' ?_
    exact hK v h' tk ht ⟨fun b ob hb e => hk b ob hb e, fun a ha => by rw [List.mem_singleton.mp ha]; exact ⟨oi, ei, hio⟩⟩ (T.rep i d v h' hd hp) hst'
  done s Q E hst hQ := by
    obtain ⟨oi, c, ei, hio, _⟩ := T.obj _ s.heap hst
    exact wpAny_tk (Nat.le_refl s.toks) (T.W.done s _ _ hst fun h' tk hk ht => hQ h' tk ht ⟨fun b ob hb e => hk b ob hb e, fun a ha => by rw [List.mem_singleton.mp ha]; exact ⟨oi, ei, hio⟩⟩)
  self := T.W.self
theorem comp_loop {elt it tgt : Expr} {bs : D → Vars} {ifs : List Expr} {pos : Pos} {I : Addr} {ds : List D} {fp Wl : List Addr} {St : Nat → Heap → Prop} {S₀ : Heap} (hh : G.A.handled = none) (N : NamesOk G scope)
    (hx : ∀ d ∈ ds, TgC C G scope tgt d (bs d)) (T : ItrG C G.A tgt (out X S₀) S₀ I ds fp Wl St) (hI : ∀ a ∈ Wl, s₁.heap.get? a = none) (hDL : Da ≠ L) (hID : Da ∉ Wl) (o₁ : Ok C G X ρ s₁)
    (hS : S₀ = hideAll s₁.heap C.tabA) (hlen : ds.length ≤ sizeLine)
    (J : Nat → List D → Nat → Prop) (hJm : ∀ i es k k', k ≤ k' → J i es k → J i es k') (hJl : ∀ i es k, J i es k → es.length ≤ i) (turn : ∀ i d es k, ds[i]? = some d → J i es k → IfsT k C (cG G scope L) (bs d ++ compVars scope ρ) ifs (fun b k' => (b = false → J (i + 1) es k') ∧ (b = true → EvT k' C (cG G scope L) (bs d ++ compVars scope ρ) elt (fun e k'' => J (i + 1) (es ++ [e]) k'') (fun _ => False))))
    {R : Result → Shared → Prop} (hR : ∀ es s', J ds.length es s'.toks → CS C G scope X s₁ Da L es s' → R (.ok .next) s')
    (c : CS C G scope X s₁ Da L [] s) (h0 : J 0 [] s.toks) (hst : St 0 s.heap) :
    codeAny C.M G.A (.compLoop (.ListComp elt [⟨tgt, it, ifs, 0⟩] scope pos) 0 (.ref I) (.ref Da) (cG G scope L).env) R s := by
  refine comp_tests (fun n s => ∃ i es, n + i = ds.length ∧ J i es s.toks ∧ CS C G scope X s₁ Da L es s ∧ St i s.heap) (fun n s q9 => ?_) ds.length ⟨0, [], by (exact rfl), h0, c, hst⟩
  obtain ⟨i, es, hi, hJ, c, hst⟩ := q9
  have kS : ∀ {s' : Shared}, Step C s₁ s' → Keep C S₀ s'.heap := fun {s'} st b o hb e => st.keep b o hb (by rw [hS] at e; exact of_hideAll _ e)
  -- old objects stand
  have old : ∀ {b : Addr} {s' : Shared}, b ∈ fp → b ∉ Wl → Step C s₁ s' → ∃ o, s'.heap.get? b = some o ∧ s₁.heap.get? b = some o := fun {b s'} hb hbW st => by
    obtain ⟨ob', e', hc'⟩ := T.fpS b hb hbW
    have hs1 : s₁.heap.get? b = some ob' := by rw [hS] at e'; exact of_hideAll _ e'
    have hnt : b ∉ C.tabA := fun hm => by rw [hS, hideAll_none _ hm] at e'; cases e'
    exact ⟨ob', st.keep.get hs1 hnt hc', hs1⟩
  have both : ∀ {b : Addr} {ob : Obj} {s' s'' : Shared}, b ∈ fp → b ∉ Wl → Step C s₁ s' → Step C s₁ s'' → s'.heap.get? b = some ob → s''.heap.get? b = some ob := fun {b ob s' s''} hb hbW st st' e => by
    obtain ⟨o, g1, g2⟩ := old hb hbW st
    obtain ⟨o', g1', g2'⟩ := old hb hbW st'
    rw [g2] at g2'; cases g2'
    rw [e] at g1; cases g1; exact g1'
  by_cases hlt : i < ds.length
  · have hds : ds[i]? = some ds[i] := List.getElem?_eq_getElem hlt
    refine wpAny_mono (T.next i ds[i] s _ _ hds hst fun v h' tk ht hch hrep hst' => ?_) (fun r s' q => by cases r with | none => exact q.elim | some v => exact q) fun _ _ x => x
    have hJ := hJm _ _ _ _ ht hJ
    have c₁ : CS C G scope X s₁ Da L es { s with heap := h', toks := tk } := c.itCh o₁.inv hch hI hh
    have hrv : Rep C (fun c => c = Da ∨ c = L ∨ X c) h' v ds[i] := (hrep (kS c₁.step)).mono fun a ha => by
      rcases ha with rfl | rfl | ha
      · right; rw [hS]; cases e : (hideAll s₁.heap C.tabA).get? a with
        | none => rfl
        | some ob => have := of_hideAll _ e; rw [c.fD] at this; cases this
      · right; rw [hS]; cases e : (hideAll s₁.heap C.tabA).get? a with
        | none => rfl
        | some ob => have := of_hideAll _ e; rw [c.fL] at this; cases this
      · exact .inl ha
    refine wpAny_tk (n := tk) (Nat.le_refl _) (hx ds[i] (List.getElem_mem hlt) X s₁ Da L es _ v _ _ o₁.inv hDL c₁ hrv fun s₂ c₂ hfk hbs ht₂ => ?_)
    have hJ := hJm _ _ _ _ ht₂ hJ
    have hst₂ : St (i + 1) s₂.heap := by
      refine T.frame (i + 1) h' s₂.heap hst' fun b hb ob e => ?_
      by_cases hbI : b ∈ Wl
      · obtain ⟨oj, ej, hjo⟩ := T.obj (i + 1) h' hst' b hbI
        rw [ej] at e; cases e
        exact hfk b _ ej hjo
      · exact both hb hbI c₁.step c₂.step e
    have hok : Ok C (cG G scope L) (fun c => c = Da ∨ c = L ∨ X c) (bs ds[i] ++ compVars scope ρ) s₂ := c₂.ok (ρx := bs ds[i]) N o₁ hbs
    refine wpAny_mono (turn i ds[i] es _ hds hJ _ _ (fun _ _ => False) hok (Nat.le_refl _)) (fun b s₃ q9 => ?_) fun _ _ x => x.elim
    obtain ⟨st₃, p⟩ := q9
    have c₃ := c₂.keep st₃
    have hfr : ∀ {s₄ : Shared}, Step C s₂ s₄ → St (i + 1) s₄.heap := fun {s₄} st => T.frame (i + 1) s₂.heap s₄.heap hst₂ fun b hb ob e => by
        by_cases hbI : b ∈ Wl
        · obtain ⟨ok2, ek, hko⟩ := T.obj (i + 1) s₂.heap hst₂ b hbI
          rw [ek] at e; cases e
          obtain ⟨⟨c2, h1, h2, _⟩, _⟩ := hko
          exact st.keep.get ek (c₂.step.inv.notTab ek (by rw [h1]; simp)) (by rw [h1]; simpa using h2)
        · exact both hb hbI c₂.step (c₂.step.trans st) e
    cases b with
    | false => exact ⟨n - 1, by (exact lin1 (subu (a := n) (b := 1) (lin2 hlt (Nat.le_of_eq (Eq.symm hi)) (by simp +arith only))) (by simp +arith only)), i + 1, es, by (exact Nat.le_antisymm (lin2 (subu (a := n) (b := 1) (lin2 hlt (Nat.le_of_eq (Eq.symm hi)) (by simp +arith only))) (Nat.le_of_eq hi) (by simp +arith only)) (lin2 (Nat.le_of_eq (Eq.symm hi)) (subl (n) (1)) (by simp +arith only))), p.1 rfl, c₃, hfr st₃⟩
    | true =>
      refine wpAny_mono (p.2 rfl _ s₃ (hok.step st₃) (Nat.le_refl _)) (fun w s₄ q9 => ?_) fun _ _ ⟨_, _, _, z⟩ => z.elim
      obtain ⟨st₄, e, re, q⟩ := q9
      have c₄ := c₃.keep st₄
      obtain ⟨vs, hpl, hre⟩ := c₄.acc
      refine wpAny_list_append_plain hpl (fun h5 g1 g2 => ?_) (by have := hJl i es _ hJ; have := hre.length; simp; (lia))
      have g1' : h5.PlainList Da (vs ++ [w]).toArray := by simpa using g1
      refine ⟨n - 1, by (exact lin1 (subu (a := n) (b := 1) (lin2 hlt (Nat.le_of_eq (Eq.symm hi)) (by simp +arith only))) (by simp +arith only)), i + 1, es ++ [e], by (exact Nat.le_antisymm (lin2 (subu (a := n) (b := 1) (lin2 hlt (Nat.le_of_eq (Eq.symm hi)) (by simp +arith only))) (Nat.le_of_eq hi) (by simp +arith only)) (lin2 (Nat.le_of_eq (Eq.symm hi)) (subl (n) (1)) (by simp +arith only))), q, c₄.append hpl hre re g1' g2 o₁.inv, ?_⟩
      have hst₄ := hfr (st₃.trans st₄)
      refine T.frame (i + 1) s₄.heap h5 hst₄ fun b hb ob e5 => (g2.2 b fun q => ?_).trans e5
      subst q
      obtain ⟨o, _, g2'⟩ := old hb hID c₄.step
      rw [c.fD] at g2'; cases g2'
  · have hil : i = ds.length := by (exact Nat.le_antisymm (lin1 (Nat.le_of_eq hi) (by simp +arith only)) (lin1 (Nat.le_of_not_lt hlt) (by simp +arith only)))
    subst hil
    refine T.done s _ _ hst fun h' tk ht hch => ?_
    exact hR es _ (hJm _ _ _ _ ht hJ) (c.itCh o₁.inv hch hI hh)

end
end Mine

end
section
open PySem PySem.W PySem.Calls PyProof.Rows PySem.Builtin PySem.Builtin.Str
set_option Elab.async false
set_option maxRecDepth 100000

namespace Mine
section
variable {C : Cx} {G : Fc} {B : Heap} {X : Addr → Prop} {O : List PySem.Str} {ρ ρ' : Vars} {own own' : List (PySem.Str × Addr)} {s s' s₀ : Shared}
variable {scope : Scope} {Da L : Addr} {es : List D} {s₁ : Shared}
variable {S : List D → Prop} {Z : Exn → Prop}

theorem OkS.bar (o : OkS C G B X O ρ own s₀) (st : Step C s₀ s) (hL : s₀.heap.get? L = none) (hM : MutL s.heap L) : OkS C G B (fun c => c = L ∨ X c) O ρ own s := by
  have o' := o.step st
  have hm : ∀ c, inl own (fun c => c = L ∨ X c) c → c = L ∨ inl own X c := fun c hc => by
    rcases hc with (h | h) | h
    · exact .inl h
    · exact .inr (.inl h)
    · exact .inr (.inr h)
  refine { o' with nX := fun p hp hx => ?_, xH := fun a ha => ?_, vars := fun y d e => ?_ }
  · rcases hx with hx | hx
    · obtain ⟨vs, n, e⟩ := o.oH p hp; rw [hx, hL] at e; cases e
    · exact o.nX p hp hx
  · rcases ha with rfl | ha
    · exact hM.b
    · exact o'.xH a ha
  · have := o.vars y d e
    exact ⟨fun hy => (by obtain ⟨a, ds, vs, h1, h2, h3, h4, h5⟩ := this.1 hy; exact ⟨a, ds, vs, h1, h2, h3.keep o.inv st.keep, PL.keep o.inv st.keep h4, ((h5.avoid hL).step o.inv st).mono hm⟩),
      fun hy => (by obtain ⟨w, h1, h2⟩ := this.2 hy; exact ⟨w, h1.keep o.inv st.keep, ((h2.avoid hL).step o.inv st).mono hm⟩)⟩

theorem OkS.dead {Y : Addr → Prop} {h' : Heap} {tk : Nat} {ob : Obj} {es : Array DictEntry} {ep : Nat} (hF : Fun G) (o : OkS C G B Y O ρ own s) (hY : Y L) (hB : B.get? L = none) (hs : Heap.SameBut L s.heap h') (e : s.heap.get? L = some ob) (hc : ob.cls = .type "dict") (hd : ob.data = .dict es ep)
    (hX : ∀ a, X a → Y a ∧ a ≠ L) : OkS C G B X O ρ own { s with heap := h', toks := tk } := by
  have hbase : C.base.get? L = none := by
    cases e : C.base.get? L with
    | none => rfl
    | some ob => obtain ⟨ob', e'⟩ := o.bb L ob e; rw [hB] at e'; cases e'
  have hned : ∀ (b : Addr) (o' : Obj), s.heap.get? b = some o' → o'.cls ≠ .type "dict" ∨ (∀ es ep, o'.data ≠ .dict es ep) → b ≠ L := fun b o' e' hn q => by
    rw [q, e] at e'; cases e'
    rcases hn with hn | hn
    · exact hn hc
    · exact hn _ _ hd
  have hmono : ∀ c, inl own X c → inl own Y c := fun c hc' => by
    rcases hc' with h | h
    · exact .inl (hX c h).1
    · exact .inr h
  have k : ∀ b o', s.heap.get? b = some o' → Dat C o' → (o'.cls = .type "list" ∨ o'.cls = .type "dict" → ¬ inl own Y b) → h'.get? b = some o' := fun b o' e' hd' hn => by
    refine (hs.2 b fun q => ?_).trans e'
    subst q
    rw [e] at e'; cases e'
    exact hn (.inr hc) (.inl hY)
  have hvar : ∀ {y : PySem.Str} {u : Value}, VarAt G.env s.heap y u → VarAt G.env h' y u := fun {y u} hv => by
    rcases hv with ⟨hk, m, hn, hm⟩ | ⟨hk, c, hc', hv⟩
    · refine .inl ⟨hk, m, hn.sameBut hs ?_, hm⟩
      rintro q
      have := o.g.framed hF.fr ob (q ▸ e)
      rw [hc] at this; simp at this
    · refine .inr ⟨hk, c, hc', hv.sameBut hs ?_⟩
      obtain ⟨o', e', hd'⟩ := hv
      exact hned _ _ e' (.inr (by rw [hd']; simp))
  have hpl : ∀ {a : Addr} {vs : Array Value}, s.heap.PlainList a vs → h'.PlainList a vs := fun {a vs} ⟨n, e'⟩ => ⟨n, (hs.2 a (hned _ _ e' (.inl (by simp)))).trans e'⟩
  refine { inv := o.inv.change hs hbase e (by rw [hd]; simp), g := ?_, kb := fun b ob' ht e' => ?_, bt := o.bt, bb := o.bb, bL := o.bL, bC := o.bC, bO := o.bO, nX := fun p hp hx => o.nX p hp (hX _ hx).1, xH := fun a ha => ?_, oN := o.oN, oH := fun p hp => ?_, oI := o.oI, vars := fun y d e' => ?_ }
  · have g := o.g
    refine { depth := g.depth, units := g.units, frames := ?_, kind := g.kind, glob := g.glob, blt := g.blt, loc := ?_, locB := g.locB, cells := fun y c e => ?_, inj := g.inj, hnd := fun u hu => ?_ }
    · obtain ⟨fe, p, q, r⟩ := g.frames
      refine ⟨fe, p, q, fun e' he => (r e' he).change hs fun o' ho hcl _ => ?_⟩
      rw [e] at ho; cases ho; rw [hc] at hcl; simp at hcl
    · obtain ⟨m, hn⟩ := g.loc
      refine ⟨m, hn.sameBut hs ?_⟩
      rintro q
      have := g.framed hF.fr ob (q ▸ e)
      rw [hc] at this; simp at this
    · obtain ⟨⟨v, hv⟩, hb⟩ := g.cells y c e
      refine ⟨⟨v, hv.sameBut hs ?_⟩, hb⟩
      obtain ⟨o', e', hd'⟩ := hv
      exact hned _ _ e' (.inr (by rw [hd']; simp))
    · obtain ⟨e', ob', us, h1, h2, h3, h4, h5⟩ := g.hnd u hu
      exact ⟨e', ob', us, h1, (hs.2 e' (hned _ _ h2 (.inr (by rw [h4]; simp)))).trans h2, h3, h4, h5⟩
  · have hne : b ≠ L := fun q => by rw [q, hB] at e'; cases e'
    obtain ⟨k1, sl, k2⟩ := o.kb b ob' ht e'
    exact ⟨fun hc => (hs.2 b hne).trans (k1 hc), sl, (hs.2 b hne).trans k2⟩
  · obtain ⟨o', e', r⟩ := o.xH a (hX a ha).1
    exact ⟨o', (hs.2 a (hX a ha).2).trans e', r⟩
  · obtain ⟨vs, hv⟩ := o.oH p hp
    exact ⟨vs, hpl hv⟩
  · have := o.vars y d e'
    exact ⟨fun hy => (by obtain ⟨a, ds, vs, h1, h2, h3, h4, h5⟩ := this.1 hy; exact ⟨a, ds, vs, h1, h2, hvar h3, hpl h4, (h5.move k fun _ _ _ q => q).mono hmono⟩),
      fun hy => (by obtain ⟨w, h1, h2⟩ := this.2 hy; exact ⟨w, hvar h1, (h2.move k fun _ _ _ q => q).mono hmono⟩)⟩

theorem comp_coreG {elt it tgt : Expr} {bs : D → Vars} {ifs : List Expr} {pos pos' : Pos} {use : Option (Value → Sem Unit)} {E : Value → Shared → Prop} {Q : Value → Shared → Prop} (hh : G.A.handled = none) (N : NamesOk G scope)
    (hs : ∀ v, foldedSetIterable it G.env v = pure v)
    (h : wpAny C.M G.A (eval it G.env) (fun v sv => ∃ s₁ ds X ρ, Ok C G X ρ s₁ ∧ wpAny C.M G.A (pyIter v) (fun itv s₂ => Step C s₁ s₂ ∧ ∃ I fp Wl St, itv = .ref I ∧ (∀ a ∈ Wl, s₁.heap.get? a = none ∧ ∃ o, s₂.heap.get? a = some o) ∧ ItrG C G.A tgt (out X (hideAll s₁.heap C.tabA)) (hideAll s₁.heap C.tabA) I ds fp Wl St ∧ St 0 s₂.heap) (fun _ _ => False) sv ∧ ds.length ≤ sizeLine ∧ (∀ d ∈ ds, TgC C G scope tgt d (bs d)) ∧ ∃ J : Nat → List D → Nat → Prop, (∀ k, J 0 [] k) ∧ ((∀ i es k k', k ≤ k' → J i es k → J i es k') ∧ ∀ i es k, J i es k → es.length ≤ i) ∧
      (∀ L i d es k, ds[i]? = some d → J i es k → IfsT k C (cG G scope L) (bs d ++ compVars scope ρ) ifs (fun b k' => (b = false → J (i + 1) es k') ∧ (b = true → EvT k' C (cG G scope L) (bs d ++ compVars scope ρ) elt (fun e k'' => J (i + 1) (es ++ [e]) k'') (fun _ => False)))) ∧
      ∀ Da L es s', J ds.length es s'.toks → CS C G scope X s₁ Da L es s' → Da ≠ L → compPost C.M G.A E use Q (.ref Da) L (.ok .next) s') E s) :
    wpAny C.M G.A (comprehension (.ListComp elt [⟨tgt, it, ifs, 0⟩] scope pos) scope G.env pos' (newList []) false (eval it G.env) use) Q E s := by
  have hnames : ∀ y ∈ scope.names, y.2 = .local → scope.names.lookup y.1 = some .local := fun y hy hk => by
    obtain ⟨y1, y2⟩ := y
    simp only at hk; subst hk
    obtain ⟨k, e, hm⟩ := lookup_some_of_mem hy
    rw [e, kind_unique N.nodup hm hy]
  refine wpAny_comprehension_free rfl hs (closure_eq fun y hy => (N.free y hy).1) N.kind hnames (wpAny_mono h (fun v sv q9 => ?_) fun _ _ e => e)
  obtain ⟨s₁, ds, X, ρ, o₁, hiter, hlen, hx, J, h0, hJl, turn, post⟩ := q9
  refine wpAny_mono hiter (fun itv s₂ q9 => ?_) fun _ _ x => x.elim
  obtain ⟨st₂, I, fp, Wl, St, e, hfr, T, hst⟩ := q9
  subst e
  refine wpAny_newObj_type ?_
  refine newEnv_comp ?_
  -- names for the heaps
  generalize hH3 : s₂.heap.push { cls := .type "list", dict := none, data := .seq ([] : List Value).toArray } = H3
  have hz : H3.objs.size = s₂.heap.objs.size + 1 := by rw [← hH3, Heap.size_push]
  have old3 : ∀ b o, s₂.heap.get? b = some o → H3.get? b = some o := fun b o e => hH3 ▸ Heap.get?_push_of_some _ e
  generalize hH4 : H3.push { cls := .type "dict", data := .dict #[] } = H4
  have hz4 : H4.objs.size = H3.objs.size + 1 := by rw [← hH4, Heap.size_push]
  have old4 : ∀ b o, H3.get? b = some o → H4.get? b = some o := fun b o e => hH4 ▸ Heap.get?_push_of_some _ e
  have old5 : ∀ b o, H4.get? b = some o → (pushCells H4 scope.names).get? b = some o := pushCells_keeps _ _
  have old : ∀ b o, s₂.heap.get? b = some o → (pushCells H4 scope.names).get? b = some o := fun b o e => old5 b o (old4 b o (old3 b o e))
  have hsz1 : s₁.heap.get? s₂.heap.objs.size = none := st₂.fresh o₁.inv (get_size _)
  have hL2 : s₂.heap.get? H3.objs.size = none := by
    cases e : s₂.heap.get? H3.objs.size with
    | none => rfl
    | some o => have := Heap.lt_size e; rw [hz] at this; exact absurd this (Nat.not_lt.mpr (Nat.le_succ _))
  have hL1 : s₁.heap.get? H3.objs.size = none := st₂.fresh o₁.inv hL2
  have hDa : H3.get? s₂.heap.objs.size = some { cls := .type "list", dict := none, data := .seq ([] : List Value).toArray } := by rw [← hH3]; exact Heap.get?_push_size _ rfl
  have hLo : H4.get? H3.objs.size = some { cls := .type "dict", data := .dict #[] } := by rw [← hH4]; exact Heap.get?_push_size _ rfl
  have hcn := cellsNew scope H4
  rw [hz4] at hcn
  have hci := cellsInj scope H4
  rw [hz4] at hci
  have hcf : ∀ y c, (y, c) ∈ cellsFrom (H3.objs.size + 1) scope.names [] → s₁.heap.get? c = none := fun y c hm => by
    refine st₂.fresh o₁.inv ?_
    cases e : s₂.heap.get? c with
    | none => rfl
    | some o => have := (hcn y c hm).2; rw [old4 c o (old3 c o e)] at this; cases this
  have st5 : Step C s₁ { s₂ with heap := pushCells H4 scope.names } := st₂.trans (Step.keeps (tk := s₂.toks) (dr := s₂.drawn) st₂.inv old)
  have g5 : GOk C (cG G scope H3.objs.size) (pushCells H4 scope.names) := by
    have g := o₁.g.keep o₁.inv st5.keep
    refine { depth := g.depth, units := g.units, frames := g.frames, kind := N.kind, glob := g.glob, blt := g.blt, loc := ⟨fun _ => none, ?_⟩, locB := o₁.inv.baseNone hL1, cells := fun y c e => ?_, inj := fun y z c e1 e2 => ?_, hnd := g.hnd }
    · exact ⟨_, #[], 0, old5 _ _ hLo, rfl, by intro e he; simp at he, fun n => rfl⟩
    · rcases ccells_cases N e with h | ⟨h1, h2⟩
      · exact ⟨⟨none, (hcn y c h).1⟩, o₁.inv.baseNone (hcf y c h)⟩
      · exact g.cells y c h2
    · rcases ccells_cases N e1 with h | ⟨h1, h2⟩ <;> rcases ccells_cases N e2 with h' | ⟨h1', h2'⟩
      · exact hci y z c h h'
      · obtain ⟨⟨v, hv⟩, _⟩ := o₁.g.cells z c h2'
        obtain ⟨o, e, _⟩ := hv
        rw [hcf y c h] at e; cases e
      · obtain ⟨⟨v, hv⟩, _⟩ := o₁.g.cells y c h2
        obtain ⟨o, e, _⟩ := hv
        rw [hcf z c h'] at e; cases e
      · exact g.inj y z c h2 h2'
  have c5 : CS C G scope X s₁ s₂.heap.objs.size H3.objs.size [] { s₂ with heap := pushCells H4 scope.names } := {
    step := st5
    g := g5
    acc := ⟨[], ⟨_, old5 _ _ (old4 _ _ hDa)⟩, trivial⟩
    loc := ⟨_, #[], 0, old5 _ _ hLo, rfl, rfl⟩
    fL := hL1
    fD := hsz1
    fC := hcf }
  have hst5 : St 0 (pushCells H4 scope.names) := T.frame _ _ _ hst fun b _ o e => old b o e
  have hDL : s₂.heap.objs.size ≠ H3.objs.size := by rw [hz]; exact Nat.ne_of_lt (Nat.lt_succ_self _)
  have hDW : s₂.heap.objs.size ∉ Wl := fun hm => by
    obtain ⟨_, o, e⟩ := hfr _ hm
    exact absurd (Heap.lt_size e) (Nat.lt_irrefl _)
  have loop : codeAny C.M G.A (.compLoop (.ListComp elt [⟨tgt, it, ifs, 0⟩] scope pos) 0 (.ref I) (.ref s₂.heap.objs.size) (cG G scope H3.objs.size).env) (compPost C.M G.A E use Q (.ref s₂.heap.objs.size) H3.objs.size) { s₂ with heap := pushCells H4 scope.names } := by
    refine comp_loop hh N hx T (fun a ha => (hfr a ha).1) hDL hDW o₁ rfl hlen J hJl.1 hJl.2 (turn _) (fun es s' hJ c => post _ _ es s' hJ c hDL) c5 (h0 _) hst5
  exact codeAny_compStart_list loop (T.self 0 _ _ _ hst5 loop)


theorem comp_coreT {elt it tgt : Expr} {bs : D → Vars} {ifs : List Expr} {pos pos' : Pos} {use : Option (Value → Sem Unit)} {E : Value → Shared → Prop} {Q : Value → Shared → Prop} (hh : G.A.handled = none) (N : NamesOk G scope)
    (hs : ∀ v, foldedSetIterable it G.env v = pure v)
    (h : wpAny C.M G.A (eval it G.env) (fun v s₁ => ∃ d ds X ρ, Ok C G X ρ s₁ ∧ Rep C X s₁.heap v d ∧ iterOf d = some ds ∧ ds.length ≤ sizeLine ∧ (∀ d ∈ ds, TgC C G scope tgt d (bs d)) ∧ ∃ J : Nat → List D → Nat → Prop, (∀ k, J 0 [] k) ∧ ((∀ i es k k', k ≤ k' → J i es k → J i es k') ∧ ∀ i es k, J i es k → es.length ≤ i) ∧
      (∀ L i d es k, ds[i]? = some d → J i es k → IfsT k C (cG G scope L) (bs d ++ compVars scope ρ) ifs (fun b k' => (b = false → J (i + 1) es k') ∧ (b = true → EvT k' C (cG G scope L) (bs d ++ compVars scope ρ) elt (fun e k'' => J (i + 1) (es ++ [e]) k'') (fun _ => False)))) ∧
      ∀ Da L es s', J ds.length es s'.toks → CS C G scope X s₁ Da L es s' → Da ≠ L → compPost C.M G.A E use Q (.ref Da) L (.ok .next) s') E s) :
    wpAny C.M G.A (comprehension (.ListComp elt [⟨tgt, it, ifs, 0⟩] scope pos) scope G.env pos' (newList []) false (eval it G.env) use) Q E s :=
  comp_coreG (bs := bs) hh N hs (wpAny_mono h (fun v s₁ q9 => by
    obtain ⟨d, ds, X, ρ, o₁, r, hd, rest⟩ := q9
    have hSs : (∀ b ob, s₁.heap.get? b = some ob → Dat C ob → (ob.cls = .type "list" ∨ ob.cls = .type "dict" → ¬ X b) → (hideAll s₁.heap C.tabA).get? b = some ob) ∧ (∀ b ob, (hideAll s₁.heap C.tabA).get? b = some ob → ¬ X b → ¬ out X (hideAll s₁.heap C.tabA) b) :=
      ⟨fun b ob e hd _ => hideAll_get _ e (o₁.inv.notTab e hd.1.1), fun b ob e hn q => by
        rcases q with q | q
        · exact hn q
        · rw [e] at q; cases q⟩
    refine ⟨s₁, ds, X, ρ, o₁, wpAny_mono (pyIter_specG (X := X) (E := fun _ _ => False) hh hd o₁.inv r hSs fun a ha => hideAll_none _ ha) (fun itv s₂ q9 => ?_) (fun _ _ x => x.elim), rest⟩
    obtain ⟨st₂, I, fp, Pv, St, e, hfr, T, hst⟩ := q9
    obtain ⟨oi, ci, ei, _⟩ := T.obj 0 s₂.heap hst
    exact ⟨st₂, I, fp, [I], St, e, fun a ha => by rw [List.mem_singleton.mp ha]; exact ⟨hfr, oi, ei⟩, T.g, hst⟩) fun _ _ e => e)
theorem turnT {n : Nat} {G : Fc} {ρ : Vars} {ifs : List Expr} {elt : Expr} {P : Prop} {Q : D → Prop} (h : IfsW C G ρ ifs (fun b => (b = false → P) ∧ (b = true → EvW C G ρ elt Q (fun _ => False)))) :
    IfsT n C G ρ ifs (fun b k' => (b = false → P) ∧ (b = true → EvT k' C G ρ elt (fun e _ => Q e) (fun _ => False))) := fun X s E o _ =>
  wpAny_mono (h X s E o) (fun b s' q => ⟨q.1, q.2.1, fun hb => (q.2.2 hb).t⟩) fun _ _ x => x
theorem comp_core {elt it : Expr} {x : PySem.Str} {px : Pos} {ifs : List Expr} {pos pos' : Pos} {use : Option (Value → Sem Unit)} {E : Value → Shared → Prop} {Q : Value → Shared → Prop} (hh : G.A.handled = none) (N : NamesOk G scope)
    (hx : (x, NameKind.local) ∈ scope.names ∨ (x, NameKind.cell) ∈ scope.names) (hs : ∀ v, foldedSetIterable it G.env v = pure v)
    (h : wpAny C.M G.A (eval it G.env) (fun v s₁ => ∃ d ds X ρ, Ok C G X ρ s₁ ∧ Rep C X s₁.heap v d ∧ iterOf d = some ds ∧ ds.length ≤ sizeLine ∧ ∃ J : Nat → List D → Prop, J 0 [] ∧ (∀ i es, J i es → es.length ≤ i) ∧
      (∀ L i d es, ds[i]? = some d → J i es → IfsW C (cG G scope L) ((x, d) :: compVars scope ρ) ifs (fun b => (b = false → J (i + 1) es) ∧ (b = true → EvW C (cG G scope L) ((x, d) :: compVars scope ρ) elt (fun e => J (i + 1) (es ++ [e])) (fun _ => False)))) ∧
      ∀ Da L es s', J ds.length es → CS C G scope X s₁ Da L es s' → Da ≠ L → compPost C.M G.A E use Q (.ref Da) L (.ok .next) s') E s) :
    wpAny C.M G.A (comprehension (.ListComp elt [⟨.Name x px, it, ifs, 0⟩] scope pos) scope G.env pos' (newList []) false (eval it G.env) use) Q E s :=
  comp_coreT (bs := fun d => [(x, d)]) hh N hs (wpAny_mono h (fun v s₁ q9 => by
    obtain ⟨d, ds, X, ρ, o₁, r, hd, hlen, J, h0, hJl, turn, post⟩ := q9
    exact ⟨d, ds, X, ρ, o₁, r, hd, hlen, fun _ _ => .name N hx, fun i es _ => J i es, fun _ => h0, ⟨fun _ _ _ _ _ q => q, fun i es _ => hJl i es⟩, fun L i d es _ a b => turnT (turn L i d es a b), post⟩) fun _ _ x => x)

theorem compTT {S : List D → Nat → Prop} {elt it tgt : Expr} (bs : D → Vars) {ifs : List Expr} {pos : Pos} (hh : G.A.handled = none) (N : NamesOk G scope)
    (hs : ∀ v, foldedSetIterable it G.env v = pure v)
    (h : EvW C G ρ it (fun d => ∃ ds, iterOf d = some ds ∧ ds.length ≤ sizeLine ∧ (∀ d ∈ ds, TgC C G scope tgt d (bs d)) ∧ ∃ J : Nat → List D → Nat → Prop, (∀ k, J 0 [] k) ∧ ((∀ i es k k', k ≤ k' → J i es k → J i es k') ∧ ∀ i es k, J i es k → es.length ≤ i) ∧ (∀ es k, J ds.length es k → S es k) ∧
      ∀ L i d es k, ds[i]? = some d → J i es k → IfsT k C (cG G scope L) (bs d ++ compVars scope ρ) ifs (fun b k' => (b = false → J (i + 1) es k') ∧ (b = true → EvT k' C (cG G scope L) (bs d ++ compVars scope ρ) elt (fun e k'' => J (i + 1) (es ++ [e]) k'') (fun _ => False)))) Z) {X : Addr → Prop} {s : Shared} (o : Ok C G X ρ s) :
    wpAny C.M G.A (eval (.ListComp elt [⟨tgt, it, ifs, 0⟩] scope pos) G.env) (fun v s' => FvP C X s (fun es => S es s'.toks) v s') (XP C s Z) s := by
  rw [eval_ListComp]
  refine comp_coreT (bs := bs) (C := C) hh N hs (wpAny_mono (h X s o) (fun v s₁ q9 => ?_) fun _ _ x => x)
  obtain ⟨st, d, r, ds, hd, hlen, hx, J, h0, hJl, fin, turn⟩ := q9
  refine ⟨d, ds, X, ρ, o.step st, r, hd, hlen, hx, J, h0, hJl, turn, fun Da L es s' hJ c hDL => ?_⟩
  obtain ⟨m, hm⟩ := c.g.loc
  refine ⟨m, hm, fun h' hs' => ?_⟩
  obtain ⟨ob, des, dep, eL, hcL, hdL⟩ := c.loc
  obtain ⟨vs, ⟨n, eD⟩, hr⟩ := c.acc
  refine ⟨st.trans ⟨c.step.inv.change (tk := s'.toks) hs' (st.inv.baseNone c.fL) eL (by rw [hdL]; simp), fun b o' hb e => ?_⟩, Da, vs, es, rfl, st.fresh o.inv c.fD, ⟨n, (hs'.2 Da hDL).trans eD⟩, ?_, fin es _ hJ⟩
  · have hne : b ≠ L := fun q => by rw [q, c.fL] at e; cases e
    obtain ⟨k1, sl, k2⟩ := c.step.keep b o' hb e
    exact ⟨fun hc => (hs'.2 b hne).trans (k1 hc), sl, (hs'.2 b hne).trans k2⟩
  · refine (hr.move (Y := fun c => c = Da ∨ c = L ∨ X c) (fun b o' e hd hn => ?_) fun _ _ _ q => q).mono fun a ha => ?_
    · refine (hs'.2 b fun q => ?_).trans e
      subst q
      rw [eL] at e; cases e
      exact hn (.inr hcL) (.inr (.inl rfl))
    · rcases ha with h | h
      · exact .inl h
      · exact .inr (.inr h)

theorem FvW.compT {elt it tgt : Expr} (bs : D → Vars) {ifs : List Expr} {pos : Pos} (hh : G.A.handled = none) (N : NamesOk G scope)
    (hs : ∀ v, foldedSetIterable it G.env v = pure v)
    (h : EvW C G ρ it (fun d => ∃ ds, iterOf d = some ds ∧ ds.length ≤ sizeLine ∧ (∀ d ∈ ds, TgC C G scope tgt d (bs d)) ∧ ∃ J : Nat → List D → Prop, J 0 [] ∧ (∀ i es, J i es → es.length ≤ i) ∧ (∀ es, J ds.length es → S es) ∧
      ∀ L i d es, ds[i]? = some d → J i es → IfsW C (cG G scope L) (bs d ++ compVars scope ρ) ifs (fun b => (b = false → J (i + 1) es) ∧ (b = true → EvW C (cG G scope L) (bs d ++ compVars scope ρ) elt (fun e => J (i + 1) (es ++ [e])) (fun _ => False)))) Z) :
    FvW C G ρ (.ListComp elt [⟨tgt, it, ifs, 0⟩] scope pos) S Z := fun X s o =>
  compTT (S := fun es _ => S es) bs hh N hs (h.mono (fun d q => by
    obtain ⟨ds, hd, hlen, hx, J, h0, hJl, fin, turn⟩ := q
    exact ⟨ds, hd, hlen, hx, fun i es _ => J i es, fun _ => h0, ⟨fun _ _ _ _ _ q => q, fun i es _ => hJl i es⟩, fun es _ => fin es, fun L i d es _ a b => turnT (turn L i d es a b)⟩) fun _ x => x) o

theorem FvW.comp {elt it : Expr} {x : PySem.Str} {px : Pos} {ifs : List Expr} {pos : Pos} (hh : G.A.handled = none) (N : NamesOk G scope)
    (hx : (x, NameKind.local) ∈ scope.names ∨ (x, NameKind.cell) ∈ scope.names) (hs : ∀ v, foldedSetIterable it G.env v = pure v)
    (h : EvW C G ρ it (fun d => ∃ ds, iterOf d = some ds ∧ ds.length ≤ sizeLine ∧ ∃ J : Nat → List D → Prop, J 0 [] ∧ (∀ i es, J i es → es.length ≤ i) ∧ (∀ es, J ds.length es → S es) ∧
      ∀ L i d es, ds[i]? = some d → J i es → IfsW C (cG G scope L) ((x, d) :: compVars scope ρ) ifs (fun b => (b = false → J (i + 1) es) ∧ (b = true → EvW C (cG G scope L) ((x, d) :: compVars scope ρ) elt (fun e => J (i + 1) (es ++ [e])) (fun _ => False)))) Z) :
    FvW C G ρ (.ListComp elt [⟨.Name x px, it, ifs, 0⟩] scope pos) S Z :=
  FvW.compT (fun d => [(x, d)]) hh N hs (h.mono (fun d q9 => by
    obtain ⟨ds, hd, hlen, rest⟩ := q9
    exact ⟨ds, hd, hlen, fun _ _ => .name N hx, rest⟩) fun _ x => x)

theorem FvW.compF {elt it : Expr} {x : PySem.Str} {px : Pos} {ifs : List Expr} {pos : Pos} (hh : G.A.handled = none) (N : NamesOk G scope)
    (hx : (x, NameKind.local) ∈ scope.names ∨ (x, NameKind.cell) ∈ scope.names) (hs : ∀ v, foldedSetIterable it G.env v = pure v)
    (h : EvW C G ρ it (fun d => ∃ ds, iterOf d = some ds ∧ ds.length ≤ sizeLine ∧ ∃ f : D → Option D, S (ds.filterMap f) ∧
      ∀ L d, d ∈ ds → IfsW C (cG G scope L) ((x, d) :: compVars scope ρ) ifs (fun b => (b = false → f d = none) ∧ (b = true → EvW C (cG G scope L) ((x, d) :: compVars scope ρ) elt (fun e => f d = some e) (fun _ => False)))) Z) :
    FvW C G ρ (.ListComp elt [⟨.Name x px, it, ifs, 0⟩] scope pos) S Z := by
  refine FvW.comp hh N hx hs (h.mono (fun d q9 => ?_) fun _ x => x)
  obtain ⟨ds, hd, hlen, f, fin, turn⟩ := q9
  refine ⟨ds, hd, hlen, fun i es => i ≤ ds.length ∧ es = (ds.take i).filterMap f, ⟨Nat.zero_le _, by simp⟩, ?_, ?_, ?_⟩
  · rintro i es ⟨hi, rfl⟩
    exact Nat.le_trans (List.length_filterMap_le ..) (by simp; (exact lin1 (Nat.min_le_left (i) (ds.length)) (by simp +arith only)))
  · rintro es ⟨_, rfl⟩; simpa using fin
  · rintro L i d es hd ⟨hi, rfl⟩ X s E o
    have hlt := (List.getElem?_eq_some_iff.mp hd).1
    have htk : ds.take (i + 1) = ds.take i ++ [d] := by
      rw [List.take_add_one, hd]; rfl
    refine wpAny_mono (turn L d (List.mem_of_getElem? hd) X s E o) (fun b s' ⟨st, p⟩ => ⟨st, fun hb => ⟨hlt, ?_⟩, fun hb => ?_⟩) fun _ _ x => x
    · rw [htk, List.filterMap_append]; simp [p.1 hb]
    · exact (p.2 hb).mono (fun e he => ⟨hlt, by rw [htk, List.filterMap_append]; simp [he]⟩) fun _ x => x

noncomputable def swp (scope : Scope) (y : PySem.Str) (py pos : Pos) (env : Env) : Bool := env.blockKind == .function && env.kindOf y == some .local && py.line == pos.line && !(scope.names.any fun (n, k) => n == y && (k == .local || k == .cell))
theorem swaps_comp {elt : Expr} {gens : List Comprehension} {pos : Pos} {y : PySem.Str} {py : Pos} {line : Nat} {env : Env} : swapsWith (.ListComp elt gens scope pos) (some (.Name y py)) line env = pure (swp scope y py pos env) := by
  rfl

variable {P : Fl → Vars → Prop} {Zs : Exn → Vars → Prop}
end
end Mine

end
section
open PySem PySem.W PySem.Calls PyProof.Rows PySem.Builtin PySem.Builtin.Str
set_option Elab.async false
set_option maxRecDepth 100000

namespace Mine
section
variable {C : Cx} {G : Fc} {B : Heap} {X : Addr → Prop} {O : List PySem.Str} {ρ ρ' : Vars} {own own' : List (PySem.Str × Addr)} {s s' s₀ : Shared}
variable {Q : D → Prop} {Z : Exn → Prop}

noncomputable def fEnv (fd : FuncData) (L f : Addr) : Env := { scope := fd.scope, locals := L, globals := fd.globals, cells := cellsFrom (L + 1) fd.scope.names [], qual := fd.qualname ++ ".<locals>.", func := some f, code := fd.code, frame := some L, builtins := fd.builtins }
theorem newEnv_fn {M : Model} {A : Around} {E : Value → Shared → Prop} {fd : FuncData} {f : Addr} {binds : List (PySem.Str × Value)} {R : Env → Shared → Prop}
    (h : wpAny M A (forIn binds PUnit.unit fun (p : PySem.Str × Value) (_ : PUnit) => (do storeName (fEnv fd s.heap.objs.size f) p.1 p.2; pure (ForInStep.yield PUnit.unit))) (fun _ s' => R (fEnv fd s.heap.objs.size f) s') E
      { s with heap := pushCells (s.heap.push { cls := .type "frame", data := .dict #[] }) fd.scope.names }) :
    wpAny M A (newFunctionEnv fd.scope fd.globals [] binds (fd.qualname ++ ".<locals>.") (some f) fd.code none fd.builtins) R E s := by
  simp only [newFunctionEnv, Option.isSome_none, Bool.false_eq_true, if_false]
  refine wpAny_bind (wpAny_alloc ?_)
  refine wpAny_bind (wpAny_layCells _ (fun name kind cells => by cases hkc : kind == NameKind.cell <;> simp) _ _ _ _ ?_)
  rw [show ({ s with heap := s.heap.push { cls := .type "frame", data := .dict #[] } } : Shared).heap.objs.size = s.heap.objs.size + 1 from Heap.size_push ..]
  exact wpAny_bind (wpAny_mono h (fun _ s' hr => wpAny_pure hr) fun _ _ x => x)

theorem bindAll (hF : Fun G) {M : Model} {A : Around} {E : Value → Shared → Prop} : ∀ (xs : List PySem.Str) {vs : List Value} {ds : List D} {ρ : Vars} {s : Shared} {R : PUnit → Shared → Prop}, OkS C G B X O ρ own s → (∀ x ∈ xs, Storable G x) → ItemsOk C s.heap X O own xs vs ds →
      (∀ s', OkS C G B X O (puts xs ds ρ) own s' → R PUnit.unit s') → wpAny M A (forIn (xs.zip vs) PUnit.unit fun (p : PySem.Str × Value) (_ : PUnit) => (do storeName G.env p.1 p.2; pure (ForInStep.yield PUnit.unit))) R E s
  | [], _, _, ρ, s, R, o, _, q, h => by obtain ⟨e1, e2⟩ := q; subst e1; subst e2; rw [List.zip_nil_left, List.forIn_nil]; exact wpAny_pure (h s o)
  | x :: xs, _, _, ρ, s, R, o, hk, q, h => by
    obtain ⟨v, vs, d, ds, e1, e2, k1, k2⟩ := q
    subst e1; subst e2
    rw [List.zip_cons_cons, List.forIn_cons]
    refine wpAny_bind (wpAny_bind (store_loc o.g (hk x (.head _)) fun h' tk a l => wpAny_pure ?_))
    exact bindAll hF xs (o.storeItem hF.fr l k1) (fun y hy => hk y (.tail _ hy)) (k2.loc o hF.fr l) h

noncomputable def LeaveOk (C : Cx) (G : Fc) (O : List PySem.Str) (Zs : Exn → Vars → Prop) : Prop :=
  ∀ B X ev s, SX C G B X O false Zs ev s → wpAny C.M G.A (leaving G.env ev) (fun _ s' => SX C G B X O true Zs ev s') (fun _ _ => False) s
theorem LeaveOk.none {Zs : Exn → Vars → Prop} (h : ∀ x ρ, ¬ Zs x ρ) : LeaveOk C G O Zs := fun B X ev s ⟨_, _, _, x, _, z⟩ => (h _ _ z).elim

theorem XAt.unhide {ev : Value} {x : Exn} {t : Bool} (i' : Inv C s') (r : XAt C (hideAll s.heap C.tabA) s'.heap ev x t) : XAt C s.heap s'.heap ev x false := by
  obtain ⟨a, o, vs, h1, h2, h3, h4, h5, h6, h7, h8⟩ := r
  have key : ∀ {b : Addr}, (hideAll s.heap C.tabA).get? b = none → b ∉ C.tabA → s.heap.get? b = none := fun {b} e hb => by
    cases e' : s.heap.get? b with
    | none => rfl
    | some ob => rw [hideAll_get _ e' hb] at e; cases e
  have hc : o.cls ≠ .none := by
    cases x with
    | bi n => rw [h7.1.1]; simp
    | toml m => rw [h7.1]; simp
  refine ⟨a, o, vs, h1, key h2 (i'.notTab h4 hc), h3, h4, h5, h6, h7, ?_⟩
  rcases h8 with h8 | ⟨T, oT, ts, g1, g2, g3, g4, g5, g6, g7, g8⟩
  · exact .inl ⟨rfl, h8.2⟩
  · exact .inr ⟨T, oT, ts, g1, key g2 (i'.notTab g5 (by rw [g8]; simp)), g3, g4, g5, g6, g7, g8⟩

structure FnAt (C : Cx) (f : Addr) (fd : FuncData) (body : List Stmt) : Prop where
  here : ∃ oc od osl, C.K.lookup f = some ⟨oc, od, .func fd, osl⟩
  code : codeIn C.K fd.code fd.qualname = true
  body : fd.body = .stmts body
  clo : fd.closure = []
  glob : fd.globals = mainGlobals
  blt : fd.builtins = builtinsNs
  kind : fd.scope.kind = .function
  co : fd.scope.isCoroutine = false
  gen : fd.scope.isGenerator = false

structure NewFr (hd : Option Value) (G' : Fc) (scope : Scope) (code : Value) (q : PySem.Str) (k : Nat) : Prop where
  scope : G'.env.scope = scope
  k : G'.k = k
  hnd : G'.A.handled = hd
  fn : Fun G'
  code : G'.env.code = code
  qual : G'.env.qual = q ++ ".<locals>."
noncomputable def BodyW (C : Cx) (hd : Option Value) (O : List PySem.Str) (scope : Scope) (code : Value) (q : PySem.Str) (k : Nat) (ρ : Vars) (body : List Stmt) (Q : D → Prop) (Z : Exn → Prop) : Prop :=
  ∀ G', NewFr hd G' scope code q k → LeaveOk C G' O (fun x _ => Z x) ∧ SW C G' O ρ body (fun fl _ => match fl with | .ret d => Q d | .nxt => Q .none | _ => False) (fun x _ => Z x)

noncomputable def BodyG (C : Cx) (hd : Option Value) (O : List PySem.Str) (scope : Scope) (code : Value) (q : PySem.Str) (k : Nat) (ρ : Vars) (body : List Stmt) (T : Heap → (Addr → Prop) → Value → Shared → Prop) (Z : Exn → Prop) : Prop :=
  ∀ G', NewFr hd G' scope code q k → LeaveOk C G' O (fun x _ => Z x) ∧ ∀ B X own s, OkS C G' B X O ρ own s →
    wpAny C.M G'.A (execs body G'.env) (fun fl s' => ∃ ρ' own', OkS C G' B X O ρ' own' s' ∧ match fl with | .next => T B X .none s' | .ret v => T B X v s' | _ => False) (SX C G' B X O false fun x _ => Z x) s
theorem call_rawP {T : Heap → (Addr → Prop) → Value → Shared → Prop} {A : Around} {outer : List Env} {f : Addr} {fd : FuncData} {body : List Stmt} {args : Args} {xs : List PySem.Str} {vs : List Value} {ds : List D} {k : Nat} {ob : Obj} (hob : s.heap.get? f = some ob) (hfd : ob.data = .func fd) (hcr : s.heap.CodeRec fd.code fd.qualname)
    (hbody' : fd.body = .stmts body) (hclo : fd.closure = []) (hglob : fd.globals = mainGlobals) (hblt : fd.builtins = builtinsNs) (hkind : fd.scope.kind = .function) (hco : fd.scope.isCoroutine = false) (hgen : fd.scope.isGenerator = false)
    (hdep : A.depth + 20 * (k + 1) ≤ 900) (huni : A.units + 200 * (k + 1) ≤ 9000) (hfr : A.frames = some outer) (hfa : ∀ e ∈ outer, FrAt C s.heap e) {ch : Bool} (hhd : HOk ch s.heap A.handled) (hXM : ∀ a, X a → MutC C s.heap a) (hbind : bindArgs fd args = pure (xs.zip vs)) (hlen : xs.length = ds.length)
    (hloc : ∀ x ∈ xs, (fd.scope.names.lookup x = some .local ∨ (fd.scope.names.lookup x = some .cell)) ∧ x ∉ O)
    (inv : Inv C s) (r : Reps C X s.heap vs ds) (h : ∀ G', NewFr A.handled G' fd.scope fd.code fd.qualname k → LeaveOk C G' O (fun x _ => Z x) ∧ ∀ s₂, OkS C G' (hideAll s.heap C.tabA) X O (puts xs ds []) [] s₂ → s.toks ≤ s₂.toks →
      wpAny C.M G'.A (execs body G'.env) (fun fl s' => ∃ ρ' own', OkS C G' (hideAll s.heap C.tabA) X O ρ' own' s' ∧ match fl with | .next => T (hideAll s.heap C.tabA) X .none s' | .ret v => T (hideAll s.heap C.tabA) X v s' | _ => False) (SX C G' (hideAll s.heap C.tabA) X O false fun x _ => Z x) s₂) :
    codeAny C.M A (.call (.ref f) args) (fun r s' => match r with | .ok (.ret v) => Step C s s' ∧ T (hideAll s.heap C.tabA) X v s' | .ok _ => False | .error e => XP C s Z e s') s := by
  refine codeAny_call_function (by show _ < 1000; (exact lin1 hdep (by simp +arith only))) hob hfd hco hgen hbody' hcr ?_
  rw [hbind, hclo]
  refine wpAny_pure (newEnv_fn ?_)
  -- heaps
  generalize hH1 : s.heap.push { cls := .type "frame", data := .dict #[] } = H1
  have hz1 : H1.objs.size = s.heap.objs.size + 1 := by rw [← hH1, Heap.size_push]
  have old1 : ∀ b ob, s.heap.get? b = some ob → H1.get? b = some ob := fun b ob e => hH1 ▸ Heap.get?_push_of_some _ e
  have hL : H1.get? s.heap.objs.size = some { cls := .type "frame", data := .dict #[] } := by rw [← hH1]; exact Heap.get?_push_size _ rfl
  have old : ∀ b ob, s.heap.get? b = some ob → (pushCells H1 fd.scope.names).get? b = some ob := fun b ob e => pushCells_keeps _ _ _ _ (old1 b ob e)
  have hcn := cellsNew fd.scope H1
  rw [hz1] at hcn
  have hci := cellsInj fd.scope H1
  rw [hz1] at hci
  have hcf : ∀ y c, (y, c) ∈ cellsFrom (s.heap.objs.size + 1) fd.scope.names [] → s.heap.get? c = none := fun y c hm => by
    cases e : s.heap.get? c with
    | none => rfl
    | some ob => have := (hcn y c hm).2; rw [old1 c ob e] at this; cases this
  have st1 : Step C s { s with heap := pushCells H1 fd.scope.names } := Step.keeps (tk := s.toks) (dr := s.drawn) inv old
  let G' : Fc := { A := A.deeper (fEnv fd s.heap.objs.size f), env := fEnv fd s.heap.objs.size f, outer := outer, k := k, ch := ch }
  have hcell : ∀ x, G'.env.kindOf x = some .cell → ∃ c, G'.env.cells.lookup x = some c := fun x hx => by
    have hm : (x, NameKind.cell) ∈ fd.scope.names := mem_of_lookup hx
    obtain ⟨c, hc⟩ := cellsFrom_has fd.scope.names (s.heap.objs.size + 1) hm
    obtain ⟨c', e, _⟩ := lookup_some_of_mem hc
    exact ⟨c', e⟩
  have hF : Fun G' := ⟨rfl, by show (A.frames.map _) = _; rw [hfr]; rfl, hcell⟩
  have o1 : OkS C G' (hideAll s.heap C.tabA) X O [] [] { s with heap := pushCells H1 fd.scope.names } := {
    inv := st1.inv
    g := {
      depth := by show A.depth + 1 + 20 * k ≤ 900; (exact lin1 hdep (by simp +arith only))
      units := by show A.units + 3 + 200 * k ≤ 9000; (exact lin1 huni (by simp +arith only))
      frames := ⟨fEnv fd s.heap.objs.size f, by show (A.frames.map _) = _; rw [hfr]; rfl, rfl, fun e he => by
        rcases List.mem_cons.mp he with rfl | he
        · exact ⟨by rw [show (fEnv fd s.heap.objs.size f).scope.kind = .function from hkind]; simp, s.heap.objs.size, _, _, _, rfl, inv.baseNone (get_size _), pushCells_keeps _ _ _ _ hL, rfl, rfl⟩
        · exact (hfa e he).keep inv st1.keep⟩
      kind := hkind
      glob := hglob
      blt := hblt
      loc := ⟨fun _ => none, _, #[], 0, pushCells_keeps _ _ _ _ hL, rfl, by intro e he; simp at he, fun n => rfl⟩
      locB := inv.baseNone (get_size _)
      cells := fun y c e => by
        have hm := mem_of_lookup (show (cellsFrom (s.heap.objs.size + 1) fd.scope.names []).lookup y = some c from e)
        exact ⟨⟨none, (hcn y c hm).1⟩, inv.baseNone (hcf y c hm)⟩
      inj := fun y z c e1 e2 => hci y z c (mem_of_lookup e1) (mem_of_lookup e2)
      hnd := hhd.keep inv st1.keep }
    kb := fun b ob hb e => (st1.keep b ob hb (of_hideAll _ e))
    bt := fun a ha => hideAll_none _ ha
    bb := fun b ob e => ⟨_, hideAll_get _ (inv.stays b ob e) fun hm => by rw [inv.ok.tabB b hm] at e; cases e⟩
    bL := by
      cases e : (hideAll s.heap C.tabA).get? s.heap.objs.size with
      | none => exact e
      | some ob => have := of_hideAll _ e; rw [get_size] at this; cases this
    bC := fun y c e => by
      have hm := mem_of_lookup (show (cellsFrom (s.heap.objs.size + 1) fd.scope.names []).lookup y = some c from e)
      cases e : (hideAll s.heap C.tabA).get? c with
      | none => rfl
      | some ob => have := of_hideAll _ e; rw [hcf y c hm] at this; cases this
    bO := fun p hp => by simp at hp
    nX := fun p hp => by simp at hp
    xH := fun a ha => by
      obtain ⟨o', e', hv, hc⟩ := hXM a ha
      refine ⟨o', (st1.keep.val inv) a o' e' hv, hv, ?_⟩
      rcases hc with hc | hc | hc
      · exact .inl hc
      · exact .inr (.inl hc)
      · exact .inr (.inr ⟨hc, o', hideAll_get _ e' (inv.notTab e' hv.1)⟩)
    oN := fun p hp => by simp at hp
    oH := fun p hp => by simp at hp
    oI := fun p hp => by simp at hp
    vars := fun y d e => by simp at e }
  obtain ⟨hlv, hbody⟩ := h G' ⟨rfl, rfl, rfl, hF, rfl, rfl⟩
  have hstore : ∀ x ∈ xs, Storable G' x := fun x hx => by
    rcases (hloc x hx).1 with q | q
    · exact .inl q
    · exact .inr ⟨q, hcell x q⟩
  have hst : ∀ {s' : Shared} {ρ' own'}, OkS C G' (hideAll s.heap C.tabA) X O ρ' own' s' → Step C s s' := fun {s' ρ' own'} oo => ⟨oo.inv, fun b ob hb e => oo.kb b ob hb (hideAll_get _ e hb)⟩
  refine wpAny_tk (Nat.le_refl s.toks) (bindAll (G := G') hF xs o1 hstore (ItemsOk.of_reps (fun x hx => (hloc x hx).2) hlen ((r.step inv st1).mono fun a ha => ?_)) fun s₂ o₂ ht₂ => ⟨?_, ?_⟩)
  · rcases ha with ha | ⟨p, hp, _⟩
    · exact ha
    · simp at hp
  · exact o₂.inv.ok.nolimit.keeps o₂.inv.stays
  · refine codeAny_func (wpAny_mono (hbody s₂ o₂ ht₂) (fun fl s₃ ⟨ρ', own', o₃, p⟩ => ?_) fun ev s₃ x => ?_)
    · cases fl with
      | next => exact ⟨hst o₃, p⟩
      | brk => exact p.elim
      | cont => exact p.elim
      | ret v => exact ⟨hst o₃, p⟩
    · refine wpAny_mono (hlv _ X ev s₃ x) (fun _ s₄ ⟨ρ', own', o₄, y, xa, z⟩ => ⟨hst o₄, y, xa.unhide o₄.inv, z⟩) fun _ _ x => x.elim

theorem call_rawG {T : Heap → (Addr → Prop) → Value → Shared → Prop} {A : Around} {outer : List Env} {f : Addr} {fd : FuncData} {body : List Stmt} {args : Args} {xs : List PySem.Str} {vs : List Value} {ds : List D} {k : Nat} {ob : Obj} (hob : s.heap.get? f = some ob) (hfd : ob.data = .func fd) (hcr : s.heap.CodeRec fd.code fd.qualname)
    (hbody' : fd.body = .stmts body) (hclo : fd.closure = []) (hglob : fd.globals = mainGlobals) (hblt : fd.builtins = builtinsNs) (hkind : fd.scope.kind = .function) (hco : fd.scope.isCoroutine = false) (hgen : fd.scope.isGenerator = false)
    (hdep : A.depth + 20 * (k + 1) ≤ 900) (huni : A.units + 200 * (k + 1) ≤ 9000) (hfr : A.frames = some outer) (hfa : ∀ e ∈ outer, FrAt C s.heap e) {ch : Bool} (hhd : HOk ch s.heap A.handled) (hXM : ∀ a, X a → MutC C s.heap a) (hbind : bindArgs fd args = pure (xs.zip vs)) (hlen : xs.length = ds.length)
    (hloc : ∀ x ∈ xs, (fd.scope.names.lookup x = some .local ∨ (fd.scope.names.lookup x = some .cell)) ∧ x ∉ O)
    (inv : Inv C s) (r : Reps C X s.heap vs ds) (h : BodyG C A.handled O fd.scope fd.code fd.qualname k (puts xs ds []) body T Z) :
    codeAny C.M A (.call (.ref f) args) (fun r s' => match r with | .ok (.ret v) => Step C s s' ∧ T (hideAll s.heap C.tabA) X v s' | .ok _ => False | .error e => XP C s Z e s') s :=
  call_rawP hob hfd hcr hbody' hclo hglob hblt hkind hco hgen hdep huni hfr hfa hhd hXM hbind hlen hloc inv r fun G' N => ⟨(h G' N).1, fun s₂ o₂ _ => (h G' N).2 _ X [] s₂ o₂⟩

theorem call_raw {A : Around} {outer : List Env} {f : Addr} {fd : FuncData} {body : List Stmt} {args : Args} {xs : List PySem.Str} {vs : List Value} {ds : List D} {k : Nat} {ob : Obj} (hob : s.heap.get? f = some ob) (hfd : ob.data = .func fd) (hcr : s.heap.CodeRec fd.code fd.qualname)
    (hbody' : fd.body = .stmts body) (hclo : fd.closure = []) (hglob : fd.globals = mainGlobals) (hblt : fd.builtins = builtinsNs) (hkind : fd.scope.kind = .function) (hco : fd.scope.isCoroutine = false) (hgen : fd.scope.isGenerator = false)
    (hdep : A.depth + 20 * (k + 1) ≤ 900) (huni : A.units + 200 * (k + 1) ≤ 9000) (hfr : A.frames = some outer) (hfa : ∀ e ∈ outer, FrAt C s.heap e) {ch : Bool} (hhd : HOk ch s.heap A.handled) (hXM : ∀ a, X a → MutC C s.heap a) (hbind : bindArgs fd args = pure (xs.zip vs)) (hlen : xs.length = ds.length)
    (hloc : ∀ x ∈ xs, (fd.scope.names.lookup x = some .local ∨ (fd.scope.names.lookup x = some .cell)) ∧ x ∉ O)
    (inv : Inv C s) (r : Reps C X s.heap vs ds) (h : BodyW C A.handled O fd.scope fd.code fd.qualname k (puts xs ds []) body Q Z) :
    codeAny C.M A (.call (.ref f) args) (fun r s' => match r with | .ok (.ret v) => VP C X s Q v s' | .ok _ => False | .error e => XP C s Z e s') s := by
  refine codeAny_mono (call_rawG (T := fun B X v s' => ∃ d, Rep C X s'.heap v d ∧ Q d) (Z := Z) hob hfd hcr hbody' hclo hglob hblt hkind hco hgen hdep huni hfr hfa hhd hXM hbind hlen hloc inv r fun G' N => ⟨(h G' N).1, fun B X own s o => wpAny_mono ((h G' N).2 B X own s o) (fun fl s' q => ?_) fun _ _ x => x⟩) fun r s' q => ?_
  · obtain ⟨ρ', own', o', p⟩ := q
    refine ⟨ρ', own', o', ?_⟩
    cases fl with
    | next => exact ⟨.none, .mkNone, p⟩
    | brk => exact p.elim
    | cont => exact p.elim
    | ret v => exact p
  · match r, q with
    | .ok (.ret v), q => obtain ⟨st, d, r, p⟩ := q; exact ⟨st, d, r, p⟩
    | .error e, q => exact q

theorem call_gen {f : Addr} {fd : FuncData} {body : List Stmt} {args : Args} {xs : List PySem.Str} {vs : List Value} {ds : List D} {k : Nat} {ob : Obj} (hob : s.heap.get? f = some ob) (hfd : ob.data = .func fd) (hcr : s.heap.CodeRec fd.code fd.qualname)
    (hbody' : fd.body = .stmts body) (hclo : fd.closure = []) (hglob : fd.globals = mainGlobals) (hblt : fd.builtins = builtinsNs) (hkind : fd.scope.kind = .function) (hco : fd.scope.isCoroutine = false) (hgen : fd.scope.isGenerator = false)
    (hk : G.k = k + 1) (hbind : bindArgs fd args = pure (xs.zip vs)) (hlen : xs.length = ds.length)
    (hloc : ∀ x ∈ xs, (fd.scope.names.lookup x = some .local ∨ (fd.scope.names.lookup x = some .cell)) ∧ x ∉ O)
    (o : Ok C G X ρ s) (r : Reps C X s.heap vs ds) (h : BodyW C G.A.handled O fd.scope fd.code fd.qualname k (puts xs ds []) body Q Z) :
    codeAny C.M G.A (.call (.ref f) args) (fun r s' => match r with | .ok (.ret v) => VP C X s Q v s' | .ok _ => False | .error e => XP C s Z e s') s := by
  obtain ⟨fe, hfr, hfe, hfa⟩ := o.g.frames
  have gd := o.g
  exact call_raw hob hfd hcr hbody' hclo hglob hblt hkind hco hgen (by have := gd.depth; (lia)) (by have := gd.units; (lia)) hfr hfa gd.hnd o.x hbind hlen hloc o.inv r h

theorem call_core {f : Addr} {fd : FuncData} {body : List Stmt} {args : Args} {xs : List PySem.Str} {vs : List Value} {ds : List D} {k : Nat} (hf : FnAt C f fd body) (hk : G.k = k + 1) (hbind : bindArgs fd args = pure (xs.zip vs)) (hlen : xs.length = ds.length)
    (hloc : ∀ x ∈ xs, (fd.scope.names.lookup x = some .local ∨ (fd.scope.names.lookup x = some .cell)) ∧ x ∉ O)
    (o : Ok C G X ρ s) (r : Reps C X s.heap vs ds) (h : BodyW C G.A.handled O fd.scope fd.code fd.qualname k (puts xs ds []) body Q Z) :
    codeAny C.M G.A (.call (.ref f) args) (fun r s' => match r with | .ok (.ret v) => VP C X s Q v s' | .ok _ => False | .error e => XP C s Z e s') s := by
  obtain ⟨oc, od, osl, hK⟩ := hf.here
  have hin := o.inv.ok.kin.keeps o.inv.stays
  exact call_gen (hin _ _ hK) rfl (codeRec_of hin hf.code) hf.body hf.clo hf.glob hf.blt hf.kind hf.co hf.gen hk hbind hlen hloc o r h

theorem OpW.fn {f : Addr} {fd : FuncData} {body : List Stmt} {xs : List PySem.Str} {ds : List D} {k : Nat} (hf : FnAt C f fd body) (hk : G.k = k + 1) (hlen : xs.length = ds.length) (hbind : ∀ vs : List Value, vs.length = xs.length → bindArgs fd ⟨vs, []⟩ = pure (xs.zip vs))
    (hloc : ∀ x ∈ xs, (fd.scope.names.lookup x = some .local ∨ (fd.scope.names.lookup x = some .cell)) ∧ x ∉ O)
    (h : BodyW C G.A.handled O fd.scope fd.code fd.qualname k (puts xs ds []) body Q Z) : OpW C G ds (callV (.ref f)) Q Z := fun ρ X s vs o r =>
  wpAny_call (call_core hf hk (hbind vs (by rw [r.length, hlen])) hlen hloc o r h)

end
end Mine

end
section
open PySem PySem.W PySem.Calls PyProof.Rows PySem.Builtin PySem.Builtin.Str
set_option Elab.async false
set_option maxRecDepth 100000

namespace Mine
section
variable {C : Cx} {G : Fc} {B : Heap} {X : Addr → Prop} {O : List PySem.Str} {ρ ρ' : Vars} {own own' : List (PySem.Str × Addr)} {s s' s₀ : Shared}
variable {Q : D → Prop} {Z : Exn → Prop}

theorem triples_snoc {i j : Int} {t u : Tok} {c : Value} : ∀ l : List Value, TriplesOk l → TriplesOk (l ++ [.int i t, .int j u, c])
  | [], _ => by simp [TriplesOk]
  | .int _ _ :: .int _ _ :: _ :: rest, h => by
    simp only [TriplesOk, List.cons_append] at h ⊢
    exact triples_snoc rest h
theorem among_snoc {pos : Pos} {i j : Int} {t u : Tok} {c cv : Value} : ∀ l : List Value, TriplesOk l → codeAmong pos (l ++ [.int i t, .int j u, c]) = some cv → codeAmong pos l = some cv ∨ cv = c
  | [], _, h => by
    simp only [List.nil_append, codeAmong] at h
    split at h
    · exact .inr (Option.some.inj h).symm
    · cases h
  | .int a b :: .int e f :: g :: rest, ht, h => by
    simp only [TriplesOk] at ht
    simp only [List.cons_append, codeAmong] at h ⊢
    split at h
    · rename_i hp; rw [if_pos hp]; exact .inl h
    · rename_i hp; rw [if_neg hp]; exact among_snoc rest ht h

theorem mkFn {M : Model} {A : Around} {E : Value → Shared → Prop} {name q : PySem.Str} {params : Arguments} {body : FuncBody} {scope : Scope} {env : Env} {c P : Addr} {pos : Pos} {fl : Nat} {clos : List (PySem.Str × Addr)} (i : Inv C s) (hcl : closureFor scope env = pure clos) (hge : env.globals = mainGlobals)
    (hcode : env.code = .ref c) (hC : CodeHd C.base c P) (hP : (P, q) ∈ C.tabs) (hu : ∀ p ∈ C.tabs, p.1 = P → p.2 = q) (hgP : mainGlobals ≠ P) :
    wpAny M A (makeTail name q params body scope env .none .none none pos fl) (fun v s' => Step C s s' ∧ ∃ a, v = .ref a ∧ s.heap.get? a = none ∧ Rep C X s'.heap v (.fn q params body scope clos)) E s := by
  obtain ⟨ps, hps, ht, hcs⟩ := i.tabs _ hP
  have k := i.ok
  have hPb : C.base.get? P = none := k.tabB P (List.mem_map_of_mem hP)
  -- behind the code: the rest
  have rest : ∀ {s₂ : Shared} {cv ctv : Value}, Step C s s₂ → CodeAt C s₂.heap cv q → (∀ a, s₂.heap.get? a = none → s.heap.get? a = none) →
      wpAny M A (do
        let bl ← builtinsFor mainGlobals env.builtins
        let nm ← nsGet mainGlobals "__name__"
        let dc ← (match body with
          | .stmts b => (match docOf b with | some s => mkText s | none => pure .none)
          | .expr _ => pure .none)
        newObj (.type "function") (.func { name, qualname := q, params, body, scope, globals := mainGlobals, closure := clos, closureTuple := ctv, code := cv, builtins := bl, defaults := .none, kwdefaults := .none, annotations := none, pyModule := nm.getD .none, doc := dc }))
        (fun v s' => Step C s s' ∧ ∃ a, v = .ref a ∧ s.heap.get? a = none ∧ Rep C X s'.heap v (.fn q params body scope clos)) E s₂ := fun {s₂ cv ctv} st hcd hfr => by
    obtain ⟨bm, ob, b1, b2, b3, b4, b5, b6⟩ := k.bmain
    have hg₂ : s₂.heap.Ns mainGlobals C.mg := k.g.keeps st.inv.stays
    refine wpAny_bind (wpAny_builtinsFor hg₂ b1 b2 (st.inv.stays _ _ b3) b4 b5 b6 ?_)
    refine wpAny_bind (wpAny_nsGet hg₂ ?_)
    have fin : ∀ (dc : Value) (tk : Nat), wpAny M A (newObj (.type "function") (.func { name, qualname := q, params, body, scope, globals := mainGlobals, closure := clos, closureTuple := ctv, code := cv, builtins := builtinsNs, defaults := .none, kwdefaults := .none, annotations := none, pyModule := (C.mg "__name__").getD .none, doc := dc }))
        (fun v s' => Step C s s' ∧ ∃ a, v = .ref a ∧ s.heap.get? a = none ∧ Rep C X s'.heap v (.fn q params body scope clos)) E { s₂ with toks := tk } := fun dc tk => by
      refine wpAny_newObj_type ?_ (by size_fits)
      have st₃ : Step C s₂ { s₂ with toks := tk, heap := s₂.heap.push { cls := .type "function", data := .func { name, qualname := q, params, body, scope, globals := mainGlobals, closure := clos, closureTuple := ctv, code := cv, builtins := builtinsNs, defaults := .none, kwdefaults := .none, annotations := none, pyModule := (C.mg "__name__").getD .none, doc := dc } } } :=
        Step.keeps (dr := s₂.drawn) st.inv fun b o e => Heap.get?_push_of_some _ e
      refine ⟨st.trans st₃, s₂.heap.objs.size, rfl, hfr _ (get_size _), ?_⟩
      exact Exists.intro _ ⟨_, _, rfl, Heap.get?_push_size _ rfl, rfl, rfl, ⟨rfl, rfl, rfl, rfl, rfl, rfl, rfl, rfl, rfl⟩, hcd.keep st₃.keep⟩
    cases body with
    | expr e => exact wpAny_bind (wpAny_pure (fin _ s₂.toks))
    | stmts b =>
      cases hd : docOf b with
      | none => simp only [hd]; exact wpAny_bind (wpAny_pure (fin _ s₂.toks))
      | some t => simp only [hd]; exact wpAny_bind (wpAny_mkText (fin _ _))
  -- the code
  have code : ∀ {s₂ : Shared} {ctv : Value}, Step C s s₂ →
      wpAny M A (functionCode env pos fl name q params scope body) (fun cv s₃ => Step C s s₃ ∧ CodeAt C s₃.heap cv q) E s₂ := fun {s₂ ctv} st => by
    obtain ⟨ps, hps, ht, hcs⟩ := st.inv.tabs _ hP
    have hC₂ := hC.keeps st.inv.stays
    cases hf : codeAmong pos ps.toList with
    | some cv => exact wpAny_functionCode_hit hcode (hC₂.code hps ht) hf ⟨st, hcs pos cv hf⟩
    | none =>
      refine wpAny_functionCodeX hcode (hC₂.code hps ht) (hC₂.tab hps) hf fun c' h' tk hx hge' hlt _ hrec htb hnew => ?_
      obtain ⟨P', _, _, ⟨oc, vc, g1, g2, g3, _⟩, _⟩ := hnew
      obtain ⟨c₂, o₂, vs₂, t₂, r1, r2, r3, r4⟩ := hrec
      cases r1
      have hnt : c' ∉ C.tabA := fun hm => by
        obtain ⟨ob, e⟩ := st.inv.tabHere hm
        exact absurd (Heap.lt_size e) (Nat.not_lt.mpr hge')
      have hcc : o₂.cls = .type "code" := by rw [r2] at g1; cases g1; exact g2
      have hcat : CodeAt C h' (.ref c') q := ⟨c', o₂, vs₂, t₂, rfl, hnt, r2, r3, r4, hcc⟩
      have hne : ∀ (b : Addr) (o : Obj), s₂.heap.get? b = some o → o.cls ≠ .none → b ≠ P := fun b o e hc q => by
        rw [q, hps] at e; cases e; exact hc rfl
      have hinv : Inv C { s₂ with heap := h', toks := tk } := {
        ok := st.inv.ok
        stays := fun b o e => hx b o (fun q => by rw [q, hPb] at e; cases e) (st.inv.stays b o e)
        tabs := fun p hp => by
          by_cases hpP : p.1 = P
          · refine ⟨_, by rw [hpP]; exact htb.2, ?_, fun pos' cv e => ?_⟩
            · rw [Array.toList_append]; exact triples_snoc _ ht
            · rw [Array.toList_append] at e
              rw [hu p hp hpP]
              rcases among_snoc _ ht e with e | e
              · obtain ⟨c₃, o₃, v₃, t₃, e1, e2, e3, e4, e5, e6⟩ := hcs pos' cv e
                exact ⟨c₃, o₃, v₃, t₃, e1, e2, hx c₃ o₃ (hne _ _ e3 (by rw [e6]; simp)) e3, e4, e5, e6⟩
              · subst e; exact hcat
          · obtain ⟨ps', h1, h2, h3⟩ := st.inv.tabs p hp
            refine ⟨ps', hx _ _ hpP h1, h2, fun pos' cv e => ?_⟩
            obtain ⟨c₃, o₃, v₃, t₃, e1, e2, e3, e4, e5, e6⟩ := h3 pos' cv e
            exact ⟨c₃, o₃, v₃, t₃, e1, e2, hx c₃ o₃ (hne _ _ e3 (by rw [e6]; simp)) e3, e4, e5, e6⟩
        gens := st.inv.gens
        os := st.inv.os }
      refine ⟨st.trans ⟨hinv, fun b o hb e => ?_⟩, hcat⟩
      have : h'.get? b = some o := hx b o (fun q => hb (q ▸ List.mem_map_of_mem hP)) e
      exact ⟨fun _ => this, o.slots, this⟩
  unfold makeTail
  rw [hcl, hge]
  refine wpAny_bind (wpAny_pure ?_)
  have tail : ∀ {s₂ : Shared} {ctv : Value}, Step C s s₂ → wpAny M A (do
        let cv ← functionCode env pos fl name q params scope body
        let bl ← builtinsFor mainGlobals env.builtins
        let nm ← nsGet mainGlobals "__name__"
        let dc ← (match body with
          | .stmts b => (match docOf b with | some s => mkText s | none => pure .none)
          | .expr _ => pure .none)
        newObj (.type "function") (.func { name, qualname := q, params, body, scope, globals := mainGlobals, closure := clos, closureTuple := ctv, code := cv, builtins := bl, defaults := .none, kwdefaults := .none, annotations := none, pyModule := nm.getD .none, doc := dc }))
        (fun v s' => Step C s s' ∧ ∃ a, v = .ref a ∧ s.heap.get? a = none ∧ Rep C X s'.heap v (.fn q params body scope clos)) E s₂ := fun {s₂ ctv} st =>
    wpAny_bind (wpAny_mono (code (ctv := ctv) st) (fun cv s₃ ⟨st₃, hcd⟩ => rest st₃ hcd fun a ha => st₃.fresh i ha) fun _ _ x => x)
  cases clos with
  | nil =>
    simp only [List.isEmpty_nil, if_true]
    have t := tail (ctv := .none) (Step.refl i)
    refine wpAny_bind (wpAny_pure ?_)
    cases body <;> exact t
  | cons a r =>
    simp only [List.isEmpty_cons, Bool.false_eq_true, if_false]
    refine wpAny_bind (wpAny_newTextTuple ?_)
    have t := fun ob ctv => tail (ctv := ctv) (Step.push i ob)
    cases body <;> exact t _ _


variable {P : Fl → Vars → Prop} {Zs : Exn → Vars → Prop}
theorem S1W.defn {name q : PySem.Str} {params : Arguments} {body : List Stmt} {scope : Scope} {pos : Pos} {c Pt : Addr} (hF : Fun G) (hk : Storable G name) (hx : name ∉ O) (hcode : G.env.code = .ref c) (hq : qualnameIn G.env name name = q) (hC : CodeHd C.base c Pt) (hP : (Pt, q) ∈ C.tabs) (hu : ∀ p ∈ C.tabs, p.1 = Pt → p.2 = q) (hgP : mainGlobals ≠ Pt)
    (hfree : ∀ x ∈ scope.names, x.2 ≠ .free) (hd0 : params.defaults = []) (hk0 : params.kw_defaults = []) (ha : annTrees params none G.env = [])
    (h : P .nxt (put name (.fn q params (.stmts body) scope []) ρ)) : S1W C G O ρ (.FunctionDef name params body [] none [] scope none name pos) P Zs := fun B X own s o => by
  refine nestDef_K hd0 hk0 ha ?_
  rw [makeFunction_eq, hq]
  simp only [List.zip_nil_right, List.filterMap_nil, List.isEmpty_nil, if_true, pure_bind]
  refine wpAny_mono (mkFn (X := inl own X) (E := fun _ _ => False) o.inv (closureFor_none hfree) o.g.glob hcode hC hP hu hgP) (fun v s₁ q9 => ?_) fun _ _ x => x.elim
  obtain ⟨st, a, _, _, r⟩ := q9
  exact store_loc (o.step st).g hk fun h' tk a l => ⟨_, own, (o.step st).store hF.fr l hx r, h⟩

theorem OpW.fnL {q : PySem.Str} {params : Arguments} {scope : Scope} {body : List Stmt} {xs : List PySem.Str} {ds : List D} {k : Nat} (hk : G.k = k + 1) (hlen : xs.length = ds.length)
    (hbind : ∀ (fd : FuncData) (vs : List Value), fd.params = params → fd.defaults = .none → fd.kwdefaults = .none → vs.length = xs.length → bindArgs fd ⟨vs, []⟩ = pure (xs.zip vs))
    (hloc : ∀ x ∈ xs, (scope.names.lookup x = some .local ∨ (scope.names.lookup x = some .cell)) ∧ x ∉ O) (hkind : scope.kind = .function) (hco : scope.isCoroutine = false) (hgen : scope.isGenerator = false)
    (h : ∀ code, BodyW C G.A.handled O scope code q k (puts xs ds []) body Q Z) {X : Addr → Prop} {s : Shared} {f : Value} {vs : List Value} (rf : Rep C X s.heap f (.fn q params (.stmts body) scope [])) (o : Ok C G X ρ s) (r : Reps C X s.heap vs ds) :
    wpAny C.M G.A (PySem.call f vs) (VP C X s Q) (XP C s Z) s := by
  obtain ⟨a, ob, fd, rfl, e1, e2, e3, ⟨p1, p2, p3, p4, p5, p6, p7, p8, p9⟩, hcd⟩ := rf
  subst p1 p2 p4
  exact wpAny_call (call_gen e1 e3 hcd.rec p3 p5 p6 p7 hkind hco hgen hk (hbind fd vs rfl p8 p9 (by rw [r.length, hlen])) hlen hloc o r (h _))

theorem EvW.callL {x : PySem.Str} {np pos : Pos} {es : List Expr} {q : PySem.Str} {params : Arguments} {scope : Scope} {body : List Stmt} {xs : List PySem.Str} {k : Nat} (hx : ρ.lookup x = some (.fn q params (.stmts body) scope [])) (hk : G.k = k + 1)
    (hbind : ∀ (fd : FuncData) (vs : List Value), fd.params = params → fd.defaults = .none → fd.kwdefaults = .none → vs.length = xs.length → bindArgs fd ⟨vs, []⟩ = pure (xs.zip vs))
    (hloc : ∀ x ∈ xs, (scope.names.lookup x = some .local ∨ (scope.names.lookup x = some .cell)) ∧ x ∉ O) (hkind : scope.kind = .function) (hco : scope.isCoroutine = false) (hgen : scope.isGenerator = false)
    (h : EsW C G ρ es (fun ds => xs.length = ds.length ∧ ∀ code, BodyW C G.A.handled O scope code q k (puts xs ds []) body Q Z) Z) (hs : noStars es = true := by rfl) (hd : (x == ("__debug__" : PySem.Str)) = false := by decide) (hn : (x == ("__classdict__" : PySem.Str)) = false := by decide) :
    EvW C G ρ (.Call (.Name x np) es [] pos) Q Z := fun X s o => by
  obtain ⟨f, a, rf⟩ := o.vars x _ hx
  refine PySem.wpAny_Call_NameR (wpAny_Name (loadVar a o.g.kind rfl ?_ hn) hd)
  have keeps : ∀ {s' : Shared}, Rep C X s'.heap f (.fn q params (.stmts body) scope []) → W.FnAt (match f with | .ref b => b | _ => 0) s'.heap ∧ ∃ b, f = .ref b := fun {s'} r => by
    obtain ⟨a', ob, fd, e0, e1, e2, e3, _⟩ := r
    obtain ⟨c, d, dt, sl⟩ := ob
    simp only at e3; subst e3
    subst e0
    exact ⟨⟨c, d, fd, sl, e1⟩, a', rfl⟩
  obtain ⟨hfa, b, rfl⟩ := keeps rf
  have fin : ∀ vs s₁, LP C X s (fun ds => xs.length = ds.length ∧ ∀ code, BodyW C G.A.handled O scope code q k (puts xs ds []) body Q Z) vs s₁ → W.FnAt b s₁.heap ∧ wpAny C.M G.A (PySem.call (.ref b) ([] ++ vs)) (VP C X s Q) (XP C s Z) s₁ := fun vs s₁ ⟨st, ds, rs, hlen, hb⟩ => by
    have rf₁ := rf.step o.inv st
    refine ⟨(keeps rf₁).1, ?_⟩
    exact wpAny_mono (OpW.fnL hk hlen hbind hloc hkind hco hgen hb rf₁ (o.step st) rs) (fun _ _ x => x.back st) fun _ _ x => x.back o.inv st
  cases es with
  | nil =>
    refine callWith_F0 hfa ?_
    have h3 : wpAny C.M G.A (pure []) _ _ s := h X s pos o
    exact fun Γ p hΓ => (fin [] s (h3 Γ p hΓ)).2 Γ p hΓ
  | cons e es =>
    simp only [noStars, Bool.and_eq_true] at hs
    refine callWith_F hfa (wpAny_mono (h X s pos o) fin fun _ _ x => x) (starEach_cons hs.1) (noStars_any hs.2)

end
end Mine

end
section
open PySem PySem.W PySem.Calls PyProof.Rows PySem.Builtin PySem.Builtin.Str PySem.Builtin.BaseException PySem.Builtin.Exceptions
set_option Elab.async false
set_option maxRecDepth 100000

namespace Mine

noncomputable abbrev veMro : List Value := [.type "ValueError", .type "Exception", .type "BaseException", .type "object"]
noncomputable def TomlAt (h : Heap) (a : Addr) : Prop :=
  ∃ N nm q bs hdct sn sub ab col dd k0 k1 k2 k3 k5 mN, h.get? a = some (excClassObj nm q a N bs veMro hdct sn sub ab col dd k0 k1 k2 k3 k5 "ValueError.__new__") ∧ h.Ns N mN ∧ mN "__init__" = none ∧ mN "__str__" = none
set_option genInjectivity false in
structure TomlR (h : Heap) (a : Addr) where
  N : Addr
  nm : PySem.Str
  q : PySem.Str
  bs : List Value
  hdct : Bool
  sn : List PySem.Str
  sub : List Value
  ab : Bool
  col : Option Bool
  dd : Option Addr
  k0 : Option Value
  k1 : Option Value
  k2 : Option Value
  k3 : Option Value
  k5 : Option Value
  mN : PySem.Str → Option Value
  h1 : h.get? a = some (excClassObj nm q a N bs veMro hdct sn sub ab col dd k0 k1 k2 k3 k5 "ValueError.__new__")
  h2 : h.Ns N mN
  h3 : mN "__init__" = none
  h4 : mN "__str__" = none
theorem TomlAt.r {h : Heap} {a : Addr} (x : TomlAt h a) : Nonempty (TomlR h a) := by
  obtain ⟨N, nm, q, bs, hdct, sn, sub, ab, col, dd, k0, k1, k2, k3, k5, mN, h1, h2, h3, h4⟩ := x
  exact ⟨⟨N, nm, q, bs, hdct, sn, sub, ab, col, dd, k0, k1, k2, k3, k5, mN, h1, h2, h3, h4⟩⟩
theorem TomlAt.keeps {h h' : Heap} {a : Addr} (x : TomlAt h a) (hk : ∀ b o, h.get? b = some o → h'.get? b = some o) : TomlAt h' a :=
  by obtain ⟨N, nm, q, bs, hdct, sn, sub, ab, col, dd, k0, k1, k2, k3, k5, mN, h1, h2, h3⟩ := x; exact ⟨N, nm, q, bs, hdct, sn, sub, ab, col, dd, k0, k1, k2, k3, k5, mN, hk _ _ h1, h2.keeps hk, h3⟩
section
variable {M : Model} {prog : Program} {w : World} {A : Around} {E : Value → Shared → Prop} {h : Heap} {g : Array GenState} {d : Drawn} {t : Nat} {os : OsState}
variable {nm q : PySem.Str} {C N : Addr} {bs : List Value} {hdct : Bool} {sn : List PySem.Str} {sub : List Value} {ab : Bool} {col : Option Bool} {dd : Option Addr} {k0 k1 k2 k3 k5 : Option Value} {newId : String}
theorem check_str_own {a : Addr} {o : Obj} {Q : Unit → Shared → Prop} (hC : h.get? C = some (excClassObj nm q C N bs veMro hdct sn sub ab col dd k0 k1 k2 k3 k5 newId))
    (hx : h.get? a = some o) (hc : o.cls = .ref C) (hq : Q () ⟨h, g, d, t, os⟩) : wpAny M A (checkBuiltinCall "BaseException.__str__" ⟨[.ref a], []⟩) Q E ⟨h, g, d, t, os⟩ := by
  have hk : builtinKind "BaseException.__str__" = some .slot := by decide +kernel
  have hsplit : splitId "BaseException.__str__" = some ("BaseException", "__str__") := by decide +kernel
  have hcB : (Value.ref C :: veMro).contains (.type "BaseException") = true := by rw [List.contains_cons, show veMro.contains (.type "BaseException") = true by decide +kernel, Bool.or_true]
  have ha := F.args_bexc_str (.ref a)
  simp only [checkBuiltinCall, hk, hsplit]
  refine wpAny_bind ?_
  unfold isInstance
  repeat (first | (with_reducible refine wpAny_loadPart_at hx ?_; rw [hc]) | (with_reducible refine wpAny_isSubtype_exc hC ?_; rw [hcB]) | wp_step)
  exact hq
theorem entry_str_own {a t0 : Addr} {o : Obj} {vs : Array Value} {m : PySem.Str} {tk : Tok} {Q : Fin → Shared → Prop} (hx : h.get? a = some o) (hd : o.data = .fields vs) (h0 : vs[0]? = some (.ref t0)) (ht : IsTup h t0 #[.str m tk])
    (hq : Q (.done (.ret (.str m tk))) ⟨h, g, d, t, os⟩) : wpAny (model prog w) A (Builtin.«BaseException.__str__» ⟨[.ref a], []⟩) Q E ⟨h, g, d, t, os⟩ := by
  have hb : ∀ {Q : Value × List Value → Shared → Prop}, Q (.ref t0, [.str m tk]) ⟨h, g, d, t, os⟩ → wpAny (model prog w) A (bexcArgs (.ref a)) Q E ⟨h, g, d, t, os⟩ := fun {Q} hq => by
    obtain ⟨ot, hto, _, k, htd⟩ := ht
    unfold bexcArgs
    exact wpAny_bind (wpAny_field hx hd h0 (wpAny_bind (wpAny_seqItems hto htd (wpAny_pure hq))))
  unfold Builtin.«BaseException.__str__»
  repeat (first | with_reducible refine hb ?_ | wp_step)
  exact hq
theorem strOf_own {a t0 : Addr} {o : Obj} {vs : Array Value} {m : PySem.Str} {tk : Tok} {mN : PySem.Str → Option Value} {Q : Value → Shared → Prop} (hu : A.units < cLine) (hC : h.get? C = some (excClassObj nm q C N bs veMro hdct sn sub ab col dd k0 k1 k2 k3 k5 newId)) (hN : h.Ns N mN) (hmN : mN "__str__" = none)
    (hx : h.get? a = some o) (hc : o.cls = .ref C) (hd : o.data = .fields vs) (h0 : vs[0]? = some (.ref t0)) (ht : IsTup h t0 #[.str m tk])
    (hq : Q (.str m tk) ⟨h, g, d, t, os⟩) : wpAny (model prog w) A (PySem.Builtin.Str.strOf (.ref a)) Q E ⟨h, g, d, t, os⟩ := by
  have hs := F.excStr_ValueError.str
  have hlk : ∀ {Q : Option Value → Shared → Prop}, Q (some (.builtin "BaseException.__str__")) ⟨h, g, d, t, os⟩ → wpAny (model prog w) A (typeLookup (.ref C) "__str__") Q E ⟨h, g, d, t, os⟩ := fun {Q} hq =>
    wpAny_typeLookup_exc hC hN F.excBase_ValueError.mroIs hs.lookup (by rw [hmN]; exact hq)
  unfold PySem.Builtin.Str.strOf
  repeat (any_goals (first | assumption | with_reducible refine wpAny_cRoomFor hu ?_ | (with_reducible refine wpAny_loadPart_at hx ?_; rw [hc]) | with_reducible refine hlk ?_ | wp_step))
  refine wpAny_of_eq (hs.bind _) ?_
  show wpAny (model prog w) A (call (.builtin "BaseException.__str__") [.ref a] >>= fun r => pure (some r)) _ E _
  refine wpAny_bind (wpAny_call (codeAny_call_builtin hs.plain F.entry_bexc_str (check_str_own hC hx hc (entry_str_own hx hd h0 ht ?_))))
  refine wpAny_pure ?_
  repeat (any_goals (first | assumption | wp_step))
end

section
variable {C : Cx} {G : Fc} {ρ : Vars} {Q : D → Prop} {Z : Exn → Prop}
theorem OpW.str_exc {m : List Nat} (hT : TomlAt C.base C.toml) (h : Q (.str m)) : OpW C G [.exc m] (callV (.type "str")) Q Z := .one fun ρ X s v o r1 => by
  obtain ⟨a, ob, vs, t, u, ⟨rfl, _⟩, e1, e2, e3, e4, e5⟩ := r1
  obtain ⟨T⟩ := (hT.keeps o.inv.stays).r
  refine callType_new F.called_str (by decide) (F.typeCall_str_1 _) (F.newCall_str_1 _) (fun obj => F.args_object_init_2 obj _) F.entry_str_new
    (meets_str_new (S := fun A' R s' => A'.units + 2 < cLine ∧ s' = s ∧ R (.ok (.ret (.str ⟨m.toArray⟩ u))) s)
      fun prog' w' A' R s' hh => ?_) ⟨?_, rfl, typeIs_str _ _ _, VP.of (Step.refl o.inv) (.mkStr rfl) h⟩
  · obtain ⟨hu, rfl, hr⟩ := hh
    obtain ⟨hp, g, d, tk, os⟩ := s'
    exact strOf_own (A := A'.in1) (by show A'.units + 1 < cLine; (exact Nat.le_of_lt (Nat.lt_of_lt_of_le (by assumption) (by decide)))) T.h1 T.h2 T.h4 e1 e2 e3 e4 e5 hr
  · have := o.g.units; show G.A.units + 1 + 2 < 9900; (exact lin1 this (by simp +arith only))
end
end Mine

end
section
open PySem PySem.W PySem.Calls PyProof.Rows PySem.Builtin PySem.Builtin.Str
set_option Elab.async false
set_option maxRecDepth 100000

namespace Mine
section
variable {C : Cx} {G : Fc} {ρ : Vars} {Q : D → Prop} {Z : Exn → Prop} {X : Addr → Prop} {s s' : Shared}

theorem Ok.bar {a : Addr} (o : Ok C G X ρ s) (st : Step C s s') (ha : s.heap.get? a = none) (hM : MutL s'.heap a) : Ok C G (fun c => c = a ∨ X c) ρ s' where
  inv := st.inv
  g := o.g.keep o.inv st.keep
  x b hb := by
    rcases hb with rfl | hb
    · exact hM.c
    · exact (o.x b hb).keep o.inv st.keep
  vars y d e := (by obtain ⟨v, h1, h2⟩ := o.vars y d e; exact ⟨v, h1.keep o.inv st.keep, (h2.avoid ha).step o.inv st⟩)

noncomputable def PsW (C : Cx) (G : Fc) (ρ : Vars) (ks : List (Option Expr)) (vs : List Expr) (Q : List D → List D → Prop) (Z : Exn → Prop) : Prop :=
  ∀ X s pos, Ok C G X ρ s → wpAny C.M G.A (evalPairs (pairTrees ks vs G.env pos)) (fun ps s' => Step C s s' ∧ ∃ ks ws, Reps C X s'.heap (ps.map (·.1)) ks ∧ Reps C X s'.heap (ps.map (·.2)) ws ∧ Q ks ws) (XP C s Z) s
theorem PsW.nil {Q : List D → List D → Prop} (h : Q [] []) : PsW C G ρ [] [] Q Z := fun X s pos o => wpAny_pure ⟨Step.refl o.inv, [], [], by simp [Reps], by simp [Reps], h⟩
theorem PsW.cons {k v : Expr} {ks : List (Option Expr)} {vs : List Expr} {Q : List D → List D → Prop} (h : EvW C G ρ k (fun a => EvW C G ρ v (fun b => PsW C G ρ ks vs (fun as bs => Q (a :: as) (b :: bs)) Z) Z) Z) :
    PsW C G ρ (some k :: ks) (v :: vs) Q Z := fun X s pos o => by
  show wpAny C.M G.A (do
    let kv ← eval k G.env
    let vv ← holding [kv] (do let x ← eval v G.env; standAt pos; pure x)
    return (kv, vv) :: (← holding [kv, vv] (evalPairs (pairTrees ks vs G.env pos)))) _ _ s
  refine wpAny_bind (wpAny_mono (h X s o) (fun kv s₁ q9 => ?_) fun _ _ x => x)
  obtain ⟨st, a, ra, p⟩ := q9
  refine wpAny_bind (wpAny_holding (wpAny_bind (wpAny_mono (p X s₁ (o.step st)) (fun vv s₂ ⟨st₂, b, rb, p₂⟩ => wpAny_bind (wpAny_standAt (wpAny_pure ?_))) fun _ _ x => x.back o.inv st)))
  refine wpAny_bind (wpAny_holding (wpAny_mono (p₂ X s₂ pos ((o.step st).step st₂)) (fun ps s₃ ⟨st₃, as, bs, r1, r2, q⟩ => wpAny_pure ?_) fun _ _ x => (x.back st.inv st₂).back o.inv st))
  refine ⟨(st.trans st₂).trans st₃, a :: as, b :: bs, ?_, ?_, q⟩
  · exact And.intro ((ra.step st.inv st₂).step st₂.inv st₃) r1
  · exact And.intro (rb.step st₂.inv st₃) r2

theorem merged_nodup {K : Type} [DecidableEq K] : ∀ (more kvs : List (K × Value)), ((kvs ++ more).map (·.1)).Nodup → merged kvs more = kvs ++ more
  | [], kvs, _ => by simp [merged]
  | (k, v) :: r, kvs, h => by
    have hk : ¬ (kvs.any fun kv => kv.1 = k) = true := by
      simp only [List.any_eq_true, decide_eq_true_eq, not_exists, not_and]
      intro x hx e
      simp only [List.map_append, List.map_cons, List.nodup_append] at h
      exact h.2.2 x.1 (List.mem_map_of_mem hx) k (.head _) e
    have : merged kvs ((k, v) :: r) = merged (stored kvs k v) r := rfl
    rw [this]
    unfold stored
    rw [if_neg hk, merged_nodup r (kvs ++ [(k, v)]) (by simpa using h)]
    simp

theorem pairs_vals {K : Type} [DecidableEq K] {knd : KeyKind C.prog C.w K} {es : List DictEntry} {kvs : List (K × Value)} (h : PySem.Pairs knd es kvs) : es.map (·.val) = kvs.map (·.2) := by
  induction h with
  | nil => rfl
  | cons h1 h2 _ ih => simp [h2, ih]
theorem Inv.size_ne (i : Inv C s) : s.heap.objs.size ≠ sysModules := by
  obtain ⟨mc, h, _⟩ := i.ok.nodigits
  have : cStatics < s.heap.objs.size := (h.keeps i.stays).lt
  intro e
  rw [e] at this
  exact absurd this (by decide)

theorem dict_core {K : Type} [DecidableEq K] (knd : KeyKind C.prog C.w K) (emb : K → D) {ks : List (Option Expr)} {vs : List Expr} {pos : Pos} (hall : ks.all (·.isSome) = true) (hl : ks.length = vs.length) (h0 : ks ≠ []) (hlen : ks.length ≤ 15)
    (his : ∀ {X h v k}, Rep C X h v (emb k) → knd.is k v = true) (hok : ∀ {es : Array DictEntry} {kvs : List (K × Value)}, PySem.KeysOf knd es → PySem.Pairs knd es.toList kvs → (kvs.map (·.1)).Nodup → KeyOk C es (kvs.map fun p => emb p.1))
    (h : PsW C G ρ ks vs (fun as bs => ∃ xs : List K, as = xs.map emb ∧ xs.Nodup ∧ Q (.dict as bs)) Z) : EvW C G ρ (.Dict ks vs pos) Q Z := fun X s o => by
  refine wpAny_Dict_walk (knd := knd) hall hl h0 hlen ?_
  have st0 := Step.push o.inv { cls := .type "dict", data := .dict #[] }
  have hM : MutL (s.heap.push { cls := .type "dict", data := .dict #[] }) s.heap.objs.size := ⟨_, Heap.get?_push_size _ rfl, ⟨by simp, by simp, by simp⟩, .inr rfl⟩
  have ob := o.bar st0 (get_size _) hM
  refine wpAny_mono (h _ _ pos ob) (fun ps s₁ q9 => ?_) fun _ _ x => x.back o.inv st0
  obtain ⟨st, as, bs, r1, r2, xs, e1, hn, q⟩ := q9
  subst e1
  have car : ∀ (ps : List (Value × Value)) (xs : List K), Reps C (fun c => c = s.heap.objs.size ∨ X c) s₁.heap (ps.map (·.1)) (xs.map emb) → ∃ kvs : List (K × Value), Carries knd ps kvs ∧ kvs.map (·.1) = xs ∧ kvs.map (·.2) = ps.map (·.2) := by
    intro ps
    induction ps with
    | nil => intro xs r; cases xs with
      | nil => exact ⟨[], trivial, rfl, rfl⟩
      | cons x xs => exact r.elim
    | cons p ps ih => intro xs r; cases xs with
      | nil => exact r.elim
      | cons x xs =>
        obtain ⟨kvs, c1, c2, c3⟩ := ih xs r.2
        exact ⟨(x, p.2) :: kvs, ⟨his r.1, rfl, c1⟩, by simp [c2], by simp [c3]⟩
  obtain ⟨kvs, c1, c2, c3⟩ := car ps xs r1
  have hnk : (kvs.map (·.1)).Nodup := c2 ▸ hn
  have e0 : s₁.heap.get? s.heap.objs.size = some { cls := .type "dict", data := .dict #[] } := st.keep.get (Heap.get?_push_size _ rfl) (st0.inv.notTab (Heap.get?_push_size _ rfl) (by simp)) (by simp)
  refine ⟨kvs, c1, ⟨_, #[], 0, e0, ⟨rfl, rfl, rfl⟩, rfl, by intro e he; simp at he, .nil, by simp⟩, fun h' hd hs => ?_⟩
  rw [merged_nodup kvs [] (by simpa using hnk), List.nil_append] at hd
  obtain ⟨o', es, ep, g1, g2, g3, g4, g5, g6⟩ := hd
  have hne : ∀ {b : Addr} {ob : Obj}, s.heap.get? b = some ob → b ≠ s.heap.objs.size := fun {b ob} e => Nat.ne_of_lt (Heap.lt_size e)
  refine ⟨⟨st.inv.change (tk := s₁.toks + ps.length) hs (o.inv.baseNone (get_size _)) e0 (by simp), fun b ob' hb e => ?_⟩, .dict (xs.map emb) bs, ?_, q⟩
  · obtain ⟨k1, sl, k2⟩ := (st0.trans st).keep b ob' hb e
    exact ⟨fun hc => (hs.2 b (hne e)).trans (k1 hc), sl, (hs.2 b (hne e)).trans k2⟩
  · have hv : es.toList.map (·.val) = ps.map (·.2) := by
      rw [← c3]; exact pairs_vals g5
    refine Exists.intro _ ⟨o', es, ep, rfl, ⟨⟨?_, by have := hok g4 g5 g6; rw [← c2, List.map_map]; exact this⟩, o.freshX⟩, g1, g2, g3, ?_⟩
    · exact o.inv.size_ne
    · rw [hv]
      refine (r2.move (Y := fun c => c = s.heap.objs.size ∨ X c) (fun b o'' e hd' hn' => ?_) fun _ _ _ q => q).mono fun a ha => .inr ha
      refine (hs.2 b fun q => ?_).trans e
      subst q
      rw [e0] at e; cases e
      exact hn' (.inr rfl) (.inl rfl)


theorem EvW.dictS {ks : List (Option Expr)} {vs : List Expr} {pos : Pos} (hlen : ks.length ≤ 15) (h : PsW C G ρ ks vs (fun as bs => ∃ xs : List PySem.Str, as = xs.map (fun x => D.str x.cps.toList) ∧ xs.Nodup ∧ Q (.dict as bs)) Z) (hall : ks.all (·.isSome) = true := by rfl) (hl : ks.length = vs.length := by rfl) (h0 : ks ≠ [] := by simp) : EvW C G ρ (.Dict ks vs pos) Q Z :=
  dict_core (PySem.strKind C.prog C.w) (fun x => D.str x.cps.toList) hall hl h0 hlen (fun {X h v k} r => by obtain ⟨t, rfl⟩ := r; simp [PySem.strKind, Value.isStrOf]) (fun g4 g5 g6 => .inr ⟨_, g4, g5, g6, rfl⟩) h

noncomputable def dkeq : D → D → Bool
  | .int a, .int b => a == b
  | .str a, .str b => a == b
  | _, _ => false
noncomputable def dget (k : D) : List D → List D → Option D
  | k' :: ks, w :: ws => if dkeq k' k then some w else dget k ks ws
  | _, _ => none

theorem dict_map {K : Type} [DecidableEq K] (knd : KeyKind C.prog C.w K) (emb : K → D) (hemb : ∀ a b, dkeq (emb a) (emb b) = decide (a = b)) {h : Heap} {es : Array DictEntry} {kvs : List (K × Value)} {ws : List D} (hp : PySem.Pairs knd es.toList kvs)
    (hr : Reps C X h (es.toList.map (·.val)) ws) (k : K) : (∀ d, dget (emb k) (kvs.map fun p => emb p.1) ws = some d → ∃ v, valueAt kvs k = some v ∧ Rep C X h v d) ∧ (dget (emb k) (kvs.map fun p => emb p.1) ws = none → valueAt kvs k = none) := by
  have hv := pairs_vals hp
  rw [hv] at hr
  clear hv hp
  induction kvs generalizing ws with
  | nil => cases ws with
    | nil => exact ⟨fun d e => by simp [dget] at e, fun _ => rfl⟩
    | cons w ws => exact hr.elim
  | cons p kvs ih => cases ws with
    | nil => exact hr.elim
    | cons w ws =>
      have := ih hr.2
      simp only [List.map_cons, dget, hemb]
      by_cases hk : p.1 = k
      · simp only [hk, decide_true, if_true]
        exact ⟨fun d e => ⟨p.2, by simp [valueAt, hk], (Option.some.inj e) ▸ hr.1⟩, fun e => by cases e⟩
      · simp only [hk, decide_false, Bool.false_eq_true, if_false]
        have hva : valueAt (p :: kvs) k = valueAt kvs k := by simp [valueAt, hk]
        rw [hva]; exact this

theorem dict_cases {v : Value} {ks ws : List D} {h : Heap} (r : Rep C X h v (.dict ks ws)) : ∃ a, v = .ref a ∧ a ≠ sysModules ∧
    ((∃ kvs : List (Int × Value), h.MapOf (intKind C.prog C.w) a (valueAt kvs) ∧ ks = kvs.map (fun p => .int p.1) ∧ ∀ k, (∀ d, dget (.int k) ks ws = some d → ∃ v, valueAt kvs k = some v ∧ Rep C X h v d) ∧ (dget (.int k) ks ws = none → valueAt kvs k = none)) ∨
     (∃ kvs : List (PySem.Str × Value), h.MapOf (PySem.strKind C.prog C.w) a (valueAt kvs) ∧ ks = kvs.map (fun p => .str p.1.cps.toList) ∧ ∀ k : PySem.Str, (∀ d, dget (.str k.cps.toList) ks ws = some d → ∃ v, valueAt kvs k = some v ∧ Rep C X h v d) ∧ (dget (.str k.cps.toList) ks ws = none → valueAt kvs k = none))) := by
  obtain ⟨a, o, es, ep, rfl, ⟨⟨h1, hk⟩, _⟩, h2, h3, h4, h5⟩ := r
  refine ⟨a, rfl, h1, ?_⟩
  rcases hk with ⟨kvs, k1, k2, k3, rfl⟩ | ⟨kvs, k1, k2, k3, rfl⟩
  · exact .inl ⟨kvs, Heap.DictOf.mapOf ⟨o, es, ep, h2, h3, h4, k1, k2, k3⟩, rfl, fun k => dict_map (intKind C.prog C.w) D.int (fun a b => by
      simp only [dkeq]; by_cases h : a = b
      · simp [h]
      · simp [h]) k2 h5 k⟩
  · exact .inr ⟨kvs, Heap.DictOf.mapOf ⟨o, es, ep, h2, h3, h4, k1, k2, k3⟩, rfl, fun k => dict_map (PySem.strKind C.prog C.w) (fun x : PySem.Str => D.str x.cps.toList) (fun a b => by
      simp only [dkeq]; by_cases h : a = b
      · simp [h]
      · have : ¬ a.cps = b.cps := fun e => h (by obtain ⟨a⟩ := a; obtain ⟨b⟩ := b; exact congrArg PySem.Str.mk e)
        simp [h, this]) k2 h5 k⟩

theorem OpW.idx_dictS {value slice : Expr} {ks ws : List D} {xs : List (List Nat)} {k : List Nat} {d : D} (hx : ks = xs.map D.str) (hne : xs ≠ []) (hd : dget (.str k) ks ws = some d) (h : Q d) (hs : isSlice slice = false := by rfl) : OpW C G [.dict ks ws, .str k] (subT value slice) Q Z := .two fun ρ X s v w o r1 r2 => by
  obtain ⟨a, rfl, ha, hc⟩ := dict_cases r1
  obtain ⟨u, rfl⟩ := r2
  rcases hc with ⟨kvs, hm, hk, hl⟩ | ⟨kvs, hm, hk, hl⟩
  · rw [hx] at hk
    cases xs with
    | nil => exact (hne rfl).elim
    | cons x xs => cases kvs with
      | nil => simp at hk
      | cons p kvs => simp at hk
  · obtain ⟨v, hv, rv⟩ := (hl ⟨k.toArray⟩).1 d hd
    refine PyProof.Rows.tail_any hm.typeIs slot_dict_getitem.lookup ?_ (subscripted_idx hs _ _)
    exact wpAny_getItem_of (k := ⟨k.toArray⟩) (by simp [PySem.strKind, Value.isStrOf]) hm hv (VP.of (Step.tok o.inv _) rv h)
end
end Mine

end
section
open PySem PySem.W PySem.Calls PyProof.Rows PySem.Builtin PySem.Builtin.Str
set_option Elab.async false
set_option maxRecDepth 100000

namespace Mine
section
variable {C : Cx} {G : Fc} {ρ : Vars} {Q : D → Prop} {Z : Exn → Prop} {X : Addr → Prop} {s s' : Shared}
theorem OpW.range1 {n : Int} (h : Q (.rng 0 n 1)) : OpW C G [.int n] (callV (.type "range")) Q Z := .one fun ρ X s v o r1 => by
  obtain ⟨t, rfl⟩ := r1
  refine call_range_1 (VP.of (Step.keeps (dr := s.drawn) o.inv fun b ob e => Heap.get?_push_of_some _ e) ?_ h)
  exact Exists.intro _ ⟨_, _, _, rfl, _, Heap.get?_push_size _ rfl, rfl, rfl, rfl, rfl⟩
theorem OpW.range2 {a b : Int} (h : Q (.rng a b 1)) : OpW C G [.int a, .int b] (callV (.type "range")) Q Z := .two fun ρ X s v w o r1 r2 => by
  obtain ⟨t, rfl⟩ := r1; obtain ⟨u, rfl⟩ := r2
  refine call_range_2 (VP.of (Step.keeps (dr := s.drawn) o.inv fun b ob e => Heap.get?_push_of_some _ e) ?_ h)
  exact Exists.intro _ ⟨_, _, _, rfl, _, Heap.get?_push_size _ rfl, rfl, rfl, rfl, rfl⟩

theorem rngL_one (a b : Int) : rngL a b 1 = (List.range (b - a).toNat).map fun (i : Nat) => a + (i : Int) := by
  unfold rngL
  rw [rangeSize_one]
  split
  · simp
  · rename_i h
    have : (b - a).toNat = 0 := by (lia)
    rw [this]; simp
theorem iter_rng1 (a b : Int) : iterOf (.rng a b 1) = some (((List.range (b - a).toNat).map fun (i : Nat) => a + (i : Int)).map D.int) := by
  simp only [iterOf, rngL_one]; simp
end
end Mine

end
section
open PySem PySem.W PySem.Calls PyProof.Rows PySem.Builtin PySem.Builtin.Str
set_option Elab.async false
set_option maxRecDepth 100000

namespace Mine
noncomputable abbrev tx (s : String) : List Nat := (PySem.Str.ofString s).cps.toList

noncomputable def stB : Option Stmt → List Stmt
  | some (.FunctionDef _ _ b _ _ _ _ _ _ _) => b
  | _ => []
noncomputable def stS : Option Stmt → Scope
  | some (.FunctionDef _ _ _ _ _ _ s _ _ _) => s
  | _ => default
section
variable {C : Cx} {G : Fc} {ρ : Vars} {Q : D → Prop} {Z : Exn → Prop} {P : Fl → Vars → Prop} {Zs : Exn → Vars → Prop}
theorem safe_nil : safe [] ρ = ρ := by simp [safe]
theorem Storable.of (hF : Fun G) {x : PySem.Str} (h : G.env.kindOf x = some .local ∨ G.env.kindOf x = some .cell) : Storable G x := by
  rcases h with h | h
  · exact .inl h
  · exact .inr ⟨h, hF.cel x h⟩
noncomputable def kOk (s : Scope) (x : PySem.Str) : Bool := s.names.lookup x == some .local || s.names.lookup x == some .cell
theorem Storable.sc (hF : Fun G) {sc : Scope} (e : G.env.scope = sc) {x : PySem.Str} (h : kOk sc x = true) : Storable G x := by
  refine .of hF ?_
  unfold kOk at h
  simp only [Bool.or_eq_true, beq_iff_eq] at h
  have : ∀ k, sc.names.lookup x = some k → G.env.kindOf x = some k := fun k hk => by
    show G.env.scope.names.lookup x = some k
    rw [e]; exact hk
  rcases h with h | h
  · exact .inl (this _ h)
  · exact .inr (this _ h)
theorem kind_of {sc : Scope} (e : G.env.scope = sc) {x : PySem.Str} {k : NameKind} (h : sc.names.lookup x = some k) : G.env.kindOf x = some k := by
  show G.env.scope.names.lookup x = some k
  rw [e]; exact h

theorem S1W.asg0 {x : PySem.Str} {xp pos : Pos} {e : Expr} (hF : Fun G) (hk : Storable G x) (h : EvW C G ρ e (kPut P x ρ) (kZ Zs ρ)) (hc : isComp e = false := by rfl) :
    S1W C G [] ρ (.Assign [.Name x xp] e pos) P Zs := S1W.asg hF hk (by simp) hc (by rw [safe_nil]; exact h)
end
end Mine

end
section
open PySem PySem.W PySem.Calls PyProof.Rows PySem.Builtin PySem.Builtin.Str
set_option Elab.async false
set_option maxRecDepth 100000

namespace Mine

/-! digits -/
theorem core_len : ∀ (fuel n : Nat) (ds : List Char), (Nat.toDigitsCore 10 fuel n ds).length ≤ fuel + ds.length
  | 0, n, ds => by simp [Nat.toDigitsCore]
  | fuel + 1, n, ds => by
    unfold Nat.toDigitsCore
    simp only
    split
    · simp; (exact lin0 (by simp +arith only))
    · have := core_len fuel (n / 10) (Nat.digitChar (n % 10) :: ds)
      simp at this; (exact lin1 this (by simp +arith only))
theorem digs_nat (n : Nat) : digs (n : Int) = (Nat.toDigits 10 n).map Char.toNat := by
  unfold digs
  have : toString (n : Int) = String.ofList (Nat.toDigits 10 n) := by
    show (match (n : Int) with | .ofNat m => toString m | .negSucc m => "-" ++ toString (m + 1)) = _
    rfl
  rw [this, PyProof.Rows.signs_ofString, String.toList_ofList]
theorem digs_len (n : Nat) : (digs (n : Int)).length ≤ n + 1 := by
  rw [digs_nat, List.length_map]
  have := core_len (n + 1) n []
  simpa [Nat.toDigits] using this
theorem log2_small {n : Int} (h : n.natAbs < 2 ^ 63) : n.natAbs.log2 < 1920 := by
  by_cases h0 : n.natAbs = 0
  · rw [h0]; decide
  · have := (Nat.log2_lt h0).mpr h; (exact Nat.lt_of_lt_of_le (by assumption) (by decide))

section
variable {C : Cx} {G : Fc} {ρ : Vars} {Q : D → Prop} {Z : Exn → Prop}
theorem EvW.strNl {k : Nat} {pos : Pos} (h : Q (.str [10])) : EvW C G ρ (.Constant (.str (PySem.Str.ofString "\n")) k pos) Q Z := EvW.str h
theorem EvW.strNil {k : Nat} {pos : Pos} (h : Q (.str [])) : EvW C G ρ (.Constant (.str (PySem.Str.ofString "")) k pos) Q Z := EvW.str h
end

/-! one occurrence alone -/
section
variable {C : Cx} {G : Fc} {ρ : Vars} {Q : D → Prop} {Z : Exn → Prop} {O : List PySem.Str}
theorem vs1 {vs : List Value} (h : vs.length = 1) : ∃ a, vs = [a] := List.length_eq_one_iff.mp h
theorem vs2 {vs : List Value} (h : vs.length = 2) : ∃ a b, vs = [a, b] := by
  cases vs with
  | nil => cases h
  | cons a r => obtain ⟨b, rfl⟩ := vs1 (Nat.succ.inj h); exact ⟨a, b, rfl⟩
theorem vs3 {vs : List Value} (h : vs.length = 3) : ∃ a b c, vs = [a, b, c] := by
  cases vs with
  | nil => cases h
  | cons a r => obtain ⟨b, c, rfl⟩ := vs2 (Nat.succ.inj h); exact ⟨a, b, c, rfl⟩
theorem vs4 {vs : List Value} (h : vs.length = 4) : ∃ a b c d, vs = [a, b, c, d] := by
  cases vs with
  | nil => cases h
  | cons a r => obtain ⟨b, c, d, rfl⟩ := vs3 (Nat.succ.inj h); exact ⟨a, b, c, d, rfl⟩
noncomputable def FnIs (C : Cx) (f : Addr) (body : List Stmt) (scope : Scope) (code : Value) (q : PySem.Str) (xs : List PySem.Str) : Prop :=
  ∃ fd, FnAt C f fd body ∧ fd.scope = scope ∧ fd.code = code ∧ fd.qualname = q ∧ ∀ vs : List Value, vs.length = xs.length → bindArgs fd ⟨vs, []⟩ = pure (xs.zip vs)
theorem OpW.fnIs {f : Addr} {body : List Stmt} {scope : Scope} {code : Value} {q : PySem.Str} {xs : List PySem.Str} {ds : List D} (hf : FnIs C f body scope code q xs) (hk : 0 < G.k) (hlen : xs.length = ds.length) (hloc : (xs.all fun x => kOk scope x && !O.contains x) = true)
    (h : BodyW C G.A.handled O scope code q (G.k - 1) (puts xs ds []) body Q Z) : OpW C G ds (callV (.ref f)) Q Z := by
  obtain ⟨fd, h1, rfl, rfl, rfl, h5⟩ := hf
  refine OpW.fn h1 (show G.k = (G.k - 1) + 1 by (exact Nat.le_antisymm (lin1 (subl (G.k) (1)) (by simp +arith only)) (lin1 (subu (a := G.k) (b := 1) (lin1 hk (by simp +arith only))) (by simp +arith only)))) hlen h5 (fun x hx => ?_) h
  have := List.all_eq_true.mp hloc x hx
  simp only [Bool.and_eq_true, kOk, Bool.or_eq_true, beq_iff_eq, Bool.not_eq_true'] at this
  exact ⟨this.1, by simpa using this.2⟩
theorem FnIs.callee {f : Addr} {body : List Stmt} {scope : Scope} {code : Value} {q : PySem.Str} {xs : List PySem.Str} (hf : FnIs C f body scope code q xs) : Callee C (.ref f) := by
  obtain ⟨fd, ⟨⟨oc, od, osl, hK⟩, _⟩, _⟩ := hf
  refine Callee.kin ?_
  simp only [keepIn, hK]
end

end Mine

end
section
open PySem PySem.W PySem.Calls PyProof.Rows PySem.Builtin PySem.Builtin.Str
set_option Elab.async false
set_option maxRecDepth 100000

namespace Mine
section
variable {C : Cx} {G : Fc} {ρ ρ' : Vars} {Q : D → Prop} {Z : Exn → Prop} {O : List PySem.Str} {P : Fl → Vars → Prop} {Zs : Exn → Vars → Prop}
noncomputable def Sub (ρ ρ' : Vars) : Prop := ∀ y d, ρ.lookup y = some d → ρ'.lookup y = some d
theorem Sub.refl : Sub ρ ρ := fun _ _ e => e
theorem Sub.trans {ρ'' : Vars} (a : Sub ρ ρ') (b : Sub ρ' ρ'') : Sub ρ ρ'' := fun y d e => b y d (a y d e)
theorem Sub.nil : Sub [] ρ := fun _ _ e => by simp at e
theorem Sub.cons {x : PySem.Str} {d : D} (h : ρ'.lookup x = some d) (r : Sub ρ ρ') : Sub ((x, d) :: ρ) ρ' := fun y e h' => by
  rw [List.lookup_cons] at h'
  cases hb : y == x with
  | true => rw [hb] at h'; cases h'; rw [eq_of_beq hb]; exact h
  | false => rw [hb] at h'; exact r y e h'
theorem Sub.put {x : PySem.Str} {d : D} (h : Sub ρ ρ') : Sub (Mine.put x d ρ) (Mine.put x d ρ') := fun y e h' => by
  rw [lookup_put] at h' ⊢
  by_cases hy : y = x
  · simpa [hy] using h'
  · rw [if_neg hy] at h' ⊢; exact h y e h'
theorem SW.sub {ss : List Stmt} (h : SW C G O ρ ss P Zs) (hs : Sub ρ ρ') : SW C G O ρ' ss P Zs := fun B X own s o => h B X own s (o.congr hs)

noncomputable def nOk (sc scope : Scope) : Bool := scope.kind == .function && decide (scope.names.map (·.1)).Nodup && scope.names.all fun p => p.2 != .free || sc.names.lookup p.1 == some .cell
theorem NamesOk.of (hF : Fun G) {sc scope : Scope} (e : G.env.scope = sc) (h : nOk sc scope = true) : NamesOk G scope := by
  unfold nOk at h
  simp only [Bool.and_eq_true, beq_iff_eq, decide_eq_true_eq] at h
  refine ⟨h.1.1, h.1.2, fun x hx => ?_⟩
  have := List.all_eq_true.mp h.2 _ hx
  simp only [bne_self_eq_false, Bool.false_or, beq_iff_eq] at this
  have hk : G.env.kindOf x = some .cell := kind_of e this
  exact ⟨hF.cel x hk, .inl hk⟩
noncomputable def reS (sc scope : Scope) : Scope := { scope with names := scope.names.map fun (n, k) => if (k == .free && sc.kind == .function && sc.names.lookup n == some .cell) then (n, .cell) else (n, k) }
theorem cG_scope {sc scope : Scope} {L : Addr} (e : G.env.scope = sc) : (cG G scope L).env.scope = reS sc scope := by
  show relabel scope G.env = reS sc scope
  unfold relabel reS
  rw [← e]; rfl
end
end Mine

end
section
open PySem PySem.W PySem.Calls PyProof.Rows PySem.Builtin PySem.Builtin.Str
set_option Elab.async false
set_option maxRecDepth 100000
namespace Mine
noncomputable def cxOf (prog : Program) (w : World) (s₁ : Shared) (mg mb : PySem.Str → Option Value) (tabs : List (Addr × Addr)) (tq : List (Addr × PySem.Str)) (toml : Addr) (K : Frag) : Cx :=
  { prog := prog, w := w, base := ghostOf s₁.heap tabs, os := s₁.os, mg := mg, mb := mb, tabs := tq, toml := toml, K := K }

theorem GrownAll.mk {h : Heap} : ∀ {tabs : List (Addr × Addr)}, (∀ q ∈ tabs, GrownAt q.2 h) → GrownAll tabs h
  | [], _ => trivial
  | q :: r, k => ⟨k q (.head _), GrownAll.mk fun q hq => k q (.tail _ hq)⟩
end Mine

end
section
open PySem PySem.W PySem.Calls PyProof.Rows PySem.Builtin PySem.Builtin.Str
set_option Elab.async false
set_option maxRecDepth 100000
namespace Mine

section
variable {C : Cx} {G : Fc} {B : Heap} {X : Addr → Prop} {O : List PySem.Str} {ρ ρ' : Vars} {own own' : List (PySem.Str × Addr)} {s s' : Shared}

structure XCh (C : Cx) (B : Heap) (e : Addr) (h h' : Heap) : Prop where
  keep : ∀ b o, h.get? b = some o → b ≠ e → o.cls ≠ .type "frame" → ¬ (o.cls = .type "traceback" ∧ (∃ vs, o.data = .fields vs) ∧ B.get? b = none ∧ C.base.get? b = none) → h'.get? b = some o
  frame : ∀ b o, h.get? b = some o → b ≠ e → o.cls = .type "frame" → (∃ sl, h'.get? b = some { o with slots := sl }) ∧ (∀ ob, C.base.get? b = some ob → h'.get? b = some o)
  exc : ∀ o vs, h.get? e = some o → o.data = .fields vs → ∃ o' vs', h'.get? e = some o' ∧ o'.cls = o.cls ∧ o'.data = .fields vs' ∧ vs'[0]? = vs[0]? ∧ vs'[2]? = vs[2]? ∧ vs'.size = vs.size

theorem XCh.trans {e : Addr} {h₁ h₂ h₃ : Heap} (x : XCh C B e h₁ h₂) (y : XCh C B e h₂ h₃) : XCh C B e h₁ h₃ where
  keep b o h hb hf hn := y.keep b o (x.keep b o h hb hf hn) hb hf hn
  frame b o h hb hf := by
    obtain ⟨⟨sl, h1⟩, h2⟩ := x.frame b o h hb hf
    obtain ⟨⟨sl', h3⟩, h4⟩ := y.frame b _ h1 hb hf
    refine ⟨⟨sl', h3⟩, fun ob hob => ?_⟩
    exact (y.frame b o (h2 ob hob) hb hf).2 ob hob
  exc o vs h hd := by
    obtain ⟨o', vs', h1, h2, h3, h4, h5, h6⟩ := x.exc o vs h hd
    obtain ⟨o'', vs'', g1, g2, g3, g4, g5, g6⟩ := y.exc o' vs' h1 h3
    exact ⟨o'', vs'', g1, g2.trans h2, g3, g4.trans h4, g5.trans h5, g6.trans h6⟩

structure XObj (C : Cx) (B : Heap) (e : Addr) (h : Heap) (c : Value) : Prop where
  obj : ∃ o vs, h.get? e = some o ∧ o.cls = c ∧ o.data = .fields vs
  b : B.get? e = none
  base : C.base.get? e = none
  cls : c ≠ .none ∧ c ≠ .type "frame" ∧ c ≠ .type "traceback"

variable {e : Addr} {c : Value} {h' : Heap}

theorem XCh.other (x : XCh C B e s.heap h') (q : XObj C B e s.heap c) {b : Addr} {o : Obj} (hb : s.heap.get? b = some o) (hd : ∀ vs, o.data ≠ .fields vs) : ∃ sl, h'.get? b = some { o with slots := sl } := by
  have hne : b ≠ e := fun p => by
    obtain ⟨o', vs, h1, _, h3⟩ := q.obj
    rw [p, h1] at hb; cases hb; exact hd vs h3
  by_cases hf : o.cls = .type "frame"
  · exact (x.frame b o hb hne hf).1
  · exact ⟨o.slots, x.keep b o hb hne hf fun p => by obtain ⟨_, ⟨vs, h⟩, _⟩ := p; exact hd vs h⟩
theorem XCh.classed (x : XCh C B e s.heap h') {b : Addr} {o : Obj} (hb : s.heap.get? b = some o) (hne : b ≠ e) (h1 : o.cls ≠ .type "frame") (h2 : o.cls ≠ .type "traceback") : h'.get? b = some o :=
  x.keep b o hb hne h1 fun p => h2 p.1

theorem Ns.xch (x : XCh C B e s.heap h') (q : XObj C B e s.heap c) {a : Addr} {m : PySem.Str → Option Value} (y : s.heap.Ns a m) : h'.Ns a m := by
  obtain ⟨o, es, ep, h1, hd, r⟩ := y
  obtain ⟨sl, h2⟩ := x.other q h1 (by rw [hd]; simp)
  exact ⟨_, es, ep, h2, hd, r⟩
theorem IsCell.xch (x : XCh C B e s.heap h') (q : XObj C B e s.heap c) {a : Addr} {v : Option Value} (y : s.heap.IsCell a v) : h'.IsCell a v := by
  obtain ⟨o, h1, hd⟩ := y
  obtain ⟨sl, h2⟩ := x.other q h1 (by rw [hd]; simp)
  exact ⟨_, h2, hd⟩
theorem VarAt.xch (x : XCh C B e s.heap h') (q : XObj C B e s.heap c) {env : Env} {y : PySem.Str} {v : Value} (a : VarAt env s.heap y v) : VarAt env h' y v := by
  rcases a with ⟨hk, m, hn, hv⟩ | ⟨hk, a, hc, hv⟩
  · exact .inl ⟨hk, m, Ns.xch x q hn, hv⟩
  · exact .inr ⟨hk, a, hc, IsCell.xch x q hv⟩
theorem datCls.nt {C : Cx} {c : Value} (h : datCls C c) : c ≠ .type "traceback" := by
  rcases h with rfl | rfl | rfl | rfl | rfl | rfl | rfl | rfl <;> simp
theorem XObj.ne (q : XObj C B e s.heap c) {b : Addr} {o : Obj} (hb : s.heap.get? b = some o) (hc : o.cls ≠ c) : b ≠ e := fun p => by
  obtain ⟨o', vs, h1, h2, h3⟩ := q.obj
  rw [p, h1] at hb; cases hb; exact hc h2

noncomputable def excCls (C : Cx) (c : Value) : Prop := c = .ref C.toml ∨ ¬ datCls C c
theorem Rep.xch (x : XCh C B e s.heap h') (q : XObj C B e s.heap c) (hc : excCls C c) {Y : Addr → Prop} {v : Value} {d : D} (r : Rep C Y s.heap v d) : Rep C Y h' v d := by
  have hne : ∀ {b : Addr} {o : Obj}, s.heap.get? b = some o → Dat C o → o.cls ≠ .ref C.toml → b ≠ e := fun hb hd hn => q.ne hb fun p => by
    rcases hc with hc | hc
    · exact hn (p.trans hc)
    · exact hc (p ▸ hd.2)
  refine r.moveX (fun b o hb hd hn _ => x.classed hb (hne hb hd hn) hd.2.ne.2 hd.2.nt) (fun b o vs hb hcl hd => ?_) fun _ _ _ q => q
  by_cases hbe : b = e
  · subst hbe
    obtain ⟨o', vs', h1, h2, h3, h4, _⟩ := x.exc o vs hb hd
    exact ⟨o', vs', h1, h2.trans hcl, h3, h4⟩
  · exact ⟨o, vs, x.classed hb hbe (by rw [hcl]; simp) (by rw [hcl]; simp), hcl, hd, rfl⟩
theorem Reps.xch (x : XCh C B e s.heap h') (q : XObj C B e s.heap c) (hc : excCls C c) {Y : Addr → Prop} : ∀ {vs : List Value} {ds : List D}, Reps C Y s.heap vs ds → Reps C Y h' vs ds
  | [], [], r => r
  | _ :: _, _ :: _, r => ⟨Rep.xch x q hc r.1, Reps.xch x q hc r.2⟩
  | [], _ :: _, r => r.elim
  | _ :: _, [], r => r.elim
theorem PL.xch (x : XCh C B e s.heap h') (q : XObj C B e s.heap c) {a : Addr} {vs : Array Value} (y : s.heap.PlainList a vs) : h'.PlainList a vs := by
  obtain ⟨n, h1⟩ := y
  obtain ⟨sl, h2⟩ := x.other q h1 (by simp)
  have hne : a ≠ e := fun p => by
    obtain ⟨o', ws, g1, _, g3⟩ := q.obj
    rw [p, g1] at h1; cases h1; cases g3
  exact ⟨n, x.classed h1 hne (by simp) (by simp)⟩

theorem excCls.dat (hc : excCls C c) {k : Value} (hk : datCls C k) (hn : k ≠ .ref C.toml) : k ≠ c := fun p => hc.elim (fun h => hn (p.trans h)) fun h => h (p ▸ hk)
theorem Inv.xch (i : Inv C s) (x : XCh C B e s.heap h') (q : XObj C B e s.heap c) (hc : excCls C c) : Inv C { s with heap := h' } where
  ok := i.ok
  stays b o hb := by
    have h1 := i.stays b o hb
    have hne : b ≠ e := fun p => by rw [p, q.base] at hb; cases hb
    by_cases hf : o.cls = .type "frame"
    · exact (x.frame b o h1 hne hf).2 o hb
    · exact x.keep b o h1 hne hf fun p => by rw [p.2.2.2] at hb; cases hb
  tabs p hp := by
    obtain ⟨ps, h1, h2, h3⟩ := i.tabs p hp
    have hne : p.1 ≠ e := q.ne h1 fun w => q.cls.1 w.symm
    refine ⟨ps, x.classed h1 hne (by simp) (by simp), h2, fun pos cv hcv => ?_⟩
    obtain ⟨a, o, vs, t, e1, hn, e2, e3, e4, e5⟩ := h3 pos cv hcv
    have hae : a ≠ e := q.ne e2 (by rw [e5]; exact hc.dat (.inr (.inr (.inr (.inr (.inr (.inr (.inr rfl))))))) (by simp))
    exact ⟨a, o, vs, t, e1, hn, x.classed e2 hae (by rw [e5]; simp) (by rw [e5]; simp), e3, e4, e5⟩
  gens := i.gens
  os := i.os

theorem FrAt.xch (x : XCh C B e s.heap h') (q : XObj C B e s.heap c) {en : Env} (f : FrAt C s.heap en) : FrAt C h' en := by
  obtain ⟨hk, L, o, es, ep, h1, h2, h3, h4, h5⟩ := f
  obtain ⟨sl, h6⟩ := x.other q h3 (by rw [h5]; simp)
  exact ⟨hk, L, _, es, ep, h1, h2, h6, h4, h5⟩
theorem GOk.xch (x : XCh C B e s.heap h') (q : XObj C B e s.heap c) (g : GOk C G s.heap) : GOk C G h' where
  depth := g.depth
  units := g.units
  frames := by obtain ⟨fe, a, b, r⟩ := g.frames; exact ⟨fe, a, b, fun en he => (r en he).xch x q⟩
  kind := g.kind
  glob := g.glob
  blt := g.blt
  loc := by obtain ⟨m, a⟩ := g.loc; exact ⟨m, Ns.xch x q a⟩
  locB := g.locB
  cells y a h := by obtain ⟨⟨v, p⟩, r⟩ := g.cells y a h; exact ⟨⟨v, IsCell.xch x q p⟩, r⟩
  inj := g.inj
  hnd u hu := by
    obtain ⟨a, o, vs, h1, h2, ⟨k, h3, h4, h5⟩, h6, h7⟩ := g.hnd u hu
    by_cases hae : a = e
    · subst hae
      obtain ⟨o', vs', g1, g2, g3, g4, g5, g6⟩ := x.exc o vs h2 h6
      exact ⟨a, o', vs', h1, g1, ⟨k, g2.trans h3, h4, h5⟩, g3, fun w => g5.trans (h7 w)⟩
    · exact ⟨a, o, vs, h1, x.classed h2 hae (by rw [h3]; exact h5.1) (by rw [h3]; exact h5.2), ⟨k, h3, h4, h5⟩, h6, h7⟩

theorem OkS.xch (o : OkS C G B X O ρ own s) (x : XCh C B e s.heap h') (q : XObj C B e s.heap c) (hc : excCls C c) : OkS C G B X O ρ own { s with heap := h' } where
  inv := o.inv.xch x q hc
  g := o.g.xch x q
  kb b ob ht hb := by
    obtain ⟨k1, sl, k2⟩ := o.kb b ob ht hb
    have hne : b ≠ e := fun p => by rw [p, q.b] at hb; cases hb
    by_cases hf : ob.cls = .type "frame"
    · obtain ⟨⟨sl', k3⟩, _⟩ := x.frame b _ k2 hne hf
      exact ⟨fun w => (w hf).elim, sl', k3⟩
    · have := x.keep b ob (k1 hf) hne hf fun p => by rw [p.2.2.1] at hb; cases hb
      exact ⟨fun _ => this, ob.slots, this⟩
  bt := o.bt
  bb := o.bb
  bL := o.bL
  bC := o.bC
  bO := o.bO
  nX := o.nX
  xH a ha := by
    obtain ⟨ob, h1, hv, hk⟩ := o.xH a ha
    have hd := MutB.dat hv hk
    refine ⟨ob, x.classed h1 ?_ hd.2.ne.2 hd.2.nt, hv, hk⟩
    rcases hk with hk | hk | ⟨hk, ob', hb⟩
    · exact q.ne h1 (by rw [hk]; exact hc.dat (.inl rfl) (by simp))
    · exact q.ne h1 (by rw [hk]; exact hc.dat (.inr (.inr (.inr (.inr (.inr (.inl rfl)))))) (by simp))
    · intro p; rw [p, q.b] at hb; cases hb
  oN := o.oN
  oH p hp := by obtain ⟨vs, h⟩ := o.oH p hp; exact ⟨vs, PL.xch x q h⟩
  oI := o.oI
  vars y d h := by
    have := o.vars y d h
    refine ⟨fun hm => ?_, fun hm => ?_⟩
    · obtain ⟨a, ds, vs, h1, h2, h3, h4, h5⟩ := this.1 hm
      exact ⟨a, ds, vs, h1, h2, h3.xch x q, PL.xch x q h4, Reps.xch x q hc h5⟩
    · obtain ⟨w, h1, h2⟩ := this.2 hm
      exact ⟨w, h1.xch x q, Rep.xch x q hc h2⟩

theorem OkS.funFrames (o : OkS C G B X O ρ own s) : ∃ fe, G.A.frames = some (fe :: G.outer) ∧ fe.frame = G.env.frame ∧ s.heap.FunFrames C.base (fe :: G.outer) ∧
    ∀ b ∈ (fe :: G.outer).filterMap (·.frame), ∃ ob, s.heap.get? b = some ob ∧ ob.cls = .type "frame" ∧ C.base.get? b = none := by
  obtain ⟨fe, h1, h2, h3⟩ := o.g.frames
  refine ⟨fe, h1, h2, ?_, fun b hb => ?_⟩
  · generalize fe :: G.outer = l at h3
    clear h1 h2
    induction l with
    | nil => trivial
    | cons a r ih =>
      obtain ⟨hk, L, ob, es, ep, g1, g2, g3, g4, g5⟩ := h3 a (.head _)
      exact ⟨hk, ⟨L, ob, g1, g2, g3, by rw [g5]; simp⟩, ih fun en he => h3 en (.tail _ he)⟩
  · obtain ⟨en, he, hb⟩ := List.mem_filterMap.mp hb
    obtain ⟨hk, L, ob, es, ep, g1, g2, g3, g4, g5⟩ := h3 en he
    rw [g1] at hb; cases hb
    exact ⟨ob, g3, g4, g2⟩
theorem frameOf_as {e e' : Env} (h : e.frame = e'.frame) : PySem.frameOf e = PySem.frameOf e' := by unfold PySem.frameOf; rw [h]

theorem entry_new {E : Value → Shared → Prop} (o : OkS C G B X O ρ own s) {oe : Obj} {vs : Array Value} {head : Value} {hadNext : Bool} {L : Addr} {Q : Unit → Shared → Prop} (hL : G.env.frame = some L)
    (he : s.heap.get? e = some oe) (hd : oe.data = .fields vs) (hsz : 1 < vs.size) (q : XObj C B e s.heap oe.cls)
    (h : ∀ h' T oT ts, XCh C B e s.heap h' → (∃ o' vs', h'.get? e = some o' ∧ o'.data = .fields vs' ∧ vs'[1]? = some (.ref T)) → s.heap.get? T = none → h'.get? T = some oT → oT.data = .fields ts → 3 < ts.size → oT.cls = .type "traceback" → Q () { s with heap := h' }) :
    wpAny C.M G.A (do let a ← frameOf G.env; let pl ← entryPlaceOf L hadNext; let b ← EntryCells.newEntry head a .none (rawInt L) .none pl; setField (.ref e) 1 b) Q E s := by
  obtain ⟨fe, ht, hfe, hl, hcl⟩ := o.funFrames
  have hene : e ∉ (fe :: G.outer).filterMap (·.frame) := fun hm => by
    obtain ⟨ob, h1, h2, _⟩ := hcl e hm
    rw [he] at h1; cases h1; exact q.cls.2.1 h2
  rw [frameOf_as hfe.symm]
  refine wpAny_bind (wpAny_frameOf_fun ht hl (hfe.trans hL) fun h₁ hs₁ => ?_)
  refine wpAny_bind (wpAny_entryPlaceOf fun pl hpl => ?_)
  unfold EntryCells.newEntry newFields
  refine wpAny_bind (wpAny_newObj_type ?_ (hpl.sizeOk5 _ _ _ _ _))
  have he₁ : h₁.get? e = some oe := (hs₁.2.1 e hene).trans he
  generalize hT : ({ cls := .type "traceback", dict := none, data := .fields ([head, .ref L, .none, rawInt L, .none] ++ (if pl.isEmpty then List.replicate 6 Value.none else pl)).toArray } : Obj) = oT
  have he₂ := Heap.get?_push_of_some (h := h₁) oT he₁
  refine wpAny_setField he₂ hd hsz ?_
  have hTe : h₁.objs.size ≠ e := Nat.ne_of_gt (Heap.lt_size he₁)
  have hd₃ := Obj.data_mapFields hd (·.setIfInBounds 1 (Value.ref h₁.objs.size))
  have he₃ := Heap.get?_update_self (Obj.mapFields (·.setIfInBounds 1 (Value.ref h₁.objs.size))) he₂ (Obj.isFreed_of_fields hd₃)
  have hT₃ := (Heap.get?_update_other (h₁.push oT) (Obj.mapFields (·.setIfInBounds 1 (Value.ref h₁.objs.size))) (Ne.symm hTe)).trans (Heap.get?_push_size h₁ (by rw [← hT]; rfl))
  have keep : ∀ b ob, b ≠ e → h₁.get? b = some ob → ((h₁.push oT).update e (Obj.mapFields (·.setIfInBounds 1 (Value.ref h₁.objs.size)))).get? b = some ob := fun b ob hbe hb => by
    rw [Heap.get?_update_other _ _ (Ne.symm hbe)]
    exact Heap.get?_push_of_some _ hb
  refine h _ h₁.objs.size oT _ ⟨fun b ob hb hbe hf _ => ?_, fun b ob hb hbe hf => ⟨?_, fun ob' hob => ?_⟩, fun ob ws hb hd' => ?_⟩ ⟨_, _, he₃, hd₃, by simp [hsz]⟩ (by rw [hs₁.1]; exact get_size _) hT₃ (by rw [← hT]) (by simp only [List.size_toArray, List.length_append, List.length_cons, List.length_nil]; (exact lin0 (by simp +arith only))) (by rw [← hT])
  · refine keep b ob hbe ((hs₁.2.1 b fun hm => ?_).trans hb)
    obtain ⟨ob', h1, h2, _⟩ := hcl _ hm
    rw [hb] at h1; cases h1; exact hf h2
  · obtain ⟨sl, h1⟩ := hs₁.2.2 b ob hb
    exact ⟨sl, keep b _ hbe h1⟩
  · refine keep b ob hbe ((hs₁.2.1 b fun hm => ?_).trans hb)
    obtain ⟨_, _, _, h3⟩ := hcl _ hm
    rw [h3] at hob; cases hob
  · rw [he] at hb; cases hb
    rw [hd] at hd'; cases hd'
    exact ⟨_, _, he₃, Obj.cls_mapFields _ _, hd₃, by rw [Array.getElem?_setIfInBounds_ne (by decide)], by rw [Array.getElem?_setIfInBounds_ne (by decide)], by simp⟩

theorem excName.cls {n : String} (h : excName n = true) : (Value.type n ≠ .none ∧ Value.type n ≠ .type "frame" ∧ Value.type n ≠ .type "traceback") ∧ excCls C (.type n) := by
  simp only [excName, List.contains_cons, List.contains_nil, Bool.not_eq_true', Bool.or_eq_false_iff, beq_eq_false_iff_ne, Bool.or_false] at h
  obtain ⟨h1, h2, h3, h4, h5, h6, h7, h8, h9⟩ := h
  refine ⟨⟨by simp, by simpa using h1, by simpa using h2⟩, .inr ?_⟩
  rintro (q | q | q | q | q | q | q | q)
  · exact h3 (by simpa using q)
  · exact h4 (by simpa using q)
  · exact h5 (by simpa using q)
  · simp at q
  · exact h6 (by simpa using q)
  · exact h7 (by simpa using q)
  · exact h8 (by simpa using q)
  · exact h9 (by simpa using q)

theorem XAt.obj {ev : Value} {x : Exn} {t : Bool} (r : XAt C B s.heap ev x t) : ∃ a o vs, ev = .ref a ∧ s.heap.get? a = some o ∧ o.data = .fields vs ∧ XObj C B a s.heap o.cls ∧ excCls C o.cls := by
  obtain ⟨a, o, vs, h1, h2, h3, h4, h5, h6, h7, h8⟩ := r
  have : (o.cls ≠ .none ∧ o.cls ≠ .type "frame" ∧ o.cls ≠ .type "traceback") ∧ excCls C o.cls := by
    cases x with
    | bi n => rw [h7.1.1]; exact excName.cls h7.1.2
    | toml m => rw [h7.1]; exact ⟨⟨by simp, by simp, by simp⟩, .inl rfl⟩
  exact ⟨a, o, vs, h1, h4, h5, ⟨⟨o, vs, h4, rfl, h5⟩, h2, h3, this.1⟩, this.2⟩
theorem XAt.xch {a : Addr} {x : Exn} {t : Bool} (r : XAt C B s.heap (.ref a) x t) (y : XCh C B a s.heap h')
    (hT : ∃ T oT ts o' vs', h'.get? a = some o' ∧ o'.data = .fields vs' ∧ vs'[1]? = some (.ref T) ∧ B.get? T = none ∧ C.base.get? T = none ∧ T ≠ a ∧ h'.get? T = some oT ∧ oT.data = .fields ts ∧ 3 < ts.size ∧ oT.cls = .type "traceback") : XAt C B h' (.ref a) x true := by
  obtain ⟨a', o, vs, h1, h2, h3, h4, h5, h6, h7, h8⟩ := r
  cases h1
  obtain ⟨T, oT, ts, o', vs', g1, g2, g3, g4, g5, g6, g7, g8, g9, g10⟩ := hT
  obtain ⟨o2, vs2, k1, k2, k3, k4, k5, k6⟩ := y.exc o vs h4 h5
  rw [g1] at k1; cases k1
  rw [g2] at k3; cases k3
  refine ⟨a, o', vs', rfl, h2, h3, g1, g2, by rw [k6]; exact h6, ?_, .inr ⟨T, oT, ts, g3, g4, g5, g6, g7, g8, g9, g10⟩⟩
  cases x with
  | bi n => exact ⟨⟨k2.trans h7.1.1, h7.1.2⟩, k5.trans h7.2⟩
  | toml m =>
    obtain ⟨c1, tt, u, c2, ot, e1, e2, n, e3⟩ := h7
    refine ⟨k2.trans c1, tt, u, k4.trans c2, ot, y.classed e1 (fun p => ?_) (by rw [e2]; simp) (by rw [e2]; simp), e2, n, e3⟩
    rw [p, h4] at e1; cases e1; rw [c1] at e2; simp at e2

theorem noteW {ev : Value} {x : Exn} {t : Bool} {E : Value → Shared → Prop} (hF : G.env.frame = some G.env.locals) (o : OkS C G B X O ρ own s) (r : XAt C B s.heap ev x t) :
    wpAny C.M G.A (noteFrame ev G.env) (fun _ s' => OkS C G B X O ρ own s' ∧ XAt C B s'.heap ev x true) E s := by
  obtain ⟨a, oe, vs, rfl, he, hd, q, hc⟩ := r.obj
  have r' := r
  obtain ⟨a', o', vs', h1, h2, h3, h4, h5, h6, h7, h8⟩ := r
  cases h1
  rw [he] at h4; cases h4
  rw [hd] at h5; cases h5
  have fin : ∀ h' T oT ts, XCh C B a s.heap h' → (∃ o' vs', h'.get? a = some o' ∧ o'.data = .fields vs' ∧ vs'[1]? = some (.ref T)) → s.heap.get? T = none → h'.get? T = some oT → oT.data = .fields ts → 3 < ts.size → oT.cls = .type "traceback" →
      OkS C G B X O ρ own { s with heap := h' } ∧ XAt C B h' (.ref a) x true := fun h' T oT ts y hx hT g1 g2 g3 g4 => by
    obtain ⟨o', vs', k1, k2, k3⟩ := hx
    refine ⟨o.xch y q hc, r'.xch y ⟨T, oT, ts, o', vs', k1, k2, k3, o.freshB hT, o.inv.baseNone hT, fun p => ?_, g1, g2, g3, g4⟩⟩
    rw [p, he] at hT; cases hT
  unfold noteFrame
  simp only [hF]
  rcases h8 with ⟨_, h8⟩ | ⟨T, oT, ts, g1, g2, g3, g4, g5, g6, g7, g8⟩
  · refine wpAny_bind (wpAny_field he hd h8 ?_)
    rw [if_neg (by decide)]
    exact entry_new o hF he hd (by (exact lin1 h6 (by simp +arith only))) q fin
  · refine wpAny_bind (wpAny_field he hd g1 ?_)
    rw [if_pos (show (Value.ref T != Value.none) = true from by simp)]
    refine wpAny_bind (wpAny_field g5 g6 (Array.getElem?_eq_getElem g7) ?_)
    split
    · refine wpAny_pure ⟨o, ⟨a, oe, vs, rfl, h2, h3, he, hd, h6, h7, .inr ⟨T, oT, ts, g1, g2, g3, g4, g5, g6, g7, g8⟩⟩⟩
    · refine wpAny_bind (wpAny_setField g5 g6 g7 ?_)
      have other : ∀ b, b ≠ T → (s.heap.update T (Obj.mapFields (·.setIfInBounds 3 Value.none))).get? b = s.heap.get? b := fun b hb => Heap.get?_update_other _ _ (Ne.symm hb)
      have y1 : XCh C B a s.heap (s.heap.update T (Obj.mapFields (·.setIfInBounds 3 Value.none))) := by
        refine ⟨fun b ob hb hbe hf hn => (other b fun p => ?_).trans hb, fun b ob hb hbe hf => ?_, fun ob ws hb hw => ⟨ob, ws, (other a (Ne.symm g4)).trans hb, rfl, hw, rfl, rfl, rfl⟩⟩
        · subst p; rw [g5] at hb; cases hb; exact hn ⟨g8, ⟨ts, g6⟩, g2, g3⟩
        · have : (s.heap.update T (Obj.mapFields (·.setIfInBounds 3 Value.none))).get? b = some ob := (other b fun p => by subst p; rw [g5] at hb; cases hb; rw [g8] at hf; simp at hf).trans hb
          exact ⟨⟨ob.slots, this⟩, fun _ _ => this⟩
      have o1 := o.xch y1 q hc
      have q1 : XObj C B a (s.heap.update T (Obj.mapFields (·.setIfInBounds 3 Value.none))) oe.cls := ⟨⟨oe, vs, (other a (Ne.symm g4)).trans he, rfl, hd⟩, q.b, q.base, q.cls⟩
      refine entry_new (s := { s with heap := s.heap.update T (Obj.mapFields (·.setIfInBounds 3 Value.none)) }) o1 hF ((other a (Ne.symm g4)).trans he) hd (by (exact lin1 h6 (by simp +arith only))) q1 fun h' T' oT' ts' y hx hT k1 k2 k3 k4 => ?_
      refine fin h' T' oT' ts' (y1.trans y) hx ?_ k1 k2 k3 k4
      by_cases hTT : T' = T
      · subst hTT
        have := Heap.get?_update_self (Obj.mapFields (·.setIfInBounds 3 Value.none)) g5 (Obj.isFreed_of_fields (Obj.data_mapFields g6 _))
        rw [show ({ s with heap := s.heap.update T' (Obj.mapFields (·.setIfInBounds 3 Value.none)) } : Shared).heap.get? T' = _ from this] at hT
        cases hT
      · exact (other T' hTT).symm.trans hT

theorem flightW {ev : Value} {x : Exn} {fr : Option Addr} {E : Value → Shared → Prop} (o : OkS C G B X O ρ own s) (r : XAt C B s.heap ev x true) :
    wpAny C.M G.A (setFlight ev fr) (fun _ s' => OkS C G B X O ρ own s' ∧ XAt C B s'.heap ev x true) E s := by
  obtain ⟨a, oe, vs, rfl, he, hd, q, hc⟩ := r.obj
  have r' := r
  obtain ⟨a', o', vs', h1, h2, h3, h4, h5, h6, h7, h8⟩ := r
  cases h1
  rw [he] at h4; cases h4
  rw [hd] at h5; cases h5
  rcases h8 with ⟨h8, _⟩ | ⟨T, oT, ts, g1, g2, g3, g4, g5, g6, g7, g8⟩
  · cases h8
  unfold setFlight
  refine wpAny_bind (wpAny_field he hd g1 ?_)
  rw [if_pos (show (Value.ref T != Value.none) = true from by simp)]
  refine wpAny_setField g5 g6 g7 ?_
  generalize fr.elim Value.none (fun f => rawInt f) = w
  have other : ∀ b, b ≠ T → (s.heap.update T (Obj.mapFields (·.setIfInBounds 3 w))).get? b = s.heap.get? b := fun b hb => Heap.get?_update_other _ _ (Ne.symm hb)
  have y1 : XCh C B a s.heap (s.heap.update T (Obj.mapFields (·.setIfInBounds 3 w))) := by
    refine ⟨fun b ob hb hbe hf hn => (other b fun p => ?_).trans hb, fun b ob hb hbe hf => ?_, fun ob ws hb hw => ⟨ob, ws, (other a (Ne.symm g4)).trans hb, rfl, hw, rfl, rfl, rfl⟩⟩
    · subst p; rw [g5] at hb; cases hb; exact hn ⟨g8, ⟨ts, g6⟩, g2, g3⟩
    · have : (s.heap.update T (Obj.mapFields (·.setIfInBounds 3 w))).get? b = some ob := (other b fun p => by subst p; rw [g5] at hb; cases hb; rw [g8] at hf; simp at hf).trans hb
      exact ⟨⟨ob.slots, this⟩, fun _ _ => this⟩
  refine ⟨o.xch y1 q hc, r'.xch y1 ⟨T, _, _, oe, vs, (other a (Ne.symm g4)).trans he, hd, g1, g2, g3, g4, Heap.get?_update_self _ g5 (Obj.isFreed_of_fields (Obj.data_mapFields g6 _)), Obj.data_mapFields g6 _, by simpa using g7, by rw [Obj.cls_mapFields]; exact g8⟩⟩

theorem NoteOk.all {Zs : Exn → Vars → Prop} (hF : Fun G) : NoteOk C G O Zs := fun B X ev s => by
  refine ⟨fun t q => ?_, fun q => ?_⟩
  · obtain ⟨ρ', own', o, x, r, z⟩ := q
    exact wpAny_mono (noteW hF.fr o r) (fun _ s' p => ⟨ρ', own', p.1, x, p.2, z⟩) fun _ _ p => p
  · obtain ⟨ρ', own', o, x, r, z⟩ := q
    have r' := r
    obtain ⟨a, oe, vs, rfl, he, hd, q, hc⟩ := r.obj
    obtain ⟨a', o', vs', h1, h2, h3, h4, h5, h6, h7, h8⟩ := r'
    cases h1
    rw [he] at h4; cases h4
    rw [hd] at h5; cases h5
    rcases h8 with ⟨h8, _⟩ | ⟨T, oT, ts, g1, g2, g3, g4, g5, g6, g7, g8⟩
    · cases h8
    refine wpAny_bind (wpAny_field he hd g1 ?_)
    rw [if_neg (show ¬ ((Value.ref T == Value.none) = true) from by simp)]
    refine wpAny_mono (flightW o r) (fun _ s' p => ?_) fun _ _ p => p
    exact SX.f ⟨ρ', own', p.1, x, p.2, z⟩
theorem LeaveOk.all {Zs : Exn → Vars → Prop} (hF : Fun G) : LeaveOk C G O Zs := fun B X ev s q => by
  obtain ⟨ρ', own', o, x, r, z⟩ := q
  unfold leaving
  refine wpAny_bind (wpAny_mono (noteW hF.fr o r) (fun _ s' p => ?_) fun _ _ p => p)
  exact wpAny_mono (flightW p.1 p.2) (fun _ s'' w => ⟨ρ', own', w.1, x, w.2, z⟩) fun _ _ w => w
end
end Mine

end
section
open PySem PySem.W PySem.Calls PyProof.Rows PySem.Builtin PySem.Builtin.Str
set_option Elab.async false
set_option maxRecDepth 100000
namespace Mine

section
variable {C : Cx} {G : Fc} {B : Heap} {X : Addr → Prop} {O : List PySem.Str} {ρ ρ' : Vars} {own own' : List (PySem.Str × Addr)} {s s' : Shared} {Q : D → Prop} {Z : Exn → Prop} {P : Fl → Vars → Prop} {Zs : Exn → Vars → Prop}

theorem XP.new {cls : String} {h' : Heap} {tk : Nat} {e : Addr} (i : Inv C s) (hx : Heap.NewExc s.heap h' e cls) (hn : excName cls = true) (z : Z (.bi cls)) : XP C s Z (.ref e) { s with heap := h', toks := tk } := by
  obtain ⟨ob, t, h1, h2, h3⟩ := hx.there
  refine ⟨Step.keeps (tk := tk) (dr := s.drawn) i hx.keeps, .bi cls, ⟨e, ob, _, rfl, hx.new, i.baseNone hx.new, h1, h3, by simp, ⟨⟨h2, hn⟩, by simp⟩, .inl ⟨rfl, by simp⟩⟩, z⟩
theorem OpW.idx_str_oob {value slice : Expr} {l : List Nat} {k : Int} (hh : G.A.handled = none) (h0 : (l.length : Int) ≤ k) (hk : k < 2 ^ 63) (z : Z (.bi "IndexError")) (hs : isSlice slice = false := by rfl) : OpW C G [.str l, .int k] (subT value slice) Q Z := .two fun ρ X s v w o r1 r2 => by
  obtain ⟨t, rfl⟩ := r1; obtain ⟨u, rfl⟩ := r2
  have hlen : (⟨l.toArray⟩ : PySem.Str).length = l.length := by simp [PySem.Str.length]
  refine PyProof.Rows.tail_any (typeIs_str s _ t) PySem.F.slot_str_getitem.lookup ?_ (subscripted_idx hs _ _)
  refine getItem_meets (typeIs_str s _ t) (by decide) F.slot_str_getitem F.entry_str_getitem (F.args_str_getitem_2 _ _) (raises_str_getitem _ k t u (by simp; (lia)) (by rw [hlen, seqIndex_none (by (lia))]; rfl)) ⟨hh, fun h' tk e hx => ?_⟩
  exact XP.new o.inv hx (by decide) z

noncomputable def Fc.mk' (G : Fc) (ev : Value) (ch : Bool) : Fc := { G with A := G.A.mark (some ev), ch := ch }
theorem Fun.mk' (hF : Fun G) (ev : Value) (ch : Bool) : Fun (G.mk' ev ch) := ⟨hF.fr, hF.top, hF.cel⟩
noncomputable def Exn.ch : Exn → Bool
  | .bi _ => true
  | .toml _ => false
theorem OkS.mark {ev : Value} {x : Exn} {t : Bool} (o : OkS C G B X O ρ own s) (r : XAt C B s.heap ev x t) : OkS C (G.mk' ev x.ch) B X O ρ own s :=
  { o with
    g := { o.g with
      hnd := fun u hu => by
        have : u = ev := by
          have : some ev = some u := hu
          cases this; rfl
        subst this
        obtain ⟨a, oe, vs, h1, he, hd, q, hc⟩ := r.obj
        refine ⟨a, oe, vs, h1, he, ⟨oe.cls, rfl, q.cls⟩, hd, fun hch => ?_⟩
        obtain ⟨a', o', vs', g1, g2, g3, g4, g5, g6, g7, g8⟩ := r
        rw [h1] at g1; cases g1
        rw [he] at g4; cases g4
        rw [hd] at g5; cases g5
        cases x with
        | bi n => exact g7.2
        | toml m => cases hch } }
theorem OkS.unmark {ev : Value} {ch : Bool} (hh : G.A.handled = none) (o : OkS C (G.mk' ev ch) B X O ρ own s) : OkS C G B X O ρ own s :=
  { o with g := { o.g with hnd := fun u hu => by rw [hh] at hu; cases hu } }

theorem SX.unmark {ev e' : Value} {ch t : Bool} (hh : G.A.handled = none) (x : SX C (G.mk' ev ch) B X O t Zs e' s) : SX C G B X O t Zs e' s := by
  obtain ⟨ρ', own', o, y, r, z⟩ := x
  exact ⟨ρ', own', o.unmark hh, y, r, z⟩

structure ExcOk (T : String) : Prop where
  name : excName T = true
  exc : isSubtype (.type T) (.type "BaseException") = pure true
  nt : isSubtype (.type ((Manifest.find? T).elim "type" fun x => x.metatype)) (.type "tuple") = pure false
  sub : isSubtype (.type T) (.type T) = pure true
theorem excOk_Index : ExcOk "IndexError" := ⟨by decide, by kernel_rfl, by kernel_rfl, by kernel_rfl⟩
theorem excOk_Value : ExcOk "ValueError" := ⟨by decide, by kernel_rfl, by kernel_rfl, by kernel_rfl⟩

theorem S1W.tryB {T : String} {tn : PySem.Str} {tp hp pos : Pos} {b₀ : Stmt} {suite body : List Stmt} (hF : Fun G) (hh : G.A.handled = none) (hT : ExcOk T) (hx : G.env.kindOf tn = some .globalImplicit) (hm : Means C tn (.type T))
    (h : SW C G O ρ body P (fun x ρ' => x = .bi T ∧ ∀ ev, SW C (G.mk' ev true) O ρ' (b₀ :: suite) P Zs)) (hd : (tn == ("__debug__" : PySem.Str)) = false := by decide) :
    S1W C G O ρ (.Try body [.ExceptHandler (some (.Name tn tp)) none (b₀ :: suite) hp] [] [] pos) P Zs := fun B X own s o => by
  refine wpAny_Try_except (wpAny_mono (h B X own s o) (fun f s₁ q => ?_) fun ev s₁ q => ?_)
  · cases f with
    | next => exact wpAny_execs_nil q
    | brk => exact q
    | cont => exact q
    | ret v => exact q
  · obtain ⟨ρ', own', o₁, x, r, rfl, hb⟩ := q
    refine wpAny_mono (noteW (E := fun _ _ => False) hF.fr o₁ r) (fun _ s₂ q => ?_) fun _ _ q => q.elim
    obtain ⟨o₂, r₂⟩ := q
    refine wpAny_mono (flightW (E := fun _ _ => False) o₂ r₂) (fun _ s₃ q => ?_) fun _ _ q => q.elim
    obtain ⟨o₃, r₃⟩ := q
    obtain ⟨a, oe, vs, rfl, he, hdt, q, hc⟩ := r₃.obj
    have om := o₃.mark r₃
    refine wpAny_handleBy_builtin (X := T) (T := T) (b := true) hT.exc hT.nt hT.sub ?_
    refine loadGlob (G := G.mk' (.ref a) true) om.full hx hm ⟨rfl, ?_, ?_⟩ hd
    · obtain ⟨a', o', vs', g1, g2, g3, g4, g5, g6, g7, g8⟩ := r₃
      cases g1
      exact ⟨o', g4, g7.1.1⟩
    · simp only [if_true]
      have E' : ∀ e' s', SX C (G.mk' (.ref a) true) B X O false Zs e' s' → notedBy C.M (G.A.mark (some (.ref a))) G.env (cameBackBy C.M G.A G.env (SX C G B X O false Zs)) e' s' := fun e' s' y => by
        refine wpAny_mono ((NoteOk.all (Zs := Zs) (C := C) (O := O) (hF.mk' (.ref a) true) B X e' s').1 _ y) (fun _ s'' w => ?_) fun e'' s'' w => ?_
        · exact (NoteOk.all (Zs := Zs) (C := C) (O := O) hF B X e' s'').2 (SX.unmark hh w)
        · exact (NoteOk.all (Zs := Zs) (C := C) (O := O) hF B X e'' s'').2 (SX.unmark hh w)
      refine wpAny_mono (flightW (G := G.mk' (.ref a) true) (E := fun _ _ => False) om r₃) (fun _ s₄ w => ?_) fun _ _ w => w.elim
      refine wpAny_mono (hb (.ref a) B X own' s₄ w.1) (fun f s₅ w => ?_) E'
      obtain ⟨ρ₂, own₂, o₅, p⟩ := w
      exact ⟨ρ₂, own₂, o₅.unmark hh, p⟩
end
end Mine

end
section
open PySem PySem.W PySem.Calls PyProof.Rows PySem.Builtin PySem.Builtin.Str
set_option Elab.async false
set_option maxRecDepth 100000
namespace Mine

section
variable {C : Cx} {G : Fc} {ρ ρ' : Vars} {s s' : Shared} {Q : D → Prop} {Z : Exn → Prop}

theorem any_strs (x : List Nat) (ls : List (List Nat)) : (ls.map fun l => (⟨l.toArray⟩ : PySem.Str)).any (· == ⟨x.toArray⟩) = decide (x ∈ ls) := by
  rw [List.any_map, Bool.eq_iff_iff, List.any_eq_true, decide_eq_true_iff]
  constructor
  · rintro ⟨l, hl, e⟩
    have : (l == x) = true := by rw [← str_mk_beq]; exact e
    exact (eq_of_beq this) ▸ hl
  · intro h
    exact ⟨x, h, by show ((⟨x.toArray⟩ : PySem.Str) == ⟨x.toArray⟩) = true; exact beq_self_eq_true _⟩
theorem OpW.in_list {x : List Nat} {ls : List (List Nat)} (h : Q (.bool (decide (x ∈ ls)))) : OpW C G [.str x, .list (ls.map .str)] (cop .In) Q Z := .two fun ρ X s v w o r1 r2 => by
  obtain ⟨t, rfl⟩ := r1; obtain ⟨a, vs, rfl, _, h1, h2⟩ := r2
  exact in_list_strs h1 (reps_strs h2) (VP.of (Step.refl o.inv) .mkBool (by rw [any_strs]; exact h))
theorem OpW.in_tup {x : List Nat} {ls : List (List Nat)} (h : Q (.bool (decide (x ∈ ls)))) : OpW C G [.str x, .tup (ls.map .str)] (cop .In) Q Z := .two fun ρ X s v w o r1 r2 => by
  obtain ⟨t, rfl⟩ := r1; obtain ⟨a, vs, rfl, h1, h2⟩ := r2
  exact in_tuple_strs h1 (reps_strs h2) (VP.of (Step.refl o.inv) .mkBool (by rw [any_strs]; exact h))
noncomputable def inText (x y : List Nat) : Bool := !(occurrences ⟨y.toArray⟩ ⟨x.toArray⟩ 0 y.length 1).isEmpty
theorem OpW.in_str {x y : List Nat} (h : Q (.bool (inText x y))) : OpW C G [.str x, .str y] (cop .In) Q Z := .two fun ρ X s v w o r1 r2 => by
  obtain ⟨t, rfl⟩ := r1; obtain ⟨u, rfl⟩ := r2
  refine P.in_str (VP.of (Step.refl o.inv) .mkBool ?_)
  have : (⟨y.toArray⟩ : PySem.Str).length = y.length := by simp [PySem.Str.length]
  rw [this]; exact h
theorem OpW.notIn_str {x y : List Nat} (h : Q (.bool (!inText x y))) : OpW C G [.str x, .str y] (cop .NotIn) Q Z := .two fun ρ X s v w o r1 r2 => by
  obtain ⟨t, rfl⟩ := r1; obtain ⟨u, rfl⟩ := r2
  refine P.notIn_str (VP.of (Step.refl o.inv) .mkBool ?_)
  have : (⟨y.toArray⟩ : PySem.Str).length = y.length := by simp [PySem.Str.length]
  rw [this]; exact h

theorem set_elems {es : Array (Int × Value)} (h : ∀ e ∈ es.toList, ∃ x u, e.2 = .str x u ∧ e.1 = hashStr C.w x) : ElemsOf (PySem.strKind C.prog C.w) es.toList := fun e he => by
  obtain ⟨x, u, h1, h2⟩ := h e he
  exact ⟨⟨x, by rw [h1]; exact beq_self_eq_true x, h2⟩, by rw [h1]; rfl⟩
theorem contains_fset {A : Around} {E : Value → Shared → Prop} {a : Addr} {ss : List (List Nat)} {x : List Nat} {t : Tok} {R : Bool → Shared → Prop} (r : SetRep C s.heap a ss) (h : R (decide (x ∈ ss)) { s with toks := s.toks + 1 }) :
    wpAny C.M A (contains (.ref a) (.str ⟨x.toArray⟩ t)) R E s := by
  obtain ⟨o, ho, hc, hdi, hsl, es, ep, tb, hd, hf, hb, hel, hmem⟩ := r
  have hT : s.TypeIs (.ref a) "frozenset" := ⟨_, ho, hc⟩
  unfold contains
  refine wpAny_holding ?_
  refine wpAny_bind (wpAny_specialOf hT FB.slot_frozenset_contains.lookup ?_)
  rw [if_neg (by decide)]
  refine wpAny_bind (wpAny_callSpecialUnlessNone?_slot (name := Str.ofString "__contains__") hT FB.slot_frozenset_contains
    (wpAny_call_entry FB.slot_frozenset_contains hT FB.entry_frozenset_contains ?_ (FB.args_frozenset_contains_2 _ _)))
  unfold Builtin.«frozenset.__contains__» Builtin.Frozenset.oneOther
  simp only [List.isEmpty_nil, bind_assoc]
  unfold Builtin.Frozenset.addrOf Builtin.Frozenset.withSetAsKey setContains
  refine wpAny_bind (wpAny_pure ?_)
  refine wpAny_bind (wpAny_pure ?_)
  refine wpAny_bind (wpAny_tryCatch ?_)
  refine wpAny_holding ?_
  have hkey : (PySem.strKind C.prog C.w).is ⟨x.toArray⟩ (.str ⟨x.toArray⟩ t) = true := beq_self_eq_true _
  refine wpAny_bind ((PySem.strKind C.prog C.w).pyHash hkey ?_)
  refine wpAny_bind (setFind_any (knd := PySem.strKind C.prog C.w) (k := ⟨x.toArray⟩) (S := fun k => decide (k.cps.toList ∈ ss)) (s := { s with toks := s.toks + 1 }) hkey rfl ho hd (set_elems hel) (fun k => ?_) hb hf fun r hr => ?_)
  · rw [decide_eq_true_iff, hmem]
    constructor
    · rintro ⟨e, he, u, h1⟩
      exact ⟨e, he, by rw [h1]; exact beq_self_eq_true _⟩
    · rintro ⟨e, he, h1⟩
      obtain ⟨u, h2⟩ := Value.isStrOf_shape h1
      exact ⟨e, he, u, by rw [h2]⟩
  · refine wpAny_pure ?_
    show wpAny _ _ (ret (Value.bool r.isSome)) _ _ _
    rw [hr]
    exact wpAny_pure ⟨_, rfl, wpAny_truthy_bool h⟩
theorem OpW.notIn_fset {x : List Nat} {ss : List (List Nat)} (h : Q (.bool (!decide (x ∈ ss)))) : OpW C G [.str x, .fset ss] (cop .NotIn) Q Z := .two fun ρ X s v w o r1 r2 => by
  obtain ⟨t, rfl⟩ := r1; obtain ⟨a, rfl, r⟩ := r2
  show wpAny _ _ (do return Value.bool (!(← contains (.ref a) (.str ⟨x.toArray⟩ t)))) _ _ s
  exact wpAny_bind (contains_fset r (wpAny_pure (VP.of (Step.tok o.inv _) .mkBool h)))
end
end Mine

end
section
open PySem PySem.W PySem.Calls PyProof.Rows PySem.Builtin PySem.Builtin.Str
set_option Elab.async false
set_option maxRecDepth 100000
namespace Mine

section
variable {C : Cx} {G : Fc} {s s' : Shared} {A : Around} {E : Value → Shared → Prop} {a : Addr} {ss : List (List Nat)} {x : List Nat} {t : Tok} {n : Nat}

noncomputable def FsB (C : Cx) (h : Heap) (a : Addr) (ss : List (List Nat)) (n : Nat) : Prop :=
  ∃ o es ep t, h.get? a = some o ∧ (o.cls = .type "frozenset" ∧ o.dict = none ∧ o.slots = #[]) ∧ o.data = .set es ep t ∧ t.fits es.size = true ∧ es.size ≤ n ∧
    (∀ e ∈ es.toList, ∃ x u, e.2 = .str x u ∧ e.1 = hashStr C.w x) ∧ ∀ l : List Nat, l ∈ ss ↔ ∃ e ∈ es.toList, ∃ u, e.2 = .str ⟨l.toArray⟩ u
theorem FsB.rep {h : Heap} (r : FsB C h a ss n) (hn : n < scanBound) : SetRep C h a ss := by
  obtain ⟨o, es, ep, t, h1, h2, h3, h4, h5, h6, h7⟩ := r
  exact ⟨o, h1, h2.1, h2.2.1, h2.2.2, es, ep, t, h3, h4, Nat.lt_of_le_of_lt h5 hn, h6, h7⟩
theorem FsB.keep {h h' : Heap} (r : FsB C h a ss n) (k : ∀ o, h.get? a = some o → h'.get? a = some o) : FsB C h' a ss n := by
  obtain ⟨o, es, ep, t, h1, r⟩ := r
  exact ⟨o, es, ep, t, k o h1, r⟩

theorem FsB.store {h : Heap} {o : Obj} {es es' : Array (Int × Value)} {ep : Nat} {t t' : SetTable} (ho : h.get? a = some o) (hc : o.cls = .type "frozenset" ∧ o.dict = none ∧ o.slots = #[]) (hd : o.data = .set es ep t)
    (hf : t'.fits es'.size = true) (hn : es'.size ≤ n) (hel : ∀ e ∈ es'.toList, ∃ x u, e.2 = .str x u ∧ e.1 = hashStr C.w x) (hm : ∀ l : List Nat, l ∈ ss ↔ ∃ e ∈ es'.toList, ∃ u, e.2 = .str ⟨l.toArray⟩ u) :
    (h.update a (Obj.putSet es' t')).get? a = some { o with data := .set es' (ep + 1) t' } ∧ FsB C (h.update a (Obj.putSet es' t')) a ss n := by
  have hg : (h.update a (Obj.putSet es' t')).get? a = some { o with data := .set es' (ep + 1) t' } := by
    have := Heap.get?_update_self (Obj.putSet es' t') ho (by rw [putSet_of es' t' hd]; rfl)
    rw [putSet_of es' t' hd] at this; exact this
  exact ⟨hg, _, es', ep + 1, t', hg, hc, rfl, hf, hn, hel, hm⟩

theorem fs_add {Q : Bool → Shared → Prop} (r : FsB C s.heap a ss n) (hn : n + 1 < scanBound) (h : ∀ b h', Heap.SameBut a s.heap h' → FsB C h' a (ss ++ [x]) (n + 1) → Q b { s with heap := h' }) :
    wpAny C.M A (setAddHashed a (.str ⟨x.toArray⟩ t) (hashStr C.w ⟨x.toArray⟩)) Q E s := by
  obtain ⟨o, es, ep, tb, ho, hc, hd, hf, hsz, hel, hmem⟩ := r
  have hel' := set_elems hel
  have hkey : (PySem.strKind C.prog C.w).is ⟨x.toArray⟩ (.str ⟨x.toArray⟩ t) = true := beq_self_eq_true _
  have hsc : (Value.str ⟨x.toArray⟩ t).scannable = true := rfl
  unfold setAddHashed setAddHashedIn
  refine wpAny_holding (wpAny_bind (wpAny_setState_of ho hd hf ?_))
  dsimp only
  rw [byScan_of (knd := PySem.strKind C.prog C.w) hsc (by (exact lin2 hsz hn (by simp +arith only))) hel']
  simp only [↓reduceIte]
  unfold setAddByScan
  refine wpAny_bind ?_
  refine wpAny_bind (wpAny_rule ?_)
  refine wpAny_bind (wpAny_setScan_of (knd := PySem.strKind C.prog C.w) hkey ho hd hf hel' ?_)
  cases hr : List.findIdx? (fun e => (PySem.strKind C.prog C.w).is ⟨x.toArray⟩ e.2) es.toList with
  | some j =>
    dsimp only
    obtain ⟨hj, hpj, _⟩ := List.findIdx?_eq_some_iff_getElem.mp hr
    refine wpAny_pure (wpAny_pure ?_)
    have e : s = { s with heap := s.heap } := by cases s; rfl
    rw [e]
    refine h _ s.heap (Heap.SameBut.refl a s.heap) ⟨o, es, ep, tb, ho, hc, hd, hf, by (exact lin1 hsz (by simp +arith only)), hel, fun l => ?_⟩
    rw [List.mem_append, List.mem_singleton, ← hmem]
    refine ⟨fun q => q.elim id fun q => ?_, .inl⟩
    subst q
    rw [hmem]
    obtain ⟨u, hu⟩ := Value.isStrOf_shape hpj
    exact ⟨_, List.getElem_mem hj, u, hu⟩
  | none =>
    dsimp only
    have hgw : ∀ (b : Bool) {s₁ : Shared} {Q' : Unit → Shared → Prop}, Q' () s₁ → wpAny C.M A (match b with | true => rule "set.scan.the-table-gave-way" | false => pure ()) Q' E s₁ :=
      fun b s₁ Q' hq => by cases b <;> first | exact wpAny_pure hq | exact wpAny_rule hq
    have hperm := layNew_perm tb es (hashStr C.w ⟨x.toArray⟩) (.str ⟨x.toArray⟩ t)
    have hfits := layNew_fits tb es (hashStr C.w ⟨x.toArray⟩) (.str ⟨x.toArray⟩ t)
    show wpAny C.M A (match layNew tb es (hashStr C.w ⟨x.toArray⟩) (.str ⟨x.toArray⟩ t) with | _ => _) _ _ s
    generalize hL : layNew tb es (hashStr C.w ⟨x.toArray⟩) (.str ⟨x.toArray⟩ t) = L at hperm hfits ⊢
    obtain ⟨es1, t1, wasDummy, gave⟩ := L
    dsimp only at hperm hfits ⊢
    rw [Array.toList_push] at hperm
    have hel1 : ∀ e ∈ es1.toList, ∃ x u, e.2 = .str x u ∧ e.1 = hashStr C.w x := fun e he => by
      rcases List.mem_append.mp (hperm.mem_iff.mp he) with he | he
      · exact hel e he
      · rw [List.mem_singleton] at he; subst he; exact ⟨_, _, rfl, rfl⟩
    have hmem1 : ∀ l : List Nat, l ∈ ss ++ [x] ↔ ∃ e ∈ es1.toList, ∃ u, e.2 = .str ⟨l.toArray⟩ u := fun l => by
      rw [List.mem_append, List.mem_singleton, hmem]
      constructor
      · rintro (⟨e, he, u, hu⟩ | rfl)
        · exact ⟨e, hperm.mem_iff.mpr (List.mem_append_left _ he), u, hu⟩
        · exact ⟨_, hperm.mem_iff.mpr (List.mem_append_right _ (List.mem_singleton.mpr rfl)), t, rfl⟩
      · rintro ⟨e, he, u, hu⟩
        rcases List.mem_append.mp (hperm.mem_iff.mp he) with he | he
        · exact .inl ⟨e, he, u, hu⟩
        · rw [List.mem_singleton] at he; subst he
          right
          have : (⟨x.toArray⟩ : PySem.Str) = ⟨l.toArray⟩ := by injection hu
          have : x.toArray = l.toArray := by injection this
          simpa using this.symm
    have hsz1 : es1.size ≤ n + 1 := by rw [← Array.length_toList, hperm.length_eq, List.length_append, Array.length_toList]; simpa using hsz
    have hz1 : es1.size ≤ sizeLine := fits_of_scanBound (by (exact lin2 hsz1 hn (by simp +arith only)))
    refine wpAny_bind (hgw _ ?_)
    have tail : ∀ t2 : SetTable, t2.fits es1.size = true → wpAny C.M A (do
        storeSet a es1 t2
        if (!wasDummy && t2.tooFull) = true then do
            (match (relayAll t2 es1 (SetTable.grown es1.size)).2.2 with | true => rule "set.scan.the-table-gave-way" | false => pure ())
            storeSet a (relayAll t2 es1 (SetTable.grown es1.size)).1 (relayAll t2 es1 (SetTable.grown es1.size)).2.1
            pure (some true)
          else pure (some true)) (fun r s₁ => wpAny C.M A (match r with | some added => pure added | none => setAddHashedIn a (.str ⟨x.toArray⟩ t) (hashStr C.w ⟨x.toArray⟩) 99999) Q E s₁) E s := fun t2 hf2 => by
      refine wpAny_bind (wpAny_storeSet_of ho hd ?_ hz1)
      obtain ⟨ho1, hS1⟩ := FsB.store (C := C) (ss := ss ++ [x]) (n := n + 1) ho hc hd hf2 hsz1 hel1 hmem1
      have hsb1 := Heap.SameBut.update s.heap a (Obj.putSet es1 t2)
      split
      · have hp := relayAll_perm t2 es1 (SetTable.grown es1.size)
        have hfr := relayAll_fits t2 es1 (SetTable.grown es1.size)
        generalize relayAll t2 es1 (SetTable.grown es1.size) = Rl at hp hfr ⊢
        obtain ⟨es2, t3, gave2⟩ := Rl
        dsimp only at hp hfr ⊢
        have hsz2 : es2.size = es1.size := by rw [← Array.length_toList, hp.length_eq, Array.length_toList]
        refine wpAny_bind (hgw _ ?_)
        refine wpAny_bind (wpAny_storeSet_of ho1 rfl ?_ (by rw [hsz2]; exact hz1))
        obtain ⟨_, hS2⟩ := FsB.store (C := C) (ss := ss ++ [x]) (n := n + 1) ho1 hc rfl hfr (by rw [hsz2]; exact hsz1) (fun e he => hel1 e (hp.mem_iff.mp he)) (fun l => (hmem1 l).trans ⟨fun ⟨e, he, q⟩ => ⟨e, hp.mem_iff.mpr he, q⟩, fun ⟨e, he, q⟩ => ⟨e, hp.mem_iff.mp he, q⟩⟩)
        exact wpAny_pure (wpAny_pure (h _ _ (hsb1.trans (Heap.SameBut.update _ a _)) hS2))
      · exact wpAny_pure (wpAny_pure (h _ _ hsb1 hS1))
    split
    · refine wpAny_bind ?_
      rw [hashByValue_scannable 8 hsc]
      refine wpAny_pure ?_
      refine tail _ ?_
      split
      · exact hfits
      · exact SetTable.fits_plain_off hfits
    · refine wpAny_bind (wpAny_pure ?_)
      simp only [↓reduceIte]
      exact tail _ hfits
end
end Mine

end
section
open PySem PySem.W PySem.Calls PyProof.Rows PySem.Builtin PySem.Builtin.Str
set_option Elab.async false
set_option maxRecDepth 100000
set_option maxHeartbeats 1000000
namespace Mine

section
variable {C : Cx} {G : Fc} {s s' : Shared} {A : Around} {E : Value → Shared → Prop} {a : Addr} {ss : List (List Nat)} {x : List Nat} {t : Tok} {n : Nat}
variable {R : Result → Shared → Prop} {I : Addr} {fp wr : List Addr} {P : Nat → Value → Prop} {St : Nat → Heap → Prop}

theorem fs_loop (W : Walks C.prog C.w A.in1 I fp wr n P St) (S : Addr) (hSf : S ∉ fp) (val : Nat → List Nat) (hval : ∀ i v, P i v → ∃ t, v = .str ⟨(val i).toArray⟩ t) (hb : n + 1 < scanBound) :
    ∀ (k i : Nat) (s : Shared), n - i = k → i ≤ n → St i s.heap → FsB C s.heap S ((List.range i).map val) i →
      (∀ h' tk, (∀ b o, b ∉ S :: wr → s.heap.get? b = some o → h'.get? b = some o) → FsB C h' S ((List.range n).map val) n → R (.ok (.ret .none)) { s with heap := h', toks := tk }) →
      codeAny C.M A (.builtin "set.update.loop" ⟨[.ref S, .ref I], []⟩) R s := by
  have hSw : S ∉ wr := fun h => hSf (W.sub _ h)
  intro k
  induction k with
  | zero =>
    intro i s hk hi hst hS hR
    have hin : i = n := by (exact Nat.le_antisymm (lin1 hi (by simp +arith only)) (lin2 (subl (n) (i)) (Nat.le_of_eq hk) (by simp +arith only)))
    subst hin
    refine codeAny_builtin PyProof.Rows.F.entry_set_update_loop ?_
    rw [Around.under_plainId PyProof.Rows.F.plain_set_update_loop _]
    show wpAny _ A.in1 (pyNext (.ref I) >>= _) _ _ s
    refine wpAny_bind (W.done s _ _ hst fun h' tk hm => ?_)
    exact wpAny_pure (hR h' tk (fun b o hb' e => hm b o (fun q => hb' (.tail _ q)) e) (hS.keep fun o e => hm S o hSw e))
  | succ k ih =>
    intro i s hk hi hst hS hR
    have hlt : i < n := by (exact lin2 (subu (a := n) (b := i) (lin1 hi (by simp +arith only))) (Nat.le_of_eq (Eq.symm hk)) (by simp +arith only))
    refine codeAny_builtin PyProof.Rows.F.entry_set_update_loop ?_
    rw [Around.under_plainId PyProof.Rows.F.plain_set_update_loop _]
    show wpAny _ A.in1 (pyNext (.ref I) >>= _) _ _ s
    refine wpAny_bind (W.item i s _ _ hlt hst fun v h1 tk hP hst' hm => ?_)
    obtain ⟨t, rfl⟩ := hval i v hP
    have hS' : FsB C h1 S ((List.range i).map val) i := hS.keep fun o e => hm S o hSw e
    show wpAny _ A.in1 (holding [Value.str ⟨(val i).toArray⟩ t] (setAdd S (.str ⟨(val i).toArray⟩ t)) >>= _) _ _ _
    refine wpAny_bind (wpAny_holding ?_)
    unfold setAdd
    refine wpAny_holding ?_
    have hkey : (PySem.strKind C.prog C.w).is ⟨(val i).toArray⟩ (.str ⟨(val i).toArray⟩ t) = true := beq_self_eq_true _
    refine wpAny_bind ((PySem.strKind C.prog C.w).pyHash hkey ?_)
    refine fs_add (s := { s with heap := h1, toks := tk + 1 }) hS' (by (exact lin2 hlt hb (by simp +arith only))) fun b h2 hsb hS2 => ?_
    refine wpAny_pure ⟨plainId_quiet PyProof.Rows.F.plain_set_update_loop _, ih (i + 1) _ (by (exact Nat.le_antisymm (lin3 (subu (a := n) (b := i + 1) (lin1 hlt (by simp +arith only))) (subl (n) (i)) (Nat.le_of_eq hk) (by simp +arith only)) (lin3 (Nat.le_of_eq (Eq.symm hk)) (subu (a := n) (b := i) (lin1 hlt (by simp +arith only))) (subl (n) (i + 1)) (by simp +arith only)))) hlt (W.frame _ h1 _ hst' fun b hb o e => ?_) ?_ fun h3 tk3 hk3 hS3 => ?_⟩
    · rw [hsb.2 b (fun h : b = S => hSf (by rw [← h]; exact hb))]; exact e
    · rw [List.range_succ, List.map_append]; exact hS2
    · refine hR h3 tk3 (fun b o hb' e => hk3 b o hb' ?_) hS3
      rw [hsb.2 b (fun h : b = S => hb' (by rw [h]; exact .head _))]
      exact hm b o (fun q => hb' (.tail _ q)) e

namespace F
theorem mro_fs : mroOf (.type "frozenset") = pure [.type "frozenset", .type "object"] := by rw [mroOf_type]; kernel_rfl
theorem lookup_fs_new : typeLookup (.type "frozenset") "__new__" = pure (some (.builtin "frozenset.__new__")) := by rw [typeLookup_type, builtinLookup_eq_fast]; kernel_rfl
theorem slot_fs_init : Slot "frozenset" "__init__" "object.__init__" :=
  .of (owner := "object") (n := "__init__") (by rw [typeLookup_type, builtinLookup_eq_fast]; kernel_rfl) (by decide +kernel) (by decide +kernel) (by decide +kernel)
    (by first | exact .inl (by decide +kernel) | exact .inr (by decide +kernel)) (by rw [isSubtype_type]; kernel_rfl)
theorem called_fs : TypeCalled "frozenset" "frozenset.__new__" "object.__init__" :=
  ⟨by decide +kernel, by decide +kernel, ⟨_, _, mro_fs⟩, madeBy_type mro_fs lookup_fs_new (by decide +kernel), by decide +kernel, by rw [isSubtype_type]; kernel_rfl, slot_fs_init⟩
theorem typeCall_fs_1 (a : Value) : checkTypeCall "frozenset" ⟨[a], []⟩ = pure () := by kernel_rfl
theorem newCall_fs_1 (a : Value) : checkBuiltinCall "frozenset.__new__" ⟨[.type "frozenset", a], []⟩ = pure () := by kernel_rfl
theorem entry_fs_new : entryFor table "frozenset.__new__" = some Builtin.«frozenset.__new__» := entryFor_of_tree (by kernel_rfl)
end F

variable {ρ : Vars} {Q : D → Prop} {Z : Exn → Prop}
end
end Mine

end
section
open PySem PySem.W PySem.Calls PyProof.Rows PySem.Builtin PySem.Builtin.Str
set_option Elab.async false
set_option maxRecDepth 100000
namespace Mine

section
variable {C : Cx} {G : Fc} {ρ : Vars} {Q : D → Prop} {Z : Exn → Prop} {S : List D → Prop}

end
end Mine

end
section
open PySem PySem.W PySem.Calls PyProof.Rows PySem.Builtin PySem.Builtin.Str
set_option Elab.async false
set_option maxRecDepth 100000
namespace Mine

section
variable {prog : Program} {w : World} {A : Around} {E : Value → Shared → Prop} {s : Shared}
end

section
variable {C : Cx} {G : Fc} {B : Heap} {X : Addr → Prop} {O : List PySem.Str} {ρ : Vars} {own : List (PySem.Str × Addr)} {s : Shared} {Q : D → Prop} {Z : Exn → Prop} {S : List D → Prop} {P : Fl → Vars → Prop} {Zs : Exn → Vars → Prop}

theorem inter_fn {env : Env} (h : env.scope.kind = .function) : interactive env = false := by
  unfold interactive; rw [h]; rfl
end
end Mine

end
section
open PySem PySem.W PySem.Calls PyProof.Rows PySem.Builtin PySem.Builtin.Str
set_option Elab.async false
set_option maxRecDepth 100000
namespace Mine

section
variable {C : Cx} {G : Fc} {B : Heap} {X : Addr → Prop} {O : List PySem.Str} {ρ : Vars} {own : List (PySem.Str × Addr)} {s s' : Shared} {Q : D → Prop} {Z : Exn → Prop} {S : List D → Prop} {P : Fl → Vars → Prop} {Zs : Exn → Vars → Prop}

end
end Mine

end
section
open PySem PySem.W PySem.Calls PyProof.Rows PySem.Builtin PySem.Builtin.Str
set_option Elab.async false
set_option maxRecDepth 100000
namespace Mine
end Mine

end
section
open PySem PySem.W PySem.Calls PyProof.Rows PySem.Builtin PySem.Builtin.Str
set_option Elab.async false
set_option maxRecDepth 100000

namespace Mine
noncomputable def hasAt (x y : List Nat) (i : Nat) : Prop := i + y.length ≤ x.length ∧ (x.drop i).take y.length = y
theorem occ_stays (s sub : PySem.Str) (hi : Nat) : ∀ (l : List Nat) (st : Array Nat × Nat), st.fst.size = 1 → (forIn l st (StrLaws.occBody s sub hi 1)).run.fst = st.fst
  | [], st, h => rfl
  | a :: l, st, h => by
    rw [List.forIn_cons]
    unfold StrLaws.occBody
    rw [if_neg fun q => by have := q.1.1.1; (exact Nat.not_succ_le_zero 0 (lin2 (Nat.le_of_eq (Eq.symm h)) this (by simp +arith only)))]
    exact occ_stays s sub hi l _ h
theorem occ_first (s sub : PySem.Str) (hi : Nat) : ∀ (n a free : Nat), free ≤ a →
    ((forIn (List.range' a n) ((#[] : Array Nat), free) (StrLaws.occBody s sub hi 1)).run.fst = #[] ∧ ∀ i, a ≤ i → i < a + n → ¬ (i + sub.length ≤ hi ∧ subAt s sub i = true)) ∨
    ∃ k, (forIn (List.range' a n) ((#[] : Array Nat), free) (StrLaws.occBody s sub hi 1)).run.fst = #[k] ∧ a ≤ k ∧ (k + sub.length ≤ hi ∧ subAt s sub k = true) ∧ ∀ i, a ≤ i → i < k → ¬ (i + sub.length ≤ hi ∧ subAt s sub i = true)
  | 0, a, free, hf => .inl ⟨rfl, fun i h1 h2 => by (lia)⟩
  | n + 1, a, free, hf => by
    rw [List.range'_succ, List.forIn_cons]
    by_cases hc : a + sub.length ≤ hi ∧ subAt s sub a = true
    · right
      refine ⟨a, ?_, Nat.le_refl _, hc, fun i h1 h2 => by (lia)⟩
      unfold StrLaws.occBody
      rw [if_pos ⟨⟨⟨by simp, hf⟩, hc.1⟩, hc.2⟩]
      exact occ_stays s sub hi _ _ rfl
    · have e : (StrLaws.occBody s sub hi 1 a ((#[] : Array Nat), free)) = pure (ForInStep.yield ((#[] : Array Nat), free)) := by
        unfold StrLaws.occBody
        rw [if_neg fun q => hc ⟨q.1.2, q.2⟩]
      rw [e]
      have ih := occ_first s sub hi n (a + 1) free (by (exact lin1 hf (by simp +arith only)))
      have last : ∀ i, a ≤ i → (a + 1 ≤ i → ¬ (i + sub.length ≤ hi ∧ subAt s sub i = true)) → ¬ (i + sub.length ≤ hi ∧ subAt s sub i = true) := fun i h1 h2 => by
        by_cases hi' : i = a
        · rw [hi']; exact hc
        · exact h2 (by (lia))
      rcases ih with ⟨h1, h2⟩ | ⟨k, h1, h2, h3, h4⟩
      · exact .inl ⟨h1, fun i a1 a2 => last i a1 fun q => h2 i q (by (exact lin1 a2 (by simp +arith only)))⟩
      · exact .inr ⟨k, h1, by (exact Nat.le_of_lt (by assumption)), h3, fun i a1 a2 => last i a1 fun q => h4 i q a2⟩
theorem sub_has (x y : List Nat) (i : Nat) : (i + (⟨y.toArray⟩ : PySem.Str).length ≤ (⟨x.toArray⟩ : PySem.Str).length ∧ subAt ⟨x.toArray⟩ ⟨y.toArray⟩ i = true) ↔ hasAt x y i := by
  rw [StrLaws.subAt_eq]
  simp [PySem.Str.length, hasAt]
theorem occ1 (x y : List Nat) (lo : Nat) :
    (occurrences ⟨x.toArray⟩ ⟨y.toArray⟩ lo (⟨x.toArray⟩ : PySem.Str).length 1 = [] ∧ ∀ i, lo ≤ i → ¬ hasAt x y i) ∨
    ∃ k, occurrences ⟨x.toArray⟩ ⟨y.toArray⟩ lo (⟨x.toArray⟩ : PySem.Str).length 1 = [k] ∧ lo ≤ k ∧ hasAt x y k ∧ ∀ i, lo ≤ i → i < k → ¬ hasAt x y i := by
  rw [StrLaws.occ_eq]
  have hl : (⟨x.toArray⟩ : PySem.Str).length = x.length := by simp [PySem.Str.length]
  rcases occ_first ⟨x.toArray⟩ ⟨y.toArray⟩ (⟨x.toArray⟩ : PySem.Str).length ((⟨x.toArray⟩ : PySem.Str).length + 1 - lo) lo lo (Nat.le_refl _) with ⟨h1, h2⟩ | ⟨k, h1, h2, h3, h4⟩
  · refine .inl ⟨by rw [h1], fun i a q => h2 i a ?_ ((sub_has x y i).mpr q)⟩
    have := q.1; (lia)
  · exact .inr ⟨k, by rw [h1], h2, (sub_has x y k).mp h3, fun i a b q => h4 i a b ((sub_has x y i).mpr q)⟩

theorem raises_index_from (x y : PySem.Str) (i : Int) (t u v : Tok) (h : occurrences x y (fromIndex x.length i) x.length 1 = []) : Meets («str.index» ⟨[.str x t, .str y u, .int i v], []⟩) (raisesNew "ValueError") := by
  intro prog w A R s hS
  show wpAny _ _ (match occurrences x y (fromIndex x.length i) (min x.length x.length) 1 with | i :: _ => retInt i | [] => _) _ _ s
  rw [Nat.min_self, h]
  first
    | exact wpAny_bind (wpAny_rule (by exact_raiseError plainExc_ValueError hS.1 hS.2))
    | exact wpAny_bind (wpAny_rule (wpAny_bind (by exact_raiseError plainExc_ValueError hS.1 hS.2)))
theorem gives_index_from (x y : PySem.Str) (i : Int) (t u v : Tok) (k : Nat) (h : occurrences x y (fromIndex x.length i) x.length 1 = [k]) : Gives («str.index» ⟨[.str x t, .str y u, .int i v], []⟩) (.int k) := by
  show Gives (match occurrences x y (fromIndex x.length i) (min x.length x.length) 1 with | k :: _ => retInt k | [] => (do rule "str.index.not-found"; raiseError "ValueError" "substring not found")) _
  rw [Nat.min_self, h]
  exact .of_eq rfl
section
variable {C : Cx} {G : Fc} {ρ : Vars} {Q : D → Prop} {Z : Exn → Prop} {S : List D → Prop}
theorem OpW.index3 {x y : List Nat} {pos : Nat} (hh : G.A.handled = none) (h1 : ∀ k : Nat, pos ≤ k → hasAt x y k → (∀ i, pos ≤ i → i < k → ¬ hasAt x y i) → Q (.int k)) (h2 : (∀ i, pos ≤ i → ¬ hasAt x y i) → Z (.bi "ValueError")) :
    OpW C G [.str x, .str y, .int pos] (callV (.builtin "str.index")) Q Z := .three fun ρ X s v w u o r1 r2 r3 => by
  obtain ⟨t1, rfl⟩ := r1; obtain ⟨t2, rfl⟩ := r2; obtain ⟨t3, rfl⟩ := r3
  have hf : fromIndex (⟨x.toArray⟩ : PySem.Str).length (pos : Int) = pos := by rw [fromIndex_nat (by (with_reducible exact Int.natCast_nonneg _))]; rfl
  rcases occ1 x y pos with ⟨a, b⟩ | ⟨k, a, b, c, d⟩
  · refine call_meets F.slot_str_index (typeIs_str _ _ _) F.entry_str_index (F.args_str_index_3 _ _ _) (raises_index_from _ _ _ _ _ _ (by rw [hf]; exact a)) ⟨hh, fun h' tk e hx => ?_⟩
    exact XP.new o.inv hx (by decide) (h2 b)
  · exact call_gives F.slot_str_index (typeIs_str _ _ _) F.entry_str_index (F.args_str_index_3 _ _ _) (gives_index_from _ _ _ _ _ _ k (by rw [hf]; exact a)) (VP.of (Step.tok o.inv _) .mkInt (h1 k b c d))
end
end Mine

end
section
open PySem PySem.W PySem.Calls PyProof.Rows PySem.Builtin PySem.Builtin.Str
set_option Elab.async false
set_option maxRecDepth 100000
set_option maxHeartbeats 1000000
namespace Mine
namespace F
theorem plainAttrs_fs : PlainAttrs "frozenset" :=
  ⟨⟨"object.__getattribute__", by rw [typeLookup_type, builtinLookup_eq_fast]; kernel_rfl, by decide +kernel⟩, by rw [typeLookup_type, builtinLookup_eq_fast]; kernel_rfl⟩
theorem slot_fs_isdisjoint : Slot "frozenset" "isdisjoint" "frozenset.isdisjoint" :=
  .of (owner := "frozenset") (n := "isdisjoint") (by rw [typeLookup_type, builtinLookup_eq_fast]; kernel_rfl) (by decide +kernel) (by decide +kernel) (by decide +kernel)
    (by first | exact .inl (by decide +kernel) | exact .inr (by decide +kernel)) (by rw [isSubtype_type]; kernel_rfl)
theorem type_fs_isdisjoint : typeOf (.builtin "frozenset.isdisjoint") = pure (.type "method_descriptor") := by show builtinType _ = _; rw [builtinType_eq_fast]; kernel_rfl
theorem entry_fs_isdisjoint : entryFor table "frozenset.isdisjoint" = some Builtin.«frozenset.isdisjoint» := entryFor_of_tree (by kernel_rfl)
theorem entry_fs_loop : entryFor table "frozenset.isdisjoint.loop" = some Builtin.«frozenset.isdisjoint.loop» := entryFor_of_tree (by kernel_rfl)
theorem plain_fs_loop : plainId "frozenset.isdisjoint.loop" = true := by decide +kernel
theorem args_fs_isdisjoint_2 (a b : Value) : argsOk "frozenset.isdisjoint" ⟨[a, b], []⟩ := by
  kernel_rfl
end F
section
variable {C : Cx} {G : Fc} {s s' : Shared} {A : Around} {E : Value → Shared → Prop} {a : Addr} {ss : List (List Nat)} {x : List Nat} {t : Tok} {n : Nat}
variable {R : Result → Shared → Prop} {I : Addr} {fp wr : List Addr} {P : Nat → Value → Prop} {St : Nat → Heap → Prop}
theorem setCon {R : Bool → Shared → Prop} (r : SetRep C s.heap a ss) (h : R (decide (x ∈ ss)) { s with toks := s.toks + 1 }) :
    wpAny C.M A (setContains a (.str ⟨x.toArray⟩ t)) R E s := by
  obtain ⟨o, ho, hc, hdi, hsl, es, ep, tb, hd, hf, hb, hel, hmem⟩ := r
  unfold setContains
  refine wpAny_holding ?_
  have hkey : (PySem.strKind C.prog C.w).is ⟨x.toArray⟩ (.str ⟨x.toArray⟩ t) = true := beq_self_eq_true _
  refine wpAny_bind ((PySem.strKind C.prog C.w).pyHash hkey ?_)
  refine wpAny_bind (setFind_any (knd := PySem.strKind C.prog C.w) (k := ⟨x.toArray⟩) (S := fun k => decide (k.cps.toList ∈ ss)) (s := { s with toks := s.toks + 1 }) hkey rfl ho hd (set_elems hel) (fun k => ?_) hb hf fun r hr => ?_)
  · rw [decide_eq_true_iff, hmem]
    constructor
    · rintro ⟨e, he, u, h1⟩
      exact ⟨e, he, by rw [h1]; exact beq_self_eq_true _⟩
    · rintro ⟨e, he, h1⟩
      obtain ⟨u, h2⟩ := Value.isStrOf_shape h1
      exact ⟨e, he, u, by rw [h2]⟩
  · rw [hr]; exact wpAny_pure h
theorem dj_loop (W : Walks C.prog C.w A.in1 I fp wr n P St) (S : Addr) (hSw : S ∉ wr) (val : Nat → List Nat) (hval : ∀ i v, P i v → ∃ t, v = .str ⟨(val i).toArray⟩ t) :
    ∀ (k i : Nat) (s : Shared), n - i = k → i ≤ n → St i s.heap → SetRep C s.heap S ss →
      (∀ b h' tk, (∀ b o, b ∉ wr → s.heap.get? b = some o → h'.get? b = some o) → (b = true ↔ ∀ j, i ≤ j → j < n → val j ∉ ss) → R (.ok (.ret (.bool b))) { s with heap := h', toks := tk }) →
      codeAny C.M A (.builtin "frozenset.isdisjoint.loop" ⟨[.ref S, .ref I], []⟩) R s := by
  intro k
  induction k with
  | zero =>
    intro i s hk hi hst hS hR
    have hin : i = n := by (exact Nat.le_antisymm (lin1 hi (by simp +arith only)) (lin2 (subl (n) (i)) (Nat.le_of_eq hk) (by simp +arith only)))
    subst hin
    refine codeAny_builtin F.entry_fs_loop ?_
    rw [Around.under_plainId F.plain_fs_loop _]
    show wpAny _ A.in1 (pyNext (.ref I) >>= _) _ _ s
    refine wpAny_bind (W.done s _ _ hst fun h' tk hm => ?_)
    exact wpAny_pure (hR true h' tk hm ⟨fun _ j h1 h2 => by (lia), fun _ => rfl⟩)
  | succ k ih =>
    intro i s hk hi hst hS hR
    have hlt : i < n := by (exact lin2 (subu (a := n) (b := i) (lin1 hi (by simp +arith only))) (Nat.le_of_eq (Eq.symm hk)) (by simp +arith only))
    refine codeAny_builtin F.entry_fs_loop ?_
    rw [Around.under_plainId F.plain_fs_loop _]
    show wpAny _ A.in1 (pyNext (.ref I) >>= _) _ _ s
    refine wpAny_bind (W.item i s _ _ hlt hst fun v h1 tk hP hst' hm => ?_)
    obtain ⟨t, rfl⟩ := hval i v hP
    have hS' : SetRep C h1 S ss := by
      obtain ⟨o, ho, rest⟩ := hS
      exact ⟨o, hm S o hSw ho, rest⟩
    show wpAny _ A.in1 (holding [Value.str ⟨(val i).toArray⟩ t] (setContains S (.str ⟨(val i).toArray⟩ t)) >>= _) _ _ _
    refine wpAny_bind (wpAny_holding (setCon (s := { s with heap := h1, toks := tk }) hS' ?_))
    by_cases hc : val i ∈ ss
    · rw [decide_eq_true hc, if_pos rfl]
      exact wpAny_pure (hR false h1 _ hm ⟨fun h => (by cases h), fun h => absurd hc (h i (Nat.le_refl _) hlt)⟩)
    · rw [decide_eq_false hc, if_neg (by simp)]
      refine wpAny_pure ⟨plainId_quiet F.plain_fs_loop _, ih (i + 1) _ (by (exact Nat.le_antisymm (lin3 (subu (a := n) (b := i + 1) (lin1 hlt (by simp +arith only))) (subl (n) (i)) (Nat.le_of_eq hk) (by simp +arith only)) (lin3 (Nat.le_of_eq (Eq.symm hk)) (subu (a := n) (b := i) (lin1 hlt (by simp +arith only))) (subl (n) (i + 1)) (by simp +arith only)))) hlt hst' hS' fun b h3 tk3 hk3 hb => ?_⟩
      refine hR b h3 tk3 (fun b o hb' e => hk3 b o hb' (hm b o hb' e)) (hb.trans ⟨fun h j a1 a2 => ?_, fun h j a1 a2 => h j (by (exact Nat.le_of_lt (by assumption))) a2⟩)
      by_cases hj : j = i
      · rw [hj]; exact hc
      · exact h j (by (lia)) a2
theorem dj_str (S : Addr) : MeetsIn C.prog C.w (Builtin.«frozenset.isdisjoint» ⟨[.ref S, .str ⟨x.toArray⟩ t], []⟩)
    (fun A R s => A.handled = none ∧ SetRep C s.heap S ss ∧ ∀ b h' tk, (∀ b o, s.heap.get? b = some o → h'.get? b = some o) → (b = true ↔ ∀ c ∈ x, [c] ∉ ss) → R (.ok (.ret (.bool b))) { s with heap := h', toks := tk }) :=
  fun A R s h => by
    obtain ⟨hh, hS, h⟩ := h
    unfold Builtin.«frozenset.isdisjoint» Builtin.Frozenset.oneOther
    simp only [List.isEmpty_nil, bind_assoc]
    unfold Builtin.Frozenset.addrOf
    refine wpAny_bind (wpAny_pure ?_)
    refine wpAny_bind (wpAny_pure ?_)
    rw [if_neg (by simp)]
    refine wpAny_bind (wpAny_typeOf (T := "str") (typeIs_str _ _ t) ?_)
    rw [if_neg (by decide)]
    refine wpAny_bind (wpAny_pyIter_str fun oI St W hst => ?_)
    refine wpAny_pure ⟨plainId_quiet F.plain_fs_loop _, ?_⟩
    have hsz : (⟨x.toArray⟩ : PySem.Str).cps.size = x.length := by simp
    have W1 := W A.in1 hh
    rw [hsz] at W1
    have hSlt : S < s.heap.objs.size := by obtain ⟨o, ho, _⟩ := hS; exact Heap.lt_size ho
    have hS' : SetRep C (s.heap.push oI) S ss := by
      obtain ⟨o, ho, rest⟩ := hS
      exact ⟨o, Heap.get?_push_of_some _ ho, rest⟩
    refine dj_loop (A := A) (ss := ss) W1 S (by rw [List.mem_singleton]; exact Nat.ne_of_lt hSlt) (fun i => [x.getD i 0]) (fun i v hP => ?_) x.length 0 _ (by (assumption)) (Nat.zero_le _) hst hS' fun b h' tk' hk hb => ?_
    · obtain ⟨c, u, hc, rfl⟩ := hP
      refine ⟨u, ?_⟩
      have : x[i]? = some c := by simpa using hc
      simp [List.getD_eq_getElem?_getD, this]
    · refine h b h' tk' (fun b o e => hk b o ?_ (Heap.get?_push_of_some _ e)) (hb.trans ⟨fun h c hc => ?_, fun h j _ hj => ?_⟩)
      · have hb1 := Heap.lt_size e
        rw [List.mem_singleton]; exact Nat.ne_of_lt hb1
      · obtain ⟨j, hj, rfl⟩ := List.mem_iff_getElem.mp hc
        have := h j (Nat.zero_le _) hj
        simpa [List.getD_eq_getElem?_getD, hj] using this
      · have := h x[j] (List.getElem_mem hj)
        simpa [List.getD_eq_getElem?_getD, hj] using this

variable {ρ : Vars} {Q : D → Prop} {Z : Exn → Prop}
theorem OpW.disj {x : List Nat} {ss : List (List Nat)} (hh : G.A.handled = none) (h : ∀ b : Bool, (b = true ↔ ∀ c ∈ x, [c] ∉ ss) → Q (.bool b)) : OpW C G [.fset ss, .str x] (callV (.builtin "frozenset.isdisjoint")) Q Z := .two fun ρ X s v w o r1 r2 => by
  obtain ⟨a, rfl, r⟩ := r1; obtain ⟨t, rfl⟩ := r2
  have hT : s.TypeIs (.ref a) "frozenset" := by obtain ⟨o', ho, hc, _⟩ := r; exact ⟨_, ho, hc⟩
  exact call_meetsIn F.slot_fs_isdisjoint hT F.entry_fs_isdisjoint (F.args_fs_isdisjoint_2 _ _) (dj_str (C := C) (x := x) (t := t) a) ⟨hh, r, fun b h' tk hk hb => VP.of (Step.keeps (tk := tk) (dr := s.drawn) o.inv hk) .mkBool (h b hb)⟩
theorem EvW.m_disj {ob : Expr} {apos pos : Pos} {es : List Expr} (h : EvW C G ρ ob (fun a => ∃ ss, a = .fset ss ∧ EsW C G ρ es (fun ds => OpW C G (.fset ss :: ds) (callV (.builtin "frozenset.isdisjoint")) Q Z) Z) Z)
    (hbase : ∀ env w, attributeBase ob "isdisjoint" env w = w := by intros; rfl) (hs : noStars es = true := by rfl) (hn : es.length < 20 := by decide) (hline : (apos.endLine == pos.line) = true := by rfl) : EvW C G ρ (.Call (.Attribute ob "isdisjoint" apos) es [] pos) Q Z :=
  EvW.meth F.plainAttrs_fs F.slot_fs_isdisjoint F.type_fs_isdisjoint (h.mono (fun d ⟨l, e, p⟩ => ⟨fun X s v i r => by
    subst e; obtain ⟨a, rfl, o', ho, hc, hdi, _⟩ := r; exact ⟨⟨_, ho, hc⟩, fun b e => by cases e; exact ⟨o', ho, hdi⟩⟩, by subst e; exact p⟩) fun _ x => x) hbase hs hn hline
end
end Mine

end
section
open PySem PySem.W PySem.Calls PyProof.Rows PySem.Builtin PySem.Builtin.Str
set_option Elab.async false
set_option maxRecDepth 100000
set_option maxHeartbeats 1000000
namespace Mine
noncomputable def NewX (C : Cx) (h0 h : Heap) (v : Value) (m : List Nat) : Prop :=
  ∃ e t u, v = .ref e ∧ h0.get? e = none ∧ C.base.get? e = none ∧ h.get? e = some { cls := .ref C.toml, data := .fields #[.ref t, .none, .none, .none, .bool false, .none] } ∧ IsTup h t #[.str ⟨m.toArray⟩ u]
section
variable {C : Cx} {G : Fc} {B : Heap} {X : Addr → Prop} {O : List PySem.Str} {ρ ρ' : Vars} {own own' : List (PySem.Str × Addr)} {s s' s₁ : Shared} {Q : List Nat → Prop} {Z : Exn → Prop} {P : Fl → Vars → Prop} {Zs : Exn → Vars → Prop}
theorem NewX.back {h : Heap} {v : Value} {m : List Nat} (i : Inv C s) (st : Step C s s₁) (r : NewX C s₁.heap h v m) : NewX C s.heap h v m := by
  obtain ⟨e, t, u, h1, h2, h3, h4⟩ := r
  exact ⟨e, t, u, h1, st.fresh i h2, h3, h4⟩
theorem NewX.toB {h : Heap} {v : Value} {m : List Nat} (o : OkS C G B X O ρ own s) (r : NewX C s.heap h v m) : NewX C B h v m := by
  obtain ⟨e, t, u, h1, h2, h3, h4⟩ := r
  exact ⟨e, t, u, h1, o.freshB h2, h3, h4⟩
theorem NewX.unhide {v : Value} {m : List Nat} (i' : Inv C s') (r : NewX C (hideAll s.heap C.tabA) s'.heap v m) : NewX C s.heap s'.heap v m := by
  obtain ⟨e, t, u, h1, h2, h3, h4, h5⟩ := r
  refine ⟨e, t, u, h1, ?_, h3, h4, h5⟩
  have hn : e ∉ C.tabA := i'.notTab h4 (by simp)
  cases hs : s.heap.get? e with
  | none => rfl
  | some ob => have := hideAll_get _ hs hn; rw [h2] at this; cases this
theorem NewX.at {h0 h : Heap} {v : Value} {m : List Nat} (r : NewX C h0 h v m) : XAt C h0 h v (.toml m) false := by
  obtain ⟨e, t, u, h1, h2, h3, h4, h5⟩ := r
  exact ⟨e, _, _, h1, h2, h3, h4, rfl, by simp, ⟨rfl, t, u, rfl, h5⟩, .inl ⟨rfl, rfl⟩⟩

noncomputable abbrev XV (C : Cx) (s : Shared) (Q : List Nat → Prop) (v : Value) (s' : Shared) : Prop := Step C s s' ∧ ∃ m, NewX C s.heap s'.heap v m ∧ Q m
noncomputable def XvW (C : Cx) (G : Fc) (ρ : Vars) (e : Expr) (Q : List Nat → Prop) (Z : Exn → Prop) : Prop := ∀ X s, Ok C G X ρ s → wpAny C.M G.A (eval e G.env) (XV C s Q) (XP C s Z) s
noncomputable def XoW (C : Cx) (G : Fc) (ds : List D) (op : List Value → Sem Value) (Q : List Nat → Prop) (Z : Exn → Prop) : Prop := ∀ ρ X s vs, Ok C G X ρ s → Reps C X s.heap vs ds → wpAny C.M G.A (op vs) (XV C s Q) (XP C s Z) s
noncomputable abbrev kCallX (C : Cx) (G : Fc) (f : Value) (Q : List Nat → Prop) (Z : Exn → Prop) (ds : List D) : Prop := XoW C G ds (callV f) Q Z
theorem XvW.call {x : PySem.Str} {np pos : Pos} {es : List Expr} {f : Value} (hx : G.env.kindOf x = some .globalImplicit) (hm : Means C x f) (hf : Callee C f)
    (h : EsW C G ρ es (kCallX C G f Q Z) Z) (hs : noStars es = true := by rfl) (hd : (x == ("__debug__" : PySem.Str)) = false := by decide) : XvW C G ρ (.Call (.Name x np) es [] pos) Q Z := fun X s o => by
  refine PySem.wpAny_Call_NameR (loadGlob o hx hm ?_ hd)
  refine callWith_core hf hs o (wpAny_mono (h X s pos o) (fun vs s₁ ⟨st, ds, rs, p⟩ => ⟨st, ?_⟩) fun _ _ x => x)
  exact wpAny_mono (p ρ X s₁ vs (o.step st) rs) (fun _ _ ⟨st', m, r, q⟩ => ⟨st.trans st', m, r.back o.inv st, q⟩) fun _ _ x => x.back o.inv st
theorem XoW.toml {m : List Nat} (hT : TomlAt C.base C.toml) (h : Q m) : XoW C G [.str m] (callV (.ref C.toml)) Q Z := fun ρ X s vs o r => by
  · obtain ⟨v, rfl, r1⟩ := r.one
    obtain ⟨u, rfl⟩ := r1
    obtain ⟨T⟩ := (hT.keeps o.inv.stays).r
    obtain ⟨hp, g, d, tk, os⟩ := s
    refine wpAny_call_exc_subT PySem.F.excBase_ValueError .base T.h1 T.h2 T.h3 (fun h' e hm => ?_) (by show 1 ≤ sizeLine; decide)
    have st : Step C ⟨hp, g, d, tk, os⟩ ⟨h', g, d, tk, os⟩ := Step.keeps (tk := tk) (dr := d) o.inv hm.keeps
    obtain ⟨t, e1, e2, e3⟩ := hm.there
    exact ⟨st, m, ⟨e, t, u, rfl, hm.new, o.inv.baseNone hm.new, e1, _, e3, rfl, _, rfl⟩, h⟩

noncomputable def SWX (C : Cx) (G : Fc) (O : List PySem.Str) (ρ : Vars) (ss : List Stmt) (Q : List Nat → Prop) (Z : Exn → Prop) : Prop := ∀ B X own s, OkS C G B X O ρ own s →
  wpAny C.M G.A (execs ss G.env) (fun fl s' => ∃ ρ' own', OkS C G B X O ρ' own' s' ∧ match fl with | .ret v => ∃ m, NewX C B s'.heap v m ∧ Q m | _ => False) (SX C G B X O false fun x _ => Z x) s
theorem SWX.cons {st : Stmt} {ss : List Stmt} (h : S1W C G O ρ st (fun fl ρ' => fl = .nxt ∧ SWX C G O ρ' ss Q Z) (fun x _ => Z x)) : SWX C G O ρ (st :: ss) Q Z := fun B X own s o => by
  refine wpAny_execs_cons (wpAny_mono (h B X own s o) (fun fl s₁ q9 => ?_) fun _ _ x => x)
  obtain ⟨ρ', own', o', p⟩ := q9
  cases fl with
  | next => exact p.2 B X own' s₁ o'
  | brk => cases p.1
  | cont => cases p.1
  | ret v => obtain ⟨d, _, q, _⟩ := p; cases q
theorem SWX.ret {e : Expr} {pos : Pos} (h : XvW C G ρ e Q Z) : SWX C G O ρ [.Return (some e) pos] Q Z := fun B X own s o => by
  refine wpAny_execs_cons (wpAny_Return_some (wpAny_mono (h X s o.full) (fun v s₁ ⟨st, m, r, q⟩ => ?_) fun _ _ x => x.sx (Zs := fun x _ => Z x) o))
  exact ⟨ρ, own, o.step st, m, r.toB o, q⟩
theorem XoW.fnIs {f : Addr} {body : List Stmt} {scope : Scope} {code : Value} {q : PySem.Str} {xs : List PySem.Str} {ds : List D} (hf : FnIs C f body scope code q xs) (hk : 0 < G.k) (hlen : xs.length = ds.length) (hloc : (xs.all fun x => kOk scope x && !O.contains x) = true)
    (h : ∀ G', NewFr G.A.handled G' scope code q (G.k - 1) → LeaveOk C G' O (fun x _ => Z x) ∧ SWX C G' O (puts xs ds []) body Q Z) : XoW C G ds (callV (.ref f)) Q Z := fun ρ X s vs o r => by
  obtain ⟨fd, h1, rfl, rfl, rfl, h5⟩ := hf
  obtain ⟨oc, od, osl, hK⟩ := h1.here
  have hin := o.inv.ok.kin.keeps o.inv.stays
  obtain ⟨fe, hfr, hfe, hfa⟩ := o.g.frames
  have gd := o.g
  refine wpAny_call (codeAny_mono (call_rawG (T := fun B X v s' => ∃ m, NewX C B s'.heap v m ∧ Q m) (k := G.k - 1) (Z := Z) (O := O) (hin _ _ hK) rfl (codeRec_of hin h1.code) h1.body h1.clo h1.glob h1.blt h1.kind h1.co h1.gen (by have := gd.depth; (lia)) (by have := gd.units; (lia)) hfr hfa gd.hnd o.x (h5 vs (by rw [r.length, hlen])) hlen (fun x hx => ?_) o.inv r fun G' N => ⟨(h G' N).1, fun B X own s o => wpAny_mono ((h G' N).2 B X own s o) (fun fl s' q => ?_) fun _ _ x => x⟩) fun r s' q => ?_)
  · have := List.all_eq_true.mp hloc x hx
    simp only [Bool.and_eq_true, kOk, Bool.or_eq_true, beq_iff_eq, Bool.not_eq_true'] at this
    exact ⟨this.1, by simpa using this.2⟩
  · obtain ⟨ρ', own', o', p⟩ := q
    refine ⟨ρ', own', o', ?_⟩
    cases fl with
    | next => exact p.elim
    | brk => exact p.elim
    | cont => exact p.elim
    | ret v => exact p
  · match r, q with
    | .ok (.ret v), q => obtain ⟨st, m, r, p⟩ := q; exact ⟨st, m, r.unhide st.inv, p⟩
    | .error e, q => exact q

theorem S1W.raise {e : Expr} {pos : Pos} (hT : TomlAt C.base C.toml) (hh : G.A.handled = none) (h : XvW C G ρ e (fun m => Zs (.toml m) ρ) (kZ Zs ρ)) : S1W C G O ρ (.Raise (some e) none pos) P Zs := fun B X own s o => by
  show wpAny C.M G.A (do standAt pos; raiseStmt G.env (some (do let v ← eval e G.env; standAt pos; pure v)) none) _ _ s
  refine wpAny_bind (wpAny_standAt ?_)
  obtain ⟨T⟩ := hT.r
  refine wpAny_raiseStmt_made_sub (C := C.toml) (nm := T.nm) (q := T.q) (N := T.N) (bs := T.bs) (bm := veMro) (hdct := T.hdct) (sn := T.sn) (sub := T.sub) (ab := T.ab) (col := T.col) (dd := T.dd) (k0 := T.k0) (k1 := T.k1) (k2 := T.k2) (k3 := T.k3) (k5 := T.k5) (newId := "ValueError.__new__") (by decide +kernel) hh ?_
  refine wpAny_bind (wpAny_mono (h X s o.full) (fun v s₁ q => wpAny_bind (wpAny_standAt (wpAny_pure ?_))) fun _ _ x => x.sx o)
  obtain ⟨st, m, r, z⟩ := q
  have rB := (r.toB o).at
  obtain ⟨a, t, u, e1, e2, e3, e4, e5⟩ := r
  exact ⟨a, t, e1, st.inv.stays _ _ T.h1, e4, ρ, own, o.step st, .toml m, by rw [← e1]; exact rB, z⟩
end
end Mine

end
section
open PySem PySem.W PySem.Calls PyProof.Rows PySem.Builtin PySem.Builtin.Str
set_option Elab.async false
set_option maxRecDepth 100000
set_option maxHeartbeats 1000000
namespace Mine
section
variable {C : Cx} {G : Fc} {B : Heap} {X : Addr → Prop} {O : List PySem.Str} {ρ ρ' : Vars} {own own' : List (PySem.Str × Addr)} {s s' s₁ : Shared} {Q : List Nat → Prop} {Z : Exn → Prop} {P : Fl → Vars → Prop} {Zs : Exn → Vars → Prop}
theorem Inv.changeX (i : Inv C s) {a : Addr} {ob : Obj} {h' : Heap} {tk : Nat} (hs : Heap.SameBut a s.heap h') (hb : C.base.get? a = none) (ha : s.heap.get? a = some ob) (hc : ob.cls = .ref C.toml) : Inv C { s with heap := h', toks := tk } where
  ok := i.ok
  stays b o e := (hs.2 b fun q => by rw [q, hb] at e; cases e).trans (i.stays b o e)
  tabs p hp := by
    obtain ⟨ps, h1, h2, h3⟩ := i.tabs p hp
    have hne : ∀ (b : Addr) (o' : Obj), s.heap.get? b = some o' → o'.cls ≠ .ref C.toml → b ≠ a := fun b o' e hd' q => by
      rw [q, ha] at e; cases e; exact hd' hc
    refine ⟨ps, (hs.2 _ (hne _ _ h1 (by simp))).trans h1, h2, fun pos cv hcv => ?_⟩
    obtain ⟨a', o, vs, t, e1, hn, e2, e3, e4, e5⟩ := h3 pos cv hcv
    exact ⟨a', o, vs, t, e1, hn, (hs.2 _ (hne _ _ e2 (by rw [e5]; simp))).trans e2, e3, e4, e5⟩
  gens := i.gens
  os := i.os
theorem unchainW {A : Around} {E : Value → Shared → Prop} {prog : Program} {w : World} {e h : Addr} {oh : Obj} {vs : Array Value} {R : Value → Shared → Prop} (he : s.heap.get? h = some oh) (hd : oh.data = .fields vs) (h2 : vs[2]? = some .none) (hq : R .none s) :
    wpAny (model prog w) A (runValue (.builtin "proto.unchain" ⟨[.ref e, .ref h, .ref h, .bool false], []⟩)) R E s := by
  refine wpAny_runValue ?_
  refine codeAny_builtin (b := Builtin.«proto.unchain») (entryFor_of_tree (by kernel_rfl)) ?_
  unfold Builtin.«proto.unchain»
  refine wpAny_bind (wpAny_field he hd h2 ?_)
  rw [if_pos (by rfl)]
  exact wpAny_pure hq
theorem raiseFrom_core {A : Around} {E : Value → Shared → Prop} {prog : Program} {w : World} {nm q : PySem.Str} {Ct N : Addr} {bs : List Value} {hdct : Bool} {sn : List PySem.Str} {sub : List Value} {ab : Bool} {col : Option Bool} {dd : Option Addr} {k0 k1 k2 k3 k5 : Option Value} {newId : String} {env : Env} {x c : Sem Value} {Q : Flow → Shared → Prop} {hv : Addr} (hh : A.handled = some (.ref hv))
    (hc : ∀ (R : Value → Shared → Prop) s, R .none s → wpAny (model prog w) A c R E s)
    (h : wpAny (model prog w) A x (fun v s₁ => ∃ e t, v = .ref e ∧ e ≠ hv ∧ s₁.heap.get? Ct = some (excClassObj nm q Ct N bs veMro hdct sn sub ab col dd k0 k1 k2 k3 k5 newId) ∧
      s₁.heap.get? e = some { cls := .ref Ct, data := .fields #[.ref t, .none, .none, .none, .bool false, .none] } ∧ (∃ oh vs, s₁.heap.get? hv = some oh ∧ oh.data = .fields vs ∧ vs[2]? = some .none) ∧
      ∀ h', Heap.SameBut e s₁.heap h' → h'.get? e = some { cls := .ref Ct, data := .fields #[.ref t, .none, .ref hv, .none, .bool true, .none] } → E (.ref e) { s₁ with heap := h' }) E s) :
    wpAny (model prog w) A (raiseStmt env (some x) (some c)) Q E s := by
  have hcB : (Value.ref Ct :: veMro).contains (.type "BaseException") = true := by rw [List.contains_cons, show veMro.contains (.type "BaseException") = true by decide +kernel, Bool.or_true]
  unfold raiseStmt
  refine wpAny_bind (wpAny_mono h (fun v s₁ h₁ => ?_) fun _ _ x => x)
  obtain ⟨e, t, rfl, hne, hC, he, ⟨oh, vs, hh1, hh2, hh3⟩, hE⟩ := h₁
  dsimp only
  refine wpAny_bind (wpAny_holding (hc _ _ ?_))
  refine wpAny_bind (wpAny_pure ?_)
  obtain ⟨hp, g, d, tk, os⟩ := s₁
  dsimp only
  refine wpAny_bind (wpAny_holding ?_)
  unfold excFromValue isExcClass
  repeat (first | with_reducible refine wpAny_loadPart_at he ?_ | with_reducible refine wpAny_loadPart_at hC ?_ | (with_reducible refine wpAny_isSubtype_exc hC ?_; rw [hcB]) | wp_step)
  have hCe : e ≠ Ct := fun q => by
    rw [q, hC] at he
    have := congrArg (fun o : Option Obj => o.map (·.cls)) he
    cases this
  have hne' : hv ≠ e := Ne.symm hne
  generalize hH : (hp.update e (Obj.mapFields fun x => x.setIfInBounds 3 Value.none)).update e (Obj.mapFields fun x => x.setIfInBounds 4 (Value.bool true)) = H
  have oth : ∀ b, b ≠ e → H.get? b = hp.get? b := fun b hb => by rw [← hH, Heap.get?_update_other _ _ (Ne.symm hb), Heap.get?_update_other _ _ (Ne.symm hb)]
  have he2 : H.get? e = some { cls := .ref Ct, data := .fields #[.ref t, .none, .none, .none, .bool true, .none] } := by
    rw [← hH, Heap.get?_update_self _ (Heap.get?_update_self _ he rfl) rfl]; rfl
  have hC2 := (oth Ct (Ne.symm hCe)).trans hC
  have hh4 := (oth hv hne').trans hh1
  have hsz : H.objs.size = hp.objs.size := by rw [← hH]; simp [Heap.update]
  repeat (first | with_reducible refine wpAny_loadPart_at he2 ?_ | with_reducible refine wpAny_loadPart_at hC2 ?_ | wp_step)
  unfold raiseNew
  refine wpAny_bind (wpAny_handled ?_)
  rw [hh]
  dsimp only
  rw [if_pos (show ((Value.ref hv != Value.ref e) = true) by simpa using hne')]
  refine wpAny_bind (wpAny_holding (unchainW (s := { heap := H, gens := g, drawn := d, toks := tk, os := os }) hh4 hh2 hh3 ?_))
  show wpAny _ _ (setField (.ref e) 2 (.ref hv) >>= fun _ => throw (Value.ref e)) _ _ _
  refine wpAny_bind (wpAny_setField (s := { heap := H, gens := g, drawn := d, toks := tk, os := os }) he2 rfl (by simp) ?_)
  refine wpAny_throw (hE _ ?_ ?_)
  · refine ⟨?_, fun b hb => ?_⟩
    · show (H.update _ _).objs.size = _
      rw [← hsz]; simp [Heap.update]
    · rw [Heap.get?_update_other _ _ (Ne.symm hb)]; exact oth b hb
  · rw [Heap.get?_update_self _ he2 rfl]; rfl
theorem S1W.raiseFrom {e : Expr} {k : Nat} {cp pos : Pos} {ev : Value} (hT : TomlAt C.base C.toml) (hh : G.A.handled = some ev) (hch : G.ch = true) (h : XvW C G ρ e (fun m => Zs (.toml m) ρ) (kZ Zs ρ)) : S1W C G O ρ (.Raise (some e) (some (.Constant .none k cp)) pos) P Zs := fun B X own s o => by
  show wpAny C.M G.A (do standAt pos; raiseStmt G.env (some (do let v ← eval e G.env; standAt pos; pure v)) (some (do let v ← eval (.Constant .none k cp) G.env; standAt pos; pure v))) _ _ s
  refine wpAny_bind (wpAny_standAt ?_)
  obtain ⟨T⟩ := hT.r
  obtain ⟨hv, oh, vs, rfl, g2, g3, g4, g5⟩ := o.g.hnd ev hh
  refine raiseFrom_core (Ct := C.toml) (nm := T.nm) (q := T.q) (N := T.N) (bs := T.bs) (hdct := T.hdct) (sn := T.sn) (sub := T.sub) (ab := T.ab) (col := T.col) (dd := T.dd) (k0 := T.k0) (k1 := T.k1) (k2 := T.k2) (k3 := T.k3) (k5 := T.k5) (newId := "ValueError.__new__") hh (fun R s hr => ?_) ?_
  · exact wpAny_bind (wpAny_Constant_none (wpAny_bind (wpAny_standAt (wpAny_pure hr))))
  refine wpAny_bind (wpAny_mono (h X s o.full) (fun v s₁ q => wpAny_bind (wpAny_standAt (wpAny_pure ?_))) fun _ _ x => x.sx o)
  obtain ⟨st, m, r, z⟩ := q
  have oo := o.step st
  have rB := r.toB o
  obtain ⟨a, t, u, e1, e2, e3, e4, e5⟩ := r
  obtain ⟨hv', oh', vs', f1, f2, f3, f4, f5⟩ := oo.g.hnd _ hh
  cases f1
  have hav : a ≠ hv := fun q => by rw [q, g2] at e2; cases e2
  refine ⟨a, t, e1, hav, st.inv.stays _ _ T.h1, e4, ⟨oh', vs', f2, f4, f5 hch⟩, fun h' hs he => ?_⟩
  have stp : Step C s { s₁ with heap := h' } := ⟨Inv.changeX (tk := s₁.toks) st.inv hs e3 e4 rfl, fun b ob hb hbs => ?_⟩
  · refine ⟨ρ, own, o.step stp, .toml m, ?_, z⟩
    obtain ⟨a', t', u', d1, d2, d3, d4, d5⟩ := rB
    rw [e1] at d1; cases d1
    have hta : t ≠ a := fun q => by
      obtain ⟨ot, w1, w2, _⟩ := e5
      rw [q, e4] at w1; cases w1; cases w2
    refine ⟨a, _, _, rfl, d2, e3, he, rfl, by simp, ⟨rfl, t, u, rfl, ?_⟩, .inl ⟨rfl, rfl⟩⟩
    obtain ⟨ot, w1, w2⟩ := e5
    exact ⟨ot, (hs.2 t hta).trans w1, w2⟩
  · have hba : b ≠ a := fun q => by rw [q, e2] at hbs; cases hbs
    obtain ⟨k1, sl, k2⟩ := st.keep b ob hb hbs
    exact ⟨fun hc => (hs.2 b hba).trans (k1 hc), sl, (hs.2 b hba).trans k2⟩
end
end Mine

end
section
open PySem PySem.W PySem.Calls PyProof.Rows PySem.Builtin PySem.Builtin.Str
set_option Elab.async false
set_option maxRecDepth 100000
set_option maxHeartbeats 1000000
namespace Mine
section
variable {M : Model} {A : Around} {E : Value → Shared → Prop} {s : Shared}
theorem dropName_cls (name : PySem.Str) (o : Obj) : (o.dropName name).cls = o.cls := by
  rw [Obj.dropName_eq]; unfold Obj.dropNameByArray
  split
  · split <;> rfl
  · rfl
theorem nsDelC {a : Addr} {m : PySem.Str → Option Value} {name : PySem.Str} {Q : Bool → Shared → Prop} (hn : s.heap.Ns a m)
    (hQ : ∀ b h' v, h'.Ns a (fun x => if x = name then v else m x) → Heap.SameBut a s.heap h' → (∀ o, s.heap.get? a = some o → ∃ o' es ep, h'.get? a = some o' ∧ o'.cls = o.cls ∧ o'.data = .dict es ep) → (m name).isSome = b → Q b { s with heap := h' }) : wpAny M A (nsDel a name) Q E s := by
  obtain ⟨o, es, ep, ho, hd, hk, hm⟩ := id hn
  have hany : es.any (·.refKey) = false := by
    rw [Array.any_eq_false']
    intro e he
    obtain ⟨n, t, h⟩ := hk e he
    simp [DictEntry.refKey, h]
  have hsome : (m name).isSome = es.any (·.key.isStr name) := by
    rw [← hm name, Bool.eq_iff_iff]
    simp only [nsFind, findBy, Option.isSome_map, Array.find?_isSome, Array.any_eq_true, Array.mem_iff_getElem]
    constructor
    · rintro ⟨x, ⟨i, hi, rfl⟩, hp⟩; exact ⟨i, hi, hp⟩
    · rintro ⟨i, hi, hp⟩; exact ⟨_, ⟨i, hi, rfl⟩, hp⟩
  have hhas : nsHas name o = pure (es.any (·.key.isStr name)) := by
    rw [nsHas_eq]; unfold nsHasByArray; rw [hd]
    dsimp only
    cases hb : (es.any fun x => x.key.isStr name) <;> simp [hany]
  unfold nsDel
  refine wpAny_bind (wpAny_loadPart ho ?_)
  rw [hhas]
  refine wpAny_bind (wpAny_pure ?_)
  cases hb : es.any (·.key.isStr name) with
  | false =>
    rw [if_neg (by simp)]
    refine wpAny_pure (hQ false s.heap (m name) ⟨o, es, ep, ho, hd, hk, fun x => ?_⟩ (.refl ..) (fun o' e => ⟨o', es, ep, e, rfl, by rw [ho] at e; cases e; exact hd⟩) (hsome.trans hb))
    by_cases hx : x = name <;> simp [hx, hm]
  | true =>
    rw [if_pos rfl]
    refine wpAny_bind (wpAny_updatePart ho (wpAny_pure ?_))
    obtain ⟨i, hi⟩ : ∃ i, es.findIdx? (·.key.isStr name) = some i := by
      cases hf : es.findIdx? (·.key.isStr name) with
      | some i => exact ⟨i, rfl⟩
      | none =>
        rw [Array.findIdx?_eq_none_iff] at hf
        obtain ⟨j, hj, hp⟩ := Array.any_eq_true.mp hb
        have := hf _ (Array.getElem_mem hj)
        rw [hp] at this; cases this
    have hnew : (o.dropName name).data = .dict (es.eraseIdxIfInBounds i) (ep + 1) := by
      obtain ⟨c, d, dt, sl⟩ := o
      subst hd
      simp only [Obj.dropName_eq, Obj.dropNameByArray, hi]
    have hget : (s.heap.update a (Obj.dropName name)).get? a = some (o.dropName name) := Heap.get?_update_self _ ho (by
      obtain ⟨c, d, dt, sl⟩ := o
      subst hd
      simp only [Obj.dropName_eq, Obj.dropNameByArray, hi] <;> rfl)
    refine hQ true _ (nsFind (es.eraseIdxIfInBounds i) name) ⟨_, _, _, hget, hnew, hk.erase i, fun x => ?_⟩ (Heap.SameBut.update ..) (fun o' e => ?_) (hsome.trans hb)
    · show _ = if x = name then nsFind (es.eraseIdxIfInBounds i) name else m x
      by_cases hx : x = name
      · rw [if_pos hx, hx]
      · rw [if_neg hx, nsFind_erase_other hi hx, hm]
    · rw [ho] at e; cases e
      exact ⟨_, _, _, hget, dropName_cls name o, hnew⟩
end
end Mine

end
section
open PySem PySem.W PySem.Calls PyProof.Rows PySem.Builtin PySem.Builtin.Str
set_option Elab.async false
set_option maxRecDepth 100000
set_option maxHeartbeats 1000000
namespace Mine
noncomputable def gone (n : PySem.Str) (ρ : Vars) : Vars := ρ.filter fun p => p.1 != n
theorem lookup_gone {n y : PySem.Str} : ∀ (ρ : Vars), (gone n ρ).lookup y = if y = n then none else ρ.lookup y
  | [] => by simp [gone]
  | (x, d) :: ρ => by
    have ih := lookup_gone (n := n) (y := y) ρ
    unfold gone at ih ⊢
    rw [List.filter_cons]
    by_cases hx : x = n
    · subst hx
      rw [if_neg (by simp), ih, List.lookup_cons]
      by_cases hy : y = x
      · rw [if_pos hy, if_pos hy]
      · rw [if_neg hy, if_neg hy, show (y == x) = false from beq_eq_false_iff_ne.mpr hy]
    · rw [if_pos (by simpa using hx), List.lookup_cons, List.lookup_cons, ih]
      by_cases hy : y = n
      · rw [if_pos hy, if_pos hy, show (y == x) = false from beq_eq_false_iff_ne.mpr fun q => hx (q.symm.trans hy)]
      · rw [if_neg hy, if_neg hy]
section
variable {C : Cx} {G : Fc} {B : Heap} {X : Addr → Prop} {O : List PySem.Str} {ρ ρ' : Vars} {own own' : List (PySem.Str × Addr)} {s s' s₁ : Shared} {Z : Exn → Prop} {P : Fl → Vars → Prop} {Zs : Exn → Vars → Prop}
theorem OkS.gone {n : PySem.Str} {h' : Heap} {tk : Nat} {m : PySem.Str → Option Value} {v : Option Value} (o : OkS C G B X O ρ own s) (hf : G.env.frame = some G.env.locals) (hn : s.heap.Ns G.env.locals m) (hx : n ∉ O)
    (h1 : h'.Ns G.env.locals (fun x => if x = n then v else m x)) (hs : Heap.SameBut G.env.locals s.heap h') (hc : ∀ o, s.heap.get? G.env.locals = some o → ∃ o' es ep, h'.get? G.env.locals = some o' ∧ o'.cls = o.cls ∧ o'.data = .dict es ep) :
    OkS C G B X O (Mine.gone n ρ) own { s with heap := h', toks := tk } := by
  have hfr := o.g.framed hf
  obtain ⟨ol, el, hel⟩ : ∃ ob, s.heap.get? G.env.locals = some ob ∧ (∀ vs, ob.data ≠ .fields vs) := by
    obtain ⟨o', es, ep, e, hd, _⟩ := hn
    exact ⟨o', e, by rw [hd]; simp⟩
  have hval : ∀ b ob, s.heap.get? b = some ob → Val ob → h'.get? b = some ob := fun b ob e hv => by
    refine (hs.2 b fun q => ?_).trans e
    subst q
    exact hv.2.1 (hfr ob e)
  have other : ∀ {y u}, y ≠ n → VarAt G.env s.heap y u → VarAt G.env h' y u := fun {y u} hy hv => by
    rcases hv with ⟨hk', m', hn', hm'⟩ | ⟨hk', c, hc', hv'⟩
    · have := ns_unique hn' hn; subst this
      exact .inl ⟨hk', _, h1, by simp [hy, hm']⟩
    · exact .inr ⟨hk', c, hc', hv'.sameBut hs fun q => cell_ns hn (q ▸ hv')⟩
  refine { inv := o.inv.change hs o.g.locB el hel, g := { o.g with frames := ?_, loc := ⟨_, h1⟩, cells := fun y c e => ?_, hnd := fun u hu => ?_ }, kb := fun b ob ht e => ?_, bt := o.bt, bb := o.bb, bL := o.bL, bC := o.bC, bO := o.bO, nX := o.nX, xH := fun a ha => (o.xH a ha).keepV hval, oN := o.oN, oH := fun p hp => ?_, oI := o.oI, vars := fun y e hy => ?_ }
  · obtain ⟨fe, p, q, r⟩ := o.g.frames
    exact ⟨fe, p, q, fun e he => (r e he).change hs fun o ho _ _ => hc o ho⟩
  · obtain ⟨⟨w, p⟩, q⟩ := o.g.cells y c e
    exact ⟨⟨w, p.sameBut hs fun q => cell_ns hn (q ▸ p)⟩, q⟩
  · obtain ⟨e, ob, vs, g1, g2, g3, g4, g5⟩ := o.g.hnd u hu
    refine ⟨e, ob, vs, g1, (hs.2 e fun q => ?_).trans g2, g3, g4, g5⟩
    rw [q, el] at g2; cases g2; exact hel vs g4
  · have hne : b ≠ G.env.locals := fun q => by rw [q, o.bL] at e; cases e
    obtain ⟨k1, sl, k2⟩ := o.kb b ob ht e
    exact ⟨fun hc => (hs.2 b hne).trans (k1 hc), sl, (hs.2 b hne).trans k2⟩
  · obtain ⟨vs, hv⟩ := o.oH p hp
    exact ⟨vs, PL.keepV hval hv⟩
  · rw [lookup_gone] at hy
    by_cases hyx : y = n
    · rw [if_pos hyx] at hy; cases hy
    · rw [if_neg hyx] at hy
      have := o.vars y e hy
      exact ⟨fun hm => (by obtain ⟨b, ds, vs, h1, h2, h3, h4, h5⟩ := this.1 hm; exact ⟨b, ds, vs, h1, h2, other hyx h3, PL.keepV hval h4, h5.keepV hval⟩),
        fun hm => (by obtain ⟨w, h1, h2⟩ := this.2 hm; exact ⟨w, other hyx h1, h2.keepV hval⟩)⟩
theorem lookup_gone_put {n y : PySem.Str} {d : D} (ρ : Vars) : (Mine.gone n (put n d ρ)).lookup y = (Mine.gone n ρ).lookup y := by
  rw [lookup_gone, lookup_gone, lookup_put]
  by_cases h : y = n
  · rw [if_pos h, if_pos h]
  · rw [if_neg h, if_neg h, if_neg h]
theorem goesW {n : PySem.Str} {pos : Pos} {A : Around} {E : Value → Shared → Prop} (hF : Fun G) (hk : G.env.kindOf n = some .local) (hx : n ∉ O) (o : OkS C G B X O ρ own s) :
    wpAny C.M A (do bindName G.env n .none; unbindBehindTheSuite G.env n pos) (fun _ s' => OkS C G B X O (Mine.gone n ρ) own s' ∧ ∀ b ob, s.heap.get? b = some ob → Val ob → s'.heap.get? b = some ob) E s := by
  have hp : (G.env.scope.kind == .class || (G.env.scope.kind == .module && G.env.locals != G.env.globals)) = false := by rw [o.g.kind]; rfl
  refine wpAny_bind (wpAny_bindName (store_loc o.g (.inl hk) fun h₁ tk a l => ?_))
  have o₁ := o.store (tk := tk) hF.fr l hx (d := .none) .mkNone
  obtain ⟨m, hm⟩ := o₁.g.loc
  have hsome : (m n).isSome = true := by
    rcases o₁.vars n .none (by rw [lookup_put, if_pos rfl]) |>.2 hx with ⟨w, hv, _⟩
    rcases hv with ⟨_, m', hn', hm'⟩ | ⟨hk', _⟩
    · rw [← ns_unique hn' hm, hm']; rfl
    · rw [hk] at hk'; rcases hk' with q | q <;> cases q
  unfold unbindBehindTheSuite
  refine wpAny_onRaise ?_
  unfold unbindName
  refine wpAny_bind (wpAny_point (wpAny_bind ?_))
  unfold deleteName
  simp only [hk, hp]
  rw [if_neg (by decide)]
  refine wpAny_bind (nsDelC hm fun b h₂ v hn₂ hs₂ hc₂ hb => ?_)
  rw [hsome] at hb
  subst hb
  simp only [if_true, Option.isSome_some, Bool.not_true, Bool.false_eq_true, if_false]
  refine wpAny_pure (wpAny_point ⟨((o₁.gone hF.fr hm hx hn₂ hs₂ hc₂)).congr fun y d e => by rw [lookup_gone_put]; exact e, fun b ob e hv => ?_⟩)
  have e1 := l.val (o.g.framed hF.fr) b ob e hv
  refine (hs₂.2 b fun q => ?_).trans e1
  subst q
  exact hv.2.1 (o₁.g.framed hF.fr ob e1)
end
end Mine

end
section
open PySem PySem.W PySem.Calls PyProof.Rows PySem.Builtin PySem.Builtin.Str
set_option Elab.async false
set_option maxRecDepth 100000
set_option maxHeartbeats 1000000
namespace Mine
section
variable {C : Cx} {G : Fc} {B : Heap} {X : Addr → Prop} {O : List PySem.Str} {ρ ρ' : Vars} {own own' : List (PySem.Str × Addr)} {s s' s₁ : Shared} {Z : Exn → Prop} {P : Fl → Vars → Prop} {Zs : Exn → Vars → Prop}
theorem tryAt {tn n : PySem.Str} {tp hp pos : Pos} {b₀ : Stmt} {suite body : List Stmt} (hF : Fun G) (hh : G.A.handled = none) (hT : TomlAt C.base C.toml) (hx : G.env.kindOf tn = some .globalImplicit) (hm : Means C tn (.ref C.toml)) (hk : G.env.kindOf n = some .local) (hnO : n ∉ O)
    (h : wpAny C.M G.A (execs body G.env) (SP C G B X O P) (SX C G B X O false (fun x ρ' => ∃ m, x = .toml m ∧ ∀ ev, SW C (G.mk' ev false) O (put n (.exc m) ρ') (b₀ :: suite) (fun fl ρ'' => P fl (Mine.gone n ρ'')) (fun _ _ => False))) s) (hd : (tn == ("__debug__" : PySem.Str)) = false := by decide) :
    wpAny C.M G.A (exec (.Try body [.ExceptHandler (some (.Name tn tp)) (some n) (b₀ :: suite) hp] [] [] pos) G.env) (SP C G B X O P) (SX C G B X O false Zs) s := by
  refine wpAny_Try_except (wpAny_mono h (fun f s₁ q => ?_) fun ev s₁ q => ?_)
  · cases f with
    | next => exact wpAny_execs_nil q
    | brk => exact q
    | cont => exact q
    | ret v => exact q
  · obtain ⟨ρ', own', o₁, x, r, ⟨m, rfl, hb⟩⟩ := q
    refine wpAny_mono (noteW (E := fun _ _ => False) hF.fr o₁ r) (fun _ s₂ q => ?_) fun _ _ q => q.elim
    obtain ⟨o₂, r₂⟩ := q
    refine wpAny_mono (flightW (E := fun _ _ => False) o₂ r₂) (fun _ s₃ q => ?_) fun _ _ q => q.elim
    obtain ⟨o₃, r₃⟩ := q
    obtain ⟨a, oe, vs, rfl, he, hdt, q, hc⟩ := r₃.obj
    have om := o₃.mark r₃
    refine wpAny_handleBy_cons (codeAny_handlers_test ?_) (by intro q; cases q)
    refine loadGlob (G := G.mk' (.ref a) false) om.full hx hm ?_ hd
    obtain ⟨T⟩ := (hT.keeps o₃.inv.stays).r
    have hcls : oe.cls = .ref C.toml := by
      obtain ⟨a', o', vs', g1, g2, g3, g4, g5, g6, g7, g8⟩ := r₃
      cases g1
      rw [he] at g4; cases g4
      exact g7.1
    obtain ⟨H3, g3, d3, tk3, os3⟩ := s₃
    refine wpAny_excMatches_sub_self T.h1 he hcls (by decide +kernel) ?_
    rw [if_pos rfl]
    refine codeAny_handlers_suite_as ?_
    refine wpAny_mono (flightW (G := G.mk' (.ref a) false) (E := fun _ _ => False) om r₃) (fun _ s₄ w => ?_) fun _ _ w => w.elim
    obtain ⟨o₄, r₄⟩ := w
    refine store_loc (G := G.mk' (.ref a) false) o₄.g (.inl hk) fun h' tk a' l => ?_
    have hrep : Rep C (inl own' X) s₄.heap (.ref a) (.exc m) := by
      obtain ⟨a2, o', vs', g1, g2, g3, g4, g5, g6, g7, g8⟩ := r₄
      cases g1
      obtain ⟨gc, t, u, gt, gs⟩ := g7
      refine Exists.intro a ⟨o', vs', t, u, ⟨rfl, fun hX => ?_⟩, g4, gc, g5, gt, gs⟩
      rcases hX with hX | ⟨p, hp, e⟩
      · obtain ⟨o2, k1, _, k3⟩ := o₄.xH a hX
        rw [g4] at k1; cases k1
        rw [gc] at k3
        rcases k3 with k | k | ⟨_, ob, k⟩
        · cases k
        · cases k
        · rw [g2] at k; cases k
      · obtain ⟨ws, hw⟩ := o₄.oH p hp
        rw [e] at hw
        obtain ⟨nn, hw⟩ := hw
        rw [g4] at hw; cases hw; cases g5
    have o₅ := o₄.store (tk := tk) (hF.mk' (.ref a) false).fr l hnO hrep
    refine wpAny_mono (hb (.ref a) B X own' _ o₅) (fun f s₆ w => ?_) fun _ _ w => by obtain ⟨_, _, _, _, _, z⟩ := w; exact z.elim
    obtain ⟨ρ₂, own₂, o₆, p⟩ := w
    refine wpAny_mono (goesW (A := G.A) hF hk hnO (o₆.unmark hh)) (fun _ s₇ w => ?_) fun _ _ x => x
    refine ⟨_, _, w.1, ?_⟩
    cases f with
    | next => exact p
    | brk => exact p
    | cont => exact p
    | ret v => obtain ⟨d, rd, p⟩ := p; exact ⟨d, rd.keepV w.2, p⟩
theorem S1W.tryT {tn n : PySem.Str} {tp hp pos : Pos} {b₀ : Stmt} {suite body : List Stmt} (hF : Fun G) (hh : G.A.handled = none) (hT : TomlAt C.base C.toml) (hx : G.env.kindOf tn = some .globalImplicit) (hm : Means C tn (.ref C.toml)) (hk : G.env.kindOf n = some .local) (hnO : n ∉ O)
    (h : SW C G O ρ body P (fun x ρ' => ∃ m, x = .toml m ∧ ∀ ev, SW C (G.mk' ev false) O (put n (.exc m) ρ') (b₀ :: suite) (fun fl ρ'' => P fl (Mine.gone n ρ'')) (fun _ _ => False))) (hd : (tn == ("__debug__" : PySem.Str)) = false := by decide) :
    S1W C G O ρ (.Try body [.ExceptHandler (some (.Name tn tp)) (some n) (b₀ :: suite) hp] [] [] pos) P Zs := fun B X own s o => tryAt hF hh hT hx hm hk hnO (h B X own s o) hd
end
end Mine

end
section
open PySem PySem.W PySem.Calls PyProof.Rows PySem.Builtin PySem.Builtin.Str
set_option Elab.async false
set_option maxRecDepth 100000
set_option maxHeartbeats 1000000
namespace Mine
section
variable {C : Cx} {G : Fc} {O : List PySem.Str} {ρ : Vars} {Q : D → Prop} {Z : Exn → Prop} {S : List D → Prop}
noncomputable def KwW (C : Cx) (G : Fc) (ρ : Vars) (ks : List Keyword) (Q : List D → Prop) (Z : Exn → Prop) : Prop :=
  ∀ X s pos, Ok C G X ρ s → wpAny C.M G.A (evalAll ((backToKw pos (keywordEach ks G.env)).map (·.2))) (LP C X s Q) (XP C s Z) s
theorem KwW.nil (h : S []) : KwW C G ρ [] S Z := fun X s pos o => kws_nil ⟨Step.refl o.inv, [], trivial, h⟩
noncomputable abbrev kKw (C : Cx) (G : Fc) (ρ : Vars) (rest : List Keyword) (S : List D → Prop) (Z : Exn → Prop) (d : D) : Prop := KwW C G ρ rest (fun ds => S (d :: ds)) Z
theorem KwW.cons {n : PySem.Str} {e : Expr} {kp : Pos} {rest : List Keyword} (h : EvW C G ρ e (kKw C G ρ rest S Z) Z) : KwW C G ρ (⟨some n, e, kp⟩ :: rest) S Z := fun X s pos o => by
  refine kws_cons (wpAny_mono (h X s o) (fun v s₁ q => ?_) fun _ _ x => x)
  obtain ⟨st, d, r, p⟩ := q
  refine wpAny_mono (p X s₁ pos (o.step st)) (fun vs s₂ q => ?_) fun _ _ x => x.back o.inv st
  obtain ⟨st', ds, rs, p'⟩ := q
  exact ⟨st.trans st', d :: ds, And.intro (r.step st.inv st') rs, p'⟩
noncomputable def callK (f : Value) (n : Nat) (ks : List PySem.Str) : List Value → Sem Value := fun vs => call f (vs.take n) (ks.zip (vs.drop n))
noncomputable abbrev kCallK (C : Cx) (G : Fc) (ρ : Vars) (f : Value) (kws : List Keyword) (ks : List PySem.Str) (Q : D → Prop) (Z : Exn → Prop) (ds : List D) : Prop := KwW C G ρ kws (fun ds' => OpW C G (ds ++ ds') (callK f ds.length ks) Q Z) Z
theorem kwNames {env : Env} {pos : Pos} : ∀ {kws : List Keyword} {ks : List PySem.Str}, kws.map (·.arg) = ks.map some → (backToKw pos (keywordEach kws env)).all (·.1.isSome) = true ∧ (backToKw pos (keywordEach kws env)).any (·.1.isNone) = false ∧ (backToKw pos (keywordEach kws env)).filterMap (·.1) = ks
  | [], [], _ => ⟨rfl, rfl, rfl⟩
  | ⟨n, e, p⟩ :: kws, k :: ks, h => by
    simp only [List.map_cons, List.cons.injEq] at h
    obtain ⟨rfl, h2⟩ := h
    obtain ⟨a, b, c⟩ := kwNames (env := env) (pos := pos) h2
    refine ⟨?_, ?_, ?_⟩
    · show (true && (backToKw pos (keywordEach kws env)).all (·.1.isSome)) = true
      rw [a]; rfl
    · show (false || (backToKw pos (keywordEach kws env)).any (·.1.isNone)) = false
      rw [b]; rfl
    · show k :: (backToKw pos (keywordEach kws env)).filterMap (·.1) = k :: ks
      rw [c]
  | [], _ :: _, h => by cases h
  | _ :: _, [], h => by cases h
theorem EvW.callKw {x : PySem.Str} {np pos : Pos} {e : Expr} {es : List Expr} {kws : List Keyword} (ks : List PySem.Str) {f : Value} (hx : G.env.kindOf x = some .globalImplicit) (hm : Means C x f) (hf : Callee C f)
    (h : EsW C G ρ (e :: es) (kCallK C G ρ f kws ks Q Z) Z) (hks : kws.map (·.arg) = ks.map some := by rfl)
    (hs : noStars (e :: es) = true := by rfl) (hd : (x == ("__debug__" : PySem.Str)) = false := by decide) : EvW C G ρ (.Call (.Name x np) (e :: es) kws pos) Q Z := fun X s o => by
  show wpAny C.M G.A (do callWith pos (← eval (.Name x np) G.env) [] (backTo pos (starEach (e :: es) G.env)) (backToKw pos (keywordEach kws G.env))) _ _ s
  refine wpAny_bind (loadGlob o hx hm ?_ hd)
  obtain ⟨k1, k2, k3⟩ := kwNames (env := G.env) (pos := pos) hks
  have h1 := h X s pos o
  refine callWith_of (P := fun h => C.base.StaysIn h) ?_ (fun h st => hf o.inv.ok C.M h st) ?_
  · rw [noStars_any hs, k2]; rfl
  · simp only [noStars, Bool.and_eq_true] at hs
    rw [starEach_cons hs.1] at h1 ⊢
    refine evalArgs_kwB k1 (wpAny_mono h1 (fun vs s₁ q => ?_) fun _ _ x => x)
    obtain ⟨st, ds, rs, p⟩ := q
    refine wpAny_mono (p X s₁ pos (o.step st)) (fun ws s₂ q => ?_) fun _ _ x => x.back o.inv st
    obtain ⟨st', ds', rs', p'⟩ := q
    refine ⟨st'.inv.stays, ?_⟩
    have hl := rs.length
    have := p' ρ X s₂ (vs ++ ws) ((o.step st).step st') ((rs.step st.inv st').append rs')
    unfold callK at this
    rw [← hl, List.take_left, List.drop_left] at this
    rw [k3]
    exact wpAny_mono this (fun _ _ x => (x.back st').back st) fun _ _ x => (x.back st.inv st').back o.inv st
noncomputable def FnKw (C : Cx) (f : Addr) (body : List Stmt) (scope : Scope) (code : Value) (q : PySem.Str) (xs : List PySem.Str) (n : Nat) (ks : List PySem.Str) : Prop :=
  ∃ fd, FnAt C f fd body ∧ fd.scope = scope ∧ fd.code = code ∧ fd.qualname = q ∧ ∀ vs : List Value, vs.length = xs.length → bindArgs fd ⟨vs.take n, ks.zip (vs.drop n)⟩ = pure (xs.zip vs)
theorem OpW.fnKw {f : Addr} {body : List Stmt} {scope : Scope} {code : Value} {q : PySem.Str} {xs ks : List PySem.Str} {n : Nat} {ds : List D} (hf : FnKw C f body scope code q xs n ks) (hk : 0 < G.k) (hlen : xs.length = ds.length) (hloc : (xs.all fun x => kOk scope x && !O.contains x) = true)
    (h : BodyW C G.A.handled O scope code q (G.k - 1) (puts xs ds []) body Q Z) : OpW C G ds (callK (.ref f) n ks) Q Z := fun ρ X s vs o r => by
  obtain ⟨fd, h1, rfl, rfl, rfl, h5⟩ := hf
  refine wpAny_call (call_core (O := O) h1 (show G.k = (G.k - 1) + 1 by (exact Nat.le_antisymm (lin1 (subl (G.k) (1)) (by simp +arith only)) (lin1 (subu (a := G.k) (b := 1) (lin1 hk (by simp +arith only))) (by simp +arith only)))) (h5 vs (by rw [r.length, hlen])) hlen (fun x hx => ?_) o r h)
  have := List.all_eq_true.mp hloc x hx
  simp only [Bool.and_eq_true, kOk, Bool.or_eq_true, beq_iff_eq, Bool.not_eq_true'] at this
  exact ⟨this.1, by simpa using this.2⟩
theorem FnKw.callee {f : Addr} {body : List Stmt} {scope : Scope} {code : Value} {q : PySem.Str} {xs ks : List PySem.Str} {n : Nat} (hf : FnKw C f body scope code q xs n ks) : Callee C (.ref f) := by
  obtain ⟨fd, ⟨⟨oc, od, osl, hK⟩, _⟩, _⟩ := hf
  refine Callee.kin ?_
  simp only [keepIn, hK]
end
end Mine

end
section
open PySem PySem.W PySem.Calls PyProof.Rows PySem.Builtin PySem.Builtin.Str
set_option Elab.async false
set_option maxRecDepth 100000
set_option maxHeartbeats 1000000
namespace Mine
section
variable {C : Cx} {G : Fc} {s s' : Shared} {A : Around} {E : Value → Shared → Prop} {ρ : Vars} {Q : D → Prop} {Z : Exn → Prop}
namespace F
theorem sub_list_set : isSubtype (.type "list") (.type "set") = pure false := by rw [isSubtype_type]; kernel_rfl
theorem sub_list_fs : isSubtype (.type "list") (.type "frozenset") = pure false := by rw [isSubtype_type]; kernel_rfl
end F
theorem isAnySet_list {M : Model} {a : Addr} {vs : Array Value} {Q : Bool → Shared → Prop} (hl : s.heap.IsList a vs) (h : Q false s) : wpAny M A (Builtin.Frozenset.isAnySet (.ref a)) Q E s := by
  unfold Builtin.Frozenset.isAnySet
  refine wpAny_bind (wpAny_isInstance hl.typeIs F.sub_list_set ?_)
  exact wpAny_isInstance hl.typeIs F.sub_list_fs h

theorem fs_newL {a : Addr} {vs : Array Value} {ls : List (List Nat)} : MeetsIn C.prog C.w (Builtin.«frozenset.__new__» ⟨[.type "frozenset", .ref a], []⟩)
    (fun A R s => A.handled = none ∧ s.heap.IsList a vs ∧ vs.size = ls.length ∧ (∀ i v, vs[i]? = some v → ∃ t, v = Value.str ⟨(ls.getD i []).toArray⟩ t) ∧ ls.length + 1 < scanBound ∧ ∀ h' tk, (∀ b o, s.heap.get? b = some o → h'.get? b = some o) → FsB C h' s.heap.objs.size ls ls.length → R (.ok (.ret (.ref s.heap.objs.size))) { s with heap := h', toks := tk }) :=
  .of_wp fun A R s h => by
    obtain ⟨hh, hl, hsz, hvs, hb, h⟩ := h
    have hsub := F.called_fs.sub
    have hinit := F.slot_fs_init.lookup
    have hT : s.TypeIs (.ref a) "list" := hl.typeIs
    unfold Builtin.«frozenset.__new__» Builtin.Frozenset.newClass Builtin.Frozenset.newFrom
    generalize hU : Builtin.Frozenset.updateFrom = U
    obtain ⟨hp, g, d, tk, os⟩ := s
    dsimp only
    wp_walk
    refine wpAny_askSetting (wpAny_pure ?_)
    dsimp only
    simp only [newObj]
    refine wpAny_bind (wpAny_alloc (wpAny_pure ?_))
    generalize (!(model C.prog C.w).w.params.followText "set-order") = led
    subst hU
    unfold Builtin.Frozenset.addrOf
    refine wpAny_bind (wpAny_pure ?_)
    refine wpAny_bind (wpAny_holding ?_)
    unfold Builtin.Frozenset.updateFrom
    have hl1 : (hp.push { cls := .type "frozenset", data := .set #[] 0 (SetTable.fresh 0 0 led) }).IsList a vs := by
      obtain ⟨o, e, r⟩ := hl
      exact ⟨o, Heap.get?_push_of_some _ e, r⟩
    refine wpAny_bind (isAnySet_list hl1 ?_)
    rw [if_neg (by decide)]
    refine wpAny_bind (wpAny_typeOf (T := "list") hl1.typeIs ?_)
    rw [if_neg (by decide)]
    refine wpAny_bind (wpAny_pyIter_list hl1 ?_)
    refine wpAny_bind (wpAny_runValue ?_)
    have hgS : (hp.push { cls := .type "frozenset", data := .set #[] 0 (SetTable.fresh 0 0 led) }).get? hp.objs.size = some { cls := .type "frozenset", data := .set #[] 0 (SetTable.fresh 0 0 led) } := Heap.get?_push_size _ rfl
    have ha : a < hp.objs.size := by obtain ⟨o, e, _⟩ := hl; exact Heap.lt_size e
    have hI : ∀ o, ((hp.push o).objs.size) = hp.objs.size + 1 := fun o => Heap.size_push ..
    have W1 := Walks.list (prog := C.prog) (w := C.w) (A := A.in1.in1) hh (hp.push { cls := .type "frozenset", data := .set #[] 0 (SetTable.fresh 0 0 led) }).objs.size a (by rw [hI]; exact Nat.ne_of_lt (Nat.lt_succ_of_lt ha)) vs
    rw [hsz] at W1
    refine fs_loop (A := A.in1) W1 hp.objs.size ?_ (fun i => ls.getD i []) (fun i v hP => hvs i v hP) hb ls.length 0 _ (by (exact rfl)) (Nat.zero_le _) ⟨?_, ?_⟩ ?_ fun h' tk' hk hS => ?_
    · rw [hI]; simp only [List.mem_cons, List.not_mem_nil, or_false, not_or]; exact ⟨Nat.ne_of_lt (Nat.lt_succ_self _), Ne.symm (Nat.ne_of_lt ha)⟩
    · exact ⟨_, Heap.get?_push_size _ rfl, rfl, rfl⟩
    · obtain ⟨o, e, r⟩ := hl1
      exact ⟨o, Heap.get?_push_of_some _ e, r⟩
    · exact ⟨_, #[], 0, _, Heap.get?_push_of_some _ hgS, ⟨rfl, rfl, rfl⟩, rfl, rfl, Nat.le_refl _, fun e he => by simp at he, fun l => by simp⟩
    · refine wpAny_pure (wpAny_pure (wpAny_pure ⟨_, rfl, h h' tk' (fun b o e => hk b o ?_ (Heap.get?_push_of_some _ (Heap.get?_push_of_some _ e))) ?_⟩))
      · have hb1 : b < hp.objs.size := Heap.lt_size e
        simp only [List.mem_cons, List.not_mem_nil, or_false, not_or]
        refine ⟨Nat.ne_of_lt hb1, ?_⟩
        show b ≠ (hp.push _).objs.size
        rw [Heap.size_push]; exact Nat.ne_of_lt (Nat.lt_succ_of_lt hb1)
      · have e : (List.range ls.length).map (fun i => ls.getD i []) = ls := by
          apply List.ext_getElem?
          intro i
          rw [List.getElem?_map]
          by_cases hi : i < ls.length
          · rw [List.getElem?_range hi, List.getElem?_eq_getElem hi]; simp [List.getD_eq_getElem?_getD, hi]
          · rw [List.getElem?_eq_none (by simpa using hi), List.getElem?_eq_none (by simpa using hi)]; rfl
        rw [e] at hS; exact hS
theorem Reps.strs {X : Addr → Prop} {h : Heap} : ∀ {vs : List Value} {ls : List (List Nat)}, Reps C X h vs (ls.map D.str) → vs.length = ls.length ∧ ∀ i v, vs[i]? = some v → ∃ t, v = Value.str ⟨(ls.getD i []).toArray⟩ t
  | [], [], _ => ⟨rfl, fun i v e => by simp at e⟩
  | v :: vs, l :: ls, x => by
    obtain ⟨h1, h2⟩ := Reps.strs x.2
    refine ⟨by simp [h1], fun i w e => ?_⟩
    cases i with
    | zero => simp at e; subst e; obtain ⟨t, rfl⟩ := x.1; exact ⟨t, rfl⟩
    | succ i => simp at e; obtain ⟨t, q⟩ := h2 i w e; exact ⟨t, by simpa using q⟩
  | [], _ :: _, x => False.elim x
  | _ :: _, [], x => False.elim x
theorem OpW.fset_list {ls : List (List Nat)} (hh : G.A.handled = none) (hb : ls.length + 1 < scanBound) (h : Q (.fset ls)) : OpW C G [.list (ls.map D.str)] (callV (.type "frozenset")) Q Z := .one fun ρ X s v o r1 => by
  obtain ⟨a, vs, rfl, hX, hl, rs⟩ := r1
  obtain ⟨hlen, hvs⟩ := Reps.strs rs
  refine callType_newIn F.called_fs (by decide) (F.typeCall_fs_1 _) (F.newCall_fs_1 _) (fun obj => PySem.F.args_object_init_2 obj _) F.entry_fs_new (fs_newL (C := C) (a := a) (vs := vs.toArray) (ls := ls)) ⟨hh, hl, by simpa using hlen, fun i v e => hvs i v (by simpa using e), hb, fun h' tk hk r => ?_⟩
  refine ⟨?_, VP.of (Step.keeps (tk := tk) (dr := s.drawn) o.inv hk) ?_ h⟩
  · obtain ⟨ob, es, ep, tb, h1, h2, _⟩ := r
    exact ⟨ob, h1, h2.1⟩
  · exact Exists.intro _ ⟨rfl, r.rep (Nat.lt_of_succ_lt hb)⟩
end
end Mine

end
section
open PySem PySem.W PySem.Calls PyProof.Rows PySem.Builtin PySem.Builtin.Str
set_option Elab.async false
set_option maxRecDepth 100000
set_option maxHeartbeats 1000000
namespace Mine
section
variable {C : Cx} {G : Fc} {ρ : Vars} {Q : D → Prop} {Z : Exn → Prop} {R : Bool → Prop}
theorem Reps.ofInts {X : Addr → Prop} {h : Heap} : ∀ {vs : List Value} {ns : List Int}, Reps C X h vs (ns.map D.int) → vs.length = ns.length ∧ ∀ i v, vs[i]? = some v → ∃ t, v = Value.int (ns.getD i 0) t
  | [], [], _ => ⟨rfl, fun i v e => by simp at e⟩
  | v :: vs, l :: ls, x => by
    obtain ⟨h1, h2⟩ := Reps.ofInts x.2
    refine ⟨by simp [h1], fun i w e => ?_⟩
    cases i with
    | zero => simp at e; subst e; obtain ⟨t, rfl⟩ := x.1; exact ⟨t, rfl⟩
    | succ i => simp at e; obtain ⟨t, q⟩ := h2 i w e; exact ⟨t, by simpa using q⟩
  | [], _ :: _, x => False.elim x
  | _ :: _, [], x => False.elim x
theorem OpW.sum_list {ns : List Int} (hh : G.A.handled = none) (h : Q (.int ns.sum)) : OpW C G [.list (ns.map D.int)] (callV (.builtin "sum")) Q Z := .one fun ρ X s v o r1 => by
  obtain ⟨a, vs, rfl, hX, hl, rs⟩ := r1
  obtain ⟨hlen, hvs⟩ := Reps.ofInts rs
  have ha : a < s.heap.objs.size := by obtain ⟨o', e, _⟩ := hl; exact Heap.lt_size e
  refine call_sum_walkAnyS (wpAny_pyIter_list hl ⟨_, _, _, _, _, _, _, fun i => ns.getD i 0, rfl, (Walks.list (A := G.A.in1) hh _ a (Nat.ne_of_lt ha) vs.toArray).toS, ⟨⟨_, Heap.get?_push_size _ rfl, rfl, rfl⟩, ?_⟩, ?_, ?_, ?_⟩)
  · obtain ⟨o', e, r⟩ := hl
    exact ⟨o', Heap.get?_push_of_some _ e, r⟩
  · intro b hb
    simp only [List.mem_cons, List.not_mem_nil, or_false] at hb
    show b < (s.heap.push _).objs.size
    rw [Heap.size_push]
    rcases hb with rfl | rfl
    · exact Nat.lt_succ_self _
    · exact Nat.lt_succ_of_lt ha
  · intro i v e
    exact hvs i v (by simpa using e)
  · intro s' t' mv
    have e : preSum (fun i => ns.getD i 0) vs.toArray.size = ns.sum := by
      rw [preSum_getD, List.take_of_length_le (by simp [hlen])]
    rw [e]
    obtain ⟨m1, m2, m3, m4, m5⟩ := mv
    have hk : ∀ b o, s.heap.get? b = some o → s'.heap.get? b = some o := fun b o' e => m1 b o' (by
      simp only [List.mem_singleton]; exact Nat.ne_of_lt (Heap.lt_size e)) (Heap.get?_push_of_some _ e)
    obtain ⟨h', g', d', tk', os'⟩ := s'
    simp only at m2 m3 m4 hk
    subst m2 m3 m4
    exact VP.of (Step.keeps (tk := tk') (dr := s.drawn) o.inv hk) .mkInt h
end
end Mine

end
section
open PySem PySem.W PySem.Calls PyProof.Rows PySem.Builtin PySem.Builtin.Str
set_option Elab.async false
set_option maxRecDepth 100000
set_option maxHeartbeats 1000000
namespace Mine
section
variable {C : Cx} {G : Fc} {O : List PySem.Str} {ρ : Vars} {Q : D → Prop} {Z : Exn → Prop} {P : Fl → Vars → Prop} {Zs : Exn → Vars → Prop}
theorem S1W.appendP {x : PySem.Str} {np apos cpos pos : Pos} {e : Expr} {d0 : List D} (hx : x ∈ O) (hd : ρ.lookup x = some (.list d0)) (hsz : d0.length < sizeLine)
    (h : EvW C G ρ e (fun d => d.plain = true ∧ P .nxt (put x (.list (d0 ++ [d])) ρ)) (kZ Zs ρ))
    (hs : notStar e = true := by rfl) (hline : (apos.endLine == cpos.line) = true := by rfl) (hdb : (x == ("__debug__" : PySem.Str)) = false := by decide) (hn : (x == ("__classdict__" : PySem.Str)) = false := by decide) :
    S1W C G O ρ (.Expr (.Call (.Attribute (.Name x np) "append" apos) [e] [] cpos) pos) P Zs := fun B X own s o => by
  refine wpAny_Expr_any ?_ (inter_fn o.g.kind) (swaps_plain rfl)
  obtain ⟨a, ds, vs, e0, hm, hv, hl, hr⟩ := (o.vars x _ hd).1 hx
  cases e0
  have hns : noStars [e] = true := by cases e <;> first | rfl | exact Bool.noConfusion (show false = true from hs)
  refine PySem.wpAny_Call_method (T := "list") (id := "list.append") rfl ?_ hline F.plainAttrs_list slot_list_append type_list_append ?_
  · rw [starEach_cons hs]; rfl
  refine wpAny_Name (loadVar hv o.g.kind rfl ?_ hn) hdb
  refine ⟨hl.isList.typeIs, fun b hb => ?_, ?_⟩
  · cases hb; obtain ⟨n, e'⟩ := hl; exact ⟨_, e', rfl⟩
  refine callWith_core (first := [.ref a]) Callee.blt hns o.full (wpAny_mono ((EsW.cons (S := fun ds => ∃ d, ds = [d] ∧ d.plain = true ∧ P .nxt (put x (.list (d0 ++ [d])) ρ)) (h.mono (fun d p => EsW.nil ⟨d, rfl, p⟩) fun _ z => z) hs) _ s cpos o.full) (fun ws s₁ q9 => ?_) fun _ _ z => z.sx o)
  obtain ⟨st, es, rs, d, rfl, hp, p⟩ := q9
  refine ⟨st, ?_⟩
  obtain ⟨v, rfl, rv⟩ := rs.one
  have o₁ := o.step st
  have hl₁ := PL.keep o.inv st.keep hl
  have hr₁ := (hr.step o.inv st).append (Reps.mk1 (rv.plain hp))
  refine wpAny_list_append_plain hl₁ (fun h' g1 g2 => ?_) (by rw [List.size_toArray, hr.length]; (exact Nat.le_of_lt (Nat.lt_of_lt_of_le (by assumption) (by decide))))
  rw [List.push_toArray] at g1
  exact ⟨_, own, o₁.changeOwn (tk := s₁.toks) hm hl₁.isList g2 g1 (hv.keep o.inv st.keep) hr₁, p⟩
end
end Mine

end
section
open PySem PySem.W PySem.Calls PyProof.Rows PySem.Builtin PySem.Builtin.Str
set_option Elab.async false
set_option maxRecDepth 100000
namespace Mine
section
variable {C : Cx} {G : Fc} {ρ ρ' : Vars} {Q : D → Prop} {Z : Exn → Prop} {O : List PySem.Str} {P : Fl → Vars → Prop} {Zs : Exn → Vars → Prop}
theorem SW.one {st : Stmt} (h : S1W C G O ρ st P Zs) : SW C G O ρ [st] P Zs :=
  SW.cons (h.mono (fun fl ρ p => by cases fl <;> first | exact SW.nil p | exact p) fun _ _ z => z)
theorem Ok.weak {X : Addr → Prop} {s : Shared} (o : Ok C G X ρ' s) (hs : Sub ρ ρ') : Ok C G X ρ s := { o with vars := fun y d e => o.vars y d (hs y d e) }
theorem TsW.weak {e : Expr} {R : Bool → Prop} (h : TsW C G ρ e R Z) (hs : Sub ρ ρ') : TsW C G ρ' e R Z := fun X s o => h X s (o.weak hs)
end
noncomputable def hasB (x y : List Nat) (i : Nat) : Bool := decide (i + y.length ≤ x.length) && ((x.drop i).take y.length == y)
theorem hasB_iff {x y : List Nat} {i : Nat} : hasB x y i = true ↔ hasAt x y i := by
  unfold hasB hasAt; simp
noncomputable def firstAt (x y : List Nat) (p : Nat) : Option Nat := (List.range' p (x.length + 1 - p)).find? (hasB x y)
theorem firstAt_some {x y : List Nat} {p k : Nat} : firstAt x y p = some k ↔ p ≤ k ∧ hasAt x y k ∧ ∀ i, p ≤ i → i < k → ¬ hasAt x y i := by
  unfold firstAt
  rw [List.find?_range'_eq_some]
  constructor
  · rintro ⟨h1, h2, h3⟩
    rw [List.mem_range'_1] at h2
    refine ⟨h2.1, hasB_iff.mp h1, fun i a b q => ?_⟩
    have := h3 i a b
    rw [hasB_iff.mpr q] at this; cases this
  · rintro ⟨h1, h2, h3⟩
    refine ⟨hasB_iff.mpr h2, ?_, fun j a b => ?_⟩
    · rw [List.mem_range'_1]; have := h2.1; (lia)
    · cases hb : hasB x y j with
      | false => rfl
      | true => exact absurd (hasB_iff.mp hb) (h3 j a b)
theorem firstAt_none {x y : List Nat} {p : Nat} : firstAt x y p = none ↔ ∀ i, p ≤ i → ¬ hasAt x y i := by
  unfold firstAt
  rw [List.find?_eq_none]
  constructor
  · intro h i hi q
    refine h i ?_ (hasB_iff.mpr q)
    rw [List.mem_range'_1]; have := q.1; (lia)
  · intro h i hi q
    rw [List.mem_range'_1] at hi
    exact h i hi.1 (hasB_iff.mp q)
noncomputable def firstBar (src : List Nat) (bars : List (List Nat)) (p e : Nat) : Option Nat := (List.range' p (e - p)).find? fun i => decide ([src.getD i 0] ∈ bars)
theorem firstBar_some {src : List Nat} {bars : List (List Nat)} {p e k : Nat} : firstBar src bars p e = some k ↔ p ≤ k ∧ k < e ∧ [src.getD k 0] ∈ bars ∧ ∀ i, p ≤ i → i < k → [src.getD i 0] ∉ bars := by
  unfold firstBar
  rw [List.find?_range'_eq_some]
  constructor
  · rintro ⟨h1, h2, h3⟩
    rw [List.mem_range'_1] at h2
    refine ⟨h2.1, by (lia), by simpa using h1, fun i a b => ?_⟩
    have := h3 i a b
    simpa using this
  · rintro ⟨h1, h2, h3, h4⟩
    refine ⟨by simpa using h3, by rw [List.mem_range'_1]; (lia), fun j a b => ?_⟩
    have := h4 j a b
    simpa using this
theorem firstBar_none {src : List Nat} {bars : List (List Nat)} {p e : Nat} : firstBar src bars p e = none ↔ ∀ i, p ≤ i → i < e → [src.getD i 0] ∉ bars := by
  unfold firstBar
  rw [List.find?_eq_none]
  constructor
  · intro h i a b q
    exact h i (by rw [List.mem_range'_1]; (lia)) (by simpa using q)
  · intro h i hi q
    rw [List.mem_range'_1] at hi
    exact h i hi.1 (by (lia)) (by simpa using q)
theorem mem_seg {src : List Nat} {p e c : Nat} (he : e ≤ src.length) : c ∈ (src.take e).drop p ↔ ∃ i, p ≤ i ∧ i < e ∧ src.getD i 0 = c := by
  rw [List.mem_iff_getElem]
  simp only [List.length_drop, List.length_take, List.getElem_drop, List.getElem_take]
  constructor
  · rintro ⟨i, hi, rfl⟩
    refine ⟨p + i, by (exact lin0 (by simp +arith only)), by (lia), ?_⟩
    rw [List.getD_eq_getElem?_getD, List.getElem?_eq_getElem (by (lia))]; rfl
  · rintro ⟨i, h1, h2, rfl⟩
    refine ⟨i - p, by (lia), ?_⟩
    rw [List.getD_eq_getElem?_getD, List.getElem?_eq_getElem (by (exact lin2 h2 he (by simp +arith only)))]
    simp only [Option.getD_some]
    congr 1; (exact Nat.le_antisymm (lin1 (subu (a := i) (b := p) (lin1 h1 (by simp +arith only))) (by simp +arith only)) (lin1 (subl (i) (p)) (by simp +arith only)))

theorem pslice_nat {α : Type} (l : List α) (i j : Nat) : pslice (some (i : Int)) (some (j : Int)) l = (l.take j).drop i := by
  unfold pslice
  simp only [Option.elim, clipAt_nat]
  rw [List.drop_take]
  by_cases hi : i ≤ l.length
  · rw [Nat.min_eq_left hi]
    by_cases hj : j ≤ l.length
    · rw [Nat.min_eq_left hj]
    · rw [Nat.min_eq_right (by (exact lin1 (Nat.lt_of_not_le hj) (by simp +arith only))), List.take_of_length_le (by simp), List.take_of_length_le (by simp; (exact lin2 (Nat.lt_of_not_le hj) (subl (j) (i)) (by simp +arith only)))]
  · rw [List.drop_eq_nil_of_le (show l.length ≤ min i l.length by (lia)), List.drop_eq_nil_of_le (show l.length ≤ i by (exact lin1 (Nat.lt_of_not_le hi) (by simp +arith only)))]; simp
theorem pslice_to {α : Type} (l : List α) (k : Nat) : pslice none (some (k : Int)) l = l.take k := by
  unfold pslice
  simp only [Option.elim, clipAt_nat]
  rw [List.drop_zero, Nat.sub_zero]
  by_cases h : k ≤ l.length
  · rw [Nat.min_eq_left h]
  · rw [Nat.min_eq_right (by (exact lin1 (Nat.lt_of_not_le h) (by simp +arith only))), List.take_of_length_le (by (exact lin0 (by simp +arith only))), List.take_of_length_le (by (exact lin1 (Nat.lt_of_not_le h) (by simp +arith only)))]
noncomputable def forB : Option Stmt → List Stmt
  | some (.For _ _ b _ _) => b
  | _ => []
theorem Storable.all {G : Fc} (hF : Fun G) {sc : Scope} (e : G.env.scope = sc) {xs : List (PySem.Str × Pos)} (h : (xs.all fun p => kOk sc p.1) = true) : ∀ p ∈ xs, Storable G p.1 := fun p hp => .sc hF e (List.all_eq_true.mp h p hp)
theorem vs5 {vs : List Value} (h : vs.length = 5) : ∃ a b c d e, vs = [a, b, c, d, e] := by
  cases vs with
  | nil => cases h
  | cons a r => obtain ⟨b, c, d, e, rfl⟩ := vs4 (Nat.succ.inj h); exact ⟨a, b, c, d, e, rfl⟩
noncomputable def colT (src : List Nat) (p : Nat) : Nat := match lastIdx 10 (src.take p) with
  | none => p + 1
  | some i => p - i
noncomputable def lineT (src : List Nat) (p : Nat) : Nat := (src.take p).count 10 + 1
noncomputable def coordT (src : List Nat) (p : Nat) : List Nat := if src.length ≤ p then tx "end of document" else tx "line " ++ digs (lineT src p) ++ tx ", column " ++ digs (colT src p)
theorem colT_none {src : List Nat} {p : Nat} (h : lastIdx 10 (src.take p) = none) : colT src p = p + 1 := by unfold colT; rw [h]
theorem colT_some {src : List Nat} {p i : Nat} (h : lastIdx 10 (src.take p) = some i) : colT src p = p - i := by unfold colT; rw [h]
theorem colT_le (src : List Nat) (p : Nat) : colT src p ≤ p + 1 := by unfold colT; split <;> (first | lia | omega)
theorem last_lt {src : List Nat} {p i : Nat} (h : lastIdx 10 (src.take p) = some i) : i < p := by
  have := (lastIdx_some h).1
  have := (List.getElem?_eq_some_iff.mp this).1
  simp at this; (exact lin2 this (Nat.min_le_left (p) (src.length)) (by simp +arith only))
theorem count_zero {l : List Nat} : l.count 10 = 0 ↔ lastIdx 10 l = none := by rw [lastIdx_none]; exact List.count_eq_zero

theorem coordT_len (src : List Nat) (p : Nat) (hl : src.length < 2 ^ 20) : (coordT src p).length ≤ 2 ^ 21 + 100 := by
  unfold coordT
  split
  · have : (tx "end of document").length = 15 := rfl
    (decide)
  · have t1 : (tx "line ").length = 5 := rfl
    have t2 : (tx ", column ").length = 9 := rfl
    have h2 := colT_le src p
    have hcount : (src.take p).count 10 ≤ src.length := Nat.le_trans List.count_le_length (by simp; (exact lin1 (Nat.min_le_right (p) (src.length)) (by simp +arith only)))
    have h3 : lineT src p ≤ src.length + 1 := by unfold lineT; (exact lin1 hcount (by simp +arith only))
    have hd := digs_len (lineT src p)
    have hd2 := digs_len (colT src p)
    simp only [List.length_append]; (lia)


/-! rows of a text -/
noncomputable def up (rows : List (List Nat)) : List Nat := (rows.map (· ++ [10])).flatten
theorem last_ctx {a l : List Nat} (h : 10 ∉ l) : lastIdx 10 (a ++ [10] ++ l) = some a.length := by
  refine lastIdx_unique ?_ fun k hk e => ?_
  · rw [List.append_assoc, List.getElem?_append_right (Nat.le_refl _)]; simp
  · rw [List.getElem?_append_right (by simp; (assumption))] at e
    exact h (List.mem_of_getElem? e)
theorem up_snoc (rows : List (List Nat)) (r : List Nat) : up (rows ++ [r]) = up rows ++ (r ++ [10]) := by simp [up]
theorem up_cases (rows : List (List Nat)) : (rows = [] ∧ up rows = []) ∨ ∃ a, up rows = a ++ [10] := by
  rcases List.eq_nil_or_concat rows with h | ⟨rs, r, h⟩
  · subst h; exact .inl ⟨rfl, rfl⟩
  · rw [h, List.concat_eq_append, up_snoc]; exact .inr ⟨up rs ++ r, by simp⟩
theorem splitOn_up (l : List Nat) : l = up (splitOn 10 l).dropLast ++ (splitOn 10 l).getLast (splitOn_ne 10 l) := by
  induction l with
  | nil => rfl
  | cons x r ih =>
    by_cases hx : x = 10
    · subst hx
      have e : splitOn 10 (10 :: r) = [] :: splitOn 10 r := by simp [splitOn]
      have hne := splitOn_ne 10 r
      simp only [e]
      rw [List.getLast_cons hne, List.dropLast_cons_of_ne_nil hne]
      have : up ([] :: (splitOn 10 r).dropLast) = 10 :: up (splitOn 10 r).dropLast := by simp [up]
      rw [this, List.cons_append, ← ih]
    · cases hs : splitOn 10 r with
      | nil => exact absurd hs (splitOn_ne 10 r)
      | cons p ps =>
        have e : splitOn 10 (x :: r) = (x :: p) :: ps := by simp [splitOn, hx, hs]
        simp only [hs] at ih
        simp only [e]
        cases ps with
        | nil =>
          simp only [List.dropLast_singleton, List.getLast_singleton, up, List.map_nil, List.flatten_nil, List.nil_append] at ih ⊢
          rw [ih]
        | cons q qs =>
          rw [List.getLast_cons (by simp), List.dropLast_cons_of_ne_nil (by simp)] at ih ⊢
          have h1 : up ((x :: p) :: (q :: qs).dropLast) = x :: up (p :: (q :: qs).dropLast) := by simp [up]
          rw [h1, List.cons_append, ← ih]
theorem splitOn_free_all {c : Nat} : ∀ l : List Nat, ∀ p ∈ splitOn c l, c ∉ p
  | [], p, hp => by simp [splitOn] at hp; subst hp; simp
  | x :: r, p, hp => by
    have ih := splitOn_free_all (c := c) r
    simp only [splitOn] at hp
    split at hp
    · rcases List.mem_cons.mp hp with rfl | hp
      · simp
      · exact ih p hp
    · rename_i hx
      split at hp
      · rename_i hq
        exact absurd hq (splitOn_ne _ _)
      · rename_i q qs hq
        rcases List.mem_cons.mp hp with rfl | hp
        · intro hm
          rcases List.mem_cons.mp hm with rfl | hm
          · exact hx rfl
          · exact ih q (by rw [hq]; exact .head _) hm
        · exact ih p (by rw [hq]; exact .tail _ hp)
theorem splitOn_len : ∀ l : List Nat, (splitOn 10 l).length = l.count 10 + 1
  | [] => rfl
  | x :: r => by
    have ih := splitOn_len r
    simp only [splitOn]
    by_cases hx : x = 10
    · rw [if_pos hx, hx, List.count_cons_self, List.length_cons, ih]
    · rw [if_neg hx, List.count_cons_of_ne hx, ← ih]
      cases hs : splitOn 10 r with
      | nil => exact absurd hs (splitOn_ne 10 r)
      | cons p ps => rfl
theorem split_line (src : List Nat) (p : Nat) : (splitOn 10 (src.take p)).length = lineT src p := splitOn_len _
theorem split_col (src : List Nat) (p : Nat) (hp : p ≤ src.length) : ((splitOn 10 (src.take p)).getLast (splitOn_ne 10 _)).length + 1 = colT src p := by
  have hu := splitOn_up (src.take p)
  have hf := splitOn_free_all (c := 10) (src.take p) _ (List.getLast_mem (splitOn_ne 10 (src.take p)))
  have hl : (src.take p).length = p := by simp; (lia)
  generalize (splitOn 10 (src.take p)).getLast (splitOn_ne 10 _) = l at *
  rcases up_cases (splitOn 10 (src.take p)).dropLast with ⟨_, h0⟩ | ⟨a, ha⟩
  · rw [h0, List.nil_append] at hu
    rw [colT_none (by rw [hu]; exact lastIdx_none.mpr hf), ← hl, hu]
  · rw [ha] at hu
    rw [colT_some (i := a.length) (by rw [hu]; exact last_ctx hf)]
    have := congrArg List.length hu
    rw [hl] at this
    simp only [List.length_append, List.length_cons, List.length_nil] at this
    (exact Nat.le_antisymm (lin2 (Nat.le_of_eq (Eq.symm this)) (subl (p) (a.length)) (by simp +arith only)) (lin2 (subu (a := p) (b := a.length) (lin1 (Nat.le_of_eq (Eq.symm this)) (by simp +arith only))) (Nat.le_of_eq this) (by simp +arith only)))
end Mine

end
section
open PySem PySem.W PySem.Calls PyProof.Rows PySem.Builtin PySem.Builtin.Str
set_option Elab.async false
set_option maxRecDepth 100000
namespace Mine
noncomputable def markOf (l : List Nat) : Nat := if 39 ∈ l ∧ 34 ∉ l then 34 else 39
theorem repr_eq (l : List Nat) : repr_ l = markOf l :: (l.flatMap (reprChar (markOf l)) ++ [markOf l]) := by
  have hq : reprQuote ⟨l.toArray⟩ = markOf l := by
    unfold reprQuote markOf
    by_cases h1 : 39 ∈ l <;> by_cases h2 : 34 ∈ l <;> simp [h1, h2]
  have key : ∀ (q : Nat) (l : List Nat) (acc : Array Nat), (l.foldl (fun out c => out ++ (reprChar q c).toArray) acc).toList = acc.toList ++ l.flatMap (reprChar q) := by
    intro q l
    induction l with
    | nil => intro acc; simp
    | cons c r ih => intro acc; rw [List.foldl_cons, ih]; simp
  unfold repr_ reprText
  rw [hq]
  show ((Array.foldl (fun out c => out ++ (reprChar (markOf l) c).toArray) #[markOf l] l.toArray).push (markOf l)).toList = _
  rw [Array.toList_push, ← Array.foldl_toList, key]
  simp
theorem repr_len (l : List Nat) (h : ∀ c ∈ l, c < 16 ^ 8) : (repr_ l).length ≤ 10 * l.length + 2 := by
  have := StrLaws.reprText_len ⟨l.toArray⟩ (by simpa using h)
  have e : (reprText ⟨l.toArray⟩).length = (repr_ l).length := by unfold repr_; simp [PySem.Str.length]
  have e2 : (⟨l.toArray⟩ : PySem.Str).length = l.length := by simp [PySem.Str.length]
  rw [e, e2] at this; exact this
theorem joinL_nil : ∀ ls : List (List Nat), joinL [] ls = ls.flatten
  | [] => rfl
  | [x] => by simp [joinL]
  | x :: y :: r => by simp only [joinL]; rw [joinL_nil (y :: r)]; simp
theorem inText_one (c : Nat) (x : List Nat) : inText [c] x = decide (c ∈ x) := by
  have := StrLaws.found_one ⟨x.toArray⟩ c
  have e : (⟨x.toArray⟩ : PySem.Str).length = x.length := by simp [PySem.Str.length]
  rw [e] at this
  unfold inText; exact this
section
variable {C : Cx} {G : Fc} {ρ : Vars} {Q : D → Prop} {Z : Exn → Prop}
theorem OpW.join0 {ds : List D} {ls : List (List Nat)} (e : ds = ls.map D.str) (hl : (ls.map List.length).sum ≤ 16777216) (h : Q (.str ls.flatten)) : OpW C G [.str (PySem.Str.ofString "").cps.toList, .list ds] (callV (.builtin "str.join")) Q Z := by
  refine OpW.join e ?_ ?_
  · rw [show (PySem.Str.ofString "").cps.toList = [] from rfl]; simpa using hl
  · rw [show (PySem.Str.ofString "").cps.toList = [] from rfl, joinL_nil]; exact h
end
noncomputable abbrev natD (h : Nat) : D := .int (h : Int)
theorem iter_n (n : Nat) : iterOf (.rng 0 (n : Int) 1) = some ((List.range n).map natD) := by
  rw [iter_rng1]; simp
theorem iter_n_get {n i : Nat} {d : D} (h : ((List.range n).map natD)[i]? = some d) : i < n ∧ d = natD i := by
  have hi := (List.getElem?_eq_some_iff.mp h).1
  simp only [List.length_map, List.length_range] at hi
  rw [List.getElem?_map, List.getElem?_range hi] at h
  exact ⟨hi, (Option.some.inj h).symm⟩
theorem iter_2 (a b : Nat) : iterOf (.rng (a : Int) (b : Int) 1) = some ((List.range' a (b - a)).map natD) := by
  rw [iter_rng1, show ((b : Int) - (a : Int)).toNat = b - a by (lia), List.range'_eq_map_range, List.map_map, List.map_map]
  refine congrArg some (List.map_congr_left fun i _ => ?_)
  show D.int ((a : Int) + (i : Int)) = D.int ((a + i : Nat) : Int)
  rw [Int.natCast_add]
theorem iter_2_get {a n i : Nat} {d : D} (h : ((List.range' a n).map natD)[i]? = some d) : i < n ∧ d = natD (a + i) := by
  have hi := (List.getElem?_eq_some_iff.mp h).1
  simp only [List.length_map, List.length_range'] at hi
  rw [List.getElem?_map, List.getElem?_range' hi] at h
  have := (Option.some.inj h).symm
  rw [this]
  exact ⟨hi, by simp⟩
theorem keep_nats {f : D → Option D} {p : Nat → Bool} (h : ∀ n : Nat, f (natD n) = if p n = true then some (natD n) else none) : ∀ l : List Nat, (l.map natD).filterMap f = (l.filter p).map natD
  | [] => rfl
  | n :: l => by
    rw [List.map_cons, List.filterMap_cons, h n, List.filter_cons, keep_nats h l]
    cases p n <;> rfl
noncomputable def keepF (p : Nat → Bool) : D → Option D
  | .int i => if p i.toNat = true then some (.int i) else none
  | _ => none
theorem keepF_map (p : Nat → Bool) (l : List Nat) : (l.map natD).filterMap (keepF p) = (l.filter p).map natD := keep_nats (fun n => by simp [keepF]) l
theorem keepF_nat {p : Nat → Bool} {n : Nat} : keepF p (natD n) = if p n = true then some (natD n) else none := by simp [keepF]
end Mine

end
section
open PySem PySem.W PySem.Calls PyProof.Rows
set_option Elab.async false
set_option maxRecDepth 100000
namespace Mine
namespace H
noncomputable section

inductive SD where
  | nil (ep : Nat) (t : SetTable)
  | add (d : SD) (x : PySem.Str) (t : Tok)
  | or (a b : SD)
  | sub (a b : SD)

noncomputable def insGo (x : List Nat) (ss : List (List Nat)) : List (List Nat) → List (List Nat) :=
  List.rec (motive := fun _ => List (List Nat) → List (List Nat)) (fun r => r ++ [x]) (fun y _ ih r => Bool.rec (ih r) r (PySem.W.Fast.lEq y x)) ss
noncomputable def ins (ss : List (List Nat)) (x : List Nat) : List (List Nat) := insGo x ss ss
noncomputable def has (ss : List (List Nat)) (x : List Nat) : Bool :=
  List.rec false (fun y _ ih => Bool.rec ih true (PySem.W.Fast.lEq y x)) ss
noncomputable def SD.mem : SD → List (List Nat) := SD.rec (fun _ _ => []) (fun _ x _ r => ins r x.cps.toList) (fun _ _ r q => q.foldl ins r) (fun _ _ r q => r.filter fun x => !has q x)

noncomputable def SD.cnt : SD → Nat := SD.rec (fun _ _ => 0) (fun _ _ _ n => Nat.succ n) (fun _ _ n m => n + m) (fun _ _ n _ => n)

structure ES where
  T : BT
  n : Nat
  gens : List GenState
  drawn : Drawn
  toks : Nat
  sets : List (Nat × SD)

noncomputable def find (sets : List (Nat × SD)) (a : Nat) : Option SD :=
  List.rec none (fun x _ ih => Bool.rec ih (some x.2) (Nat.beq x.1 a)) sets
noncomputable def drop (sets : List (Nat × SD)) (a : Nat) : List (Nat × SD) :=
  List.rec [] (fun x _ ih => Bool.rec (x :: ih) ih (Nat.beq x.1 a)) sets

noncomputable abbrev dq : Code → Sem Fin := PySem.W.Fast.tw11892475500146522536 PySem.W.Fast.tw14364793385576792824
theorem dq_eq : dq = denote table := by
  have h1 := PySem.W.Fast.te11892475500146522536
  have h2 := PySem.W.Fast.te14364793385576792824
  rw [table_eq_tree]
  show PySem.W.Fast.tw11892475500146522536 PySem.W.Fast.tw14364793385576792824 = _
  rw [← h1, ← h2]

noncomputable abbrev SDat := Array (Int × Value) × Nat × SetTable
noncomputable def fsObj (d : SDat) : Obj := { cls := .type "frozenset", data := .set d.1 d.2.1 d.2.2 }

section
variable (realD : SD → SDat) (posF : Ctx → Addr → Value → Pos → ES → ES → Pos) (prog : Program) (w : World)

noncomputable def sdAt (st : ES) (a : Nat) : Option SD :=
  match find st.sets a with
  | some d => some d
  | none => match Nat.blt a st.n with
    | true => match st.T.get a with
      | some ⟨.type c, none, .set ⟨[]⟩ ep t, ⟨[]⟩⟩ => match PySem.W.S.eqLit (PySem.code "frozenset") c with
        | true => match SetTable.fits t 0 with
          | true => some (.nil ep t)
          | false => none
        | false => none
      | _ => none
    | false => none

noncomputable abbrev Ev := Ctx → Pos → Sem Fin → List Frame → ES → Option (End × ES)

noncomputable def nextTree (it : Value) : Sem Fin := PySem.W.R.bindR (PySem.W.Fast.tw9404975358583537561 it) fun o => match o with
  | none => .pure (.done .next)
  | some x => .pure (.done (.ret x))

noncomputable def addS (st1 : ES) (S : Addr) (d : SD) (x : PySem.Str) (t : Tok) : ES :=
  ES.mk (st1.T.set S fun _ => fsObj (realD (.add d x t))) st1.n st1.gens st1.drawn (Nat.succ st1.toks) ((S, .add d x t) :: drop st1.sets S)

noncomputable def loopB (ev : Ev) (rest : Pos → ES → Option (End × ES)) (Γ : Ctx) (S : Addr) (it : Value) (p : Pos) (st : ES) : Option (End × ES) :=
  match ev Γ p (nextTree it) [] st with
  | some (.ret (.ok .next), st1) => some (.ret (.ok (.ret .none)), st1)
  | some (.ret (.ok (.ret (.str x t))), st1) => match sdAt st1 S with
    | some d => match Nat.blt d.cnt 4000 with
      | true => rest (posF Γ S it p st (addS realD st1 S d x t)) (addS realD st1 S d x t)
      | false => none
    | none => none
  | _ => none

noncomputable def updE (ev : Ev) (Γ : Ctx) (S : Addr) (it : Value) (n : Nat) : Pos → ES → Option (End × ES) :=
  Nat.rec (fun _ _ => none) (fun _ ih p st => loopB realD posF ev ih Γ S it p st) n

noncomputable def binS (st : ES) (d : SD) : Option (End × ES) := match ((st.T.ins st.n (fsObj (realD d))).get st.n).isSome with
  | true => some (.ret (.ok (.ret (.ref st.n))), ES.mk (st.T.ins st.n (fsObj (realD d))) (Nat.succ st.n) st.gens st.drawn st.toks ((st.n, d) :: st.sets))
  | false => none

noncomputable def okLen (n : Nat) : Bool := (Nat.ble 1 n && Nat.ble n 3) || (Nat.ble 32 n && Nat.ble n 50)
noncomputable def orB (a b : Addr) (st : ES) : Option (End × ES) := match sdAt st a with
  | some da => match sdAt st b with
    | some db => match Nat.ble db.mem.length 1 && (okLen da.mem.length && !Nat.beq a b) with
      | true => binS realD st (.or da db)
      | false => none
    | none => none
  | none => none

noncomputable def subB (a b : Addr) (st : ES) : Option (End × ES) := match sdAt st a with
  | some da => match sdAt st b with
    | some db => match Nat.ble db.mem.length 1 && (okLen da.mem.length && !Nat.beq a b) with
      | true => match Nat.ble 32 da.mem.length with
        | true => binS realD st (.sub da db)
        | false => none
      | false => none
    | none => none
  | none => none

noncomputable def codeB (ev : Ev) (Γ : Ctx) (p : Pos) (c : Code) (st : ES) : Option (End × ES) := match c with
  | .builtin id args => match PySem.W.S.eqLit (PySem.code "set.update.loop") id with
    | true => match args with
      | ⟨[.ref S, it], []⟩ => updE realD posF ev Γ S it 100 p st
      | _ => none
    | false => match PySem.W.S.eqLit (PySem.code "frozenset.__or__") id with
      | true => match args with
        | ⟨[.ref a, .ref b], []⟩ => orB realD a b st
        | _ => none
      | false => match PySem.W.S.eqLit (PySem.code "frozenset.__sub__") id with
        | true => match args with
          | ⟨[.ref a, .ref b], []⟩ => subB realD a b st
          | _ => none
        | false => ev Γ p (dq (.builtin id args)) [] st
  | c => ev Γ p (dq c) [] st

noncomputable def treeB (ev : Ev) (Γ : Ctx) (p : Pos) (t : Sem Fin) (st : ES) : Option (End × ES) := match t with
  | .pure (.done f) => some (.ret (.ok f), st)
  | .pure (.again c) => match PySem.W.Fast.tw2348191978395082540 ⟨.pure (.again c), c, default, []⟩ with
    | true => codeB realD posF ev (Γ.goto c) p c st
    | false => none
  | .raise x => some (.ret (.error x), st)
  | .rule _ k => ev Γ p (k ()) [] st
  | .at q k => ev Γ q (k ()) [] st
  | .load a _ k => match Nat.blt a st.n with
    | true => match st.T.get a with
      | some o => match alive o with
        | some o' => ev Γ p (k o') [] st
        | none => none
      | none => none
    | false => none
  | .update a _ f k => match Nat.blt a st.n with
    | true => match st.T.get a with
      | some o => match alive o with
        | some _ => match find st.sets a with
          | none => ev Γ p (k ()) [] ⟨st.T.set a f, st.n, st.gens, st.drawn, st.toks, st.sets⟩
          | some _ => none
        | none => none
      | none => none
    | false => none
  | .loadIfAlive a k => match Nat.blt a st.n with
    | true => match st.T.get a with
      | some o => ev Γ p (k (alive o)) [] st
      | none => none
    | false => ev Γ p (k none) [] st
  | .point _ k => ev Γ p (k ()) [] st
  | .alloc o k => match ((st.T.ins st.n o).get st.n).isSome with
    | true => ev Γ p (k st.n) [] ⟨st.T.ins st.n o, Nat.succ st.n, st.gens, st.drawn, st.toks, st.sets⟩
    | false => none
  | .fresh k => ev Γ p (k st.toks) [] ⟨st.T, st.n, st.gens, st.drawn, Nat.succ st.toks, st.sets⟩
  | .ask k => ev Γ p (k ⟨prog, w.params⟩) [] st
  | .handled own k => ev Γ p (k (match own with | true => Γ.own | false => Γ.handled)) [] st
  | .genState g k => match st.gens[g]? with
    | some x => ev Γ p (k x.seen) [] st
    | none => none
  | .newGen c k => ev Γ p (k st.gens.length) [] ⟨st.T, st.n, st.gens ++ [.fresh c], st.drawn, st.toks, st.sets⟩
  | .stack k => ev Γ p (k ((Γ.code, p) :: Γ.below)) [] st
  | .thread k => ev Γ p (k 0) [] st
  | .call c h g l k => match codeB realD posF ev (Γ.enter c h p) p c st with
    | some (.ret r, st1) => ev Γ p (k r) [] st1
    | some (.susp v g₀ l₀ k₀ c₀ p₀ fs, st1) => some (.susp v g₀ l₀ k₀ c₀ p₀ (fs ++ [.ret k h g l Γ.code p []]), st1)
    | none => none
  | .yield v g l k => some (.susp v g l k Γ.code p [], st)
  | .resume g r l k => match r with
    | .send .none => match st.gens[g]? with
      | some (.fresh c) => match ev (Γ.wake c p) p (dq c) [] ⟨st.T, st.n, st.gens.set g .running, st.drawn, st.toks, st.sets⟩ with
        | some (e, st1) => match End.quiet e with
          | true => ev Γ p (k e.result) [] ⟨st1.T, st1.n, st1.gens.set g e.genState, st1.drawn, st1.toks, st1.sets⟩
          | false => none
        | none => none
      | some (.suspended k₀ l₀ c₀ p₀ fs cl) => match ev (Γ.wake c₀ p) p₀ (k₀ r) fs ⟨st.T, st.n, st.gens.set g .running, st.drawn, st.toks, st.sets⟩ with
        | some (e, st1) => match End.quiet e with
          | true => ev Γ p (k e.result) [] ⟨st1.T, st1.n, st1.gens.set g e.genState, st1.drawn, st1.toks, st1.sets⟩
          | false => none
        | none => none
      | _ => none
    | _ => none
  | _ => none

noncomputable def evB (ev : Ev) (Γ : Ctx) (p : Pos) (t : Sem Fin) (fs : List Frame) (st : ES) : Option (End × ES) := match fs with
  | [] => treeB realD posF prog w ev Γ p t st
  | F :: fs' => match ev (Γ.over (F :: fs')) p t [] st with
    | some (.ret r, st1) => match F with
      | .ret k _ _ _ c₁ p₁ _ => ev (Γ.goto c₁) p₁ (k r) fs' st1
      | .gen .. => none
    | some (.susp v g₀ l₀ k₀ c₀ p₀ fs₀, st1) => match splitAtGen (F :: fs') with
      | none => some (.susp v g₀ l₀ k₀ c₀ p₀ (fs₀ ++ F :: fs'), st1)
      | some _ => none
    | none => none

noncomputable def evR (n : Nat) : Ev := Nat.rec (fun _ _ _ _ _ => none) (fun _ ih => evB realD posF prog w ih) n
end
end
end H
end Mine

end
section
open PySem PySem.W PySem.Calls PyProof.Rows
set_option Elab.async false
set_option maxRecDepth 100000
namespace Mine
namespace H
open Sem (wp)

theorem wp_ex {α : Type} {M : Model} {Γ : Ctx} {t : Sem α} {Q : α → Pos → Shared → Prop} : ∀ {p : Pos} {s : Shared}, wp M Γ t Q (fun _ _ _ => False) p s →
    ∃ a q u, Q a q u ∧ wp M Γ t (fun b q' u' => b = a ∧ q' = q ∧ u' = u) (fun _ _ _ => False) p s := by
  induction t with
  | pure a => intro p s h; rw [Sem.wp_pure] at h; exact ⟨a, p, s, h, by rw [Sem.wp_pure]; exact ⟨rfl, rfl, rfl⟩⟩
  | raise e => intro p s h; rw [Sem.wp_raise] at h; exact h.elim
  | unsupported | finish | «yield» | fork | await | register => intro p s h; simp only [Sem.wp] at h
  | load a q k ih => intro p s h; simp only [Sem.wp] at h ⊢; obtain ⟨o, e, h⟩ := h; obtain ⟨b, q, u, z, y⟩ := ih _ h; exact ⟨b, q, u, z, o, e, y⟩
  | update a q f k ih => intro p s h; simp only [Sem.wp] at h ⊢; obtain ⟨e, h⟩ := h; obtain ⟨b, q, u, z, y⟩ := ih _ h; exact ⟨b, q, u, z, e, y⟩
  | choose a n k ih => intro p s h; simp only [Sem.wp] at h ⊢; obtain ⟨e, h⟩ := h; obtain ⟨b, q, u, z, y⟩ := ih _ h; exact ⟨b, q, u, z, e, y⟩
  | genState g k ih => intro p s h; simp only [Sem.wp] at h ⊢; obtain ⟨o, e, h⟩ := h; obtain ⟨b, q, u, z, y⟩ := ih _ h; exact ⟨b, q, u, z, o, e, y⟩
  | resume g r l k ih => intro p s h; simp only [Sem.wp] at h ⊢; obtain ⟨o, s', e, h⟩ := h; obtain ⟨b, q, u, z, y⟩ := ih _ h; exact ⟨b, q, u, z, o, s', e, y⟩
  | call c hd g l k ih =>
    intro p s h; simp only [Sem.wp] at h ⊢; obtain ⟨r, s', e, h⟩ := h; obtain ⟨b, q, u, z, y⟩ := ih _ h; exact ⟨b, q, u, z, r, s', e, y⟩
  | rule _ k ih | «at» _ k ih | loadIfAlive _ k ih | point _ k ih | alloc _ k ih | fresh k ih | ask k ih | os _ _ k ih | handled _ k ih | newGen _ k ih | stack k ih | thread k ih =>
    intro p s h; simp only [Sem.wp] at h ⊢; exact ih _ h

noncomputable section
noncomputable def keyOf : Int × Value → List Nat
  | (_, .str x _) => x.cps.toList
  | _ => []
structure WF (w : World) (D : SDat) (ss : List (List Nat)) : Prop where
  fits : D.2.2.fits D.1.size = true
  el : ∀ e ∈ D.1.toList, ∃ x u, e.2 = .str x u ∧ e.1 = hashStr w x
  perm : (D.1.toList.map keyOf).Perm ss
  nodup : ss.Nodup

noncomputable def AddR (prog : Program) (w : World) (D : SDat) (x : PySem.Str) (t : Tok) (D' : SDat) : Prop :=
  (∀ ss, WF w D ss → ss.length < 4000 → WF w D' (ins ss x.cps.toList)) ∧
  ∀ (A : Around) (s : Shared) (a : Addr) (E : Value → Shared → Prop), s.heap.get? a = some (fsObj D) →
    wpAny (model prog w) A (setAdd a (.str x t)) (fun _ s' => s' = { s with heap := s.heap.update a fun _ => fsObj D', toks := s.toks + 1 }) E s
noncomputable def AddH (prog : Program) (w : World) (D : SDat) (x : PySem.Str) (t : Tok) (D' : SDat) : Prop :=
  (∀ ss, WF w D ss → ss.length < 4000 → WF w D' (ins ss x.cps.toList)) ∧
  ∀ (A : Around) (s : Shared) (a : Addr) (E : Value → Shared → Prop), s.heap.get? a = some (fsObj D) →
    wpAny (model prog w) A (setAddHashed a (.str x t) (hashStr w x)) (fun _ s' => s' = { s with heap := s.heap.update a fun _ => fsObj D' }) E s
noncomputable def OpR (prog : Program) (w : World) (id : String) (D₁ D₂ : SDat) (f : List (List Nat) → List (List Nat) → List (List Nat)) (ok : List (List Nat) → List (List Nat) → Prop) (D' : SDat) : Prop :=
  (∀ ss qq, WF w D₁ ss → WF w D₂ qq → ok ss qq → WF w D' (f ss qq)) ∧
  ∀ (A : Around) (s : Shared) (a b : Addr), s.heap.get? a = some (fsObj D₁) → s.heap.get? b = some (fsObj D₂) → a ≠ b →
    codeAny (model prog w) A (.builtin id ⟨[.ref a, .ref b], []⟩) (fun r s' => r = .ok (.ret (.ref s.heap.objs.size)) ∧ s' = { s with heap := s.heap.push (fsObj D') }) s

noncomputable def orOk (ss qq : List (List Nat)) : Prop := okLen ss.length = true ∧ qq.length ≤ 1
noncomputable def subOk (ss qq : List (List Nat)) : Prop := okLen ss.length = true ∧ 32 ≤ ss.length ∧ qq.length ≤ 1
noncomputable def orF (ss qq : List (List Nat)) : List (List Nat) := qq.foldl ins ss
noncomputable def subF (ss qq : List (List Nat)) : List (List Nat) := ss.filter fun x => !has qq x

open Classical in
noncomputable def realD (prog : Program) (w : World) : SD → SDat
  | .nil ep t => (#[], ep, t)
  | .add d x t => if h : ∃ D', AddR prog w (realD prog w d) x t D' then h.choose else default
  | .or a b => if h : ∃ D', OpR prog w "frozenset.__or__" (realD prog w a) (realD prog w b) orF orOk D' then h.choose else default
  | .sub a b => if h : ∃ D', OpR prog w "frozenset.__sub__" (realD prog w a) (realD prog w b) subF subOk D' then h.choose else default
end

structure SetsDo (prog : Program) (w : World) : Prop where
  add : ∀ D ss x t, WF w D ss → ss.length < 4000 → ∃ D', AddR prog w D x t D'
  or : ∀ D₁ D₂ ss qq, WF w D₁ ss → WF w D₂ qq → orOk ss qq → ∃ D', OpR prog w "frozenset.__or__" D₁ D₂ orF orOk D'
  sub : ∀ D₁ D₂ ss qq, WF w D₁ ss → WF w D₂ qq → subOk ss qq → ∃ D', OpR prog w "frozenset.__sub__" D₁ D₂ subF subOk D'
end H
end Mine

end
section
open PySem PySem.W PySem.Calls PyProof.Rows
set_option Elab.async false
set_option maxRecDepth 100000
namespace Mine
namespace H
open Sem (wp)

theorem ins_spec (x : List Nat) : ∀ l r : List (List Nat), insGo x l r = if x ∈ l then r else r ++ [x]
  | [], r => by simp [insGo]
  | y :: l, r => by
    show @Bool.rec (fun _ => List (List Nat)) (insGo x l r) r (PySem.W.Fast.lEq y x) = _
    cases h : PySem.W.Fast.lEq y x with
    | true =>
      have := PySem.W.Fast.lEq_iff.mp h; subst this
      simp
    | false =>
      have hne : ¬ x = y := fun e => by subst e; rw [PySem.W.Fast.lEq_iff.mpr rfl] at h; cases h
      show insGo x l r = _
      rw [ins_spec x l r]
      simp [hne]
theorem ins_eq (ss : List (List Nat)) (x : List Nat) : ins ss x = if x ∈ ss then ss else ss ++ [x] := ins_spec x ss ss
theorem has_iff {x : List Nat} : ∀ {ss : List (List Nat)}, has ss x = true ↔ x ∈ ss
  | [] => by simp [has]
  | y :: l => by
    show @Bool.rec (fun _ => Bool) (has l x) true (PySem.W.Fast.lEq y x) = true ↔ _
    cases h : PySem.W.Fast.lEq y x with
    | true => have := PySem.W.Fast.lEq_iff.mp h; subst this; simp
    | false =>
      have hne : ¬ x = y := fun e => by subst e; rw [PySem.W.Fast.lEq_iff.mpr rfl] at h; cases h
      show has l x = true ↔ _
      rw [has_iff (ss := l)]
      simp [hne]
theorem ins_len (ss : List (List Nat)) (x : List Nat) : (ins ss x).length ≤ ss.length + 1 := by
  rw [ins_eq]; split <;> simp
theorem orF_len : ∀ (qq ss : List (List Nat)), (orF ss qq).length ≤ ss.length + qq.length
  | [], ss => by simp [orF]
  | q :: qq, ss => by
    show (orF (ins ss q) qq).length ≤ _
    have := orF_len qq (ins ss q)
    have := ins_len ss q
    simp only [List.length_cons]; (lia)

variable {prog : Program} {w : World}
structure Good (prog : Program) (w : World) (d : SD) : Prop where
  wf : WF w (realD prog w d) d.mem
  le : d.mem.length ≤ d.cnt

theorem WF.nil {ep : Nat} {t : SetTable} (h : SetTable.fits t 0 = true) : WF w (#[], ep, t) [] :=
  ⟨h, by simp, by simp, List.nodup_nil⟩
theorem Good.nil {ep : Nat} {t : SetTable} (h : SetTable.fits t 0 = true) : Good prog w (.nil ep t) := ⟨WF.nil h, Nat.le_refl _⟩
theorem Good.add (V : SetsDo prog w) {d : SD} {x : PySem.Str} {t : Tok} (g : Good prog w d) (h : d.cnt < 4000) : Good prog w (.add d x t) ∧ AddR prog w (realD prog w d) x t (realD prog w (.add d x t)) := by
  have hl : d.mem.length < 4000 := Nat.lt_of_le_of_lt g.le h
  have ex := V.add _ _ x t g.wf hl
  have hr : AddR prog w (realD prog w d) x t (realD prog w (.add d x t)) := by
    rw [realD, dif_pos ex]; exact ex.choose_spec
  refine ⟨⟨hr.1 _ g.wf hl, ?_⟩, hr⟩
  have := ins_len d.mem x.cps.toList
  have := g.le
  show (ins d.mem x.cps.toList).length ≤ d.cnt + 1
  (lia)
theorem Good.or (V : SetsDo prog w) {a b : SD} (g : Good prog w a) (k : Good prog w b) (h : orOk a.mem b.mem) :
    Good prog w (.or a b) ∧ OpR prog w "frozenset.__or__" (realD prog w a) (realD prog w b) orF orOk (realD prog w (.or a b)) := by
  have ex := V.or _ _ _ _ g.wf k.wf h
  have hr : OpR prog w "frozenset.__or__" (realD prog w a) (realD prog w b) orF orOk (realD prog w (.or a b)) := by
    rw [realD, dif_pos ex]; exact ex.choose_spec
  refine ⟨⟨hr.1 _ _ g.wf k.wf h, ?_⟩, hr⟩
  have := orF_len b.mem a.mem
  have := g.le
  have := k.le
  show (orF a.mem b.mem).length ≤ a.cnt + b.cnt
  (lia)
theorem Good.sub (V : SetsDo prog w) {a b : SD} (g : Good prog w a) (k : Good prog w b) (h : subOk a.mem b.mem) :
    Good prog w (.sub a b) ∧ OpR prog w "frozenset.__sub__" (realD prog w a) (realD prog w b) subF subOk (realD prog w (.sub a b)) := by
  have ex := V.sub _ _ _ _ g.wf k.wf h
  have hr : OpR prog w "frozenset.__sub__" (realD prog w a) (realD prog w b) subF subOk (realD prog w (.sub a b)) := by
    rw [realD, dif_pos ex]; exact ex.choose_spec
  refine ⟨⟨hr.1 _ _ g.wf k.wf h, ?_⟩, hr⟩
  have : (subF a.mem b.mem).length ≤ a.mem.length := List.length_filter_le ..
  have := g.le
  show (subF a.mem b.mem).length ≤ a.cnt
  (lia)

noncomputable def ES.abs (life : Life) (os : OsState) (st : ES) : Shared := ⟨absHeap st.T st.n life, ⟨st.gens⟩, st.drawn, st.toks, os⟩

noncomputable def At (prog : Program) (w : World) (st : ES) (a : Nat) (d : SD) : Prop := a < st.n ∧ st.T.get a = some (fsObj (realD prog w d)) ∧ Good prog w d
noncomputable def SI (prog : Program) (w : World) (st : ES) : Prop := ∀ a d, find st.sets a = some d → At prog w st a d

theorem find_cons (b : Nat) (d : SD) (r : List (Nat × SD)) (a : Nat) : find ((b, d) :: r) a = if b = a then some d else find r a := by
  show @Bool.rec (fun _ => Option SD) (find r a) (some d) (Nat.beq b a) = _
  rw [BT.beq_eq]
  by_cases h : b = a <;> simp [h]
theorem find_drop (S : Nat) : ∀ (r : List (Nat × SD)) (a : Nat), a ≠ S → find (drop r S) a = find r a
  | [], a, _ => rfl
  | (b, d) :: r, a, h => by
    show find (@Bool.rec (fun _ => List (Nat × SD)) ((b, d) :: drop r S) (drop r S) (Nat.beq b S)) a = _
    rw [BT.beq_eq, find_cons]
    by_cases e : b = S
    · subst e
      simp only [decide_true, if_neg (Ne.symm h)]
      exact find_drop b r a h
    · simp only [e, decide_false]
      rw [find_cons, find_drop S r a h]

theorem lt_of_blt {a b : Nat} (h : Nat.blt a b = true) : a < b := Nat.le_of_ble_eq_true h

theorem sdAt_spec {st : ES} {a : Nat} {d : SD} (I : SI prog w st) (h : sdAt st a = some d) : At prog w st a d := by
  unfold sdAt at h
  cases hf : find st.sets a with
  | some d' => rw [hf] at h; cases h; exact I a _ hf
  | none =>
    rw [hf] at h
    cases hb : Nat.blt a st.n with
    | false => rw [hb] at h; cases h
    | true =>
      rw [hb] at h
      dsimp only at h
      split at h
      · rename_i c ep t hg
        cases he : PySem.W.S.eqLit (PySem.code "frozenset") c with
        | false => rw [he] at h; cases h
        | true =>
          rw [he] at h
          cases ht : SetTable.fits t 0 with
          | false => rw [ht] at h; cases h
          | true =>
            rw [ht] at h; cases h
            have hc : c = "frozenset" := by
              have := congrFun (PySem.W.S.eqLit_eq "frozenset" _ rfl) c
              rw [he] at this
              exact eq_of_beq this
            subst hc
            exact ⟨lt_of_blt hb, hg, Good.nil ht⟩
      · cases h

section
variable {life : Life} {os : OsState} {st : ES}
theorem abs_gens (g : Nat) : (st.abs life os).gens[g]? = st.gens[g]? := by
  show (Array.mk st.gens)[g]? = _
  simp
theorem At.get {a : Nat} {d : SD} (x : At prog w st a d) : (st.abs life os).heap.get? a = some (fsObj (realD prog w d)) := abs_get x.1 x.2.1
theorem abs_at {a : Nat} {o o' : Obj} (h : Nat.blt a st.n = true) (g : st.T.get a = some o) (al : alive o = some o') : (st.abs life os).heap.get? a = some o' := (abs_get (lt_of_blt h) g).trans al
theorem abs_not {a : Nat} (h : Nat.blt a st.n = false) : (st.abs life os).heap.get? a = none :=
  abs_get_none fun q => by rw [show Nat.blt a st.n = true from Nat.ble_eq_true_of_le q] at h; cases h
theorem SI.up {a : Nat} {f : Obj → Obj} {gs : List GenState} {dr : Drawn} {tk : Nat} (I : SI prog w st) (hn : find st.sets a = none) : SI prog w ⟨st.T.set a f, st.n, gs, dr, tk, st.sets⟩ := fun b d hb => by
  obtain ⟨x, y, z⟩ := I b d hb
  refine ⟨x, ?_, z⟩
  show (st.T.set a f).get b = _
  rw [BT.get_set, if_neg (fun e => by rw [e] at hb; change find st.sets a = _ at hb; rw [hn] at hb; cases hb)]
  exact y
theorem SI.new {o : Obj} {gs : List GenState} {dr : Drawn} {tk : Nat} (I : SI prog w st) (hs : ((st.T.ins st.n o).get st.n).isSome = true) : SI prog w ⟨st.T.ins st.n o, Nat.succ st.n, gs, dr, tk, st.sets⟩ := fun b d hb => by
  obtain ⟨x, y, z⟩ := I b d hb
  refine ⟨Nat.lt_succ_of_lt x, ?_, z⟩
  show (st.T.ins st.n o).get b = _
  rw [BT.get_ins o _ _ hs, if_neg (Nat.ne_of_lt x)]
  exact y
theorem SI.same {gs : List GenState} {dr : Drawn} {tk : Nat} (I : SI prog w st) : SI prog w ⟨st.T, st.n, gs, dr, tk, st.sets⟩ := fun b d hb => I b d hb
end

noncomputable def Sound (prog : Program) (w : World) (life : Life) (os : OsState) (ev : Ev) : Prop :=
  ∀ Γ p t fs st e st', SI prog w st → ev Γ p t fs st = some (e, st') → SI prog w st' ∧ Runs (model prog w) Γ p t fs (st.abs life os) e (st'.abs life os)

theorem binS_spec {life : Life} {os : OsState} {st st' : ES} {d : SD} {e : End} (I : SI prog w st) (gd : Good prog w d) (h : binS (realD prog w) st d = some (e, st')) :
    SI prog w st' ∧ e = .ret (.ok (.ret (.ref (st.abs life os).heap.objs.size))) ∧ st'.abs life os = { st.abs life os with heap := (st.abs life os).heap.push (fsObj (realD prog w d)) } := by
  unfold binS at h
  cases hs : ((st.T.ins st.n (fsObj (realD prog w d))).get st.n).isSome with
  | false => rw [hs] at h; cases h
  | true =>
    rw [hs] at h; cases h
    refine ⟨fun b d' hb => ?_, ?_, ?_⟩
    · change find ((st.n, d) :: st.sets) b = some d' at hb
      rw [find_cons] at hb
      by_cases e : st.n = b
      · rw [if_pos e] at hb; cases hb
        subst e
        refine ⟨Nat.lt_succ_self _, ?_, gd⟩
        show (st.T.ins st.n _).get st.n = _
        rw [BT.get_ins _ _ _ hs, if_pos rfl]
      · rw [if_neg e] at hb
        exact (SI.new (gs := st.gens) (dr := st.drawn) (tk := st.toks) I hs) b d' hb
    · show _ = End.ret (.ok (.ret (.ref (absHeap _ _ _).objs.size)))
      rw [absHeap_size]
    · show Shared.mk (absHeap (st.T.ins st.n _) (st.n + 1) life) _ _ _ _ = _
      rw [absHeap_ins hs]; rfl
end H
end Mine

end
section
open PySem PySem.W PySem.Calls PyProof.Rows
set_option Elab.async false
set_option maxRecDepth 100000
namespace Mine
namespace H
open Sem (wp)
variable {prog : Program} {w : World} {life : Life} {os : OsState}

theorem in_around (Γ : Ctx) : Γ.In ⟨Γ.handled, frameCount Γ.below + Γ.code.weight, none, none, Γ.units⟩ :=
  ⟨rfl, Nat.le_refl _, fun _ h => (nomatch h), fun _ h => (nomatch h), Nat.le_refl _⟩
theorem below_around (Γ : Ctx) : Γ.Below ⟨Γ.handled, frameCount Γ.below, none, none, unitsOf Γ.below⟩ :=
  ⟨rfl, Nat.le_refl _, fun _ h => (nomatch h), fun _ h => (nomatch h), Nat.le_refl _⟩

noncomputable def iterT (S : Addr) (it : Value) : Sem Unit := do
  let some x ← pyNext it | unsupported ""
  let _ ← holding [x] (setAdd S x)
  pure ()
noncomputable def Turn (prog : Program) (w : World) (Γ : Ctx) (S : Addr) (it : Value) (p : Pos) (s s₂ : Shared) (q : Pos) : Prop :=
  wp (model prog w) Γ (iterT S it) (fun _ q' u => q' = q ∧ u = s₂) (fun _ _ _ => False) p s
open Classical in
noncomputable def posF (prog : Program) (w : World) (life : Life) (os : OsState) (Γ : Ctx) (S : Addr) (it : Value) (p : Pos) (st st₂ : ES) : Pos :=
  if h : ∃ q, Turn prog w Γ S it p (st.abs life os) (st₂.abs life os) q then h.choose else default

theorem nextTree_eq (it : Value) : nextTree it = (pyNext it).bind fun o => match o with
  | none => .pure (.done .next)
  | some x => .pure (.done (.ret x)) := by
  unfold nextTree
  rw [← PySem.W.Fast.te9404975358583537561, PySem.W.R.bindR_eq]
  all_goals rfl

theorem next_item {Γ : Ctx} {p : Pos} {it x : Value} {s s₁ : Shared} (h : Runs (model prog w) Γ p (nextTree it) [] s (.ret (.ok (.ret x))) s₁) :
    wp (model prog w) Γ (pyNext it) (fun a _ u => a = some x ∧ u = s₁) (fun _ _ _ => False) p s := by
  rw [nextTree_eq] at h
  have h1 := (Sem.wp_iff_runs (model prog w) Γ _ (fun r u => r = .ok (.ret x) ∧ u = s₁) p s).mpr ⟨_, _, h, rfl, rfl⟩
  have h1 : wp (model prog w) Γ (pyNext it >>= _) _ _ p s := h1
  rw [Sem.wp_bind'] at h1
  refine Sem.wp_mono _ _ _ (fun a q u hq => ?_) (fun e q u hq => ?_) p s h1
  · cases a with
    | none => have := hq.1; cases this
    | some y => obtain ⟨e, rfl⟩ := hq; cases e; exact ⟨rfl, rfl⟩
  · have := hq.1; cases this
theorem next_done {Γ : Ctx} {p : Pos} {it : Value} {s s₁ : Shared} (h : Runs (model prog w) Γ p (nextTree it) [] s (.ret (.ok .next)) s₁) :
    wp (model prog w) Γ (pyNext it) (fun a _ u => a = none ∧ u = s₁) (fun _ _ _ => False) p s := by
  rw [nextTree_eq] at h
  have h1 := (Sem.wp_iff_runs (model prog w) Γ _ (fun r u => r = .ok .next ∧ u = s₁) p s).mpr ⟨_, _, h, rfl, rfl⟩
  have h1 : wp (model prog w) Γ (pyNext it >>= _) _ _ p s := h1
  rw [Sem.wp_bind'] at h1
  refine Sem.wp_mono _ _ _ (fun a q u hq => ?_) (fun e q u hq => ?_) p s h1
  · cases a with
    | none => exact ⟨rfl, hq.2⟩
    | some y => have := hq.1; cases this
  · have := hq.1; cases this

noncomputable abbrev loopC (S : Addr) (it : Value) : Code := .builtin "set.update.loop" ⟨[.ref S, it], []⟩
theorem den_builtin {id : String} {args : Args} {b : Builtin} (h : entryFor table id = some b) : (model prog w).den (.builtin id args) = b args := by
  show (match entryFor table id with | some b => b args | none => unsupported ((withoutEnding? id "#data").getD id)) = _
  rw [h]
theorem den_loop (S : Addr) (it : Value) : (model prog w).den (loopC S it) = (do
    let some x ← pyNext it | ret .none
    let _ ← holding [x] (setAdd S x)
    again (loopC S it)) := by
  rw [den_builtin PyProof.Rows.F.entry_set_update_loop]
  rfl

theorem turn_runs {Γ : Ctx} {S : Addr} {it : Value} {p q : Pos} {s s₂ s₃ : Shared} {r : Result} (hc : Γ.code = loopC S it) (h : Turn prog w Γ S it p s s₂ q)
    (k : Runs (model prog w) Γ q ((model prog w).den (loopC S it)) [] s₂ (.ret r) s₃) : Runs (model prog w) Γ p ((model prog w).den (loopC S it)) [] s (.ret r) s₃ := by
  have key : ∃ r' s', Runs (model prog w) Γ p ((model prog w).den (loopC S it)) [] s (.ret r') s' ∧ (r' = r ∧ s' = s₃) := by
    rw [← Sem.wp_iff_runs (model prog w) Γ _ (fun r' s' => r' = r ∧ s' = s₃), den_loop]
    unfold Turn iterT at h
    rw [Sem.wp_bind'] at h
    rw [Sem.wp_bind']
    refine Sem.wp_mono _ _ _ (fun a q' u hq => ?_) (fun e _ u hq => hq.elim) p s h
    cases a with
    | none => exact hq.elim
    | some x =>
      dsimp only at hq ⊢
      rw [Sem.wp_bind'] at hq
      rw [Sem.wp_bind']
      refine Sem.wp_mono _ _ _ (fun b q' u hq => ?_) (fun e _ u hq => hq.elim) _ _ hq
      obtain ⟨rfl, rfl⟩ : q' = q ∧ u = s₂ := hq
      show Sem.finPost _ _ _ (.again (loopC S it)) q' u
      refine ⟨plainId_quiet PyProof.Rows.F.plain_set_update_loop _, r, s₃, ?_, rfl, rfl⟩
      have e : Γ.goto (loopC S it) = Γ := by cases Γ; cases hc; rfl
      rw [e]
      show Runs _ _ _ ((model prog w).den Γ.code) _ _ _ _
      rw [hc]; exact k
  obtain ⟨_, _, k', rfl, rfl⟩ := key
  exact k'
theorem done_runs {Γ : Ctx} {S : Addr} {it : Value} {p : Pos} {s s₁ : Shared} (h : wp (model prog w) Γ (pyNext it) (fun a _ u => a = none ∧ u = s₁) (fun _ _ _ => False) p s) :
    Runs (model prog w) Γ p ((model prog w).den (loopC S it)) [] s (.ret (.ok (.ret .none))) s₁ := by
  have key : ∃ r' s', Runs (model prog w) Γ p ((model prog w).den (loopC S it)) [] s (.ret r') s' ∧ (r' = .ok (.ret .none) ∧ s' = s₁) := by
    rw [← Sem.wp_iff_runs (model prog w) Γ _ (fun r' s' => r' = .ok (.ret .none) ∧ s' = s₁), den_loop, Sem.wp_bind']
    refine Sem.wp_mono _ _ _ (fun a q' u hq => ?_) (fun e _ u hq => hq.elim) p s h
    obtain ⟨rfl, rfl⟩ := hq
    exact ⟨rfl, rfl⟩
  obtain ⟨_, _, k', rfl, rfl⟩ := key
  exact k'

theorem addS_spec {st : ES} {S : Addr} {d : SD} {x : PySem.Str} {t : Tok} (I : SI prog w st) (a : At prog w st S d) (g : Good prog w (.add d x t)) :
    SI prog w (addS (realD prog w) st S d x t) ∧ (addS (realD prog w) st S d x t).abs life os =
      { st.abs life os with heap := (st.abs life os).heap.update S fun _ => fsObj (realD prog w (.add d x t)), toks := (st.abs life os).toks + 1 } := by
  refine ⟨fun b d' hb => ?_, ?_⟩
  · change find ((S, .add d x t) :: H.drop st.sets S) b = some d' at hb
    rw [find_cons] at hb
    by_cases e : S = b
    · rw [if_pos e] at hb; cases hb
      subst e
      refine ⟨a.1, ?_, g⟩
      show (st.T.set S _).get S = _
      rw [BT.get_set, if_pos rfl, a.2.1]; rfl
    · rw [if_neg e, find_drop _ _ _ (Ne.symm e)] at hb
      obtain ⟨x1, y, z⟩ := I b d' hb
      refine ⟨x1, ?_, z⟩
      show (st.T.set S _).get b = _
      rw [BT.get_set, if_neg (Ne.symm e)]; exact y
  · show Shared.mk (absHeap (st.T.set S _) st.n life) _ _ _ _ = _
    rw [absHeap_set a.2.1]; rfl

theorem upd_sound (V : SetsDo prog w) {ev : Ev} (hev : Sound prog w life os ev) {Γ : Ctx} {S : Addr} {it : Value} (hc : Γ.code = loopC S it) : ∀ (n : Nat) (p : Pos) (st : ES) (e : End) (st' : ES), SI prog w st →
    updE (realD prog w) (posF prog w life os) ev Γ S it n p st = some (e, st') →
      SI prog w st' ∧ e = .ret (.ok (.ret .none)) ∧ Runs (model prog w) Γ p ((model prog w).den (loopC S it)) [] (st.abs life os) e (st'.abs life os)
  | 0, _, _, _, _, _, h => by cases h
  | n + 1, p, st, e, st', I, h => by
    change loopB _ _ ev (updE (realD prog w) (posF prog w life os) ev Γ S it n) Γ S it p st = _ at h
    unfold loopB at h
    cases hn : ev Γ p (nextTree it) [] st with
    | none => rw [hn] at h; cases h
    | some y =>
      obtain ⟨e₁, st₁⟩ := y
      rw [hn] at h
      obtain ⟨I₁, r₁⟩ := hev _ _ _ _ _ _ _ I hn
      try dsimp only at h
      split at h
      · rename_i he; cases he; cases h
        exact ⟨I₁, rfl, done_runs (next_done r₁)⟩
      · rename_i x t st₁' he; cases he
        cases hs : sdAt st₁ S with
        | none => rw [hs] at h; cases h
        | some d =>
          rw [hs] at h
          have a := sdAt_spec I₁ hs
          try dsimp only at h
          cases hb : Nat.blt d.cnt 4000 with
          | false => rw [hb] at h; cases h
          | true =>
            rw [hb] at h
            try dsimp only at h
            obtain ⟨g, ad⟩ := Good.add (x := x) (t := t) V a.2.2 (lt_of_blt hb)
            obtain ⟨I₂, e₂⟩ := addS_spec (life := life) (os := os) I₁ a g
            obtain ⟨I₃, he, k⟩ := upd_sound V hev hc n _ _ _ _ I₂ h
            subst he
            refine ⟨I₃, rfl, ?_⟩
            have ex : ∃ q, Turn prog w Γ S it p (st.abs life os) ((addS (realD prog w) st₁ S d x t).abs life os) q := by
              have h1 : wp (model prog w) Γ (iterT S it) (fun _ _ u => u = (addS (realD prog w) st₁ S d x t).abs life os) (fun _ _ _ => False) p (st.abs life os) := by
                unfold iterT
                rw [Sem.wp_bind']
                refine Sem.wp_mono _ _ _ (fun b q u hq => ?_) (fun e _ u hq => hq.elim) p _ (next_item r₁)
                obtain ⟨rfl, rfl⟩ := hq
                dsimp only
                rw [Sem.wp_bind']
                have h2 := wpAny_holding (vs := [Value.str x t]) (ad.2 ⟨Γ.handled, frameCount Γ.below + Γ.code.weight, none, none, Γ.units⟩ (st₁.abs life os) S (fun _ _ => False) a.get) Γ q (in_around Γ)
                refine Sem.wp_mono _ _ _ (fun b' q' u' hq' => ?_) (fun e _ u hq => hq) _ _ h2
                exact hq'.trans e₂.symm
              obtain ⟨_, q, u, rfl, hq⟩ := wp_ex h1
              exact ⟨q, Sem.wp_mono _ _ _ (fun b' q' u' hq' => hq'.2) (fun _ _ _ h => h) _ _ hq⟩
            refine turn_runs hc (q := posF prog w life os Γ S it p st (addS (realD prog w) st₁ S d x t)) ?_ k
            rw [posF, dif_pos ex]
            exact ex.choose_spec
      · cases h
end H
end Mine

end
section
open PySem PySem.W PySem.Calls PyProof.Rows
set_option Elab.async false
set_option maxRecDepth 100000
namespace Mine
namespace H
variable {prog : Program} {w : World} {life : Life} {os : OsState}

theorem eqLit_of {b c : String} (h : PySem.W.S.eqLit (PySem.code b) c = true) : c = b := by
  have := congrFun (PySem.W.S.eqLit_eq b _ rfl) c
  rw [h] at this
  exact eq_of_beq this
theorem den_dq (c : Code) : (model prog w).den c = dq c := congrFun dq_eq.symm c

theorem op_runs {id : String} {D₁ D₂ D' : SDat} {f : List (List Nat) → List (List Nat) → List (List Nat)} {ok : List (List Nat) → List (List Nat) → Prop} (h : OpR prog w id D₁ D₂ f ok D') {Γ : Ctx} {p : Pos} {s : Shared} {a b : Addr}
    (hc : Γ.code = .builtin id ⟨[.ref a, .ref b], []⟩) (ha : s.heap.get? a = some (fsObj D₁)) (hb : s.heap.get? b = some (fsObj D₂)) (hne : a ≠ b) :
    Runs (model prog w) Γ p ((model prog w).den (.builtin id ⟨[.ref a, .ref b], []⟩)) [] s (.ret (.ok (.ret (.ref s.heap.objs.size)))) { s with heap := s.heap.push (fsObj D') } := by
  obtain ⟨r, s', k, rfl, rfl⟩ := h.2 ⟨Γ.handled, frameCount Γ.below, none, none, unitsOf Γ.below⟩ s a b ha hb hne Γ p hc (below_around Γ)
  rw [← hc]; exact k

theorem code_sound (V : SetsDo prog w) {ev : Ev} (hev : Sound prog w life os ev) {Γ : Ctx} {p : Pos} {c : Code} {st : ES} {e : End} {st' : ES} (hc : Γ.code = c) (I : SI prog w st)
    (h : codeB (realD prog w) (posF prog w life os) ev Γ p c st = some (e, st')) : SI prog w st' ∧ Runs (model prog w) Γ p ((model prog w).den c) [] (st.abs life os) e (st'.abs life os) := by
  cases c with
  | builtin id args =>
    unfold codeB at h
    dsimp only at h
    cases h1 : PySem.W.S.eqLit (PySem.code "set.update.loop") id with
    | true =>
      rw [h1] at h
      have := eqLit_of h1
      subst this
      dsimp only at h
      split at h
      · obtain ⟨I', _, k⟩ := upd_sound V hev hc _ _ _ _ _ I h
        exact ⟨I', k⟩
      · cases h
    | false =>
      rw [h1] at h
      dsimp only at h
      cases h2 : PySem.W.S.eqLit (PySem.code "frozenset.__or__") id with
      | true =>
        rw [h2] at h
        have := eqLit_of h2
        subst this
        dsimp only at h
        split at h
        · rename_i a b
          unfold orB at h
          cases ha : sdAt st a with
          | none => rw [ha] at h; cases h
          | some da =>
            cases hb : sdAt st b with
            | none => rw [ha, hb] at h; cases h
            | some db =>
              rw [ha, hb] at h
              dsimp only at h
              split at h
              · rename_i hk
                simp only [Bool.and_eq_true, Bool.not_eq_true'] at hk
                obtain ⟨k1, k2, k3⟩ := hk
                have A := sdAt_spec I ha
                have B := sdAt_spec I hb
                have hne : a ≠ b := Nat.ne_of_beq_eq_false k3
                obtain ⟨g, o⟩ := Good.or V A.2.2 B.2.2 ⟨k2, Nat.le_of_ble_eq_true k1⟩
                obtain ⟨I', e1, e2⟩ := binS_spec (life := life) (os := os) I g h
                refine ⟨I', ?_⟩
                rw [e1, e2]
                exact op_runs o hc A.get B.get hne
              · cases h
        · cases h
      | false =>
        rw [h2] at h
        dsimp only at h
        cases h3 : PySem.W.S.eqLit (PySem.code "frozenset.__sub__") id with
        | true =>
          rw [h3] at h
          have := eqLit_of h3
          subst this
          dsimp only at h
          split at h
          · rename_i a b
            unfold subB at h
            cases ha : sdAt st a with
            | none => rw [ha] at h; cases h
            | some da =>
              cases hb : sdAt st b with
              | none => rw [ha, hb] at h; cases h
              | some db =>
                rw [ha, hb] at h
                dsimp only at h
                split at h
                · rename_i hk
                  simp only [Bool.and_eq_true, Bool.not_eq_true'] at hk
                  obtain ⟨k1, k2, k3⟩ := hk
                  split at h
                  · rename_i hq
                    have A := sdAt_spec I ha
                    have B := sdAt_spec I hb
                    have hne : a ≠ b := Nat.ne_of_beq_eq_false k3
                    obtain ⟨g, o⟩ := Good.sub V A.2.2 B.2.2 ⟨k2, Nat.le_of_ble_eq_true hq, Nat.le_of_ble_eq_true k1⟩
                    obtain ⟨I', e1, e2⟩ := binS_spec (life := life) (os := os) I g h
                    refine ⟨I', ?_⟩
                    rw [e1, e2]
                    exact op_runs o hc A.get B.get hne
                  · cases h
                · cases h
          · cases h
        | false =>
          rw [h3] at h
          rw [den_dq]
          exact hev _ _ _ _ _ _ _ I h
  | _ => rw [den_dq]; exact hev _ _ _ _ _ _ _ I h

theorem quiet_of_calm {c : Code} (h : PySem.W.Fast.tw2348191978395082540 ⟨.pure (.again c), c, default, []⟩ = true) : c.quiet = true := by
  rw [← PySem.W.Fast.te2348191978395082540] at h
  unfold Code.quiet Thread.loud
  unfold Thread.calm at h
  simp only [Bool.and_eq_true] at h
  obtain ⟨⟨h1, h2⟩, _⟩ := h
  generalize Thread.atCollectorCode ⟨.pure (.again c), c, default, []⟩ = x at h1 ⊢
  generalize Thread.atExit ⟨.pure (.again c), c, default, []⟩ = y at h1 ⊢
  generalize Thread.yieldsInsideHandler ⟨.pure (.again c), c, default, []⟩ = z at h2 ⊢
  revert h1 h2
  cases x <;> cases y <;> cases z <;> simp

theorem tree_sound (V : SetsDo prog w) {ev : Ev} (hev : Sound prog w life os ev) {Γ : Ctx} {p : Pos} {t : Sem Fin} {st : ES} {e : End} {st' : ES} (I : SI prog w st)
    (h : treeB (realD prog w) (posF prog w life os) prog w ev Γ p t st = some (e, st')) : SI prog w st' ∧ Runs (model prog w) Γ p t [] (st.abs life os) e (st'.abs life os) := by
  cases t with
  | pure f =>
    cases f with
    | done f => cases h; exact ⟨I, .done⟩
    | again c =>
      unfold treeB at h
      dsimp only at h
      split at h
      · rename_i hq
        obtain ⟨I', k⟩ := code_sound V hev (Γ := Γ.goto c) rfl I h
        exact ⟨I', .again (quiet_of_calm hq) k⟩
      · cases h
  | raise x => cases h; exact ⟨I, .raise⟩
  | rule _ k => obtain ⟨I', r⟩ := hev _ _ _ _ _ _ _ I h; exact ⟨I', .rule r⟩
  | «at» _ k => obtain ⟨I', r⟩ := hev _ _ _ _ _ _ _ I h; exact ⟨I', .at r⟩
  | point _ k => obtain ⟨I', r⟩ := hev _ _ _ _ _ _ _ I h; exact ⟨I', .point r⟩
  | ask k => obtain ⟨I', r⟩ := hev _ _ _ _ _ _ _ I h; exact ⟨I', .ask r⟩
  | stack k => obtain ⟨I', r⟩ := hev _ _ _ _ _ _ _ I h; exact ⟨I', .stack r⟩
  | thread k => obtain ⟨I', r⟩ := hev _ _ _ _ _ _ _ I h; exact ⟨I', .thread r⟩
  | fresh k => obtain ⟨I', r⟩ := hev _ _ _ _ _ _ _ (SI.same (tk := Nat.succ st.toks) I) h; exact ⟨I', .fresh r⟩
  | handled own k =>
    obtain ⟨I', r⟩ := hev _ _ _ _ _ _ _ I h
    refine ⟨I', .handled ?_⟩
    cases own <;> exact r
  | load a q k =>
    unfold treeB at h
    dsimp only at h
    split at h
    · rename_i hb
      split at h
      · rename_i o hg
        split at h
        · rename_i o' ha
          obtain ⟨I', r⟩ := hev _ _ _ _ _ _ _ I h
          exact ⟨I', .load (abs_at hb hg ha) r⟩
        · cases h
      · cases h
    · cases h
  | update a q f k =>
    unfold treeB at h
    dsimp only at h
    split at h
    · rename_i hb
      split at h
      · rename_i o hg
        split at h
        · rename_i o' ha
          split at h
          · rename_i hn
            obtain ⟨I', r⟩ := hev _ _ _ _ _ _ _ (SI.up I hn) h
            refine ⟨I', .update (by rw [abs_at hb hg ha]; rfl) ?_⟩
            have : ES.abs life os ⟨st.T.set a f, st.n, st.gens, st.drawn, st.toks, st.sets⟩ = { st.abs life os with heap := (st.abs life os).heap.update a f } := by
              show Shared.mk (absHeap (st.T.set a f) st.n life) _ _ _ _ = _
              rw [absHeap_set hg]; rfl
            rw [← this]; exact r
          · cases h
        · cases h
      · cases h
    · cases h
  | loadIfAlive a k =>
    unfold treeB at h
    dsimp only at h
    split at h
    · rename_i hb
      split at h
      · rename_i o hg
        obtain ⟨I', r⟩ := hev _ _ _ _ _ _ _ I h
        refine ⟨I', .loadIfAlive ?_⟩
        rw [show (st.abs life os).heap.get? a = alive o from abs_get (lt_of_blt hb) hg]
        exact r
      · cases h
    · rename_i hb
      obtain ⟨I', r⟩ := hev _ _ _ _ _ _ _ I h
      refine ⟨I', .loadIfAlive ?_⟩
      rw [abs_not hb]; exact r
  | alloc o k =>
    unfold treeB at h
    dsimp only at h
    split at h
    · rename_i hs
      obtain ⟨I', r⟩ := hev _ _ _ _ _ _ _ (SI.new I hs) h
      refine ⟨I', .alloc ?_⟩
      have : ES.abs life os ⟨st.T.ins st.n o, Nat.succ st.n, st.gens, st.drawn, st.toks, st.sets⟩ = { st.abs life os with heap := (st.abs life os).heap.push o } := by
        show Shared.mk (absHeap (st.T.ins st.n o) (st.n + 1) life) _ _ _ _ = _
        rw [absHeap_ins hs]; rfl
      rw [← this, show (st.abs life os).heap.objs.size = st.n from absHeap_size _ _ _]
      exact r
    · cases h
  | genState g k =>
    unfold treeB at h
    dsimp only at h
    split at h
    · rename_i x hg
      obtain ⟨I', r⟩ := hev _ _ _ _ _ _ _ I h
      exact ⟨I', .genState ((abs_gens g).trans hg) r⟩
    · cases h
  | newGen c k =>
    unfold treeB at h
    dsimp only at h
    obtain ⟨I', r⟩ := hev _ _ _ _ _ _ _ (SI.same (gs := st.gens ++ [.fresh c]) I) h
    refine ⟨I', .newGen ?_⟩
    have : ES.abs life os ⟨st.T, st.n, st.gens ++ [.fresh c], st.drawn, st.toks, st.sets⟩ = { st.abs life os with gens := (st.abs life os).gens.push (.fresh c) } := by
      show Shared.mk _ _ _ _ _ = Shared.mk _ _ _ _ _
      congr 1
      show Array.mk _ = (Array.mk st.gens).push _
      simp
    rw [← this]
    exact r
  | call c hd g l k =>
    unfold treeB at h
    dsimp only at h
    cases hc : codeB (realD prog w) (posF prog w life os) ev (Γ.enter c hd p) p c st with
    | none => rw [hc] at h; cases h
    | some y =>
      obtain ⟨e₁, st₁⟩ := y
      rw [hc] at h
      obtain ⟨I₁, r₁⟩ := code_sound V hev (Γ := Γ.enter c hd p) rfl I hc
      cases e₁ with
      | ret r =>
        obtain ⟨I', r'⟩ := hev _ _ _ _ _ _ _ I₁ h
        exact ⟨I', .call r₁ r'⟩
      | susp v g₀ l₀ k₀ c₀ p₀ fs => cases h; exact ⟨I₁, .callSusp r₁⟩
  | «yield» v g l k => cases h; exact ⟨I, .yield⟩
  | resume g r l k =>
    unfold treeB at h
    dsimp only at h
    split at h
    · rename_i hr
      split at h
      · rename_i c hg
        split at h
        · rename_i e₁ st₁ h1
          split at h
          · rename_i hq
            obtain ⟨I₁, r₁⟩ := hev _ _ _ _ _ _ _ (SI.same (gs := st.gens.set g .running) I) h1
            obtain ⟨I', r'⟩ := hev _ _ _ _ _ _ _ (SI.same (gs := st₁.gens.set g e₁.genState) I₁) h
            have z (st : ES) (x : GenState) : ES.abs life os ⟨st.T, st.n, st.gens.set g x, st.drawn, st.toks, st.sets⟩ = (st.abs life os).setGen g x := by
              show Shared.mk _ _ _ _ _ = Shared.mk _ _ _ _ _
              congr 1
              show Array.mk _ = (Array.mk st.gens).setIfInBounds _ _
              simp
            rw [z] at r₁ r'
            rw [← den_dq (prog := prog) (w := w)] at r₁
            exact ⟨I', .resumeFresh ((abs_gens g).trans hg) r₁ hq r'⟩
          · cases h
        · cases h
      · rename_i k₀ l₀ c₀ p₀ fs cl hg
        split at h
        · rename_i e₁ st₁ h1
          split at h
          · rename_i hq
            obtain ⟨I₁, r₁⟩ := hev _ _ _ _ _ _ _ (SI.same (gs := st.gens.set g .running) I) h1
            obtain ⟨I', r'⟩ := hev _ _ _ _ _ _ _ (SI.same (gs := st₁.gens.set g e₁.genState) I₁) h
            have z (st : ES) (x : GenState) : ES.abs life os ⟨st.T, st.n, st.gens.set g x, st.drawn, st.toks, st.sets⟩ = (st.abs life os).setGen g x := by
              show Shared.mk _ _ _ _ _ = Shared.mk _ _ _ _ _
              congr 1
              show Array.mk _ = (Array.mk st.gens).setIfInBounds _ _
              simp
            rw [z] at r₁ r'
            exact ⟨I', .resumeSuspended ((abs_gens g).trans hg) r₁ hq r'⟩
          · cases h
        · cases h
      · cases h
    · cases h
  | _ => cases h

theorem evB_sound (V : SetsDo prog w) {ev : Ev} (hev : Sound prog w life os ev) : Sound prog w life os (evB (realD prog w) (posF prog w life os) prog w ev) := fun Γ p t fs st e st' I h => by
  cases fs with
  | nil => exact tree_sound V hev I h
  | cons F fs =>
    unfold evB at h
    dsimp only at h
    split at h
    · rename_i r st₁ h1
      obtain ⟨I₁, r₁⟩ := hev _ _ _ _ _ _ _ I h1
      cases F with
      | ret k hd g l c₁ p₁ kp =>
        obtain ⟨I', r'⟩ := hev _ _ _ _ _ _ _ I₁ h
        exact ⟨I', .segRet r₁ r'⟩
      | gen => cases h
    · rename_i h1
      split at h
      · rename_i hsp
        cases h
        obtain ⟨I₁, r₁⟩ := hev _ _ _ _ _ _ _ I h1
        exact ⟨I₁, .segSuspOut hsp r₁⟩
      · cases h
    · cases h

theorem evR_sound (V : SetsDo prog w) : ∀ n, Sound prog w life os (evR (realD prog w) (posF prog w life os) prog w n)
  | 0 => fun _ _ _ _ _ _ _ _ h => by cases h
  | n + 1 => evB_sound V (evR_sound V n)
end H
end Mine

end
section
open PySem PySem.W PySem.Calls PyProof.Rows
set_option Elab.async false
set_option maxRecDepth 100000
namespace Mine
namespace H
variable {prog : Program} {w : World}

theorem upd_eq {h : Heap} {a : Addr} {o : Obj} {f g : Obj → Obj} (ho : h.objs[a]? = some o) (e : f o = g o) : h.update a f = h.update a g := by
  have : h.objs.modify a f = h.objs.modify a g := by
    apply Array.ext_getElem?
    intro i
    rw [Array.getElem?_modify, Array.getElem?_modify]
    by_cases q : a = i
    · subst q; simp [ho, e]
    · simp [q]
  show Heap.mk _ _ = Heap.mk _ _
  rw [this]
theorem objs_of_get {h : Heap} {a : Addr} {o : Obj} (ho : h.get? a = some o) : h.objs[a]? = some o := by
  unfold Heap.get? at ho
  split at ho <;> simp_all
theorem upd_id {h : Heap} {a : Addr} {o : Obj} (ho : h.get? a = some o) : h.update a (fun _ => o) = h := by
  have ho' := objs_of_get ho
  have : h.objs.modify a (fun _ => o) = h.objs := by
    apply Array.ext_getElem?
    intro i
    rw [Array.getElem?_modify]
    by_cases q : a = i
    · subst q; simp [ho']
    · simp [q]
  cases h
  show Heap.mk _ _ = Heap.mk _ _
  rw [this]
theorem upd_upd {h : Heap} {a : Addr} {f g : Obj → Obj} : (h.update a f).update a g = h.update a (fun o => g (f o)) := by
  have : (h.objs.modify a f).modify a g = h.objs.modify a (fun o => g (f o)) := by
    apply Array.ext_getElem?
    intro i
    rw [Array.getElem?_modify, Array.getElem?_modify, Array.getElem?_modify]
    by_cases q : a = i
    · subst q; simp; rfl
    · simp [q]
  show Heap.mk _ _ = Heap.mk _ _
  exact congrArg (Heap.mk · h.life) this
theorem put_fs {h : Heap} {a : Addr} {D : SDat} (ho : h.get? a = some (fsObj D)) (es : Array (Int × Value)) (t : SetTable) : h.update a (Obj.putSet es t) = h.update a fun _ => fsObj (es, D.2.1 + 1, t) :=
  upd_eq (objs_of_get ho) (putSet_of es t rfl)
theorem get_upd {h : Heap} {a : Addr} {D : SDat} {o : Obj} (ho : h.get? a = some o) : (h.update a fun _ => fsObj D).get? a = some (fsObj D) := Heap.get?_update_self _ ho rfl

theorem WF.elems {D : SDat} {ss : List (List Nat)} (x : WF w D ss) : ElemsOf (PySem.strKind prog w) D.1.toList := fun e he => by
  obtain ⟨x, u, h1, h2⟩ := x.el e he
  exact ⟨⟨x, by rw [h1]; exact beq_self_eq_true _, h2⟩, by rw [h1]; rfl⟩
theorem WF.size {D : SDat} {ss : List (List Nat)} (x : WF w D ss) : D.1.size = ss.length := by
  have := x.perm.length_eq
  rw [List.length_map, Array.length_toList] at this; exact this
theorem WF.mem {D : SDat} {ss : List (List Nat)} (W : WF w D ss) (l : List Nat) : l ∈ ss ↔ ∃ e ∈ D.1.toList, ∃ u, e.2 = .str ⟨l.toArray⟩ u := by
  rw [← W.perm.mem_iff, List.mem_map]
  constructor
  · rintro ⟨e, he, rfl⟩
    obtain ⟨x, u, h1, _⟩ := W.el e he
    obtain ⟨h, v⟩ := e
    dsimp only at h1; subst h1
    exact ⟨_, he, u, rfl⟩
  · rintro ⟨e, he, u, hu⟩
    obtain ⟨h, v⟩ := e
    dsimp only at hu; subst hu
    exact ⟨_, he, rfl⟩
theorem WF.of_perm {D D' : SDat} {ss : List (List Nat)} (W : WF w D ss) (hf : D'.2.2.fits D'.1.size = true) (hp : List.Perm D'.1.toList D.1.toList) : WF w D' ss :=
  ⟨hf, fun e he => W.el e (hp.mem_iff.mp he), (hp.map _).trans W.perm, W.nodup⟩
theorem WF.push {D : SDat} {ss : List (List Nat)} {x : PySem.Str} {t : Tok} {es : Array (Int × Value)} {ep : Nat} {tb : SetTable} (W : WF w D ss) (hx : x.cps.toList ∉ ss) (hf : tb.fits es.size = true)
    (hp : List.Perm es.toList (D.1.toList ++ [(hashStr w x, .str x t)])) : WF w (es, ep, tb) (ss ++ [x.cps.toList]) where
  fits := hf
  el e he := by
    rcases List.mem_append.mp (hp.mem_iff.mp he) with he | he
    · exact W.el e he
    · rw [List.mem_singleton] at he; subst he; exact ⟨_, _, rfl, rfl⟩
  perm := by
    refine (hp.map keyOf).trans ?_
    rw [List.map_append]
    exact W.perm.append_right _
  nodup := List.nodup_append.mpr ⟨W.nodup, by simp, fun a ha b hb => by rw [List.mem_singleton] at hb; subst hb; rintro rfl; exact hx ha⟩

theorem addH_ex (D : SDat) (ss : List (List Nat)) (x : PySem.Str) (t : Tok) (W : WF w D ss) (hl : ss.length < 4000) : ∃ D', AddH prog w D x t D' := by
  have hkey : (PySem.strKind prog w).is x (.str x t) = true := beq_self_eq_true _
  have hsc : (Value.str x t).scannable = true := rfl
  have hb : scanBound = 4096 := rfl
  have hel := W.elems (prog := prog)
  have hsz : D.1.size < 4000 := by rw [W.size]; exact hl
  -- the walk up to the scan
  have walk : ∀ (A : Around) (s : Shared) (a : Addr) (E : Value → Shared → Prop) (Q : Bool → Shared → Prop), s.heap.get? a = some (fsObj D) →
      wpAny (model prog w) A (setAddByScan a (.str x t) (hashStr w x) D.1 D.2.2) (fun r s' => ∃ b, r = some b ∧ Q b s') E s → wpAny (model prog w) A (setAddHashed a (.str x t) (hashStr w x)) Q E s := fun A s a E Q ho h => by
    unfold setAddHashed setAddHashedIn
    refine wpAny_holding (wpAny_bind (wpAny_setState_of (o := fsObj D) (es := D.1) (ep := D.2.1) (t := D.2.2) ho rfl W.fits ?_))
    dsimp only
    rw [byScan_of (knd := PySem.strKind prog w) hsc (by (exact Nat.lt_of_lt_of_le (by assumption) (by decide))) hel]
    simp only [↓reduceIte]
    refine wpAny_bind (wpAny_mono h (fun r s' hr => ?_) fun _ _ e => e)
    obtain ⟨b, rfl, hq⟩ := hr
    exact wpAny_pure hq
  cases hr : List.findIdx? (fun e => (PySem.strKind prog w).is x e.2) D.1.toList with
  | some j =>
    obtain ⟨hj, hpj, _⟩ := List.findIdx?_eq_some_iff_getElem.mp hr
    have hm : ∀ qq, WF w D qq → x.cps.toList ∈ qq := fun qq Q => by
      rw [Q.mem]
      obtain ⟨u, hu⟩ := Value.isStrOf_shape hpj
      exact ⟨_, List.getElem_mem hj, u, hu⟩
    refine ⟨D, fun qq Q _ => by rw [ins_eq, if_pos (hm qq Q)]; exact Q, fun A s a E ho => walk A s a E _ ho ?_⟩
    unfold setAddByScan
    refine wpAny_bind (wpAny_rule ?_)
    refine wpAny_bind (wpAny_setScan_of (knd := PySem.strKind prog w) (o := fsObj D) (ep := D.2.1) hkey ho rfl W.fits hel ?_)
    rw [hr]
    dsimp only
    refine wpAny_pure ⟨_, rfl, ?_⟩
    rw [upd_id ho]
  | none =>
    have hm : ∀ qq, WF w D qq → x.cps.toList ∉ qq := fun qq Q hq => by
      obtain ⟨e, he, u, hu⟩ := (Q.mem _).mp hq
      have := List.findIdx?_eq_none_iff.mp hr e he
      rw [hu] at this
      have e2 : (PySem.strKind prog w).is x (.str ⟨x.cps.toList.toArray⟩ u) = true := beq_self_eq_true _
      rw [e2] at this; cases this
    have hgw : ∀ {A : Around} {E : Value → Shared → Prop} (b : Bool) {s₁ : Shared} {Q' : Unit → Shared → Prop}, Q' () s₁ → wpAny (model prog w) A (match b with | true => rule "set.scan.the-table-gave-way" | false => pure ()) Q' E s₁ :=
      fun b s₁ Q' hq => by cases b <;> first | exact wpAny_pure hq | exact wpAny_rule hq
    have hperm := layNew_perm D.2.2 D.1 (hashStr w x) (.str x t)
    have hfits := layNew_fits D.2.2 D.1 (hashStr w x) (.str x t)
    obtain ⟨L, hL⟩ : ∃ L, layNew D.2.2 D.1 (hashStr w x) (.str x t) = L := ⟨_, rfl⟩
    rw [hL] at hperm hfits
    obtain ⟨es1, t1, wasDummy, gave⟩ := L
    dsimp only at hperm hfits
    rw [Array.toList_push] at hperm
    have hz : es1.size = D.1.size + 1 := by
      have := hperm.length_eq
      rw [List.length_append, Array.length_toList, Array.length_toList] at this; exact this
    have hz1 : es1.size ≤ sizeLine := fits_of_scanBound (by (exact lin3 (Nat.le_of_eq hz) hsz (Nat.le_of_eq (Eq.symm hb)) (by simp +arith only)))
    obtain ⟨t2, ht2⟩ : ∃ t2 : SetTable, t2 = if t1.plain then { t1 with plain := false } else t1 := ⟨_, rfl⟩
    have hf2 : t2.fits es1.size = true := by
      rw [ht2]; split
      · exact SetTable.fits_plain_off hfits
      · exact hfits
    -- what comes behind the table
    have tail : ∃ D' : SDat, (∀ qq, WF w D qq → qq.length < 4000 → WF w D' (qq ++ [x.cps.toList])) ∧ ∀ (A : Around) (s : Shared) (a : Addr) (E : Value → Shared → Prop), s.heap.get? a = some (fsObj D) → wpAny (model prog w) A (do
        storeSet a es1 t2
        if (!wasDummy && t2.tooFull) = true then do
            (match (relayAll t2 es1 (SetTable.grown es1.size)).2.2 with | true => rule "set.scan.the-table-gave-way" | false => pure ())
            storeSet a (relayAll t2 es1 (SetTable.grown es1.size)).1 (relayAll t2 es1 (SetTable.grown es1.size)).2.1
            pure (some true)
          else pure (some true)) (fun r s' => ∃ b, r = some b ∧ s' = { s with heap := s.heap.update a fun _ => fsObj D' }) E s := by
      by_cases hc : (!wasDummy && t2.tooFull) = true
      · have hp := relayAll_perm t2 es1 (SetTable.grown es1.size)
        have hfr := relayAll_fits t2 es1 (SetTable.grown es1.size)
        refine ⟨((relayAll t2 es1 (SetTable.grown es1.size)).1, D.2.1 + 1 + 1, (relayAll t2 es1 (SetTable.grown es1.size)).2.1), fun qq Q _ => Q.push (hm qq Q) hfr (hp.trans hperm), fun A s a E ho => ?_⟩
        have hsz2 : (relayAll t2 es1 (SetTable.grown es1.size)).1.size = es1.size := by rw [← Array.length_toList, hp.length_eq, Array.length_toList]
        refine wpAny_bind (wpAny_storeSet_of (o := fsObj D) ho rfl ?_ hz1)
        rw [if_pos hc, put_fs ho]
        have ho1 : (s.heap.update a fun _ => fsObj (es1, D.2.1 + 1, t2)).get? a = some (fsObj (es1, D.2.1 + 1, t2)) := get_upd ho
        refine wpAny_bind (hgw _ ?_)
        refine wpAny_bind (wpAny_storeSet_of (o := fsObj (es1, D.2.1 + 1, t2)) ho1 rfl ?_ (by rw [hsz2]; exact hz1))
        refine wpAny_pure ⟨_, rfl, ?_⟩
        dsimp only
        rw [put_fs ho1, upd_upd]
      · refine ⟨(es1, D.2.1 + 1, t2), fun qq Q _ => Q.push (hm qq Q) hf2 hperm, fun A s a E ho => ?_⟩
        refine wpAny_bind (wpAny_storeSet_of (o := fsObj D) ho rfl ?_ hz1)
        rw [if_neg hc, put_fs ho]
        exact wpAny_pure ⟨_, rfl, rfl⟩
    obtain ⟨D', hw, ht⟩ := tail
    refine ⟨D', fun qq Q hq => by rw [ins_eq, if_neg (hm qq Q)]; exact hw qq Q hq, fun A s a E ho => walk A s a E _ ho ?_⟩
    unfold setAddByScan
    refine wpAny_bind (wpAny_rule ?_)
    refine wpAny_bind (wpAny_setScan_of (knd := PySem.strKind prog w) (o := fsObj D) (ep := D.2.1) hkey ho rfl W.fits hel ?_)
    rw [hr]
    dsimp only
    show wpAny _ A (match layNew D.2.2 D.1 (hashStr w x) (.str x t) with | _ => _) _ _ _
    rw [hL]
    dsimp only
    refine wpAny_bind (hgw _ ?_)
    have fin := ht A s a E ho
    rw [ht2] at fin
    split
    · rename_i hp
      rw [if_pos hp] at fin
      refine wpAny_bind ?_
      rw [hashByValue_scannable 8 hsc]
      exact wpAny_pure fin
    · rename_i hp
      rw [if_neg hp] at fin
      refine wpAny_bind (wpAny_pure ?_)
      simp only [↓reduceIte]
      exact fin
theorem add_ex (D : SDat) (ss : List (List Nat)) (x : PySem.Str) (t : Tok) (W : WF w D ss) (hl : ss.length < 4000) : ∃ D', AddR prog w D x t D' := by
  obtain ⟨D', h1, h2⟩ := addH_ex (prog := prog) D ss x t W hl
  have hkey : (PySem.strKind prog w).is x (.str x t) = true := beq_self_eq_true _
  refine ⟨D', h1, fun A s a E ho => ?_⟩
  unfold setAdd
  refine wpAny_holding (wpAny_bind ((PySem.strKind prog w).pyHash hkey ?_))
  exact h2 A { s with toks := s.toks + 1 } a E ho
end H
end Mine

end
section
open PySem PySem.W PySem.Calls PyProof.Rows
set_option Elab.async false
set_option maxRecDepth 100000
namespace Mine
namespace H
open SetTable

noncomputable def lp (mask i : Nat) : Nat := (i * 5 + 1) % (mask + 1)
noncomputable def lpN (mask : Nat) : Nat → Nat → Nat
  | 0, i => i
  | n + 1, i => lpN mask n (lp mask i)
theorem lpN_add (mask : Nat) : ∀ a b i, lpN mask (a + b) i = lpN mask b (lpN mask a i)
  | 0, b, i => by rw [Nat.zero_add]; rfl
  | a + 1, b, i => by rw [show a + 1 + b = (a + b) + 1 by (exact Nat.le_antisymm (lin0 (by simp +arith only)) (lin0 (by simp +arith only)))]; exact lpN_add mask a b (lp mask i)
noncomputable def Full (mask : Nat) : Prop := ∀ i j, i ≤ mask → j ≤ mask → ∃ k, k ≤ mask ∧ lpN mask k i = j
theorem full_of {mask : Nat} (h0 : lpN mask (mask + 1) 0 = 0) (h : ∀ i, i < mask + 1 → ∃ a, a < mask + 1 ∧ lpN mask a 0 = i) : Full mask := fun i j hi hj => by
  obtain ⟨a, ha, rfl⟩ := h i (Nat.lt_succ_of_le hi)
  obtain ⟨b, hb, rfl⟩ := h j (Nat.lt_succ_of_le hj)
  by_cases q : a ≤ b
  · exact ⟨b - a, by (exact lin2 (subu (a := b) (b := a) (lin1 q (by simp +arith only))) hb (by simp +arith only)), by rw [← lpN_add, show a + (b - a) = b by (exact Nat.le_antisymm (lin1 (subu (a := b) (b := a) (lin1 q (by simp +arith only))) (by simp +arith only)) (lin1 (subl (b) (a)) (by simp +arith only)))]⟩
  · exact ⟨b + (mask + 1) - a, by (exact lin2 (subu (a := b + (mask + 1)) (b := a) (lin1 ha (by simp +arith only))) (Nat.lt_of_not_le q) (by simp +arith only)), by rw [← lpN_add, show a + (b + (mask + 1) - a) = (mask + 1) + b by (exact Nat.le_antisymm (lin1 (subu (a := b + (mask + 1)) (b := a) (lin1 ha (by simp +arith only))) (by simp +arith only)) (lin1 (subl (b + (mask + 1)) (a)) (by simp +arith only))), lpN_add, h0]⟩
noncomputable def orbit (mask : Nat) : Nat → Nat → List Nat
  | 0, _ => []
  | n + 1, i => i :: orbit mask n (lp mask i)
theorem orbit_mem (mask : Nat) : ∀ n i x, x ∈ orbit mask n i → ∃ a, a < n ∧ lpN mask a i = x
  | 0, _, _, h => by cases h
  | n + 1, i, x, h => by
    rcases List.mem_cons.mp h with rfl | h
    · exact ⟨0, Nat.succ_pos _, rfl⟩
    · obtain ⟨a, ha, e⟩ := orbit_mem mask n _ x h
      exact ⟨a + 1, Nat.succ_lt_succ ha, e⟩
theorem full7 : Full 7 := full_of (by decide +kernel) fun i hi => orbit_mem _ _ _ _ (by
  have : (List.range 8).all (fun i => (orbit 7 8 0).contains i) = true := by decide +kernel
  exact List.contains_iff_mem.mp (List.all_eq_true.mp this i (List.mem_range.mpr hi)))
theorem full127 : Full 127 := full_of (by decide +kernel) fun i hi => orbit_mem _ _ _ _ (by
  have : (List.range 128).all (fun i => (orbit 127 128 0).contains i) = true := by decide +kernel
  exact List.contains_iff_mem.mp (List.all_eq_true.mp this i (List.mem_range.mpr hi)))

theorem free_some {mask : Nat} {owner : Array (Option Nat)} : ∀ {n i p j : Nat}, layClean.free mask owner n i p = some j → owner.getD j (some 0) = none
  | 0, _, _, _, h => by cases h
  | n + 1, i, p, j, h => by
    unfold layClean.free at h
    split at h
    · rename_i k hk
      cases h
      have := List.find?_some hk
      simpa using this
    · exact free_some h
theorem free_none {mask : Nat} {owner : Array (Option Nat)} {n i p : Nat} (h : layClean.free mask owner (n + 1) i p = none) :
    owner.getD i (some 0) ≠ none ∧ layClean.free mask owner n ((i * 5 + 1 + p / 32) % (mask + 1)) (p / 32) = none := by
  unfold layClean.free at h
  split at h
  · cases h
  · rename_i hk
    refine ⟨fun e => ?_, h⟩
    have hp : 0 < runEnd mask i + 1 - i := by unfold runEnd; split <;> (first | lia | omega)
    have := List.find?_eq_none.mp hk 0 (List.mem_range.mpr hp)
    simp [e] at this
theorem free_drop {mask : Nat} {owner : Array (Option Nat)} : ∀ {m n i p : Nat}, i ≤ mask → layClean.free mask owner (m + n) i p = none → ∃ i', i' ≤ mask ∧ layClean.free mask owner n i' (p / 32 ^ m) = none
  | 0, n, i, p, hi, h => ⟨i, hi, by rw [Nat.zero_add] at h; rw [Nat.pow_zero, Nat.div_one]; exact h⟩
  | m + 1, n, i, p, hi, h => by
    rw [show m + 1 + n = (m + n) + 1 by (exact Nat.le_antisymm (lin0 (by simp +arith only)) (lin0 (by simp +arith only)))] at h
    obtain ⟨i', hi', h'⟩ := free_drop (Nat.le_of_lt_succ (Nat.mod_lt _ (Nat.succ_pos mask))) (free_none h).2
    refine ⟨i', hi', ?_⟩
    rw [Nat.div_div_eq_div_mul] at h'
    rw [Nat.pow_succ, Nat.mul_comm]; exact h'
theorem free_walk {mask : Nat} {owner : Array (Option Nat)} : ∀ {n i : Nat}, layClean.free mask owner n i 0 = none → ∀ k, k < n → owner.getD (lpN mask k i) (some 0) ≠ none
  | 0, _, _, k, hk => by cases hk
  | n + 1, i, h, k, hk => by
    obtain ⟨h1, h2⟩ := free_none h
    cases k with
    | zero => exact h1
    | succ k => exact free_walk h2 k (Nat.lt_of_succ_lt_succ hk)
theorem free_ok {mask : Nat} (F : Full mask) {owner : Array (Option Nat)} {i p j : Nat} (hi : i ≤ mask) (hp : p < 2 ^ 64) (hj : j ≤ mask) (ho : owner.getD j (some 0) = none) :
    ∃ j', layClean.free mask owner (turns mask) i p = some j' ∧ owner.getD j' (some 0) = none := by
  cases h : layClean.free mask owner (turns mask) i p with
  | some j' => exact ⟨j', rfl, free_some h⟩
  | none =>
    rw [show turns mask = 13 + (mask + 2) by unfold turns; (exact Nat.le_antisymm (lin0 (by simp +arith only)) (lin0 (by simp +arith only)))] at h
    obtain ⟨i', hi', h'⟩ := free_drop hi h
    rw [show p / 32 ^ 13 = 0 from Nat.div_eq_of_lt (Nat.lt_trans hp (by decide))] at h'
    obtain ⟨k, hk, e⟩ := F i' j hi' hj
    exact absurd ho (by rw [← e]; exact free_walk h' k (by (exact lin1 hk (by simp +arith only))))

theorem bits_lt (h : Int) : SetTable.bits h < 2 ^ 64 := by
  unfold SetTable.bits
  have h1 := Int.emod_nonneg h (show (2 ^ 64 : Int) ≠ 0 by decide)
  have h2 := Int.emod_lt_of_pos h (show (0 : Int) < 2 ^ 64 by decide)
  (lia)

noncomputable def liveOf (mask : Nat) (owner : Array (Option Nat)) : List (Nat × Nat) := (List.range (mask + 1)).filterMap fun j => (owner.getD j none).map (j, ·)

theorem filterMap_same {α β : Type} {f g : α → Option β} : ∀ {l : List α}, (∀ x ∈ l, g x = f x) → l.filterMap g = l.filterMap f
  | [], _ => rfl
  | x :: l, h => by rw [List.filterMap_cons, List.filterMap_cons, h x (.head _), filterMap_same fun y hy => h y (.tail _ hy)]
theorem filterMap_one {α β : Type} {f g : α → Option β} {j : α} {v : β} (hf : f j = none) (hg : g j = some v) (hs : ∀ x, x ≠ j → g x = f x) : ∀ {l : List α}, l.Nodup → j ∈ l → (l.filterMap g).Perm (l.filterMap f ++ [v])
  | [], _, h => by cases h
  | x :: l, hn, h => by
    rw [List.nodup_cons] at hn
    by_cases e : x = j
    · subst e
      have same : l.filterMap g = l.filterMap f := filterMap_same fun y hy => hs y fun q => hn.1 (q ▸ hy)
      rw [List.filterMap_cons_some hg, List.filterMap_cons_none hf, same]
      exact List.perm_append_singleton v _ |>.symm
    · have hj : j ∈ l := by rcases List.mem_cons.mp h with q | q; exact absurd q.symm e; exact q
      have ih := filterMap_one hf hg hs hn.2 hj
      cases hx : f x with
      | none => rw [List.filterMap_cons_none (by rw [hs x e, hx]), List.filterMap_cons_none hx]; exact ih
      | some y => rw [List.filterMap_cons_some (by rw [hs x e, hx]), List.filterMap_cons_some hx, List.cons_append]; exact ih.cons y
theorem filterMap_full {α β : Type} {f : α → Option β} : ∀ {l : List α}, (∀ x ∈ l, f x ≠ none) → (l.filterMap f).length = l.length
  | [], _ => rfl
  | x :: l, h => by
    cases hx : f x with
    | none => exact absurd hx (h x (.head _))
    | some y => rw [List.filterMap_cons_some hx, List.length_cons, List.length_cons, filterMap_full fun z hz => h z (.tail _ hz)]

structure Laid (mask : Nat) (owner : Array (Option Nat)) (k : Nat) : Prop where
  size : owner.size = mask + 1
  order : ((liveOf mask owner).map (·.2)).Perm (List.range k)

theorem Laid.zero (mask : Nat) : Laid mask (Array.replicate (mask + 1) none) 0 where
  size := Array.size_replicate
  order := by
    have : liveOf mask (Array.replicate (mask + 1) none) = [] := by
      unfold liveOf
      rw [List.filterMap_eq_nil_iff]
      intro j hj
      have : j < mask + 1 := List.mem_range.mp hj
      simp [Array.getD, this]
    rw [this]; exact .rfl
theorem getD_none {owner : Array (Option Nat)} {j : Nat} (h : owner.getD j (some 0) = none) : ∃ hj : j < owner.size, owner[j] = none := by
  unfold Array.getD at h
  split at h
  · rename_i hj; exact ⟨hj, h⟩
  · cases h
theorem Laid.step {mask : Nat} {owner : Array (Option Nat)} {k j : Nat} (L : Laid mask owner k) (h : owner.getD j (some 0) = none) : Laid mask (owner.setIfInBounds j (some k)) (k + 1) where
  size := by rw [Array.size_setIfInBounds]; exact L.size
  order := by
    obtain ⟨hj, ho⟩ := getD_none h
    have hj' : j < mask + 1 := L.size ▸ hj
    have p : (liveOf mask (owner.setIfInBounds j (some k))).Perm (liveOf mask owner ++ [(j, k)]) := by
      refine filterMap_one (j := j) (v := (j, k)) ?_ ?_ (fun x hx => ?_) List.nodup_range (List.mem_range.mpr hj')
      · simp [Array.getD, hj, ho]
      · simp [Array.getD, hj]
      · simp only [Array.getD, Array.size_setIfInBounds]
        split
        · rename_i hx'
          rw [show (owner.setIfInBounds j (some k)).getInternal x _ = (owner.setIfInBounds j (some k))[x]'(by simpa using hx') from rfl, show owner.getInternal x _ = owner[x] from rfl]
          rw [Array.getElem_setIfInBounds_ne _ (Ne.symm hx)]
        · rfl
    have := p.map (·.2)
    rw [List.map_append] at this
    refine this.trans ?_
    rw [List.range_succ]
    exact L.order.append_right _
theorem Laid.room {mask : Nat} {owner : Array (Option Nat)} {k : Nat} (L : Laid mask owner k) (hk : k ≤ mask) : ∃ j, j ≤ mask ∧ owner.getD j (some 0) = none := by
  apply Classical.byContradiction
  intro hn
  have : (liveOf mask owner).length = mask + 1 := by
    unfold liveOf
    rw [filterMap_full, List.length_range]
    intro j hj e
    have hj' : j < mask + 1 := List.mem_range.mp hj
    refine hn ⟨j, Nat.le_of_lt_succ hj', ?_⟩
    have hs : j < owner.size := by rw [L.size]; exact hj'
    simp only [Array.getD, hs, dif_pos, Option.map_eq_none_iff] at e ⊢
    exact e
  have h2 := L.order.length_eq
  rw [List.length_map, List.length_range] at h2
  (exact Nat.not_succ_le_zero 0 (lin3 (Nat.le_of_eq (Eq.symm this)) (Nat.le_of_eq h2) hk (by simp +arith only)))

theorem layClean_ok {mask : Nat} (F : Full mask) (hs : Array Int) (hn : hs.size ≤ mask) : ∃ owner, layClean mask hs = some owner ∧ Laid mask owner hs.size := by
  unfold layClean
  rw [← Array.foldl_toList]
  have key : ∀ (l : List Int) (owner : Array (Option Nat)) (k : Nat), Laid mask owner k → k + l.length ≤ mask → ∃ owner', l.foldl (fun acc h => do
      let (owner, k) ← acc
      let j ← layClean.free mask owner (turns mask) (bits h % (mask + 1)) (bits h)
      pure (owner.setIfInBounds j (some k), k + 1)) (some (owner, k)) = some (owner', k + l.length) ∧ Laid mask owner' (k + l.length) := by
    intro l
    induction l with
    | nil => intro owner k L _; exact ⟨owner, rfl, L⟩
    | cons h l ih =>
      intro owner k L hk
      rw [List.length_cons] at hk
      obtain ⟨j, hj, ho⟩ := L.room (by (exact lin1 hk (by simp +arith only)))
      obtain ⟨j', e, ho'⟩ := free_ok F (i := bits h % (mask + 1)) (p := bits h) (Nat.le_of_lt_succ (Nat.mod_lt _ (Nat.succ_pos _))) (bits_lt h) hj ho
      obtain ⟨owner', e', L'⟩ := ih _ _ (L.step ho') (by (exact lin1 hk (by simp +arith only)))
      refine ⟨owner', ?_, by rw [List.length_cons, show k + (l.length + 1) = k + 1 + l.length by (exact Nat.le_antisymm (lin0 (by simp +arith only)) (lin0 (by simp +arith only)))]; exact L'⟩
      rw [List.foldl_cons, List.length_cons, show k + (l.length + 1) = k + 1 + l.length by (exact Nat.le_antisymm (lin0 (by simp +arith only)) (lin0 (by simp +arith only))), ← e']
      congr 1
      show (Option.bind (layClean.free mask owner (turns mask) (bits h % (mask + 1)) (bits h)) _) = _
      rw [e]; rfl
  obtain ⟨owner, e, L⟩ := key hs.toList _ 0 (Laid.zero mask) (by rw [Nat.zero_add, Array.length_toList]; exact hn)
  rw [Nat.zero_add, Array.length_toList] at e L
  refine ⟨owner, ?_, L⟩
  rw [e]; rfl
theorem laid_ok {mask finger moves : Nat} {led plain : Bool} (F : Full mask) (hs : Array Int) (hn : hs.size ≤ mask) :
    ∃ t order, SetTable.laid mask finger moves led plain hs = some (t, order) ∧ t.fits hs.size = true ∧ t.mask = mask ∧ t.dummies = #[] ∧ order.toList.Perm (List.range hs.size) := by
  obtain ⟨owner, e, L⟩ := layClean_ok F hs hn
  refine ⟨{ mask, place := ((liveOf mask owner).map (·.1)).toArray, dummies := #[], finger, led, moves, plain }, ((liveOf mask owner).map (·.2)).toArray, ?_, ?_, rfl, rfl, by simpa using L.order⟩
  · unfold SetTable.laid
    rw [e]; rfl
  · have h2 := L.order.length_eq
    rw [List.length_map, List.length_range] at h2
    simp [SetTable.fits, SetTable.fill, h2, hn]
end H
end Mine

end
section
open PySem PySem.W PySem.Calls PyProof.Rows
set_option Elab.async false
set_option maxRecDepth 100000
namespace Mine
namespace H
variable {prog : Program} {w : World}

structure Bare (T : SetTable) (m : Nat) : Prop where
  mask : T.mask = m
  place : T.place = #[]
  dummies : T.dummies = #[]
theorem Bare.fits {T : SetTable} {m : Nat} (x : Bare T m) : T.fits (#[] : Array (Int × Value)).size = true := by
  unfold SetTable.fits SetTable.fill
  rw [x.place, x.dummies]; simp
theorem Bare.fill {T : SetTable} {m : Nat} (x : Bare T m) : T.fill = 0 := by
  unfold SetTable.fill
  rw [x.place, x.dummies]; rfl

theorem laid_elems {D : SDat} {order : Array Nat} (hp : order.toList.Perm (List.range D.1.size)) : (order.filterMap (D.1[·]?)).toList.Perm D.1.toList := by
  rw [Array.toList_filterMap]
  exact (hp.filterMap _).trans (by rw [filterMap_getElem?_range])

theorem copy_tail {m : Nat} (F : Full m) {T : SetTable} (B : Bare T m) (ep : Nat) (D : SDat) (ss : List (List Nat)) (W : WF w D ss) (hn : ss.length ≤ m) (hm : m ≤ 4000) :
    ∃ D', WF w D' ss ∧ D'.2.2.mask = m ∧ D'.2.2.dummies = #[] ∧ ∀ (each : Sem Unit) (A : Around) (s : Shared) (r o : Addr) (E : Value → Shared → Prop) (Q : Unit → Shared → Prop), s.heap.get? r = some (fsObj (#[], ep, T)) →
      Q () { s with heap := s.heap.update r fun _ => fsObj D' } → wpAny (model prog w) A (do
          let x ← setState r
          match x.2.2.road D.2.2 with
            | SetTable.Road.slotForSlot =>
              storeSet r D.1 { mask := D.2.2.mask, place := D.2.2.place, dummies := D.2.2.dummies, finger := x.2.2.finger, led := x.2.2.led && D.2.2.led, moves := x.2.2.moves, plain := x.2.2.plain && D.2.2.plain }
            | SetTable.Road.clean => do
              let (es, t) ← (do
                let some (t, order) := SetTable.laid x.2.2.mask x.2.2.finger x.2.2.moves (x.2.2.led && D.2.2.led) (x.2.2.plain && D.2.2.plain) (Array.map (fun x => x.1) D.1) | unsupported "internal:set-table-without-room"
                let es' := order.filterMap (D.1[·]?)
                if es'.size != D.1.size then unsupported "internal:set-table-lost-an-element"
                pure (es', t))
              storeSet r es t
            | SetTable.Road.oneByOne => do
              for (h, x) in ← setWalkUnseen o [r] (some r) do
                let _ ← holding [x] (setAddHashed r x h)
                each
                if (← setState o).2.1 != D.2.1 then unsupported "set.changed-during-merge") Q E s := by
  have hz : D.1.size ≤ sizeLine := fits_of_scanBound (by rw [W.size, show scanBound = 4096 from rfl]; (exact lin2 hn hm (by simp +arith only)))
  by_cases hc : (m == D.2.2.mask && D.2.2.dummies.isEmpty) = true
  · have hroad : T.road D.2.2 = .slotForSlot := by
      unfold SetTable.road
      rw [B.fill, B.mask, if_neg (by simp), if_pos hc]
    simp only [Bool.and_eq_true, beq_iff_eq, Array.isEmpty_iff] at hc
    refine ⟨(D.1, ep + 1, { mask := D.2.2.mask, place := D.2.2.place, dummies := D.2.2.dummies, finger := T.finger, led := T.led && D.2.2.led, moves := T.moves, plain := T.plain && D.2.2.plain }), W.of_perm W.fits .rfl, hc.1.symm, hc.2, fun each A s r o E Q hr hQ => ?_⟩
    refine wpAny_bind (wpAny_setState_of (o := fsObj (#[], ep, T)) (es := #[]) (ep := ep) (t := T) hr rfl B.fits ?_)
    dsimp only
    rw [hroad]
    refine wpAny_storeSet_of (o := fsObj (#[], ep, T)) hr rfl ?_ hz
    rw [put_fs hr]; exact hQ
  · have hroad : T.road D.2.2 = .clean := by
      unfold SetTable.road
      rw [B.fill, B.mask, if_neg (by simp), if_neg hc]
    obtain ⟨t, order, hl, hf, hm, hd, hp⟩ := laid_ok (finger := T.finger) (moves := T.moves) (led := T.led && D.2.2.led) (plain := T.plain && D.2.2.plain) F (Array.map (fun x => x.1) D.1) (by rw [Array.size_map, W.size]; exact hn)
    rw [Array.size_map] at hf hp
    have hpe := laid_elems hp
    have hsz : (order.filterMap (D.1[·]?)).size = D.1.size := by rw [← Array.length_toList, hpe.length_eq, Array.length_toList]
    refine ⟨(order.filterMap (D.1[·]?), ep + 1, t), W.of_perm (by dsimp only; rw [hsz]; exact hf) hpe, hm, hd, fun each A s r o E Q hr hQ => ?_⟩
    refine wpAny_bind (wpAny_setState_of (o := fsObj (#[], ep, T)) (es := #[]) (ep := ep) (t := T) hr rfl B.fits ?_)
    dsimp only
    rw [hroad]
    dsimp only
    rw [B.mask, hl]
    dsimp only
    refine wpAny_bind ?_
    have hb : ((order.filterMap (D.1[·]?)).size != D.1.size) = false := by rw [hsz]; simp
    rw [hb]
    simp only [Bool.false_eq_true, ↓reduceIte]
    refine wpAny_pure ?_
    refine wpAny_storeSet_of (o := fsObj (#[], ep, T)) hr rfl ?_ (by rw [hsz]; exact hz)
    rw [put_fs hr]; exact hQ

theorem okLen_cases {n : Nat} (h : okLen n = true) : (1 ≤ n ∧ n ≤ 3) ∨ (32 ≤ n ∧ n ≤ 50) := by
  unfold okLen at h
  rw [Bool.or_eq_true, Bool.and_eq_true, Bool.and_eq_true] at h
  rcases h with ⟨a, b⟩ | ⟨a, b⟩
  · exact .inl ⟨Nat.le_of_ble_eq_true a, Nat.le_of_ble_eq_true b⟩
  · exact .inr ⟨Nat.le_of_ble_eq_true a, Nat.le_of_ble_eq_true b⟩

noncomputable def maskOf (n : Nat) : Nat := if n ≤ 3 then 7 else 127

theorem merge0 (led : Bool) (D : SDat) (ss : List (List Nat)) (W : WF w D ss) (hl : okLen ss.length = true) :
    ∃ D', WF w D' ss ∧ D'.2.2.mask = maskOf ss.length ∧ D'.2.2.dummies = #[] ∧ ∀ (each : Sem Unit) (A : Around) (s : Shared) (r o : Addr) (E : Value → Shared → Prop) (Q : Unit → Shared → Prop), r ≠ o → s.heap.get? r = some (fsObj (#[], 0, .fresh 0 0 led)) →
      s.heap.get? o = some (fsObj D) → Q () { s with heap := s.heap.update r fun _ => fsObj D' } → wpAny (model prog w) A (setMerge r o each) Q E s := by
  have hsz := W.size
  have start : ∀ (each : Sem Unit) (A : Around) (s : Shared) (r o : Addr) (E : Value → Shared → Prop) (Q : Unit → Shared → Prop), r ≠ o → s.heap.get? r = some (fsObj (#[], 0, .fresh 0 0 led)) → s.heap.get? o = some (fsObj D) → True := fun _ _ _ _ _ _ _ _ _ _ => trivial
  rcases okLen_cases hl with ⟨l1, l2⟩ | ⟨l1, l2⟩
  · obtain ⟨D', W', h1, h2, k⟩ := copy_tail (prog := prog) full7 (T := .fresh 0 0 led) ⟨rfl, rfl, rfl⟩ 0 D ss W (by (exact Nat.le_trans (by assumption) (by decide))) (by (decide))
    refine ⟨D', W', by rw [h1, maskOf, if_pos l2], h2, fun each A s r o E Q hne hr ho hQ => ?_⟩
    have h1 : (r == o) = false := beq_eq_false_iff_ne.mpr hne
    have h2 : D.1.isEmpty = false := by rw [Array.isEmpty_eq_false_iff]; intro e; rw [e] at hsz; change 0 = _ at hsz; (exact Nat.not_succ_le_zero 0 (lin2 l1 (Nat.le_of_eq (Eq.symm hsz)) (by simp +arith only)))
    unfold setMerge
    rw [h1]
    simp only [Bool.false_eq_true, ↓reduceIte]
    refine wpAny_bind (wpAny_setState_of (o := fsObj D) (es := D.1) (ep := D.2.1) (t := D.2.2) ho rfl W.fits ?_)
    dsimp only
    rw [h2]
    simp only [Bool.false_eq_true, ↓reduceIte]
    refine wpAny_bind ?_
    unfold setRoomFor
    refine wpAny_bind (wpAny_setState_of (o := fsObj (#[], 0, .fresh 0 0 led)) (es := #[]) (ep := 0) (t := .fresh 0 0 led) hr rfl rfl ?_)
    dsimp only
    have hroom : (SetTable.fresh 0 0 led).roomFor D.1.size = none := by
      unfold SetTable.roomFor
      rw [if_neg]
      show ¬ (0 + D.1.size) * 5 ≥ 7 * 3
      (lia)
    rw [hroom]
    refine wpAny_pure ?_
    exact k each A s r o E Q hr hQ
  · have hw : SetTable.sizeAbove (D.1.size * 2) = 128 := by
      have : ∀ n, 64 ≤ n → n ≤ 100 → SetTable.sizeAbove n = 128 := fun n a b => by
        have : (List.range 101).all (fun n => Nat.blt n 64 || Nat.beq (SetTable.sizeAbove n) 128) = true := by decide +kernel
        have := List.all_eq_true.mp this n (List.mem_range.mpr (by (exact lin1 b (by simp +arith only))))
        rw [Bool.or_eq_true] at this
        rcases this with h | h
        · have := lt_of_blt h; (lia)
        · exact Nat.eq_of_beq_eq_true h
      exact this _ (by (exact lin4 l1 (Nat.le_of_eq (Eq.symm hsz)) l1 (Nat.le_of_eq (Eq.symm hsz)) (by simp +arith only))) (by (exact lin4 (Nat.le_of_eq hsz) l2 (Nat.le_of_eq hsz) l2 (by simp +arith only)))
    obtain ⟨T1, hT1⟩ : ∃ T1 : SetTable, T1 = { mask := 127, place := #[], dummies := #[], finger := 0, led, moves := (SetTable.fresh 0 0 led).movedTo 127, plain := true } := ⟨_, rfl⟩
    have hB : Bare T1 127 := by subst hT1; exact ⟨rfl, rfl, rfl⟩
    have hrel : (SetTable.fresh 0 0 led).relaid #[] ((0 + D.1.size) * 2) = some (T1, #[]) := by
      unfold SetTable.relaid
      rw [Nat.zero_add, hw, hT1]
      have : SetTable.layClean 127 #[] = some (Array.replicate 128 none) := rfl
      unfold SetTable.laid
      rw [show (128 - 1 : Nat) = 127 from rfl, this]
      have e : (List.range (127 + 1)).filterMap (fun j => ((Array.replicate 128 (none : Option Nat)).getD j none).map (j, ·)) = [] := by decide +kernel
      show some _ = _
      rw [e]; rfl
    obtain ⟨D', W', h1, h2, k⟩ := copy_tail (prog := prog) full127 hB 1 D ss W (by (exact Nat.le_trans (by assumption) (by decide))) (by (decide))
    refine ⟨D', W', by rw [h1, maskOf, if_neg (by (exact Nat.not_le_of_lt (lin1 l1 (by simp +arith only))))], h2, fun each A s r o E Q hne hr ho hQ => ?_⟩
    have h1 : (r == o) = false := beq_eq_false_iff_ne.mpr hne
    have h2 : D.1.isEmpty = false := by rw [Array.isEmpty_eq_false_iff]; intro e; rw [e] at hsz; change 0 = _ at hsz; (exact Nat.not_succ_le_zero 0 (lin2 l1 (Nat.le_of_eq (Eq.symm hsz)) (by simp +arith only)))
    unfold setMerge
    rw [h1]
    simp only [Bool.false_eq_true, ↓reduceIte]
    refine wpAny_bind (wpAny_setState_of (o := fsObj D) (es := D.1) (ep := D.2.1) (t := D.2.2) ho rfl W.fits ?_)
    dsimp only
    rw [h2]
    simp only [Bool.false_eq_true, ↓reduceIte]
    refine wpAny_bind ?_
    unfold setRoomFor
    refine wpAny_bind (wpAny_setState_of (o := fsObj (#[], 0, .fresh 0 0 led)) (es := #[]) (ep := 0) (t := .fresh 0 0 led) hr rfl rfl ?_)
    dsimp only
    have hroom : (SetTable.fresh 0 0 led).roomFor D.1.size = some ((0 + D.1.size) * 2) := by
      unfold SetTable.roomFor
      rw [if_pos]
      · rfl
      · show (0 + D.1.size) * 5 ≥ 7 * 3
        (exact lin2 l1 (Nat.le_of_eq (Eq.symm hsz)) (by simp +arith only))
    rw [hroom]
    unfold setRelay
    refine wpAny_bind (wpAny_setState_of (o := fsObj (#[], 0, .fresh 0 0 led)) (es := #[]) (ep := 0) (t := .fresh 0 0 led) hr rfl rfl ?_)
    dsimp only
    have hs : ¬ SetTable.sizeAbove ((0 + D.1.size) * 2) > sizeLine := by rw [Nat.zero_add, hw, sizeLine_eq]; (decide)
    rw [if_neg hs]
    rw [show ((SetTable.fresh 0 0 led).relaid (Array.map (fun x => x.1) (#[] : Array (Int × Value))) ((0 + D.1.size) * 2)) = some (T1, #[]) from by rw [Array.map_empty]; exact hrel]
    refine wpAny_bind ?_
    show wpAny (model prog w) A (pure ((#[] : Array (Int × Value)), T1)) _ _ _
    refine wpAny_pure ?_
    dsimp only
    refine wpAny_storeSet_of (o := fsObj (#[], 0, .fresh 0 0 led)) hr rfl ?_ (by decide)
    rw [put_fs hr]
    refine k each A _ r o E Q (get_upd hr) ?_
    dsimp only
    rw [upd_upd]; exact hQ
end H
end Mine

end
section
open PySem PySem.W PySem.Calls PyProof.Rows
open PySem.Builtin.Frozenset
set_option Elab.async false
set_option maxRecDepth 100000
namespace Mine
namespace H
variable {prog : Program} {w : World}

theorem WF.same {D : SDat} {ss qq : List (List Nat)} (a : WF w D ss) (b : WF w D qq) : ss.Perm qq := a.perm.symm.trans b.perm
theorem WF.cong {D : SDat} {ss qq : List (List Nat)} (a : WF w D ss) (p : ss.Perm qq) : WF w D qq := ⟨a.fits, a.el, a.perm.trans p, p.nodup_iff.mp a.nodup⟩
theorem ins_perm {ss qq : List (List Nat)} (p : ss.Perm qq) (x : List Nat) : (ins ss x).Perm (ins qq x) := by
  rw [ins_eq, ins_eq]
  by_cases h : x ∈ ss
  · rw [if_pos h, if_pos (p.mem_iff.mp h)]; exact p
  · rw [if_neg h, if_neg (fun q => h (p.mem_iff.mpr q))]; exact p.append_right _
theorem one_elem {D : SDat} {qq : List (List Nat)} (W : WF w D qq) (h : qq.length ≤ 1) : (D.1 = #[] ∧ qq = []) ∨ ∃ x t, D.1 = #[(hashStr w x, .str x t)] ∧ qq = [x.cps.toList] := by
  have hs := W.size
  obtain ⟨⟨l⟩, ep, tb⟩ := D
  have hp := W.perm
  change l.length = qq.length at hs
  change (l.map keyOf).Perm qq at hp
  match l, hs, hp, W.el with
  | [], hs, hp, _ => exact .inl ⟨rfl, List.eq_nil_of_length_eq_zero hs.symm⟩
  | [e], hs, hp, he =>
    obtain ⟨x, t, h1, h2⟩ := he e (.head _)
    obtain ⟨h, v⟩ := e
    dsimp only at h1 h2; subst h1 h2
    exact .inr ⟨x, t, rfl, (List.singleton_perm.mp hp).symm⟩
  | _ :: _ :: _, hs, _, _ => simp only [List.length_cons] at hs; (lia)

theorem fits_place {T : SetTable} {n : Nat} (h : T.fits n = true) : T.place.size = n := by
  unfold SetTable.fits at h
  simp only [Bool.and_eq_true, beq_iff_eq] at h
  exact h.1

theorem walk_one {A : Around} {E : Value → Shared → Prop} {s : Shared} {o : Addr} {D : SDat} {qq : List (List Nat)} (W : WF w D qq) (h : qq.length ≤ 1) (others : List Addr) (fl : Option Addr) {Q : Array (Int × Value) → Shared → Prop}
    (ho : s.heap.get? o = some (fsObj D)) (hq : Q D.1 s) : wpAny (model prog w) A (setWalkUnseen o others fl) Q E s := by
  have hsz : D.1.size ≤ 1 := by rw [W.size]; exact h
  unfold setWalkUnseen
  refine wpAny_bind (wpAny_setState_of (o := fsObj D) (es := D.1) (ep := D.2.1) (t := D.2.2) ho rfl W.fits ?_)
  unfold setsByText
  refine wpAny_bind (wpAny_bind (wpAny_askSetting (wpAny_pure ?_)))
  dsimp only
  rw [if_pos (by simp [hsz])]
  unfold setWalk
  refine wpAny_bind (wpAny_setState_of (o := fsObj D) (es := D.1) (ep := D.2.1) (t := D.2.2) ho rfl W.fits ?_)
  unfold setsByText
  refine wpAny_bind (wpAny_bind (wpAny_askSetting (wpAny_pure ?_)))
  dsimp only
  split
  · refine wpAny_bind (wpAny_askSetting (wpAny_pure ?_))
    have : ∀ f : Nat → Nat, pickOrder f D.1 = D.1 := fun f => by
      rcases one_elem W h with ⟨e, _⟩ | ⟨x, t, e, _⟩
      · rw [e]; rfl
      · rw [e]; unfold pickOrder
        simp [pickOrder.go, Nat.mod_one]
    rw [this]; exact hq
  · have hd : decide (D.1.size > 1) = false := decide_eq_false (by (lia))
    show wpAny (model prog w) A (if (!D.2.2.plain && decide (D.1.size > 1)) = true then _ else _) Q E s
    rw [if_neg (by rw [hd]; simp)]
    refine wpAny_bind ?_
    show wpAny (model prog w) A (if (!D.2.2.led && decide (D.1.size > 1)) = true then _ else _) _ E s
    rw [if_neg (by rw [hd]; simp)]
    exact wpAny_pure (wpAny_pure hq)

theorem merge1 (D₁ D₂ : SDat) (ss qq : List (List Nat)) (W₁ : WF w D₁ ss) (W₂ : WF w D₂ qq) (hl : okLen ss.length = true) (hm : D₁.2.2.mask = maskOf ss.length) (hd : D₁.2.2.dummies = #[]) (hq : qq.length ≤ 1) :
    ∃ D', WF w D' (orF ss qq) ∧ ∀ (id : String) (A : Around) (s : Shared) (r o : Addr) (E : Value → Shared → Prop) (Q : Unit → Shared → Prop), r ≠ o → s.heap.get? r = some (fsObj D₁) → s.heap.get? o = some (fsObj D₂) →
      Q () { s with heap := s.heap.update r fun _ => fsObj D' } → wpAny (model prog w) A (setMerge r o (unchanged id o D₂.2.1)) Q E s := by
  have hsz := W₁.size
  have hp := fits_place W₁.fits
  rcases one_elem W₂ hq with ⟨e, rfl⟩ | ⟨x, t, e, rfl⟩
  · refine ⟨D₁, W₁, fun id A s r o E Q hne hr ho hQ => ?_⟩
    have h1 : (r == o) = false := beq_eq_false_iff_ne.mpr hne
    unfold setMerge
    rw [h1]
    simp only [Bool.false_eq_true, ↓reduceIte]
    refine wpAny_bind (wpAny_setState_of (o := fsObj D₂) (es := D₂.1) (ep := D₂.2.1) (t := D₂.2.2) ho rfl W₂.fits ?_)
    dsimp only
    rw [if_pos (by rw [e]; rfl)]
    rw [upd_id hr] at hQ
    exact wpAny_pure hQ
  · have hlt : ss.length < 4000 := by rcases okLen_cases hl with h | h <;> (exact lin1 h.2 (by simp +arith only))
    obtain ⟨D', hw, k⟩ := addH_ex (prog := prog) D₁ ss x t W₁ hlt
    refine ⟨D', hw ss W₁ hlt, fun id A s r o E Q hne hr ho hQ => ?_⟩
    have h1 : (r == o) = false := beq_eq_false_iff_ne.mpr hne
    unfold setMerge
    rw [h1]
    simp only [Bool.false_eq_true, ↓reduceIte]
    refine wpAny_bind (wpAny_setState_of (o := fsObj D₂) (es := D₂.1) (ep := D₂.2.1) (t := D₂.2.2) ho rfl W₂.fits ?_)
    dsimp only
    rw [if_neg (by rw [e]; simp)]
    refine wpAny_bind ?_
    unfold setRoomFor
    refine wpAny_bind (wpAny_setState_of (o := fsObj D₁) (es := D₁.1) (ep := D₁.2.1) (t := D₁.2.2) hr rfl W₁.fits ?_)
    dsimp only
    have hfill : D₁.2.2.fill = ss.length := by unfold SetTable.fill; rw [hp, hd, hsz]; rfl
    have hroom : D₁.2.2.roomFor D₂.1.size = none := by
      unfold SetTable.roomFor
      rw [if_neg]
      rw [hfill, hm, e]
      show ¬ (ss.length + 1) * 5 ≥ maskOf ss.length * 3
      unfold maskOf
      rcases okLen_cases hl with h | h
      · rw [if_pos h.2]; (lia)
      · rw [if_neg (by (exact Nat.not_le_of_lt (lin1 h.1 (by simp +arith only))))]; (lia)
    rw [hroom]
    refine wpAny_pure ?_
    refine wpAny_bind (wpAny_setState_of (o := fsObj D₁) (es := D₁.1) (ep := D₁.2.1) (t := D₁.2.2) hr rfl W₁.fits ?_)
    dsimp only
    have hroad : D₁.2.2.road D₂.2.2 = .oneByOne := by
      unfold SetTable.road
      rw [hfill, if_pos (bne_iff_ne.mpr (by rcases okLen_cases hl with h | h <;> (exact Nat.ne_of_gt (lin1 h.1 (by simp +arith only)))))]
    rw [hroad]
    dsimp only
    refine wpAny_bind (walk_one W₂ hq _ _ ho ?_)
    rw [e]
    refine wpAny_bind ?_
    rw [← Array.forIn_toList]
    show wpAny _ A (forIn [(hashStr w x, Value.str x t)] PUnit.unit _) _ _ _
    rw [List.forIn_cons]
    refine wpAny_bind ?_
    refine wpAny_bind (wpAny_holding (wpAny_mono (k A s r _ hr) (fun b s' hs' => ?_) fun _ _ e => e))
    subst hs'
    have ho' : (s.heap.update r fun _ => fsObj D').get? o = some (fsObj D₂) := (Heap.get?_update_ne _ _ _ _ (Ne.symm hne)).trans ho
    unfold unchanged setEpoch
    have hse : ∀ {Q' : (Array (Int × Value) × Nat × SetTable) → Shared → Prop}, Q' (D₂.1, D₂.2.1, D₂.2.2) { s with heap := s.heap.update r fun _ => fsObj D' } → wpAny (model prog w) A (setState o) Q' E { s with heap := s.heap.update r fun _ => fsObj D' } :=
      fun hq => wpAny_setState_of (o := fsObj D₂) (es := D₂.1) (ep := D₂.2.1) (t := D₂.2.2) ho' rfl W₂.fits hq
    refine wpAny_bind (wpAny_bind (wpAny_bind (hse (wpAny_pure ?_))))
    dsimp only
    rw [if_neg (by simp)]
    refine wpAny_pure ?_
    refine wpAny_bind (hse ?_)
    dsimp only
    rw [if_neg (by simp)]
    refine wpAny_pure ?_
    dsimp only
    rw [List.forIn_nil]
    exact wpAny_pure (wpAny_pure hQ)

theorem push_upd (h : Heap) (o : Obj) (f : Obj → Obj) : (h.push o).update h.objs.size f = h.push (f o) := by
  have : (h.objs.push o).modify h.objs.size f = h.objs.push (f o) := by
    apply Array.ext_getElem?
    intro i
    rw [Array.getElem?_modify, Array.getElem?_push, Array.getElem?_push]
    by_cases e : i = h.objs.size
    · subst e; simp
    · simp [e, Ne.symm e]
  show Heap.mk _ _ = Heap.mk _ _
  exact congrArg (Heap.mk · h.life) this

namespace F
theorem entry_fs_or : entryFor table "frozenset.__or__" = some Builtin.«frozenset.__or__» := entryFor_of_tree (by kernel_rfl)
theorem entry_fs_sub : entryFor table "frozenset.__sub__" = some Builtin.«frozenset.__sub__» := entryFor_of_tree (by kernel_rfl)
theorem sub_fs_set : isSubtype (.type "frozenset") (.type "set") = pure false := by rw [isSubtype_type]; kernel_rfl
theorem sub_fs_fs : isSubtype (.type "frozenset") (.type "frozenset") = pure true := by rw [isSubtype_type]; kernel_rfl
end F

theorem isAny_fs {A : Around} {E : Value → Shared → Prop} {s : Shared} {a : Addr} {D : SDat} {Q : Bool → Shared → Prop} (ha : s.heap.get? a = some (fsObj D)) (h : Q true s) : wpAny (model prog w) A (isAnySet (.ref a)) Q E s := by
  have hT : s.TypeIs (.ref a) "frozenset" := ⟨_, ha, rfl⟩
  unfold isAnySet
  refine wpAny_bind (wpAny_isInstance hT F.sub_fs_set ?_)
  exact wpAny_isInstance hT F.sub_fs_fs h

theorem copy_ex (D : SDat) (ss : List (List Nat)) (W : WF w D ss) (hl : okLen ss.length = true) :
    ∃ D', WF w D' ss ∧ D'.2.2.mask = maskOf ss.length ∧ D'.2.2.dummies = #[] ∧ ∀ (A : Around) (s : Shared) (a : Addr) (E : Value → Shared → Prop) (Q : Value → Shared → Prop), s.heap.get? a = some (fsObj D) →
      Q (.ref s.heap.objs.size) { s with heap := s.heap.push (fsObj D') } → wpAny (model prog w) A (copyOf a) Q E s := by
  obtain ⟨D', W', h1, h2, k⟩ := merge0 (prog := prog) (!w.params.followText "set-order") D ss W hl
  refine ⟨D', W', h1, h2, fun A s a E Q ha hQ => ?_⟩
  have hT : s.TypeIs (.ref a) "frozenset" := ⟨_, ha, rfl⟩
  unfold copyOf baseOf
  refine wpAny_bind (wpAny_bind (wpAny_isInstance hT F.sub_fs_set ?_))
  rw [if_neg (by decide)]
  refine wpAny_pure ?_
  unfold newSet setsByText
  refine wpAny_bind (wpAny_bind (wpAny_bind (wpAny_askSetting (wpAny_pure ?_))))
  dsimp only
  simp only [newObj]
  refine wpAny_bind (wpAny_alloc (wpAny_pure ?_))
  unfold addrOf
  refine wpAny_bind (wpAny_pure ?_)
  have hne : s.heap.objs.size ≠ a := fun e => by have := Heap.lt_size ha; rw [← e] at this; exact Nat.lt_irrefl _ this
  refine wpAny_bind (k _ _ _ _ _ _ _ hne (Heap.get?_push_size _ rfl) (Heap.get?_push_of_some _ ha) ?_)
  refine wpAny_pure ?_
  dsimp only
  rw [push_upd]
  exact hQ

theorem or_ex (D₁ D₂ : SDat) (ss qq : List (List Nat)) (W₁ : WF w D₁ ss) (W₂ : WF w D₂ qq) (h : orOk ss qq) : ∃ D', OpR prog w "frozenset.__or__" D₁ D₂ orF orOk D' := by
  obtain ⟨Dc, Wc, hm, hd, kc⟩ := copy_ex (prog := prog) D₁ ss W₁ h.1
  obtain ⟨D', W', k⟩ := merge1 (prog := prog) Dc D₂ ss qq Wc W₂ h.1 hm hd h.2
  refine ⟨D', fun s2 q2 X Y hk => W'.cong ?_, fun A s a b ha hb hne => ?_⟩
  · have p1 := W₁.same X
    have p2 := W₂.same Y
    rcases one_elem W₂ h.2 with ⟨_, rfl⟩ | ⟨x, t, _, rfl⟩
    · rw [List.nil_perm.mp p2]; exact p1
    · have e := List.singleton_perm.mp p2
      subst e
      exact ins_perm p1 _
  · refine codeAny_builtin F.entry_fs_or ?_
    show wpAny _ _ (do
      if !(← isAnySet (.ref a) <&&> isAnySet (.ref b)) then
        rule "frozenset.__or__.declined"
        return ← ret .notImplemented
      ret (← (do
        let result ← copyOf a
        if (Value.ref b != Value.ref a) then holding [result] (updateFrom "frozenset.__or__" (← addrOf result) (.ref b))
        return result))) _ _ _
    refine wpAny_bind (wpAny_bind (isAny_fs ha ?_))
    show wpAny _ _ (isAnySet (Value.ref b)) _ _ _
    refine isAny_fs hb ?_
    rw [if_neg (by decide)]
    refine wpAny_bind ?_
    refine wpAny_bind (kc _ s a _ _ ha ?_)
    rw [if_pos (by simpa using Ne.symm hne)]
    unfold addrOf
    refine wpAny_bind (wpAny_pure ?_)
    have hr : (s.heap.push (fsObj Dc)).get? s.heap.objs.size = some (fsObj Dc) := Heap.get?_push_size _ rfl
    have hb' : (s.heap.push (fsObj Dc)).get? b = some (fsObj D₂) := Heap.get?_push_of_some _ hb
    have hnb : s.heap.objs.size ≠ b := fun e => by have := Heap.lt_size hb; rw [← e] at this; exact Nat.lt_irrefl _ this
    refine wpAny_bind (wpAny_holding ?_)
    unfold updateFrom
    refine wpAny_bind (isAny_fs hb' ?_)
    rw [if_pos rfl]
    unfold addrOf
    refine wpAny_bind (wpAny_pure ?_)
    unfold merge setEpoch
    refine wpAny_bind (wpAny_bind (wpAny_setState_of (o := fsObj D₂) (es := D₂.1) (ep := D₂.2.1) (t := D₂.2.2) hb' rfl W₂.fits (wpAny_pure ?_)))
    refine k "frozenset.__or__" _ _ _ _ _ _ hnb hr hb' ?_
    refine wpAny_pure ?_
    show wpAny _ _ (ret _) _ _ _
    refine wpAny_pure ⟨rfl, ?_⟩
    dsimp only
    rw [push_upd]
end H
end Mine

end
section
open PySem PySem.W PySem.Calls PyProof.Rows
open PySem.Builtin.Frozenset
set_option Elab.async false
set_option maxRecDepth 100000
namespace Mine
namespace H
variable {prog : Program} {w : World}

theorem eraseAt_list {α : Type} (xs : Array α) (p : Nat) : (SetTable.eraseAt xs p).toList = xs.toList.take p ++ xs.toList.drop (p + 1) := by
  unfold SetTable.eraseAt
  rw [Array.toList_append, Array.toList_extract, Array.toList_extract]
  simp [List.extract_eq_take_drop]
  rw [List.take_of_length_le (by simp)]
theorem eraseAt_size {α : Type} {xs : Array α} {p : Nat} (h : p < xs.size) : (SetTable.eraseAt xs p).size + 1 = xs.size := by
  rw [← Array.length_toList, eraseAt_list, List.length_append, List.length_take, List.length_drop, Array.length_toList]
  (lia)
theorem insertAt_size {α : Type} {xs : Array α} {p : Nat} (x : α) : (SetTable.insertAt xs p x).size = xs.size + 1 := by
  have := (SetTable.insertAt_perm xs p x).length_eq
  simpa using this

theorem discard1 (D₁ D₂ : SDat) (ss qq : List (List Nat)) (W₁ : WF w D₁ ss) (W₂ : WF w D₂ qq) (hl : okLen ss.length = true) (h32 : 32 ≤ ss.length) (hm : D₁.2.2.mask = maskOf ss.length) (hd : D₁.2.2.dummies = #[]) (hq : qq.length ≤ 1) :
    ∃ D', WF w D' (subF ss qq) ∧ ∀ (id : String) (A : Around) (s : Shared) (r o : Addr) (E : Value → Shared → Prop) (Q : Unit → Shared → Prop), r ≠ o → s.heap.get? r = some (fsObj D₁) → s.heap.get? o = some (fsObj D₂) →
      Q () { s with heap := s.heap.update r fun _ => fsObj D' } → wpAny (model prog w) A (differenceUpdate id r (.ref o)) Q E s := by
  have hsz := W₁.size
  have hp := fits_place W₁.fits
  have h50 : ss.length ≤ 50 := by rcases okLen_cases hl with h | h <;> (exact lin1 h.2 (by simp +arith only))
  have hmask : D₁.2.2.mask = 127 := by rw [hm, maskOf, if_neg (by (exact Nat.not_le_of_lt (lin1 h32 (by simp +arith only))))]
  -- the walk to the loop
  have walk : ∀ (id : String) (A : Around) (s : Shared) (r o : Addr) (E : Value → Shared → Prop) (Q : Unit → Shared → Prop), r ≠ o → s.heap.get? r = some (fsObj D₁) → s.heap.get? o = some (fsObj D₂) →
      wpAny (model prog w) A (do
        for x in D₂.1.toList do
          let _ ← holding [x.2] (setDiscardHashed r x.2 x.1)
          unchanged id o D₂.2.1
        pure ()) (fun _ s' => wpAny (model prog w) A (setTidy r) Q E s') E s → wpAny (model prog w) A (differenceUpdate id r (.ref o)) Q E s := fun id A s r o E Q hne hr ho h => by
    unfold differenceUpdate
    rw [if_neg (by simpa using Ne.symm hne)]
    refine wpAny_bind (isAny_fs ho ?_)
    rw [if_pos rfl]
    unfold addrOf
    refine wpAny_bind (wpAny_pure ?_)
    unfold Builtin.Frozenset.sizeOf setEntries
    refine wpAny_bind (wpAny_bind (wpAny_bind (wpAny_setState_of (o := fsObj D₂) (es := D₂.1) (ep := D₂.2.1) (t := D₂.2.2) ho rfl W₂.fits (wpAny_pure (wpAny_pure ?_)))))
    dsimp only
    refine wpAny_bind (wpAny_bind (wpAny_bind (wpAny_setState_of (o := fsObj D₁) (es := D₁.1) (ep := D₁.2.1) (t := D₁.2.2) hr rfl W₁.fits (wpAny_pure (wpAny_pure ?_)))))
    dsimp only
    have hs2 := W₂.size
    rw [if_neg (by (lia))]
    unfold setEpoch
    refine wpAny_bind (wpAny_bind (wpAny_setState_of (o := fsObj D₂) (es := D₂.1) (ep := D₂.2.1) (t := D₂.2.2) ho rfl W₂.fits (wpAny_pure ?_)))
    dsimp only
    refine wpAny_bind (wpAny_holding ?_)
    refine wpAny_bind (walk_one W₂ hq _ _ ho ?_)
    rw [← Array.forIn_toList]
    exact h
  have tidy : ∀ (A : Around) (s : Shared) (r : Addr) (E : Value → Shared → Prop) (Q : Unit → Shared → Prop) (D : SDat), s.heap.get? r = some (fsObj D) → D.2.2.fits D.1.size = true → D.2.2.mask = 127 → D.2.2.dummies.size ≤ 1 → Q () s → wpAny (model prog w) A (setTidy r) Q E s := fun A s r E Q D hr hf hk hz h => by
    unfold setTidy
    refine wpAny_bind (wpAny_setState_of (o := fsObj D) (es := D.1) (ep := D.2.1) (t := D.2.2) hr rfl hf ?_)
    dsimp only
    have : D.2.2.tooManyDummies = false := by
      unfold SetTable.tooManyDummies
      rw [hk]; exact decide_eq_false (by (lia))
    rw [this]
    exact wpAny_pure h
  rcases one_elem W₂ hq with ⟨e, rfl⟩ | ⟨x, t, e, rfl⟩
  · have hF : subF ss [] = ss := by
      unfold subF
      rw [List.filter_eq_self]
      intro a _; rfl
    refine ⟨D₁, by rw [hF]; exact W₁, fun id A s r o E Q hne hr ho hQ => walk id A s r o E Q hne hr ho ?_⟩
    rw [e]
    rw [upd_id hr] at hQ
    refine wpAny_bind ?_
    show wpAny _ A (forIn [] PUnit.unit _) _ _ _
    rw [List.forIn_nil]
    refine wpAny_pure (wpAny_pure ?_)
    exact tidy A s r E Q D₁ hr W₁.fits hmask (by rw [hd]; exact Nat.zero_le _) hQ
  · have hkey : (PySem.strKind prog w).is x (.str x t) = true := beq_self_eq_true _
    have hsc : (Value.str x t).scannable = true := rfl
    have hel := W₁.elems (prog := prog)
    have hse : ∀ (id : String) (A : Around) (s : Shared) (o : Addr) (E : Value → Shared → Prop) (Q : Unit → Shared → Prop), s.heap.get? o = some (fsObj D₂) → Q () s → wpAny (model prog w) A (unchanged id o D₂.2.1) Q E s := fun id A s o E Q ho h => by
      unfold unchanged setEpoch
      refine wpAny_bind (wpAny_bind (wpAny_setState_of (o := fsObj D₂) (es := D₂.1) (ep := D₂.2.1) (t := D₂.2.2) ho rfl W₂.fits (wpAny_pure ?_)))
      dsimp only
      rw [if_neg (by simp)]
      exact wpAny_pure h
    -- the loop has one turn
    have turn : ∀ (id : String) (A : Around) (s : Shared) (r o : Addr) (E : Value → Shared → Prop) (Q : Unit → Shared → Prop) (h' : Heap), s.heap.get? r = some (fsObj D₁) → (h'.get? o = some (fsObj D₂)) →
        (∀ R : Bool → Shared → Prop, (∀ b, R b { s with heap := h' }) → wpAny (model prog w) A (match D₁.1.toList.findIdx? (fun e => (PySem.strKind prog w).is x e.2) with
          | none => pure false
          | some i => do
            let x ← setState r
            storeSet r (SetTable.eraseAt x.1 i) (x.2.2.drop i)
            point
            pure true) R E s) → Q () { s with heap := h' } → wpAny (model prog w) A (do
        for x in D₂.1.toList do
          let _ ← holding [x.2] (setDiscardHashed r x.2 x.1)
          unchanged id o D₂.2.1
        pure ()) Q E s := fun id A s r o E Q h' hr ho hk hQ => by
      rw [e]
      refine wpAny_bind ?_
      show wpAny _ A (forIn [(hashStr w x, Value.str x t)] PUnit.unit _) _ _ _
      rw [List.forIn_cons]
      refine wpAny_bind ?_
      refine wpAny_bind (wpAny_holding ?_)
      unfold setDiscardHashed setFind setFindIn
      refine wpAny_bind (wpAny_bind (wpAny_setState_of (o := fsObj D₁) (es := D₁.1) (ep := D₁.2.1) (t := D₁.2.2) hr rfl W₁.fits ?_))
      dsimp only
      rw [byScan_of (knd := PySem.strKind prog w) hsc (by rw [hsz, show scanBound = 4096 from rfl]; (exact lin1 h50 (by simp +arith only))) hel]
      simp only [↓reduceIte]
      refine wpAny_bind (wpAny_rule ?_)
      refine wpAny_bind (wpAny_setScan_of (knd := PySem.strKind prog w) (k := x) (o := fsObj D₁) (ep := D₁.2.1) hkey hr rfl W₁.fits hel ?_)
      have k := hk (fun b s' => s' = { s with heap := h' }) (fun _ => rfl)
      cases hf : List.findIdx? (fun e => (PySem.strKind prog w).is x e.2) D₁.1.toList with
      | none =>
        rw [hf] at k
        dsimp only at k ⊢
        refine wpAny_pure ?_
        dsimp only
        refine wpAny_mono k (fun b s' hs' => ?_) fun _ _ e => e
        subst hs'
        refine wpAny_bind (hse id A _ o _ _ ho (wpAny_pure ?_))
        dsimp only
        rw [List.forIn_nil]
        exact wpAny_pure (wpAny_pure hQ)
      | some j =>
        rw [hf] at k
        dsimp only at k ⊢
        rw [Nat.zero_add]
        refine wpAny_pure ?_
        dsimp only
        refine wpAny_mono k (fun b s' hs' => ?_) fun _ _ e => e
        subst hs'
        refine wpAny_bind (hse id A _ o _ _ ho (wpAny_pure ?_))
        dsimp only
        rw [List.forIn_nil]
        exact wpAny_pure (wpAny_pure hQ)
    have hmem : ∀ (l : List (Int × Value)), (∀ e ∈ l, ∃ x u, e.2 = .str x u ∧ e.1 = hashStr w x) → ∀ e ∈ l, (PySem.strKind prog w).is x e.2 = decide (keyOf e = x.cps.toList) := fun l hl e he => by
      obtain ⟨y, u, h1, h2⟩ := hl e he
      obtain ⟨h, v⟩ := e
      dsimp only at h1; subst h1
      show (PySem.strKind prog w).is x (.str y u) = decide (y.cps.toList = x.cps.toList)
      have e1 : (PySem.strKind prog w).is x (.str y u) = (y == x) := rfl
      rw [e1]
      by_cases q : y = x
      · subst q; simp
      · rw [beq_eq_false_iff_ne.mpr q]
        have : ¬ y.cps.toList = x.cps.toList := fun z => q (by cases x; cases y; simp only [PySem.Str.mk.injEq]; exact Array.toList_inj.mp z)
        simp [this]
    cases hf : List.findIdx? (fun e => (PySem.strKind prog w).is x e.2) D₁.1.toList with
    | none =>
      have hn : x.cps.toList ∉ ss := fun h => by
        rw [← W₁.perm.mem_iff, List.mem_map] at h
        obtain ⟨e, he, hk⟩ := h
        have := List.findIdx?_eq_none_iff.mp hf e he
        rw [hmem _ W₁.el e he, hk] at this
        simp at this
      have hF : subF ss [x.cps.toList] = ss := by
        unfold subF
        rw [List.filter_eq_self]
        intro a ha
        have : has [x.cps.toList] a = false := by
          rw [Bool.eq_false_iff, ne_eq, has_iff, List.mem_singleton]
          rintro rfl; exact hn ha
        rw [this]; rfl
      refine ⟨D₁, by rw [hF]; exact W₁, fun id A s r o E Q hne hr ho hQ => walk id A s r o E Q hne hr ho ?_⟩
      rw [upd_id hr] at hQ
      refine turn id A s r o E _ s.heap hr ho (fun R hR => ?_) (tidy A s r E Q D₁ hr W₁.fits hmask (by rw [hd]; exact Nat.zero_le _) hQ)
      rw [hf]
      exact wpAny_pure (hR _)
    | some j =>
      obtain ⟨hj, hpj, _⟩ := List.findIdx?_eq_some_iff_getElem.mp hf
      have hj' : j < D₁.1.size := by simpa using hj
      have hkj : keyOf D₁.1.toList[j] = x.cps.toList := by
        have := hmem _ W₁.el _ (List.getElem_mem hj)
        rw [hpj] at this
        exact of_decide_eq_true this.symm
      obtain ⟨l', hl'⟩ : ∃ l', l' = D₁.1.toList.take j ++ D₁.1.toList.drop (j + 1) := ⟨_, rfl⟩
      have hpl : D₁.1.toList.Perm (D₁.1.toList[j] :: l') := by
        have e1 : D₁.1.toList = D₁.1.toList.take j ++ D₁.1.toList[j] :: D₁.1.toList.drop (j + 1) := by
          rw [← List.drop_eq_getElem_cons hj, List.take_append_drop]
        rw [hl']
        exact (List.Perm.of_eq e1).trans List.perm_middle
      have hps : ss.Perm (x.cps.toList :: l'.map keyOf) := by
        refine W₁.perm.symm.trans ((hpl.map keyOf).trans ?_)
        rw [List.map_cons, hkj]
      have hnd : (x.cps.toList :: l'.map keyOf).Nodup := hps.nodup_iff.mp W₁.nodup
      have hF : (subF ss [x.cps.toList]).Perm (l'.map keyOf) := by
        unfold subF
        refine (hps.filter _).trans ?_
        rw [List.nodup_cons] at hnd
        rw [List.filter_cons_of_neg (by rw [has_iff.mpr (by simp)]; simp)]
        rw [List.filter_eq_self.mpr]
        intro a ha
        have : has [x.cps.toList] a = false := by
          rw [Bool.eq_false_iff, ne_eq, has_iff, List.mem_singleton]
          rintro rfl; exact hnd.1 ha
        rw [this]; rfl
      have hpl2 : D₁.2.2.place[j]? = some (D₁.2.2.place[j]'(by rw [hp]; exact hj')) := Array.getElem?_eq_getElem _
      have hdrop : D₁.2.2.drop j = { D₁.2.2 with place := SetTable.eraseAt D₁.2.2.place j, dummies := SetTable.insertAt D₁.2.2.dummies (SetTable.below D₁.2.2.dummies (D₁.2.2.place[j]'(by rw [hp]; exact hj'))) (D₁.2.2.place[j]'(by rw [hp]; exact hj')) } := by
        unfold SetTable.drop
        rw [hpl2]
      have hez := eraseAt_size hj'
      have hpz : (SetTable.eraseAt D₁.2.2.place j).size + 1 = D₁.2.2.place.size := eraseAt_size (by rw [hp]; exact hj')
      have hdz : (D₁.2.2.drop j).dummies.size = 1 := by rw [hdrop]; dsimp only; rw [insertAt_size, hd]; rfl
      have hdm : (D₁.2.2.drop j).mask = 127 := by rw [hdrop]; exact hmask
      have hfit : (D₁.2.2.drop j).fits (SetTable.eraseAt D₁.1 j).size = true := by
        have h1 : (D₁.2.2.drop j).place.size = (SetTable.eraseAt D₁.1 j).size := by rw [hdrop]; dsimp only; (exact Nat.le_antisymm (lin3 (Nat.le_of_eq hpz) (Nat.le_of_eq hp) (Nat.le_of_eq (Eq.symm hez)) (by simp +arith only)) (lin3 (Nat.le_of_eq hez) (Nat.le_of_eq (Eq.symm hp)) (Nat.le_of_eq (Eq.symm hpz)) (by simp +arith only)))
        unfold SetTable.fits SetTable.fill
        rw [h1, hdz, hdm]
        simp
        (exact lin3 (Nat.le_of_eq hez) (Nat.le_of_eq hsz) h50 (by simp +arith only))
      have hWF : WF w (SetTable.eraseAt D₁.1 j, D₁.2.1 + 1, D₁.2.2.drop j) (subF ss [x.cps.toList]) := by
        refine ⟨hfit, fun e he => ?_, ?_, ?_⟩
        · dsimp only at he
          rw [eraseAt_list, ← hl'] at he
          exact W₁.el e (hpl.mem_iff.mpr (.tail _ he))
        · dsimp only
          rw [eraseAt_list, ← hl']
          exact hF.symm
        · exact W₁.nodup.filter _
      refine ⟨_, hWF, fun id A s r o E Q hne hr ho hQ => walk id A s r o E Q hne hr ho ?_⟩
      have ho' : (s.heap.update r fun _ => fsObj (SetTable.eraseAt D₁.1 j, D₁.2.1 + 1, D₁.2.2.drop j)).get? o = some (fsObj D₂) := (Heap.get?_update_ne _ _ _ _ (Ne.symm hne)).trans ho
      refine turn id A s r o E _ (s.heap.update r fun _ => fsObj (SetTable.eraseAt D₁.1 j, D₁.2.1 + 1, D₁.2.2.drop j)) hr ho' (fun R hR => ?_)
        (tidy A _ r E Q (SetTable.eraseAt D₁.1 j, D₁.2.1 + 1, D₁.2.2.drop j) (get_upd hr) hfit hdm (by rw [hdz]; exact Nat.le_refl _) hQ)
      rw [hf]
      dsimp only
      refine wpAny_bind (wpAny_setState_of (o := fsObj D₁) (es := D₁.1) (ep := D₁.2.1) (t := D₁.2.2) hr rfl W₁.fits ?_)
      dsimp only
      refine wpAny_bind (wpAny_storeSet_of (o := fsObj D₁) hr rfl ?_ (fits_of_scanBound (by rw [show scanBound = 4096 from rfl]; (exact lin3 (Nat.le_of_eq hez) (Nat.le_of_eq hsz) h50 (by simp +arith only)))))
      rw [put_fs hr]
      exact wpAny_bind (wpAny_point (wpAny_pure (hR _)))

theorem sub_ex (D₁ D₂ : SDat) (ss qq : List (List Nat)) (W₁ : WF w D₁ ss) (W₂ : WF w D₂ qq) (h : subOk ss qq) : ∃ D', OpR prog w "frozenset.__sub__" D₁ D₂ subF subOk D' := by
  obtain ⟨Dc, Wc, hm, hd, kc⟩ := copy_ex (prog := prog) D₁ ss W₁ h.1
  obtain ⟨D', W', k⟩ := discard1 (prog := prog) Dc D₂ ss qq Wc W₂ h.1 h.2.1 hm hd h.2.2
  refine ⟨D', fun s2 q2 X Y hk => W'.cong ?_, fun A s a b ha hb hne => ?_⟩
  · have p1 := W₁.same X
    have p2 := W₂.same Y
    have e : qq = q2 := by
      rcases one_elem W₂ h.2.2 with ⟨_, rfl⟩ | ⟨x, t, _, rfl⟩
      · exact (List.nil_perm.mp p2).symm
      · exact List.singleton_perm.mp p2
    subst e
    exact p1.filter _
  · refine codeAny_builtin F.entry_fs_sub ?_
    show wpAny _ _ (do
      if !(← isAnySet (.ref a) <&&> isAnySet (.ref b)) then
        rule "frozenset.__sub__.declined"
        return ← ret .notImplemented
      ret (← difference "frozenset.__sub__" a (.ref b))) _ _ _
    refine wpAny_bind (wpAny_bind (isAny_fs ha ?_))
    show wpAny _ _ (isAnySet (Value.ref b)) _ _ _
    refine isAny_fs hb ?_
    rw [if_neg (by decide)]
    refine wpAny_bind ?_
    unfold difference
    refine wpAny_bind (isAny_fs hb ?_)
    rw [if_neg (by decide)]
    unfold addrOf
    refine wpAny_bind (wpAny_pure ?_)
    rw [if_neg (by simp)]
    rw [if_pos rfl]
    unfold Builtin.Frozenset.sizeOf setEntries
    refine wpAny_bind (wpAny_bind (wpAny_bind (wpAny_setState_of (o := fsObj D₂) (es := D₂.1) (ep := D₂.2.1) (t := D₂.2.2) hb rfl W₂.fits (wpAny_pure (wpAny_pure ?_)))))
    dsimp only
    refine wpAny_bind (wpAny_bind (wpAny_bind (wpAny_setState_of (o := fsObj D₁) (es := D₁.1) (ep := D₁.2.1) (t := D₁.2.2) ha rfl W₁.fits (wpAny_pure (wpAny_pure ?_)))))
    dsimp only
    have z1 := W₁.size
    have z2 := W₂.size
    have z3 := h.2.1
    have z4 := h.2.2
    rw [if_pos (by (lia))]
    refine wpAny_bind (wpAny_rule ?_)
    refine wpAny_bind (kc _ s a _ _ ha ?_)
    have hr : (s.heap.push (fsObj Dc)).get? s.heap.objs.size = some (fsObj Dc) := Heap.get?_push_size _ rfl
    have hb' : (s.heap.push (fsObj Dc)).get? b = some (fsObj D₂) := Heap.get?_push_of_some _ hb
    have hnb : s.heap.objs.size ≠ b := fun e => by have := Heap.lt_size hb; rw [← e] at this; exact Nat.lt_irrefl _ this
    refine wpAny_bind (wpAny_pure ?_)
    refine wpAny_bind (wpAny_holding ?_)
    refine k "frozenset.__sub__" _ _ _ _ _ _ hnb hr hb' ?_
    refine wpAny_pure ?_
    show wpAny _ _ (ret _) _ _ _
    refine wpAny_pure ⟨rfl, ?_⟩
    dsimp only
    rw [push_upd]

theorem sets_do (prog : Program) (w : World) : SetsDo prog w := ⟨add_ex, or_ex, sub_ex⟩
end H
end Mine

end
section
open PySem PySem.W PySem.Calls PyProof.Rows
set_option Elab.async false
set_option maxRecDepth 100000
namespace Mine
namespace H

theorem run_last {M : Model} {o : Outcome} {s' : Shared} : ∀ (n : Nat) (s : Shared) (t : Thread), M.runN n s t = .halted o s' →
    ∃ k s₁ t₁, M.runN k s t = .running s₁ t₁ ∧ M.step s₁ t₁ = .halt o s'
  | 0, _, _, h => by cases h
  | n + 1, s, t, h => by
    cases hs : M.step s t with
    | go s₁ t₁ =>
      have e : ∀ m, M.runN (m + 1) s t = M.runN m s₁ t₁ := fun m => by
        show (match M.step s t with
          | .go s' t' => M.runN m s' t'
          | .halt o s' => .halted o s') = _
        rw [hs]
      rw [e n] at h
      obtain ⟨k, s₂, t₂, h1, h2⟩ := run_last n s₁ t₁ h
      exact ⟨k + 1, s₂, t₂, (e k).trans h1, h2⟩
    | halt o₁ s₁ =>
      have e : M.runN (n + 1) s t = .halted o₁ s₁ := by
        show (match M.step s t with
          | .go s' t' => M.runN n s' t'
          | .halt o s' => .halted o s') = _
        rw [hs]
      rw [e] at h
      cases h
      exact ⟨0, s, t, rfl, hs⟩
theorem through_of {M : Model} {f : Flow} {s s' : Shared} {t : Thread} (h : M.step s t = .halt (.done f) s') : s = s' ∧ t.cur = .pure (.done f) ∧ t.stack = [] := by
  obtain ⟨cur, code, pos, st⟩ := t
  have h1 : M.runN 1 s ⟨cur, code, pos, st⟩ = .halted (outcomeOf (.ok f)) s' := by
    show (match M.step s ⟨cur, code, pos, st⟩ with
      | .go s' t' => M.runN 0 s' t'
      | .halt o s' => .halted o s') = _
    rw [h]; rfl
  obtain ⟨R, _⟩ := halted_reach 1 s cur code pos st h1
  cases R with
  | exit hx => exact ⟨rfl, hx.1, hx.2⟩
  | step hs _ =>
    rw [List.append_nil, h] at hs
    cases hs

theorem ran_through {p : Program} {w : World} {s s' : Shared} {t : Sem Fin} {c : Code} {f : Flow} (hz : s.asleep) (hn : s'.NoSusp) (h : Runs (model p w) ⟨c, none, none, [], none⟩ default t [] s (.ret (.ok f)) s') :
    ∃ n t', schedN (denote table) p w n (.single s ⟨t, c, default, []⟩) = .running (.single s' t') ∧ through t' = true := by
  obtain ⟨n, h1⟩ := halts_iff.mpr ⟨h, hn.noCleanup⟩
  obtain ⟨s'', hr, hf, hc⟩ := runNI_real _ _ _ h1 (outcomeOf_ends _)
  have hne : ∀ k s₂, PySem.runN (denote table) p w k s ⟨t, c, default, []⟩ ≠ .halted (.unsupported "lifetime:generator-with-cleanup-left-suspended") s₂ := by
    intro k s₂ hk
    have a := runN_mono (denote table) p w n k _ _ _ _ hr
    have b := runN_mono (denote table) p w k n _ _ _ _ hk
    rw [Nat.add_comm, b] at a
    cases a
  obtain ⟨k, s₁, t₁, h2, h3⟩ := run_last n _ _ h1
  obtain ⟨e, h4, h5⟩ := through_of h3
  subst e
  obtain ⟨σ, tau, h6, h7, h8⟩ := runNI_running_real h2
  have e2 : σ = s₁ := Shared.eq_of_forget_eq' h7 hn
  subst e2
  refine ⟨k, tau, (schedN_eq_runN (denote table) p w s _ hz ⟨hc, hne⟩ k).trans (congrArg Run.lift h6), ?_⟩
  obtain ⟨cur, code, pos, st⟩ := tau
  obtain ⟨cur1, code1, pos1, st1⟩ := t₁
  dsimp only at h4 h5
  subst h4 h5
  have a1 : cur = .pure (.done f) := congrArg Thread.cur h8
  have a2 := congrArg Thread.stack h8
  cases st with
  | nil => subst a1; rfl
  | cons x r => cases a2

structure Behind (p q : Program) (loose : List Str) (YP : World → Heap → Prop) (w : World) : Prop where
  after : ∃ s, AfterRun (opening p) w s
  top : ∀ s, AfterRun (opening p) w s → ∃ s₀, fenceModules? p s = some s₀ ∧ s₀.gens = #[] ∧ ∃ s₁, TopRan p w s₀ s₁ ∧ s₁.asleep ∧ leftWithCleanup s₁.gens = false ∧ s₁.heap.isNs mainGlobals = true ∧
    Ground q loose [] (fun _ _ => True) w s₁ (s₁.heap.nsMap mainGlobals) (s₁.heap.nsMap builtinsNs) s₁.heap ∧ YP w s₁.heap

noncomputable def GoodN (c : ClaimW) (cl : Str → Option Addr) (mean : ExcName → Option Value) (args : List WData) (s₁ : Shared) (r : Result) (s' : Shared) : Prop := GoodWG c cl mean args s₁ r s' ∧ s'.gens = #[]

theorem good_ends {c : ClaimW} {s₀ s₁ s' : Shared} {args : List WData} {vs : List Value} {as : List Addr} {r : Result} (hsame : c.same = none) (hwi : c.within = []) (hi : ∀ a b, c.ident a b = true)
    (hrd : ReadsAllW c.records (classAt s₀.heap) s₁.heap vs args as) (hold : ∀ a ∈ as, ∃ o, s₁.heap.get? a = some o) (hos : s₁.os = s₀.os)
    (g : GoodN c (classAt s₀.heap) (ExcName.means s₀.heap) args { s₁ with gens := #[] } r s') : c.Ends s₀ args vs s₁ r s' ∧ s'.os = s₀.os ∧ s'.gens = #[] := by
  obtain ⟨⟨hcase, hK, ho, _⟩, hg⟩ := g
  have hK : OldK s₁.heap s'.heap := hK
  refine ⟨?_, ho.trans hos, hg⟩
  rcases hcase with ⟨v, d, bs, rfl, hnr, hrv, hpost, hun⟩ | ⟨e, ob, cls, rfl, he, hcls, hpr, hnew⟩
  · refine .inl ⟨v, rfl, hnr, ⟨d, args, bs, as, hrv, hrd.keepsK fun b o e hc => hK.get_of_cls e hc, hpost, fun hu => ⟨(hun hu).1, (hun hu).2, fun a ha hb => ?_⟩, fun _ _ => hi _ _⟩, fun i q => ?_, fun b o e _ _ => hK.old b o e, fun i q => ?_⟩
    · obtain ⟨o, e⟩ := hold a hb
      have : s₁.heap.get? a = none := (hun hu).2 a ha
      rw [this] at e; cases e
    · rw [hsame] at q; cases q
    · rw [hwi] at q; cases q
  · exact .inr ⟨e, ob, cls, rfl, he, hcls, hpr, hnew, fun b o e => hK.old b o e⟩

noncomputable abbrev WalkOwn (l : OpenLaw) (q : Program) (loose : List Str) (YP : World → Heap → Prop) (d : DefRec) (kwd : List (Str × Expr)) : Prop :=
  ∀ (w : World) (s₀ s₁ : Shared) (mg mb : Str → Option Value), Ground q loose [] (fun _ _ => True) w s₀ mg mb s₁.heap → YP w s₁.heap → ∀ (fa : Addr) (o : Obj) (pm cd doc dV kV : Value), s₁.heap.get? fa = some o →
    o.data = .func { docDef d.name d.params d.body d.scope pm cd doc with defaults := dV, kwdefaults := kV } → s₁.heap.CodeRec cd d.name → Dflts mg s₁.heap d.params kwd dV kV → mg d.name = some (.ref fa) → s₁.gens = #[] →
    ∀ (args : List WData) (vals : List Value) (as : List Addr), l.row.toRowW.claim.pre args = true → WData.layableAll args = true → ReadsAllW [] (classAt s₀.heap) s₁.heap vals args as → WellAll w.params s₁.heap vals args → (∀ a ∈ as, (a == sysModules) = false) →
      codeAny (model l.prog w) callerA (.call (.ref fa) ⟨vals, []⟩) (GoodN l.row.toRowW.claim (classAt s₀.heap) (ExcName.means s₀.heap) args s₁) s₁

theorem own_holds {l : OpenLaw} {q : Program} {loose : List Str} {YP : World → Heap → Prop} {d : DefRec} {kwd : List (Str × Expr)} (said : l.row.wellSaid = true) (behind : ∀ w, Behind l.prog q loose YP w)
    (hYk : ∀ w h h', YP w h → (∀ b o, h.get? b = some o → h'.get? b = some o) → YP w h') (hdef : defOf q l.name = some (d, kwd)) (hp : l.prog.theDef l.name = some (d.params, d.body, d.scope)) (hk : kwWritten? d.params.kwonlyargs d.params.kw_defaults = some kwd)
    (o1 : opensWell l.prog = true) (hb : l.prog.bare) (hw : l.row.toRowW.promised) (hwr : l.writes = false) (hfr : frees l.row.toRowW = true) (call : WalkOwn l q loose YP d kwd) : l.row.Holds := by
  obtain ⟨hsame, hu, ha, hap, hm⟩ := frees_parts hfr
  refine ⟨said, hw, ⟨hb, o1, rfl⟩, hw.witness, fun w => ⟨(behind w).after, fun s' hs' => ?_⟩⟩
  obtain ⟨s₀, hf, hg0, s, hT, hz, hgens, hg, G, y⟩ := (behind w).top s' hs'
  refine ⟨s₀, hf, hg0, s, hT, fun n hn => ?_, fun x hx => (nomatch hx), fun x hx => (nomatch hx), ?_⟩
  · have hn : n ∈ [l.name] := hn
    rw [List.mem_singleton] at hn
    subst hn
    exact pinned_of_view hg G hdef hp hk
  · refine ClaimW.callFrom_of_specN (c := l.row.toRowW.claim) hz hgens fun args hpre hlay ord hord => ?_
    obtain ⟨⟨vs, s₁⟩, hlaid⟩ := Option.isSome_iff_exists.mp (layAllW_isSome (P := w.params) (ord := ord) G.has args l.row.toRowW.args s (pre_splitW hpre).1)
    have keeps := layAllW_keeps _ _ _ hlaid
    have hal := layAllW_rest _ _ _ hlaid
    obtain ⟨as, hrd, hin, hold⟩ := reads_layAllW hord _ _ _ hlaid hlay s₁.heap (fun _ _ e => e)
    have G₁ := G.keeps (fun _ _ _ _ _ => trivial) keeps
    obtain ⟨fa, o, pm, cd, doc, dV, kV, h1, h2, h3, h4, h5⟩ := G₁.fn hdef
    have hnm := defOf_name hdef
    have key := call w s { s₁ with gens := #[] } _ _ G₁ (hYk _ _ _ y keeps) fa o pm cd doc dV kV h2 h3 h4 h5 (hnm ▸ h1) rfl args vs as hpre hlay hrd (well_layAllW hord args s _ hlaid _ fun _ _ e => e)
      (fun a ha => beq_eq_false_iff_ne.mpr fun e => by have := (hin.2.2 a ha).1; subst e; exact absurd G.low (Nat.not_lt.mpr this))
    have fin : ∀ r s', GoodN l.row.toRowW.claim (classAt s.heap) (ExcName.means s.heap) args { s₁ with gens := #[] } r s' → l.row.toRowW.claim.Ends s args vs s₁ r s' ∧ s'.os = s.os ∧ s'.gens = #[] := fun r s' g =>
      good_ends hsame rfl (ident_freeW hu ha hap) hrd hold hal.2.2.1 g
    refine ⟨vs, s₁, hlaid, ?_⟩
    have hcall : wpAny (model l.prog w) callerA (PySem.call (.ref fa) vs) (fun v s' => l.row.toRowW.claim.Ends s args vs s₁ (.ok (.ret v)) s' ∧ s'.os = s.os ∧ s'.gens = #[]) (fun e s' => l.row.toRowW.claim.Ends s args vs s₁ (.error e) s' ∧ s'.os = s.os ∧ s'.gens = #[]) { s₁ with gens := #[] } := by
      refine wpAny_call (codeAny_mono key fun r s' g => ?_)
      have e := fin r s' g
      rcases g.1.1 with ⟨v, _, _, rfl, _⟩ | ⟨x, _, _, rfl, _⟩ <;> exact e
    have tree : wpAny (model l.prog w) callerA (do match ← nsGet mainNs l.name with
      | some f => do ret (← PySem.call f vs)
      | none => unsupported "claim.caller:no-such-global") (fun fin s' => ∃ f, fin = .done f ∧ (l.row.toRowW.claim.Ends s args vs s₁ (.ok f) s' ∧ s'.os = s.os ∧ s'.gens = #[] ∧ (l.row.writes = true → False)))
        (fun e s' => l.row.toRowW.claim.Ends s args vs s₁ (.error e) s' ∧ s'.os = s.os ∧ s'.gens = #[] ∧ (l.row.writes = true → False)) { s₁ with gens := #[] } := by
      have hwf : l.row.writes = true → False := fun h => by rw [show l.row.writes = l.writes from rfl, hwr] at h; cases h
      refine wpAny_bind (wpAny_nsGet G₁.T.g ?_)
      rw [h1]
      exact wpAny_bind (wpAny_mono hcall (fun v s' z => wpAny_pure ⟨_, rfl, z.1, z.2.1, z.2.2, hwf⟩) fun e s' z => ⟨z.1, z.2.1, z.2.2, hwf⟩)
    exact wpAny_mono tree (fun fin s' ⟨f, e, a, b, c, k⟩ => ⟨f, e, a, b, c, fun h => (k h).elim⟩) fun e s' ⟨a, b, c, k⟩ => ⟨a, b, c, fun h => (k h).elim⟩
end H
end Mine

end
section
open PySem PySem.W PySem.Calls PyProof.Rows
set_option Elab.async false
set_option maxRecDepth 100000
namespace Mine
namespace H
noncomputable section

noncomputable def t0 (P : Params) : BT := (.node (boot_o_0 P) (.node (boot_o_1 P) (.node (boot_o_3 P) (.node (boot_o_7 P) .nil .nil) .nil) (.node (boot_o_5 P) (.node (boot_o_9 P) .nil .nil) .nil)) (.node (boot_o_2 P) (.node (boot_o_4 P) (.node (boot_o_8 P) .nil .nil) .nil) (.node (boot_o_6 P) (.node (boot_o_10 P) .nil .nil) .nil)))
noncomputable def es0 (P : Params) : ES := ⟨t0 P, 11, [], boot_drawn, boot_toks, []⟩
noncomputable def Γ0 : Ctx := ⟨.builtin "claim.caller" {}, none, none, [], none⟩

noncomputable def wf (w : World) (b c : Bool) : World := { w with params := { w.params with followText := fun x => match PySem.W.S.eqLit (PySem.code "special-get-raises") x with
  | true => b
  | false => match PySem.W.S.eqLit (PySem.code "comprehension-iter-twice") x with
    | true => c
    | false => w.params.followText x } }
theorem wf_self (w : World) : wf w (w.params.followText "special-get-raises") (w.params.followText "comprehension-iter-twice") = w := by
  unfold wf
  have : (fun x => match PySem.W.S.eqLit (PySem.code "special-get-raises") x with
    | true => w.params.followText "special-get-raises"
    | false => match PySem.W.S.eqLit (PySem.code "comprehension-iter-twice") x with
      | true => w.params.followText "comprehension-iter-twice"
      | false => w.params.followText x) = w.params.followText := by
    funext x
    cases h1 : PySem.W.S.eqLit (PySem.code "special-get-raises") x with
    | true => rw [eqLit_of h1]
    | false =>
      dsimp only
      cases h2 : PySem.W.S.eqLit (PySem.code "comprehension-iter-twice") x with
      | true => rw [eqLit_of h2]
      | false => rfl
  rw [this]

noncomputable def isDone : End → Bool
  | .ret (.ok (.ret .none)) => true
  | _ => false
noncomputable def olds : List Nat := [0, 1, 2, 4, 5, 6, 7, 8, 9, 10]
noncomputable def allDone : List GenState → Bool := List.rec true fun g _ ih => match g with
  | .finished => ih
  | _ => false

inductive Seen where
  | fn (q : Str) (params : Arguments) (body : FuncBody) (scope : Scope) (glob : Addr) (clo : List (Str × Addr)) (dflt kw code : Value) (blt : Addr)
  | code (q : Str) (P : Addr)
  | tab
  | cls (mro : List Value) (ns : Addr) (newId : String)
  | other
noncomputable def vStr : Value → Option Str
  | .str q _ => some q
  | _ => none
noncomputable def vRef : Value → Option Addr
  | .ref P => some P
  | _ => none
noncomputable def vInt : Value → Bool
  | .int _ _ => true
  | _ => false
noncomputable def vBool : Value → Bool
  | .bool _ => true
  | _ => false
noncomputable def vTyp : Value → Option String
  | .type c => some c
  | _ => none
noncomputable def vNon : Value → Bool
  | .none => true
  | _ => false
noncomputable def vBlt : Option Value → Option String
  | some (.builtin x) => some x
  | _ => none
noncomputable def dFn : Data → Option FuncData
  | .func f => some f
  | _ => none
noncomputable def dFl : Data → Option (List Value)
  | .fields vs => some vs.toList
  | _ => none
noncomputable def dCl : Data → Option ClassData
  | .cls c => some c
  | _ => none
noncomputable def seeCode (l : List Value) : Seen := (vStr (l.getD 1 .none)).elim .other fun q => (vRef (l.getD 11 .none)).elim .other fun P =>
  cond (vInt (l.getD 7 .none) && (vBool (l.getD 9 .none) && (vInt (l.getD 10 .none) && (vStr (l.getD 18 .none)).isSome))) (.code q P) .other
noncomputable def seeCls (cd : ClassData) (sl : List (Option Value)) : Seen := cond (Nat.beq sl.length 6 && !cd.hasDel) ((vBlt (sl.getD 4 none)).elim .other fun nw => .cls cd.mro cd.ns nw) .other
noncomputable abbrev seeFn (f : FuncData) : Seen := .fn f.qualname f.params f.body f.scope f.globals f.closure f.defaults f.kwdefaults f.code f.builtins
noncomputable def seeD (c : String) (d : Data) (sl : List (Option Value)) : Seen :=
  (dFn d).elim ((dFl d).elim ((dCl d).elim .other fun cd => cond (PySem.W.S.eqLit (PySem.code "type") c) (seeCls cd sl) .other) fun l => cond (PySem.W.S.eqLit (PySem.code "code") c) (seeCode l) .other)
    fun f => cond (PySem.W.S.eqLit (PySem.code "function") c) (seeFn f) .other
noncomputable def isTab (o : Obj) : Bool := (dFl o.data).elim false List.isEmpty && (vNon o.cls && (o.dict.isNone && o.slots.toList.isEmpty))
noncomputable def see : Option Obj → Seen
  | some o => (vTyp o.cls).elim (cond (isTab o) .tab .other) fun c => seeD c o.data o.slots.toList
  | none => .other
theorem elim_inv {α : Type} {o : Option α} {f : α → Seen} {v : Seen} (h : o.elim .other f = v) (hv : v ≠ .other) : ∃ a, o = some a ∧ f a = v := by
  cases o with
  | none => exact absurd h.symm hv
  | some a => exact ⟨a, rfl, h⟩
theorem cond_inv {b : Bool} {x v : Seen} (h : cond b x .other = v) (hv : v ≠ .other) : b = true ∧ x = v := by
  cases b with
  | false => exact absurd h.symm hv
  | true => exact ⟨rfl, h⟩
theorem vTyp_some {v : Value} {c : String} (h : vTyp v = some c) : v = .type c := by
  cases v <;> first | exact congrArg Value.type (Option.some.inj h) | exact nomatch h
theorem see_inv {o : Obj} {v : Seen} (h : see (some o) = v) (hv : v ≠ .other) : (∃ c, o.cls = .type c ∧ seeD c o.data o.slots.toList = v) ∨ (isTab o = true ∧ Seen.tab = v) := by
  have h : (vTyp o.cls).elim (cond (isTab o) .tab .other) (fun c => seeD c o.data o.slots.toList) = v := h
  cases q : vTyp o.cls with
  | none => rw [q] at h; exact .inr (cond_inv h hv)
  | some c => rw [q] at h; exact .inl ⟨c, vTyp_some q, h⟩
theorem seeD_inv {c : String} {d : Data} {sl : List (Option Value)} {v : Seen} (h : seeD c d sl = v) (hv : v ≠ .other) :
    (∃ f, d = .func f ∧ seeFn f = v) ∨ (∃ vs, d = .fields vs ∧ PySem.W.S.eqLit (PySem.code "code") c = true ∧ seeCode vs.toList = v) ∨ ∃ cd, d = .cls cd ∧ PySem.W.S.eqLit (PySem.code "type") c = true ∧ seeCls cd sl = v := by
  cases d
  case func f => exact .inl ⟨f, rfl, (cond_inv h hv).2⟩
  case fields vs => exact .inr (.inl ⟨vs, rfl, cond_inv h hv⟩)
  case cls cd => exact .inr (.inr ⟨cd, rfl, cond_inv h hv⟩)
  all_goals exact absurd h.symm hv

noncomputable def looked (p q : Program) (loose : List Str) (life : Life) (os : OsState) (P : Params) (as : List Addr) (names : List (Addr × Str)) (marks : List Addr) (x : End × ES) :=
  ((isDone x.1 && (Nat.ble 11 x.2.n && (as.all fun a => Nat.blt a x.2.n)) && (staticsOk (importedModules p.main.body) (boot_heap P) (x.2.abs life os).heap && (namesBound p (x.2.abs life os).heap && (allDone x.2.gens && laidKept (boot_heap P) (x.2.abs life os).heap)))),
   PySem.W.Fast.tw4187177175401517315 q loose (importedModules p.main.body) (fun _ => true) false (x.2.abs life os),
   olds.map fun b => x.2.T.get b,
   as.map fun a => see (x.2.T.get a),
   names.map fun n => ((x.2.abs life os).heap.isNs n.1, (x.2.abs life os).heap.nsMap n.1 n.2),
   marks.map fun a => (find x.2.sets a).map SD.mem)
noncomputable def sought (q : Program) (loose : List Str) (P : Params) (vs : List Seen) (vals : List (Option Value)) (mems : List (Option (List (List Nat)))) :=
  (true, openGood q loose, olds.map fun b => (t0 P).get b, vs, vals.map fun v => (true, v), mems)

structure Told (prog : Program) (as : List Addr) (vs : List Seen) (names : List (Addr × Str)) (vals : List (Option Value)) (marks : List Addr) (mems : List (Option (List (List Nat)))) (w : World) (h : Heap) : Prop where
  objs : ∀ (i : Nat) (a : Addr) (v : Seen), as[i]? = some a → vs[i]? = some v → v ≠ .other → ∃ o, h.get? a = some o ∧ see (some o) = v
  names : ∀ (i : Nat) (n : Addr × Str) (v : Option Value), names[i]? = some n → vals[i]? = some v → ∃ m, h.Ns n.1 m ∧ m n.2 = v
  sets : ∀ (i : Nat) (a : Addr) (ss : List (List Nat)), marks[i]? = some a → mems[i]? = some (some ss) → ∃ D, h.get? a = some (fsObj D) ∧ WF w D ss
theorem Told.keeps {prog : Program} {as : List Addr} {vs : List Seen} {names : List (Addr × Str)} {vals : List (Option Value)} {marks : List Addr} {mems : List (Option (List (List Nat)))} {w : World} {h h' : Heap} (x : Told prog as vs names vals marks mems w h)
    (k : ∀ b o, h.get? b = some o → h'.get? b = some o) : Told prog as vs names vals marks mems w h' where
  objs := fun i a v h1 h2 h3 => let ⟨o, a, b⟩ := x.objs i a v h1 h2 h3; ⟨o, k _ _ a, b⟩
  names := fun i n v h1 h2 => let ⟨m, a, b⟩ := x.names i n v h1 h2; ⟨m, a.keeps k, b⟩
  sets := fun i a ss h1 h2 => let ⟨D, a, b⟩ := x.sets i a ss h1 h2; ⟨D, k _ _ a, b⟩
theorem see_alive {o : Obj} {v : Seen} (h : see (some o) = v) (hv : v ≠ .other) : alive o = some o := by
  obtain ⟨c, d, dt, sl⟩ := o
  cases dt
  case freed =>
    rcases see_inv h hv with ⟨c', _, e⟩ | ⟨e, _⟩
    · exact absurd e.symm hv
    · exact absurd e Bool.false_ne_true
  all_goals rfl

theorem behind_of {p q : Program} {loose : List Str} {N : Nat} {as : List Addr} {vs : List Seen} {names : List (Addr × Str)} {vals : List (Option Value)} {marks : List Addr} {mems : List (Option (List (List Nat)))}
    (e : opening p = plainProg p.main.scope.names) (f : ∀ s, fenceModules? p s = some s) (hch : chainsOk q = true)
    (ev : ∀ (rd : SD → SDat) (pf : Ctx → Addr → Value → Pos → ES → ES → Pos) (b c : Bool) (w : World) (os : OsState),
      (evR rd pf p (wf w b c) N Γ0 default (topStub p).cur [] (es0 (wf w b c).params)).map (looked p q loose (boot_heap (wf w b c).params).life os (wf w b c).params as names marks) =
        some (sought q loose (wf w b c).params vs vals mems)) (w : World) : Behind p q loose (Told p as vs names vals marks mems) w := by
  obtain ⟨s₀, hs, hv⟩ := Option.map_eq_some_iff.mp (boot_open (p := p) (N := 600) e rfl f w)
  obtain ⟨s, h4, h5⟩ := Option.bind_eq_some_iff.mp hs
  rw [← table_eq_tree] at h4
  have A := AfterImport.of_importEnds h4
  refine ⟨⟨s, A⟩, fun s' hs' => ?_⟩
  obtain rfl : s' = s := AfterImport.unique hs' A
  have z : s₀.asleep := Shared.asleep_of_life (fence_lifeW h5) A.life
  obtain ⟨heap, gens, drawn, toks, os⟩ := s₀
  obtain ⟨rfl, rfl, rfl, rfl⟩ : heap = boot_heap w.params ∧ gens = Array.mk [] ∧ drawn = boot_drawn ∧ toks = boot_toks := by simpa using hv
  have ev' := ev (realD p w) (posF p w (boot_heap w.params).life os) (w.params.followText "special-get-raises") (w.params.followText "comprehension-iter-twice") w os
  rw [wf_self] at ev'
  obtain ⟨⟨r, st⟩, h6, h7⟩ := Option.map_eq_some_iff.mp ev'
  have e0 : (es0 w.params).abs (boot_heap w.params).life os = ⟨boot_heap w.params, Array.mk [], boot_drawn, boot_toks, os⟩ := rfl
  have I0 : SI p w (es0 w.params) := fun a d h => by cases h
  obtain ⟨I, R⟩ := evR_sound (life := (boot_heap w.params).life) (os := os) (sets_do p w) N _ _ _ _ _ _ _ I0 h6
  rw [e0] at R
  have l1 := congrArg Prod.fst h7
  have l2 := congrArg (fun x => x.2.1) h7
  have l3 := congrArg (fun x => x.2.2.1) h7
  have l4 := congrArg (fun x => x.2.2.2.1) h7
  have l5 := congrArg (fun x => x.2.2.2.2.1) h7
  have l6 := congrArg (fun x => x.2.2.2.2.2) h7
  dsimp only [looked, sought] at l1 l2 l3 l4 l5 l6
  simp only [Bool.and_eq_true] at l1
  obtain ⟨⟨d1, d2, d3⟩, d4, d5, d6, d7⟩ := l1
  have hr : r = .ret (.ok (.ret .none)) := by
    revert d1
    unfold isDone
    split
    · intro _; rfl
    · intro h; cases h
  subst hr
  have hfin : ∀ l : List GenState, allDone l = true → ∀ g ∈ l, g = .finished := fun l => by
    induction l with
    | nil => intro _ g hg; cases hg
    | cons x l ih =>
      intro h g hg
      cases x with
      | finished =>
        rcases List.mem_cons.mp hg with rfl | hg
        · rfl
        · exact ih h g hg
      | _ => cases h
  have hgens : ∀ g ∈ (st.abs (boot_heap w.params).life os).gens, g = .finished := fun g hg => hfin _ d6 g (Array.mem_toList_iff.mpr hg)
  have hns : (st.abs (boot_heap w.params).life os).NoSusp := fun g hg => by rw [hgens g hg]; rfl
  obtain ⟨n, t', t1, t2⟩ := ran_through z hns R
  rw [← PySem.W.Fast.te4187177175401517315] at l2
  obtain ⟨G, g0, g1, g2, g3, g4, g5⟩ := ground_of_open (w := w) (XP := fun _ _ => True) (fun _ _ => trivial) hch l2
  have hn11 : 11 ≤ st.n := Nat.le_of_ble_eq_true d2
  have same : ∀ b, b < 11 → st.T.get b = (t0 w.params).get b → (absHeap st.T st.n (boot_heap w.params).life).get? b = (boot_heap w.params).get? b := fun b hb h => by
    have e1 : boot_heap w.params = absHeap (t0 w.params) 11 (boot_heap w.params).life := rfl
    rw [e1]
    show Heap.get? _ b = Heap.get? _ b
    unfold Heap.get?
    rw [absHeap_at, absHeap_at, if_pos hb, if_pos (by (exact lin2 hb hn11 (by simp +arith only))), h]
  refine ⟨_, h5, rfl, st.abs (boot_heap w.params).life os, ⟨⟨n, t', t1, t2⟩, rfl, Shared.rest_eq rfl, fun b o hb hn => ?_, g2, statics_of_ok d4, g3, g4, g5, fun g hg => by rw [hgens g hg]; trivial, names_of_bound d5, laid_of_kept d7⟩,
    z, by simpa using g0, g1, G, ⟨fun i a v hi hm hv => ?_, fun i n v hi hm => ?_, fun i a ss hi hm => ?_⟩⟩
  · have hlt : b < 11 := Heap.lt_size hb
    have h3 : b ≠ 3 := fun q => hn (.inl q)
    have hm : b ∈ olds := by
      have : ∀ b, b < 11 → b ≠ 3 → b ∈ olds := by decide
      exact this b hlt h3
    have hall : ∀ l : List Nat, l.map (fun b => st.T.get b) = l.map (fun b => (t0 w.params).get b) → ∀ b ∈ l, st.T.get b = (t0 w.params).get b := fun l => by
      induction l with
      | nil => intro _ b hb; cases hb
      | cons x l ih =>
        intro h b hb
        rw [List.map_cons, List.map_cons, List.cons.injEq] at h
        rcases List.mem_cons.mp hb with rfl | hb
        · exact h.1
        · exact ih h.2 b hb
    exact (same b hlt (hall _ l3 b hm)).trans hb
  · have h9 : (as.map fun a => see (st.T.get a))[i]? = vs[i]? := by rw [l4]
    rw [List.getElem?_map, hi, hm] at h9
    simp only [Option.map_some, Option.some.injEq] at h9
    cases hg : st.T.get a with
    | none => rw [hg] at h9; exact absurd h9.symm hv
    | some o =>
      rw [hg] at h9
      exact ⟨o, (abs_get (lt_of_blt (List.all_eq_true.mp d3 a (List.mem_of_getElem? hi))) hg).trans (see_alive h9 hv), h9⟩
  · have h9 : (names.map fun n => ((st.abs (boot_heap w.params).life os).heap.isNs n.1, (st.abs (boot_heap w.params).life os).heap.nsMap n.1 n.2))[i]? = (vals.map fun v => (true, v))[i]? := by rw [l5]
    rw [List.getElem?_map, List.getElem?_map, hi, hm] at h9
    simp only [Option.map_some, Option.some.injEq, Prod.mk.injEq] at h9
    exact ⟨_, .of_isNs h9.1, h9.2⟩
  · have h9 : (marks.map fun a => (find st.sets a).map SD.mem)[i]? = mems[i]? := by rw [l6]
    rw [List.getElem?_map, hi, hm] at h9
    simp only [Option.map_some, Option.some.injEq] at h9
    obtain ⟨sd, q1, q2⟩ := Option.map_eq_some_iff.mp h9
    have A := I a sd q1
    exact ⟨_, A.get, q2 ▸ A.2.2.wf⟩
end
end H
end Mine

end
section
open PySem PySem.W PySem.Calls PyProof.Rows
set_option Elab.async false
set_option maxRecDepth 100000
namespace Mine
namespace H
noncomputable def fnWant (st : Option Stmt) (code : Addr) : Seen := match st with
  | some (.FunctionDef n a b _ _ _ sc _ _ _) => .fn n a (.stmts b) sc 3 [] .none .none (.ref code) 0
  | _ => .other
noncomputable def lastDef (p : Program) : Program := { p with main := { p.main with body := p.main.body.drop (p.main.body.length - 1) } }
noncomputable def chars (l : List Nat) : List (List Nat) := l.map fun c => [c]
end H
end Mine

end
section
open PySem PySem.W PySem.Calls PyProof.Rows PySem.Builtin PySem.Builtin.Str
set_option Elab.async false
set_option maxRecDepth 100000
namespace Mine
namespace H
noncomputable def kOf (h : Heap) (ks : List Addr) : Frag := ks.map fun a => (a, (h.get? a).getD default)
theorem kOf_get {h : Heap} {a : Addr} {o : Obj} : ∀ {ks : List Addr}, (kOf h ks).lookup a = some o → a ∈ ks ∧ o = (h.get? a).getD default
  | [], e => by cases e
  | b :: r, e => by
    change List.lookup a ((b, (h.get? b).getD default) :: kOf h r) = some o at e
    rw [List.lookup_cons] at e
    cases hb : a == b with
    | true => rw [hb] at e; cases e; have := eq_of_beq hb; subst this; exact ⟨.head _, rfl⟩
    | false => rw [hb] at e; have := kOf_get e; exact ⟨.tail _ this.1, this.2⟩
theorem kOf_look {h : Heap} {a : Addr} {o : Obj} (e : h.get? a = some o) : ∀ {ks : List Addr}, a ∈ ks → (kOf h ks).lookup a = some o
  | b :: r, hm => by
    show List.lookup a ((b, (h.get? b).getD default) :: kOf h r) = some o
    rw [List.lookup_cons]
    cases hb : a == b with
    | true => have := eq_of_beq hb; subst this; rw [e]; rfl
    | false =>
      rcases List.mem_cons.mp hm with rfl | hm
      · simp at hb
      · exact kOf_look e hm
noncomputable def Seen.firm : Seen → Bool
  | .fn .. | .code .. | .cls .. => true
  | _ => false
theorem see_firm {o : Obj} (h : (see (some o)).firm = true) : ∃ c, o.cls = .type c := by
  rcases see_inv rfl (fun q => by rw [q] at h; cases h) with ⟨c, e, _⟩ | ⟨_, e⟩
  · exact ⟨c, e⟩
  · rw [← e] at h; cases h
noncomputable def Firm (h : Heap) (ks : List Addr) : Prop := ∀ a ∈ ks, ∃ o, h.get? a = some o ∧ (see (some o)).firm = true
theorem kOf_in {h : Heap} {ks : List Addr} (hf : Firm h ks) : (kOf h ks).In h := fun a o e => by
  obtain ⟨h1, h2⟩ := kOf_get e
  obtain ⟨o', e', _⟩ := hf a h1
  rw [e'] at h2; rw [e', h2]; rfl
theorem kOf_noTabs {h : Heap} {ks : List Addr} (hf : Firm h ks) : noTabs (kOf h ks) = true := by
  unfold noTabs
  rw [List.all_eq_true]
  rintro ⟨a, o⟩ hm
  obtain ⟨b, hb, e⟩ := List.mem_map.mp hm
  cases e
  obtain ⟨o', e', hx⟩ := hf _ hb
  obtain ⟨c, hc⟩ := see_firm hx
  rw [e']
  show (match o'.cls, o'.data with | .none, .fields _ => false | _, _ => true) = true
  rw [hc]

theorem vStr_some {v : Value} {q : Str} (h : vStr v = some q) : ∃ t, v = .str q t := by
  cases v with
  | str x t => cases h; exact ⟨t, rfl⟩
  | _ => cases h
theorem vRef_some {v : Value} {P : Addr} (h : vRef v = some P) : v = .ref P := by
  cases v with
  | ref x => cases h; rfl
  | _ => cases h
theorem vInt_true {v : Value} (h : vInt v = true) : ∃ n t, v = .int n t := by
  cases v with
  | int n t => exact ⟨n, t, rfl⟩
  | _ => cases h
theorem vBool_true {v : Value} (h : vBool v = true) : ∃ b, v = .bool b := by
  cases v with
  | bool b => exact ⟨b, rfl⟩
  | _ => cases h
theorem vNon_true {v : Value} (h : vNon v = true) : v = .none := by
  cases v with
  | none => rfl
  | _ => cases h
theorem vBlt_some {v : Option Value} {x : String} (h : vBlt v = some x) : v = some (.builtin x) := by
  cases v with
  | none => cases h
  | some v => cases v with
    | builtin y => cases h; rfl
    | _ => cases h
structure CodeL (l : List Value) (q : Str) (P : Addr) : Prop where
  s1 : vStr (l.getD 1 .none) = some q
  s11 : vRef (l.getD 11 .none) = some P
  s7 : vInt (l.getD 7 .none) = true
  s9 : vBool (l.getD 9 .none) = true
  s10 : vInt (l.getD 10 .none) = true
  s18 : (vStr (l.getD 18 .none)).isSome = true
theorem seeCode_inv {l : List Value} {v : Seen} (h : seeCode l = v) (hv : v ≠ .other) : ∃ q P, .code q P = v ∧ CodeL l q P := by
  obtain ⟨q, e1, h⟩ := elim_inv h hv
  obtain ⟨P, e2, h⟩ := elim_inv h hv
  obtain ⟨b, h⟩ := cond_inv h hv
  have b1 := Bool.and_eq_true_iff.mp b
  have b2 := Bool.and_eq_true_iff.mp b1.2
  have b3 := Bool.and_eq_true_iff.mp b2.2
  exact ⟨q, P, h, e1, e2, b1.1, b2.1, b3.1, b3.2⟩
theorem seeCls_inv {cd : ClassData} {sl : List (Option Value)} {v : Seen} (h : seeCls cd sl = v) (hv : v ≠ .other) : ∃ nw, .cls cd.mro cd.ns nw = v ∧ (sl.length = 6 ∧ cd.hasDel = false) ∧ vBlt (sl.getD 4 none) = some nw := by
  obtain ⟨b, h⟩ := cond_inv h hv
  obtain ⟨nw, e, h⟩ := elim_inv h hv
  have b1 := Bool.and_eq_true_iff.mp b
  exact ⟨nw, h, ⟨Nat.eq_of_beq_eq_true b1.1, by simpa using b1.2⟩, e⟩
theorem see_fn {o : Obj} {q : Str} {params : Arguments} {body : FuncBody} {scope : Scope} {gl : Addr} {clo : List (Str × Addr)} {df kw code : Value} {bl : Addr} (h : see (some o) = .fn q params body scope gl clo df kw code bl) :
    ∃ f, o.data = .func f ∧ seeFn f = .fn q params body scope gl clo df kw code bl := by
  rcases see_inv h (fun q => nomatch q) with ⟨c, _, h⟩ | ⟨_, h⟩
  · rcases seeD_inv h (fun q => nomatch q) with z | ⟨vs, _, _, h⟩ | ⟨cd, _, _, h⟩
    · exact z
    · obtain ⟨_, _, e, _⟩ := seeCode_inv h (fun q => nomatch q); cases e
    · obtain ⟨_, e, _⟩ := seeCls_inv h (fun q => nomatch q); cases e
  · cases h
theorem see_code {o : Obj} {q : Str} {P : Addr} (h : see (some o) = .code q P) : o.cls = .type "code" ∧ ∃ vs, o.data = .fields vs ∧ CodeL vs.toList q P := by
  rcases see_inv h (fun q => nomatch q) with ⟨c, e1, h⟩ | ⟨_, h⟩
  · rcases seeD_inv h (fun q => nomatch q) with ⟨_, _, e⟩ | ⟨vs, e2, e3, h⟩ | ⟨cd, _, _, h⟩
    · cases e
    · obtain ⟨_, _, e, L⟩ := seeCode_inv h (fun q => nomatch q)
      cases e
      exact ⟨e1.trans (congrArg Value.type (eqLit_of e3)), vs, e2, L⟩
    · obtain ⟨_, e, _⟩ := seeCls_inv h (fun q => nomatch q); cases e
  · cases h
theorem see_cls {o : Obj} {mro : List Value} {N : Addr} {nw : String} (h : see (some o) = .cls mro N nw) :
    ∃ cd, o.cls = .type "type" ∧ o.data = .cls cd ∧ (cd.mro = mro ∧ cd.ns = N) ∧ (o.slots.toList.length = 6 ∧ cd.hasDel = false) ∧ vBlt (o.slots.toList.getD 4 none) = some nw := by
  rcases see_inv h (fun q => nomatch q) with ⟨c, e1, h⟩ | ⟨_, h⟩
  · rcases seeD_inv h (fun q => nomatch q) with ⟨_, _, e⟩ | ⟨vs, _, _, h⟩ | ⟨cd, e2, e3, h⟩
    · cases e
    · obtain ⟨_, _, e, _⟩ := seeCode_inv h (fun q => nomatch q); cases e
    · obtain ⟨_, e, L⟩ := seeCls_inv h (fun q => nomatch q)
      cases e
      exact ⟨cd, e1.trans (congrArg Value.type (eqLit_of e3)), e2, ⟨rfl, rfl⟩, L⟩
  · cases h
theorem see_tab {o : Obj} (h0 : see (some o) = .tab) : o = tabObj #[] := by
  rcases see_inv h0 (fun q => nomatch q) with ⟨c, e1, h⟩ | ⟨h, _⟩
  · rcases seeD_inv h (fun q => nomatch q) with ⟨_, _, e⟩ | ⟨vs, _, _, h⟩ | ⟨cd, e2, e3, h⟩
    · cases e
    · obtain ⟨_, _, e, _⟩ := seeCode_inv h (fun q => nomatch q); cases e
    · obtain ⟨_, e, L⟩ := seeCls_inv h (fun q => nomatch q); cases e
  · clear h0
    obtain ⟨c, d, dt, ⟨sl⟩⟩ := o
    have b1 := Bool.and_eq_true_iff.mp h
    have b2 := Bool.and_eq_true_iff.mp b1.2
    have b3 := Bool.and_eq_true_iff.mp b2.2
    obtain rfl := vNon_true b2.1
    obtain rfl : d = none := Option.isNone_iff_eq_none.mp b3.1
    obtain rfl : sl = [] := List.isEmpty_iff.mp b3.2
    have b4 : (dFl dt).elim false List.isEmpty = true := b1.1
    clear h b1 b2 b3
    cases dt
    case fields vs =>
      obtain ⟨l⟩ := vs
      obtain rfl : l = [] := List.isEmpty_iff.mp b4
      rfl
    all_goals exact nomatch b4
theorem list6 {α : Type} {l : List α} {d : α} (h : l.length = 6) : l = [l.getD 0 d, l.getD 1 d, l.getD 2 d, l.getD 3 d, l.getD 4 d, l.getD 5 d] :=
  match l, h with
  | [_, _, _, _, _, _], _ => rfl
theorem arr_getD {α : Type} (l : Array α) (i : Nat) (d : α) : l.getD i d = l.toList.getD i d := by
  rw [Array.getD_eq_getD_getElem?, List.getD_eq_getElem?_getD, Array.getElem?_toList]
theorem arr_at {l : Array Value} {i : Nat} {v : Value} (h : l.toList.getD i .none = v) (hv : v ≠ .none) : l[i]? = some v := by
  rw [List.getD_eq_getElem?_getD, Array.getElem?_toList] at h
  cases q : l[i]? with
  | none => rw [q] at h; exact absurd h.symm hv
  | some x => rw [q] at h; exact congrArg some h
theorem ns_same {h : Heap} {a : Addr} {m m' : Str → Option Value} (x : h.Ns a m) (y : h.Ns a m') (k : Str) : m k = m' k := by
  obtain ⟨o, es, ep, e, d, _, f⟩ := x
  obtain ⟨o', es', ep', e', d', _, f'⟩ := y
  rw [e] at e'; cases e'
  rw [d] at d'; cases d'
  rw [← f, f']
end H
open H

section
variable {C : Cx} {G : Fc} {ρ : Vars} {Q : D → Prop} {Z : Exn → Prop}
theorem Means.of_mg {x : PySem.Str} {v : Value} (e : C.mg x = some v) : Means C x v := fun _ => .inl e
theorem Means.of_none {x : PySem.Str} {v : Value} (e : C.mg x = none) (hv : bootBuiltins x = some v) (hn : x ≠ "__name__") : Means C x v := fun k => .inr ⟨e, (k.builtins x hn).trans hv⟩
theorem EvW.globS {x : PySem.Str} {pos : Pos} {a : Addr} {ss : List (List Nat)} (hx : G.env.kindOf x = some .globalImplicit) (hm : Means C x (.ref a)) (hs : SetRep C C.base a ss) (h : Q (.fset ss)) (hd : (x == ("__debug__" : PySem.Str)) = false := by decide) :
    EvW C G ρ (.Name x pos) Q Z := fun X s o => by
  refine loadGlob o hx hm (VP.of (Step.refl o.inv) ?_ h) hd
  obtain ⟨ob, e, r⟩ := hs
  exact Exists.intro a ⟨rfl, ob, o.inv.stays a ob e, r⟩
end

theorem codeIn_of {K : Frag} {c P : Addr} {oc : Obj} {vs : Array Value} {q : PySem.Str} (hl : K.lookup c = some oc) (c2 : oc.cls = .type "code") (c3 : oc.data = .fields vs) (L : CodeL vs.toList q P) : codeIn K (.ref c) q = true := by
  obtain ⟨t, c4⟩ := vStr_some L.s1
  obtain ⟨cc, cdd, cdt, csl⟩ := oc
  dsimp only at c2 c3; subst c2 c3
  unfold codeIn
  dsimp only
  rw [hl]
  obtain ⟨l⟩ := vs
  have c5 : l.getD 1 .none = _ := c4
  match l, c5 with
  | _ :: v :: _, c5 => have c5 : v = _ := c5; subst c5; simp
theorem fnAt_of {C : Cx} {h : Heap} {ks : List Addr} {a c P : Addr} {q : PySem.Str} {params : Arguments} {body : List Stmt} {scope : Scope} {o oc : Obj} (hK : C.K = kOf h ks) (ha : a ∈ ks) (hc : c ∈ ks) (ho : h.get? a = some o) (hoc : h.get? c = some oc)
    (hs : see (some o) = .fn q params (.stmts body) scope 3 [] .none .none (.ref c) 0) (hsc : see (some oc) = .code q P)
    (hsp : scope.kind = .function ∧ scope.isCoroutine = false ∧ scope.isGenerator = false) :
    ∃ fd, FnAt C a fd body ∧ fd.params = params ∧ fd.scope = scope ∧ fd.code = .ref c ∧ fd.qualname = q ∧ fd.defaults = .none ∧ fd.kwdefaults = .none := by
  obtain ⟨f, h1, hf⟩ := see_fn hs
  obtain ⟨c2, vs, c3, L⟩ := see_code hsc
  obtain ⟨e1, e2, e3, e4, e5, e6, e7, e8, e9, e10⟩ := Seen.fn.inj hf
  refine ⟨f, ⟨⟨o.cls, o.dict, o.slots, ?_⟩, ?_, e3, e6, e5, e10, e4 ▸ hsp.1, e4 ▸ hsp.2.1, e4 ▸ hsp.2.2⟩, e2, e4, e9, e1, e7, e8⟩
  · rw [hK, kOf_look ho ha, ← h1]
  · rw [hK, e9, e1]
    exact codeIn_of (kOf_look hoc hc) c2 c3 L
theorem fnIs_of {C : Cx} {h : Heap} {ks : List Addr} {a c P : Addr} {q : PySem.Str} {params : Arguments} {body : List Stmt} {scope : Scope} {o oc : Obj} {xs : List PySem.Str} (hK : C.K = kOf h ks) (ha : a ∈ ks) (hc : c ∈ ks) (ho : h.get? a = some o) (hoc : h.get? c = some oc)
    (hs : see (some o) = .fn q params (.stmts body) scope 3 [] .none .none (.ref c) 0) (hsc : see (some oc) = .code q P) (hsp : scope.kind = .function ∧ scope.isCoroutine = false ∧ scope.isGenerator = false)
    (hb : ∀ (fd : FuncData) (vs : List Value), fd.params = params → fd.defaults = .none → fd.kwdefaults = .none → vs.length = xs.length → bindArgs fd ⟨vs, []⟩ = pure (xs.zip vs)) : FnIs C a body scope (.ref c) q xs := by
  obtain ⟨fd, h1, h2, h3, h4, h5, h6, h7⟩ := fnAt_of hK ha hc ho hoc hs hsc hsp
  exact ⟨fd, h1, h3, h4, h5, fun vs hv => hb fd vs h2 h6 h7 hv⟩
theorem fnKw_of {C : Cx} {h : Heap} {ks : List Addr} {a c P : Addr} {q : PySem.Str} {params : Arguments} {body : List Stmt} {scope : Scope} {o oc : Obj} {xs kws : List PySem.Str} {n : Nat} (hK : C.K = kOf h ks) (ha : a ∈ ks) (hc : c ∈ ks) (ho : h.get? a = some o) (hoc : h.get? c = some oc)
    (hs : see (some o) = .fn q params (.stmts body) scope 3 [] .none .none (.ref c) 0) (hsc : see (some oc) = .code q P) (hsp : scope.kind = .function ∧ scope.isCoroutine = false ∧ scope.isGenerator = false)
    (hb : ∀ (fd : FuncData) (vs : List Value), fd.params = params → fd.defaults = .none → fd.kwdefaults = .none → vs.length = xs.length → bindArgs fd ⟨vs.take n, kws.zip (vs.drop n)⟩ = pure (xs.zip vs)) : FnKw C a body scope (.ref c) q xs n kws := by
  obtain ⟨fd, h1, h2, h3, h4, h5, h6, h7⟩ := fnAt_of hK ha hc ho hoc hs hsc hsp
  exact ⟨fd, h1, h3, h4, h5, fun vs hv => hb fd vs h2 h6 h7 hv⟩
theorem codeHd_of {h : Heap} {c P : Addr} {o : Obj} {q : PySem.Str} (ho : h.get? c = some o) (hs : see (some o) = .code q P) (hne : c ≠ P) : CodeHd h c P := by
  obtain ⟨c2, vs, c3, L⟩ := see_code hs
  obtain ⟨n, tg, e7⟩ := vInt_true L.s7
  obtain ⟨x, e9⟩ := vBool_true L.s9
  obtain ⟨m, tt, e10⟩ := vInt_true L.s10
  obtain ⟨y, hy⟩ := Option.isSome_iff_exists.mp L.s18
  obtain ⟨tf, e18⟩ := vStr_some hy
  have e11 := vRef_some L.s11
  have g := arr_getD vs
  exact ⟨o, vs, y, tf, n, tg, x, m, tt, ho, c2, c3, arr_at e11 (fun q => nomatch q), (g _ _).trans e11, (g _ _).trans e18, (g _ _).trans e7, (g _ _).trans e9, (g _ _).trans e10, hne⟩
theorem cls_obj {o : Obj} {mro : List Value} {N : Addr} {nw : String} (h : see (some o) = .cls mro N nw) :
    ∃ cd : ClassData, ∃ l : List (Option Value), o = { cls := .type "type", dict := o.dict, data := .cls { name := cd.name, bases := cd.bases, mro := mro, ns := N, qualname := cd.qualname, hasDict := cd.hasDict, slotNames := cd.slotNames, subclasses := cd.subclasses, abstract := cd.abstract, collection := cd.collection, hasDel := false }, slots := #[l.getD 0 none, l.getD 1 none, l.getD 2 none, l.getD 3 none, some (.builtin nw), l.getD 5 none] } := by
  obtain ⟨cd, e1, e2, ⟨rfl, rfl⟩, ⟨e3, e4⟩, e5⟩ := see_cls h
  obtain ⟨c, d, dt, ⟨l⟩⟩ := o
  dsimp only at e1 e2 e3 e5 ⊢
  subst e1 e2
  have e6 : l = [l.getD 0 none, l.getD 1 none, l.getD 2 none, l.getD 3 none, l.getD 4 none, l.getD 5 none] := list6 e3
  rw [vBlt_some e5] at e6
  refine ⟨cd, l, ?_⟩
  rw [← e4]
  exact congrArg (fun x => (⟨_, d, .cls cd, ⟨x⟩⟩ : Obj)) e6
theorem toml_of {h : Heap} {a N : Addr} {o : Obj} {m : PySem.Str → Option Value} (ho : h.get? a = some o) (hs : see (some o) = .cls (.ref a :: veMro) N "ValueError.__new__") (hn : h.Ns N m) (h1 : m "__init__" = none) (h2 : m "__str__" = none) : TomlAt h a := by
  obtain ⟨cd, l, e⟩ := cls_obj hs
  exact ⟨N, _, _, _, _, _, _, _, _, _, _, _, _, _, _, m, ho.trans (congrArg some e), hn, h1, h2⟩
theorem callee_cls {C : Cx} {h : Heap} {ks : List Addr} {a N : Addr} {o : Obj} {mro : List Value} {nw : String} (hK : C.K = kOf h ks) (ha : a ∈ ks) (ho : h.get? a = some o) (hs : see (some o) = .cls mro N nw) : Callee C (.ref a) := by
  refine Callee.kin ?_
  obtain ⟨cd, sl, e⟩ := cls_obj hs
  have l := kOf_look ho ha
  rw [e] at l
  rw [hK]
  unfold keepIn
  dsimp only
  rw [l]
  dsimp only
  unfold specialIn typeIn
  dsimp only
  rw [l]
  show (findIn (kOf h ks) (.type "type") "__call__" == _) = true
  have : findIn (kOf h ks) (.type "type") "__call__" = some (some (.builtin "type.__call__")) := by kernel_rfl
  rw [this]; rfl

theorem knG (M : Model) {s' s₁ : Shared} {r : Result} {cw : ClaimW} {cl : PySem.Str → Option Addr} {mean : ExcName → Option Value} {args : List WData} {tabs : List (Addr × Addr)} (hT : TabsAt tabs s₁.heap) (hr : ∀ a x, cw.raises a x = false)
    (h : GoodW cw cl mean args { s₁ with heap := ghostOf s₁.heap tabs } r s' ∧ GrownAll tabs s'.heap) : GoodWG cw cl mean args s₁ r s' := by
  have k := kn_post (M := ⟨fun _ => leafOf r, M.prog, M.w⟩) (A := {}) (cd := .builtin "" {}) (s := s') hT hr (fun Γ p _ _ => ⟨r, s', Runs.leaf r, h⟩)
  obtain ⟨r', s'', h1, h2⟩ := k (Ctx.of (.builtin "" {}) []) default rfl ⟨rfl, Nat.le_refl _, fun _ h => (nomatch h), fun _ h => (nomatch h), by decide⟩
  obtain ⟨e1, e2⟩ := Reach.det (runs_iff_reach.mp h1) (runs_iff_reach.mp (Runs.leaf r))
  have e2 : r' = r := End.ret.inj e2
  rw [e1, e2] at h2
  exact h2
theorem own_post {M : Model} {A : Around} {cd : Code} {s s₁ : Shared} {cw : ClaimW} {cl : PySem.Str → Option Addr} {mean : ExcName → Option Value} {args : List WData} {tabs : List (Addr × Addr)} (hT : TabsAt tabs s₁.heap) (hr : ∀ a x, cw.raises a x = false)
    (h : codeAny M A cd (fun r s' => GoodW cw cl mean args { s₁ with heap := ghostOf s₁.heap tabs } r s' ∧ GrownAll tabs s'.heap) s) : codeAny M A cd (GoodN cw cl mean args s₁) s :=
  codeAny_mono h fun r s' k => ⟨knG M hT hr k, k.1.2.2.2⟩

theorem law_own (O : List PySem.Str) (hO : ("script" : PySem.Str) ∉ O) {prog : Program} {w : World} {s₁ : Shared} {mg mb : PySem.Str → Option Value} {p : Program} {loose : List PySem.Str} {mean mean' : ExcName → Option Value} {tabs : List (Addr × Addr)} (tq : List (Addr × PySem.Str)) {K : Frag} (toml : Addr) {fa : Addr} {o : Obj} {fd : FuncData} {body : List Stmt}
    {cw : ClaimW} {cl : PySem.Str → Option Addr} {args : List WData} {l : Addr} {vs : List Value} {ns : List Int}
    (hT : TabsAt tabs s₁.heap) (T : Top p loose mean mg mb s₁.heap) (KX : K.In s₁.heap) (hK : noTabs K = true) (hg : s₁.gens = #[]) (htq : tq.map (·.1) = tabs.map (·.2))
    (ho : s₁.heap.get? fa = some o) (hfd : o.data = .func fd) (hcr : s₁.heap.CodeRec fd.code fd.qualname) (hbody : fd.body = .stmts body) (hclo : fd.closure = []) (hglob : fd.globals = mainGlobals) (hblt : fd.builtins = builtinsNs) (hkind : fd.scope.kind = .function)
    (hco : fd.scope.isCoroutine = false) (hgen : fd.scope.isGenerator = false) (hbind : bindArgs fd ⟨[.ref l], []⟩ = pure [(("script" : PySem.Str), Value.ref l)]) (hloc : kOk fd.scope "script" = true)
    (hL : s₁.heap.IsList l vs.toArray) (hI : IntsAre vs ns) (hr : ∀ a x, cw.raises a x = false) (hp : cw.post args (.bool true) args = true)
    (h : (cxOf prog w s₁ mg mb tabs tq toml K).base.StaysIn s₁.heap → CxOk (cxOf prog w s₁ mg mb tabs tq toml K) → BodyW (cxOf prog w s₁ mg mb tabs tq toml K) none O fd.scope fd.code fd.qualname 25 [("script", .list (ns.map .int))] body (fun d => d = .bool true) (fun _ => False)) :
    codeAny (model prog w) callerA (.call (.ref fa) ⟨[.ref l], []⟩) (GoodN cw cl mean' args s₁) s₁ := by
  refine own_post hT hr ?_
  have T' := ghost_top hT T
  have hst : (cxOf prog w s₁ mg mb tabs tq toml K).base.StaysIn s₁.heap := fun b ob e => of_hideAll _ e
  have hok : CxOk (cxOf prog w s₁ mg mb tabs tq toml K) := {
    g := T'.g
    b := T'.b
    nolimit := T'.nolimit
    nodigits := T'.nodigits
    builtins := T'.builtins
    bmain := T'.bmain
    tabB := fun a ha => hideAll_none _ (by rw [← htq]; exact ha)
    kin := ghost_K hT KX hK }
  have inv : Inv (cxOf prog w s₁ mg mb tabs tq toml K) s₁ := {
    ok := hok
    stays := hst
    tabs := fun q hq => by
      have : q.1 ∈ tabs.map (·.2) := by rw [← htq]; exact List.mem_map_of_mem hq
      obtain ⟨r, hr, e⟩ := List.mem_map.mp this
      refine ⟨#[], by rw [← e]; exact (hT r hr).2, by simp [TriplesOk], fun pos cv e => by simp [codeAmong] at e⟩
    gens := hg
    os := rfl }
  have key := call_raw (C := cxOf prog w s₁ mg mb tabs tq toml K) (s := s₁) (A := callerA) (outer := []) (ch := true) (X := fun _ => False) (O := O) (k := 25) (xs := ["script"]) (vs := [.ref l]) (ds := [.list (ns.map .int)]) (Q := fun d => d = .bool true) (Z := fun _ => False)
    ho hfd hcr hbody hclo hglob hblt hkind hco hgen (by decide) (by decide) rfl (by simp) (by intro u hu; cases hu) (by simp) hbind rfl (by
      intro x hx
      simp at hx; subst hx
      refine ⟨?_, hO⟩
      simpa [kOk] using hloc) inv (by
      exact And.intro (Exists.intro l ⟨vs, rfl, not_false, hL, Reps.ints hI⟩) trivial) (h hst hok)
  refine codeAny_mono key fun r s' hr' => ?_
  match r, hr' with
  | .ok (.ret v), ⟨st, d, rv, hd⟩ =>
    subst hd
    have rv : v = .bool true := rv
    subst rv
    refine ⟨⟨.inl ⟨_, _, _, rfl, hr _, .bool true, hp, unshared_nil⟩, st.inv.stays, st.inv.os, st.inv.gens⟩, ?_⟩
    have : ∀ q ∈ tabs, GrownAt q.2 s'.heap := fun q hq => by
      have : q.2 ∈ tq.map (·.1) := by rw [htq]; exact List.mem_map_of_mem hq
      obtain ⟨r, hr, e⟩ := List.mem_map.mp this
      obtain ⟨ps, h1, _⟩ := st.inv.tabs r hr
      exact ⟨ps, by rw [← e]; exact h1⟩
    exact GrownAll.mk this
  | .error e, ⟨_, x, _, hx⟩ => exact hx.elim
end Mine

end
section
open PySem PySem.W PySem.Calls PyProof.Rows PySem.Builtin PySem.Builtin.Str
set_option Elab.async false
set_option maxRecDepth 100000

namespace Mine
namespace E11
noncomputable abbrev prog : List Stmt := PySem.Challenge.pw_dn0207_11.main.body
noncomputable def suB : List Stmt := stB prog[5]?
noncomputable def suS : Scope := stS prog[5]?
noncomputable def scB : List Stmt := stB prog[6]?
noncomputable def scS : Scope := stS prog[6]?
noncomputable def seB : List Stmt := stB prog[7]?
noncomputable def seS : Scope := stS prog[7]?
noncomputable def lsignsB : List Stmt := stB prog[9]?
noncomputable def lsignsS : Scope := stS prog[9]?
noncomputable def ltextB : List Stmt := stB prog[10]?
noncomputable def ltextS : Scope := stS prog[10]?
noncomputable def lquotedB : List Stmt := stB prog[11]?
noncomputable def lquotedS : Scope := stS prog[11]?
noncomputable def ldueB : List Stmt := stB prog[12]?
noncomputable def ldueS : Scope := stS prog[12]?
noncomputable def ldoneB : List Stmt := stB prog[13]?
noncomputable def ldoneS : Scope := stS prog[13]?
noncomputable def lremarkB : List Stmt := stB prog[14]?
noncomputable def lremarkS : Scope := stS prog[14]?
noncomputable def laB : List Stmt := stB prog[15]?
noncomputable def laS : Scope := stS prog[15]?
noncomputable def crB : List Stmt := stB seB[0]?
noncomputable def crS : Scope := stS seB[0]?
noncomputable def gl : List (PySem.Str × Addr) := [("skip_until", 56), ("skip_comment", 63), ("suffixed_err", 70), ("_law_signs", 77), ("_law_text", 84), ("_law_quoted", 91), ("_law_due", 96), ("_law_done", 101), ("_law_remark", 108), ("law", 113), ("ILLEGAL_COMMENT_CHARS", 36), ("TOMLDecodeError", 46)]
noncomputable def blts : List PySem.Str := ["len", "chr", "divmod", "range", "ord", "str", "sum", "repr", "frozenset", "enumerate", "IndexError", "ValueError"]

structure St (C : Cx) : Prop where
  toml : C.toml = 46
  tomlAt : TomlAt C.base C.toml
  tomlC : Callee C (.ref C.toml)
  tabs : C.tabs = [(65, ("suffixed_err.<locals>.coord_repr" : PySem.Str))]
  code : CodeHd C.base 69 65
  gl : ∀ x a, (x, a) ∈ gl → C.mg x = some (.ref a)
  no : ∀ x ∈ blts, C.mg x = none
  su : FnKw C 56 suB suS (.ref 55) "skip_until" ["src", "pos", "expect", "error_on", "error_on_eof"] 3 ["error_on", "error_on_eof"]
  sc : FnIs C 63 scB scS (.ref 62) "skip_comment" ["src", "pos"]
  se : FnIs C 70 seB seS (.ref 69) "suffixed_err" ["src", "pos", "msg"]
  lsigns : FnIs C 77 lsignsB lsignsS (.ref 76) "_law_signs" ["total"]
  ltext : FnIs C 84 ltextB ltextS (.ref 83) "_law_text" ["script", "signs"]
  lquoted : FnIs C 91 lquotedB lquotedS (.ref 90) "_law_quoted" ["text"]
  ldue : FnIs C 96 ldueB ldueS (.ref 95) "_law_due" ["text", "place", "sought", "barred", "strict"]
  ldone : FnIs C 101 ldoneB ldoneS (.ref 100) "_law_done" ["text", "place", "sought", "barred", "strict"]
  lremark : FnIs C 108 lremarkB lremarkS (.ref 107) "_law_remark" ["text", "place", "barred"]
  la : FnIs C 113 laB laS (.ref 112) "law" ["script"]
  s36 : SetRep C C.base 36 (H.chars [0, 1, 2, 3, 4, 5, 6, 7, 8, 10, 11, 12, 13, 14, 15, 16, 17, 18, 19, 20, 21, 22, 23, 24, 25, 26, 27, 28, 29, 30, 31, 127])

section
variable {C : Cx} {G : Fc} {ρ : Vars} {Q : D → Prop} {Z : Exn → Prop} {P : Fl → Vars → Prop} {Zs : Exn → Vars → Prop}
theorem St.len (S : St C) : Means C "len" (.builtin "len") := .of_none (S.no _ (by decide)) PyProof.Rows.Boot.«len» (by decide)


theorem crW (S : St C) (hF : Fun G) (hsc : G.env.scope = crS) (src : List Nat) (p : Nat) (hl : src.length < 2 ^ 20) (hp : p < 2 ^ 20) (h : Q (.str (coordT src p))) :
    SW C G [] [("src", .str src), ("pos", .int p)] crB (fun fl _ => match fl with | .ret d => Q d | .nxt => Q .none | _ => False) (fun _ _ => False) := by
  have hcount : (src.take p).count 10 ≤ src.length := Nat.le_trans List.count_le_length (by simp; (exact lin1 (Nat.min_le_right (p) (src.length)) (by simp +arith only)))
  have hsz : sizeLine = 16777216 := rfl
  refine SW.cons ?_
  refine S1W.ifs ?_
  refine TsW.cmp1 ?_
  refine EvW.name rfl ?_
  refine EvW.call (kind_of hsc rfl) S.len Callee.blt ?_
  (refine EsW.cons ?_; refine EvW.name rfl ?_; refine EsW.nil ?_)
  refine OpW.len_str (by (exact Nat.lt_of_lt_of_le (by assumption) (by decide))) ?_
  (refine OpW.ge_int ?_; refine TrW.bool ?_)
  refine ⟨fun h1 => ?_, fun h1 => ?_⟩
  · refine SW.cons (S1W.ret (EvW.str ?_))
    have : src.length ≤ p := by simp at h1; (assumption)
    unfold coordT at h
    rw [if_pos this] at h
    exact h
  have hlt : ¬ src.length ≤ p := by simp at h1; (exact Nat.not_le_of_lt (lin1 h1 (by simp +arith only)))
  refine SW.nil ?_
  refine SW.cons (S1W.asgP hF (.sc hF hsc rfl) (by simp) rfl ?_)
  refine EvW.bin (EvW.m_count ?_)
  refine EvW.name rfl ?_
  refine ⟨_, rfl, ?_⟩
  (refine EsW.cons ?_; (with_reducible refine EvW.strNl ?_); refine EsW.cons ?_; refine EvW.int ?_; refine EsW.cons ?_; refine EvW.name rfl ?_; refine EsW.nil ?_)
  refine OpW.count4 (by (with_reducible exact Int.natCast_nonneg _)) ?_
  (refine EvW.int ?_; refine OpW.add_int ?_)
  refine ⟨rfl, ?_⟩
  rw [Int.toNat_natCast, show (((src.take p).count 10 : Nat) : Int) + 1 = ((lineT src p : Nat) : Int) by unfold lineT; (exact rfl)]
  refine SW.cons (S1W.ifs (TsW.cmp1 ?_))
  (refine EvW.name rfl ?_; refine EvW.int ?_)
  refine OpW.eq_int (b := 1) ?_
  refine TrW.bool ?_
  have key : SW C G [] (put "column" (.int (colT src p)) (put "line" (.int (lineT src p)) [("src", .str src), ("pos", .int p)])) (crB.drop 3) (fun fl _ => match fl with | .ret d => Q d | .nxt => Q .none | _ => False) (fun _ _ => False) := by
    have h2 := colT_le src p
    have h3 : lineT src p ≤ src.length + 1 := by unfold lineT; (exact lin1 hcount (by simp +arith only))
    have hd := digs_len (lineT src p)
    have hd2 := digs_len (colT src p)
    have t1 : (PySem.Str.ofString "line ").cps.toList.length = 5 := rfl
    have t2 : (PySem.Str.ofString ", column ").cps.toList.length = 9 := rfl
    refine SW.cons (S1W.ret (EvW.joined (JsW.cons ?_)))
    refine EvW.str ⟨_, rfl, by decide, JsW.cons (EvW.fmt ?_)⟩
    refine EvW.name rfl ?_
    refine FmtW.int (log2_small (by (lia))) ⟨_, rfl, ?_, JsW.cons (EvW.str ⟨_, rfl, ?_, JsW.cons (EvW.fmt ?_)⟩)⟩
    · simp only [List.length_append, List.length_nil]; (exact lin6 (Nat.le_of_eq t1) hd h3 hl (show 2 ^ 20 ≤ 1048576 by decide +kernel) (Nat.le_of_eq (Eq.symm hsz)) (by simp +arith only))
    · simp only [List.length_append, List.length_nil]; (exact Nat.le_trans (m := 2097152) (lin6 (Nat.le_of_eq t1) hd h3 hl (show 2 ^ 20 ≤ 1048576 by decide +kernel) (Nat.le_of_eq t2) (by simp +arith only)) (by decide +kernel))
    refine EvW.name rfl ?_
    refine FmtW.int (log2_small (by (lia))) ⟨_, rfl, ?_, JsW.nil ?_ ?_⟩
    · simp only [List.length_append, List.length_nil]; (lia)
    · simp only [List.length_append, List.length_nil]; (lia)
    · unfold coordT at h
      rw [if_neg hlt] at h
      simpa using h
  refine ⟨fun h2 => ?_, fun h2 => ?_⟩
  · refine SW.cons (S1W.asgP hF (.sc hF hsc rfl) (by simp) rfl ?_)
    (refine EvW.bin ?_; refine EvW.name rfl ?_; refine EvW.int ?_; refine OpW.add_int ?_)
    refine ⟨rfl, SW.nil ?_⟩
    have h0 : (src.take p).count 10 = 0 := Nat.succ.inj (of_decide_eq_true h2)
    have : (p : Int) + 1 = ((colT src p : Nat) : Int) := by
      rw [colT_none (count_zero.mp h0)]; (exact rfl)
    rw [this]; exact key
  · refine SW.cons (S1W.asgP hF (.sc hF hsc rfl) (by simp) rfl ?_)
    refine EvW.bin ?_
    refine EvW.name rfl ?_
    refine EvW.m_rindex ?_
    refine EvW.name rfl ?_
    refine ⟨_, rfl, ?_⟩
    (refine EsW.cons ?_; (with_reducible refine EvW.strNl ?_); refine EsW.cons ?_; refine EvW.int ?_; refine EsW.cons ?_; refine EvW.name rfl ?_; refine EsW.nil ?_)
    have h0 : ¬ (src.take p).count 10 = 0 := fun z => of_decide_eq_false h2 (congrArg Nat.succ z)
    cases hi : lastIdx 10 (src.take p) with
    | none => exact absurd (count_zero.mpr hi) h0
    | some i =>
      refine OpW.rindex4 (k := i) (by (with_reducible exact Int.natCast_nonneg _)) (by rw [Int.toNat_natCast]; exact hi) ?_
      refine OpW.sub_int ?_
      refine ⟨rfl, SW.nil ?_⟩
      have hip := last_lt hi
      have : (p : Int) - (i : Int) = ((colT src p : Nat) : Int) := by
        rw [colT_some hi]; (lia)
      rw [this]; exact key

theorem St.tomlM (S : St C) : Means C "TOMLDecodeError" (.ref C.toml) := by rw [S.toml]; exact .of_mg (S.gl "TOMLDecodeError" 46 (by decide +kernel))
theorem St.suM (S : St C) : Means C "skip_until" (.ref 56) := .of_mg (S.gl "skip_until" 56 (by decide +kernel))
theorem St.scM (S : St C) : Means C "skip_comment" (.ref 63) := .of_mg (S.gl "skip_comment" 63 (by decide +kernel))
theorem St.seM (S : St C) : Means C "suffixed_err" (.ref 70) := .of_mg (S.gl "suffixed_err" 70 (by decide +kernel))
theorem St.lsignsM (S : St C) : Means C "_law_signs" (.ref 77) := .of_mg (S.gl "_law_signs" 77 (by decide +kernel))
theorem St.ltextM (S : St C) : Means C "_law_text" (.ref 84) := .of_mg (S.gl "_law_text" 84 (by decide +kernel))
theorem St.lquotedM (S : St C) : Means C "_law_quoted" (.ref 91) := .of_mg (S.gl "_law_quoted" 91 (by decide +kernel))
theorem St.ldueM (S : St C) : Means C "_law_due" (.ref 96) := .of_mg (S.gl "_law_due" 96 (by decide +kernel))
theorem St.ldoneM (S : St C) : Means C "_law_done" (.ref 101) := .of_mg (S.gl "_law_done" 101 (by decide +kernel))
theorem St.lremarkM (S : St C) : Means C "_law_remark" (.ref 108) := .of_mg (S.gl "_law_remark" 108 (by decide +kernel))
theorem seX {R : List Nat → Prop} (S : St C) (hk : 2 ≤ G.k) (src msg : List Nat) (p : Nat) (hl : src.length < 2 ^ 20) (hp : p < 2 ^ 20) (hm : msg.length < 2 ^ 22) (h : R (msg ++ tx " (at " ++ coordT src p ++ tx ")")) :
    XoW C G [.str src, .int p, .str msg] (callV (.ref 70)) R Z := by
  refine XoW.fnIs (O := []) S.se (by (exact Nat.le_of_lt (by assumption))) rfl (by decide +kernel) fun G' N => ⟨.all N.fn, ?_⟩
  have hF := N.fn
  have hsc := N.scope
  refine SWX.cons (S1W.defn hF (.sc hF hsc rfl) (by simp) N.code ?_ S.code (by rw [S.tabs]; exact .head _) ?_ (by decide) (by decide) rfl rfl rfl ?_)
  · unfold qualnameIn
    rw [show G'.env.kindOf (PySem.Str.ofString "coord_repr") = some .local from kind_of hsc rfl, N.qual]
    rfl
  · rw [S.tabs]; intro p hp _; simp at hp; rw [hp]
  refine ⟨rfl, SWX.ret ?_⟩
  refine XvW.call (kind_of hsc rfl) S.tomlM S.tomlC ?_
  refine EsW.cons (EvW.joined (JsW.cons (EvW.fmt ?_)))
  refine EvW.name rfl ?_
  have hsz : sizeLine = 16777216 := rfl
  have t1 : (PySem.Str.ofString " (at ").cps.toList.length = 5 := rfl
  have t2 : (PySem.Str.ofString ")").cps.toList.length = 1 := rfl
  have t3 := coordT_len src p hl
  refine FmtW.str (by (exact Nat.le_of_lt (Nat.lt_of_lt_of_le (by assumption) (by decide)))) ⟨_, rfl, ?_, JsW.cons (EvW.str ⟨_, rfl, ?_, JsW.cons (EvW.fmt ?_)⟩)⟩
  · simp only [List.length_append, List.length_nil]; (exact lin3 hm (show 2 ^ 22 ≤ 4194304 by decide +kernel) (Nat.le_of_eq (Eq.symm hsz)) (by simp +arith only))
  · simp only [List.length_append, List.length_nil]; (exact lin4 hm (show 2 ^ 22 ≤ 4194304 by decide +kernel) (Nat.le_of_eq t1) (Nat.le_of_eq (Eq.symm hsz)) (by simp +arith only))
  refine EvW.callL (O := []) (xs := ["src", "pos"]) (k := G'.k - 1) rfl (by have := N.k; (lia)) (fun fd vs e1 e2 e3 hv => ?_) (fun x hx => ?_) rfl rfl rfl ?_
  · obtain ⟨nm, q, pa, b, sc, gl, cl, df, kd, dc, pm, an, cd, ct, bl⟩ := fd
    simp only at e1 e2 e3
    subst e1 e2 e3
    obtain ⟨a, b, rfl⟩ := vs2 hv
    rfl
  · revert x; decide +kernel
  (refine EsW.cons ?_; refine EvW.name rfl ?_; refine EsW.cons ?_; refine EvW.name rfl ?_; refine EsW.nil ?_)
  refine ⟨rfl, fun code G'' N'' => ⟨.all N''.fn, (crW S N''.fn N''.scope src p hl hp ?_).mono (fun _ _ q => q) fun _ _ q => q.elim⟩⟩
  refine FmtW.str (by (exact Nat.le_trans (by assumption) (by decide))) ⟨_, rfl, ?_, JsW.cons (EvW.str ⟨_, rfl, ?_, JsW.nil ?_ ?_⟩)⟩
  · simp only [List.length_append, List.length_nil]; (exact lin6 hm (show 2 ^ 22 ≤ 4194304 by decide +kernel) (Nat.le_of_eq t1) t3 (show 2 ^ 21 ≤ 2097152 by decide +kernel) (Nat.le_of_eq (Eq.symm hsz)) (by simp +arith only))
  · simp only [List.length_append, List.length_nil]; (exact Nat.le_trans (m := 8388608) (lin6 hm (show 2 ^ 22 ≤ 4194304 by decide +kernel) (Nat.le_of_eq t1) t3 (show 2 ^ 21 ≤ 2097152 by decide +kernel) (Nat.le_of_eq t2) (by simp +arith only)) (by decide +kernel))
  · simp only [List.length_append, List.length_nil]; (exact Nat.le_trans (m := 8388608) (lin6 hm (show 2 ^ 22 ≤ 4194304 by decide +kernel) (Nat.le_of_eq t1) t3 (show 2 ^ 21 ≤ 2097152 by decide +kernel) (Nat.le_of_eq t2) (by simp +arith only)) (by decide +kernel))
  · refine EsW.nil (XoW.toml S.tomlAt ?_)
    simpa using h
end
end E11
end Mine

end
section
open PySem PySem.W PySem.Calls PyProof.Rows PySem.Builtin PySem.Builtin.Str
set_option Elab.async false
set_option maxRecDepth 100000
set_option maxHeartbeats 4000000
namespace Mine
namespace E11
noncomputable def suTail (src : List Nat) (pos : Nat) (bars : List (List Nat)) (e : Nat) : Except (List Nat) Nat :=
  match firstBar src bars pos e with
  | none => .ok e
  | some q => .error (tx "Found invalid character " ++ repr_ [src.getD q 0] ++ tx " (at " ++ coordT src q ++ tx ")")
noncomputable def suT (src : List Nat) (pos : Nat) (ex : List Nat) (bars : List (List Nat)) (eof : Bool) : Except (List Nat) Nat :=
  match firstAt src ex pos with
  | none => if eof = true then .error (tx "Expected " ++ repr_ ex ++ tx " (at " ++ coordT src src.length ++ tx ")") else suTail src pos bars src.length
  | some k => suTail src pos bars k
section
variable {C : Cx} {G : Fc} {ρ : Vars} {Q : D → Prop} {Z : Exn → Prop} {P : Fl → Vars → Prop} {Zs : Exn → Vars → Prop}
theorem St.val (S : St C) : Means C "ValueError" (.type "ValueError") := .of_none (S.no _ (by decide)) PyProof.Rows.Boot.«ValueError» (by decide)
noncomputable def Ans (Q : D → Prop) (Z : Exn → Prop) : Except (List Nat) Nat → Prop
  | .ok n => Q (.int n)
  | .error m => Z (.toml m)
theorem suTailW (S : St C) (hF : Fun G) (hsc : G.env.scope = suS) (hk : 2 ≤ G.k) (hh : G.A.handled = none) (src : List Nat) (pos : Nat) (bars : List (List Nat)) (e : Nat) (hl : src.length < 2 ^ 20) (hp : pos < 2 ^ 20) (he : e ≤ src.length)
    (hr : ∀ c ∈ src, (repr_ [c]).length < 2 ^ 20) (h : Ans Q Z (suTail src pos bars e)) (hρ : Sub [("src", .str src), ("pos", .int pos), ("error_on", .fset bars), ("new_pos", .int e)] ρ) :
    SW C G [] ρ (suB.drop 1) (fun fl _ => match fl with | .ret d => Q d | .nxt => Q .none | _ => False) (fun x _ => Z x) := by
  refine SW.sub ?_ hρ
  have hsz : sizeLine = 16777216 := rfl
  refine SW.cons ?_
  refine S1W.ifs ?_
  with_reducible refine TsW.not ?_
  refine TsW.val rfl ?_
  refine EvW.m_disj ?_
  refine EvW.name rfl ?_
  refine ⟨_, rfl, ?_⟩
  (refine EsW.cons ?_; (with_reducible refine EvW.slice ?_); refine EvW.name rfl ?_; (with_reducible refine EoW.some ?_); refine EvW.name rfl ?_; (with_reducible refine EoW.some ?_); refine EvW.name rfl ?_)
  refine .inl ⟨_, _, _, rfl, rfl, rfl, by (exact Nat.le_of_lt (Nat.lt_of_lt_of_le (by assumption) (by decide))), ?_⟩
  rw [pslice_nat]
  with_reducible refine EsW.nil ?_
  refine OpW.disj hh fun b hb => ?_
  with_reducible refine TrW.bool ?_
  have hbar : b = true ↔ firstBar src bars pos e = none := by
    rw [hb, firstBar_none]
    constructor
    · intro q i h1 h2
      exact q _ ((mem_seg he).mpr ⟨i, h1, h2, rfl⟩)
    · intro q c hc
      obtain ⟨i, h1, h2, rfl⟩ := (mem_seg he).mp hc
      exact q i h1 h2
  unfold suTail at h
  refine ⟨fun h1 => ?_, fun h1 => ?_⟩
  · have hb0 : b = false := by simpa using h1
    cases hq : firstBar src bars pos e with
    | none => rw [hbar.mpr hq] at hb0; cases hb0
    | some q =>
      rw [hq] at h
      obtain ⟨q1, q2, q3, q4⟩ := firstBar_some.mp hq
      refine SW.cons ?_
      refine S1W.whl (NoteOk.all hF) (fun n ρ => ∃ p : Nat, pos ≤ p ∧ p ≤ q ∧ n = q - p ∧ Sub [("src", .str src), ("pos", .int p), ("error_on", .fset bars)] ρ) (q - pos) ⟨pos, Nat.le_refl _, q1, rfl, .cons rfl (.cons rfl (.cons rfl .nil))⟩ ?_
      rintro n ρ ⟨p, p1, p2, rfl, hs⟩
      refine TsW.weak ?_ hs
      (refine TsW.cmp1 ?_; (with_reducible refine EvW.sub ?_); refine EvW.name rfl ?_; refine EvW.name rfl ?_)
      refine OpW.idx_str' (by (with_reducible exact Int.natCast_nonneg _)) (by (exact Int.ofNat_lt.mpr (lin3 p2 q2 he (by simp +arith only)))) (by (exact Nat.lt_of_lt_of_le (by assumption) (by decide))) ?_
      rw [Int.toNat_natCast]
      refine EvW.name rfl ?_
      refine OpW.notIn_fset ?_
      with_reducible refine TrW.bool ?_
      refine ⟨fun h2 => ?_, fun h2 => ?_⟩
      · have hpq : p = q := by
          by_cases hlt : p < q
          · have := q4 p p1 hlt
            rw [decide_eq_false this] at h2; cases h2
          · (exact Nat.le_antisymm (lin1 p2 (by simp +arith only)) (lin1 (Nat.le_of_not_lt hlt) (by simp +arith only)))
        subst hpq
        refine SW.sub ?_ hs
        refine SW.one ?_
        refine S1W.raise S.tomlAt hh ?_
        refine XvW.call (kind_of hsc rfl) S.seM S.se.callee ?_
        refine EsW.cons ?_
        refine EvW.name rfl ?_
        refine EsW.cons ?_
        refine EvW.name rfl ?_
        refine EsW.cons ?_
        refine EvW.joined (JsW.cons ?_)
        have hc : src.getD p 0 ∈ src := by
          rw [List.getD_eq_getElem?_getD, List.getElem?_eq_getElem (by (exact lin2 q2 he (by simp +arith only)))]; exact List.getElem_mem _
        have hr' := hr _ hc
        have t1 : (PySem.Str.ofString "Found invalid character ").cps.toList.length = 24 := rfl
        refine EvW.str ⟨_, rfl, by decide, JsW.cons (EvW.fmtR ?_)⟩
        with_reducible refine EvW.sub ?_
        refine EvW.name rfl ?_
        refine EvW.name rfl ?_
        refine OpW.idx_str' (by (with_reducible exact Int.natCast_nonneg _)) (by (exact Int.ofNat_lt.mpr (lin2 q2 he (by simp +arith only)))) (by (exact Nat.lt_of_lt_of_le (by assumption) (by decide))) ?_
        rw [Int.toNat_natCast]
        refine ⟨_, rfl, by (exact Nat.le_of_lt (Nat.lt_of_lt_of_le (by assumption) (by decide))), _, rfl, ?_, JsW.nil ?_ ?_⟩
        · simp only [List.length_append, List.length_nil]; (exact lin4 (Nat.le_of_eq t1) hr' (show 2 ^ 20 ≤ 1048576 by decide +kernel) (Nat.le_of_eq (Eq.symm hsz)) (by simp +arith only))
        · simp only [List.length_append, List.length_nil]; (exact lin4 (Nat.le_of_eq t1) hr' (show 2 ^ 20 ≤ 1048576 by decide +kernel) (Nat.le_of_eq (Eq.symm hsz)) (by simp +arith only))
        with_reducible refine EsW.nil ?_
        refine seX S (by (assumption)) src _ p hl (by (exact lin3 q2 he hl (by simp +arith only))) ?_ ?_
        · simp only [List.length_append, List.length_nil]; (exact lin4 (Nat.le_of_eq t1) hr' (show 2 ^ 20 ≤ 1048576 by decide +kernel) (show 4194304 ≤ 2 ^ 22 by decide +kernel) (by simp +arith only))
        · rw [List.nil_append]; exact h
      · refine SW.sub ?_ hs
        refine SW.one ?_
        refine S1W.aug hF (.sc hF hsc rfl) (by simp) rfl ?_
        with_reducible refine EvW.int ?_
        have hlt : p < q := by
          by_cases hpq : p = q
          · subst hpq; rw [decide_eq_true q3] at h2; cases h2
          · (lia)
        refine OpW.iadd_int ⟨rfl, q - (p + 1), by (exact lin2 (subu (a := q) (b := p + 1) (lin1 hlt (by simp +arith only))) (subl (q) (p)) (by simp +arith only)), p + 1, by (exact lin1 p1 (by simp +arith only)), hlt, rfl, .cons rfl (.cons rfl (.cons rfl .nil))⟩
  · have hb0 : b = true := by simpa using h1
    rw [hbar.mp hb0] at h
    refine SW.nil ?_
    refine SW.one ?_
    with_reducible refine S1W.ret ?_
    refine EvW.name rfl ?_
    exact h
theorem suW (S : St C) (hk : 3 ≤ G.k) (hh : G.A.handled = none) (src : List Nat) (pos : Nat) (ex : List Nat) (bars : List (List Nat)) (eof : Bool) (hl : src.length < 2 ^ 20) (hp : pos < 2 ^ 20)
    (hr : ∀ c ∈ src, (repr_ [c]).length < 2 ^ 20) (hr2 : (repr_ ex).length < 2 ^ 20) (h : Ans Q Z (suT src pos ex bars eof)) :
    OpW C G [.str src, .int pos, .str ex, .fset bars, .bool eof] (callK (.ref 56) 3 ["error_on", "error_on_eof"]) Q Z := by
  refine OpW.fnKw (O := []) S.su (by (exact lin1 hk (by simp +arith only))) rfl (by decide +kernel) fun G' N => ⟨.all N.fn, ?_⟩
  have hF := N.fn
  have hsc := N.scope
  have hk' := N.k
  have hh' : G'.A.handled = none := N.hnd.trans hh
  have hsz : sizeLine = 16777216 := rfl
  unfold suT at h
  refine SW.cons ?_
  refine S1W.tryB hF hh' excOk_Value (kind_of hsc rfl) S.val ?_
  refine SW.one ?_
  refine S1W.asgP hF (.sc hF hsc rfl) (by simp) rfl ?_
  refine EvW.m_index ?_
  refine EvW.name rfl ?_
  refine ⟨_, rfl, ?_⟩
  (refine EsW.cons ?_; refine EvW.name rfl ?_; refine EsW.cons ?_; refine EvW.name rfl ?_; (with_reducible refine EsW.nil ?_))
  refine OpW.index3 hh' (fun k h1 h2 h3 => ⟨rfl, ?_⟩) fun h1 => ⟨rfl, fun ev => ?_⟩
  · rw [firstAt_some.mpr ⟨h1, h2, h3⟩] at h
    have := h2.1
    exact suTailW S hF hsc (by (exact lin3 hk (subl (G.k) (1)) (Nat.le_of_eq (Eq.symm hk')) (by simp +arith only))) hh' src pos bars k hl hp (by (exact lin1 this (by simp +arith only))) hr h (.cons rfl (.cons rfl (.cons rfl (.cons rfl .nil))))
  · rw [firstAt_none.mpr h1] at h
    have hF2 := hF.mk' ev true
    have hsc2 : (G'.mk' ev true).env.scope = suS := hsc
    refine SW.cons ?_
    refine S1W.asgP hF2 (.sc hF2 hsc2 rfl) (by simp) rfl ?_
    refine EvW.call (kind_of hsc2 rfl) S.len Callee.blt ?_
    (refine EsW.cons ?_; refine EvW.name rfl ?_; (with_reducible refine EsW.nil ?_))
    refine OpW.len_str (by (exact Nat.lt_of_lt_of_le (by assumption) (by decide))) ⟨rfl, ?_⟩
    refine SW.one ?_
    refine S1W.ifs ?_
    refine TsW.val rfl ?_
    refine EvW.name rfl ?_
    with_reducible refine TrW.bool ?_
    refine ⟨fun h2 => ?_, fun h2 => ?_⟩
    · subst h2
      rw [if_pos rfl] at h
      refine SW.one ?_
      refine S1W.raiseFrom S.tomlAt rfl rfl ?_
      refine XvW.call (kind_of hsc2 rfl) S.seM S.se.callee ?_
      refine EsW.cons ?_
      refine EvW.name rfl ?_
      refine EsW.cons ?_
      refine EvW.name rfl ?_
      refine EsW.cons ?_
      refine EvW.joined (JsW.cons ?_)
      have t1 : (PySem.Str.ofString "Expected ").cps.toList.length = 9 := rfl
      refine EvW.str ⟨_, rfl, by decide, JsW.cons (EvW.fmtR ?_)⟩
      refine EvW.name rfl ?_
      refine ⟨_, rfl, by (exact Nat.le_of_lt (Nat.lt_of_lt_of_le (by assumption) (by decide))), _, rfl, ?_, JsW.nil ?_ ?_⟩
      · simp only [List.length_append, List.length_nil]; (exact lin4 (Nat.le_of_eq t1) hr2 (show 2 ^ 20 ≤ 1048576 by decide +kernel) (Nat.le_of_eq (Eq.symm hsz)) (by simp +arith only))
      · simp only [List.length_append, List.length_nil]; (exact lin4 (Nat.le_of_eq t1) hr2 (show 2 ^ 20 ≤ 1048576 by decide +kernel) (Nat.le_of_eq (Eq.symm hsz)) (by simp +arith only))
      with_reducible refine EsW.nil ?_
      refine seX S (by show 2 ≤ G'.k; (exact lin3 hk (subl (G.k) (1)) (Nat.le_of_eq (Eq.symm hk')) (by simp +arith only))) src _ src.length hl hl ?_ ?_
      · simp only [List.length_append, List.length_nil]; (exact lin4 (Nat.le_of_eq t1) hr2 (show 2 ^ 20 ≤ 1048576 by decide +kernel) (show 4194304 ≤ 2 ^ 22 by decide +kernel) (by simp +arith only))
      · rw [List.nil_append]; exact h
    · subst h2
      rw [if_neg (by simp)] at h
      refine SW.nil ?_
      exact suTailW S hF hsc (by (exact lin3 hk (subl (G.k) (1)) (Nat.le_of_eq (Eq.symm hk')) (by simp +arith only))) hh' src pos bars src.length hl hp (Nat.le_refl _) hr h (.cons rfl (.cons rfl (.cons rfl (.cons rfl .nil))))
end
end E11
end Mine

end
section
open PySem PySem.W PySem.Calls PyProof.Rows PySem.Builtin PySem.Builtin.Str
set_option Elab.async false
set_option maxRecDepth 100000
set_option maxHeartbeats 4000000
namespace Mine
namespace E11
section
variable {C : Cx} {G : Fc} {ρ : Vars} {Q : D → Prop} {Z : Exn → Prop} {P : Fl → Vars → Prop} {Zs : Exn → Vars → Prop}
theorem St.index (S : St C) : Means C "IndexError" (.type "IndexError") := .of_none (S.no _ (by decide)) PyProof.Rows.Boot.«IndexError» (by decide)
noncomputable abbrev ill : List (List Nat) := H.chars [0, 1, 2, 3, 4, 5, 6, 7, 8, 10, 11, 12, 13, 14, 15, 16, 17, 18, 19, 20, 21, 22, 23, 24, 25, 26, 27, 28, 29, 30, 31, 127]
theorem St.illM (S : St C) : Means C "ILLEGAL_COMMENT_CHARS" (.ref 36) := .of_mg (S.gl "ILLEGAL_COMMENT_CHARS" 36 (by decide +kernel))
noncomputable def scT (src : List Nat) (pos : Nat) : Except (List Nat) Nat := if src[pos]? = some 35 then suT src (pos + 1) [10] ill false else .ok pos
theorem scW (S : St C) (hk : 4 ≤ G.k) (hh : G.A.handled = none) (src : List Nat) (pos : Nat) (hl : src.length < 2 ^ 19) (hp : pos < 2 ^ 19) (hr : ∀ c ∈ src, (repr_ [c]).length < 2 ^ 20) (h : Ans Q Z (scT src pos)) :
    OpW C G [.str src, .int pos] (callV (.ref 63)) Q Z := by
  refine OpW.fnIs (O := []) S.sc (by (exact lin1 hk (by simp +arith only))) rfl (by decide +kernel) fun G' N => ⟨.all N.fn, ?_⟩
  have hF := N.fn
  have hsc := N.scope
  have hk' := N.k
  have hh' : G'.A.handled = none := N.hnd.trans hh
  -- behind the try
  have fin : ∀ d ρ, (d = .none ∧ src[pos]? ≠ some 35 ∨ ∃ c, d = .str [c] ∧ src[pos]? = some c) → Sub [("src", .str src), ("pos", .int pos), ("char", d)] ρ → SW C G' [] ρ (scB.drop 1) (fun fl _ => match fl with | .ret d => Q d | .nxt => Q .none | _ => False) (fun x _ => Z x) := fun d ρ hd hs => by
    refine SW.sub ?_ hs
    have hop : ∀ {R : D → Prop}, R (.bool (decide (src[pos]? = some 35))) → OpW C G' [d, .str [35]] (cop .Eq) R Z := fun {R} hR => by
      rcases hd with ⟨rfl, hn⟩ | ⟨c, rfl, hc⟩
      · exact OpW.eq_none_str (by rw [decide_eq_false hn] at hR; exact hR)
      · refine OpW.eq_str (c := [35]) rfl ?_
        rw [hc] at hR
        rwa [decide_eq_decide.mpr (⟨fun z => by cases z; rfl, fun z => by cases z; rfl⟩ : [c] = [35] ↔ some c = some 35)]
    refine SW.cons ?_
    refine S1W.ifs ?_
    refine TsW.cmp1 ?_
    refine EvW.name rfl ?_
    with_reducible refine EvW.str ?_
    refine hop ?_
    with_reducible refine TrW.bool ?_
    unfold scT at h
    refine ⟨fun h1 => ?_, fun h1 => ?_⟩
    · rw [if_pos (of_decide_eq_true h1)] at h
      refine SW.cons ?_
      with_reducible refine S1W.ret ?_
      refine EvW.callKw ["error_on", "error_on_eof"] (kind_of hsc rfl) S.suM S.su.callee ?_
      (refine EsW.cons ?_; refine EvW.name rfl ?_; refine EsW.cons ?_; (with_reducible refine EvW.bin ?_); refine EvW.name rfl ?_; (with_reducible refine EvW.int ?_); (with_reducible refine OpW.add_int ?_); refine EsW.cons ?_; (with_reducible refine EvW.str ?_); (with_reducible refine EsW.nil ?_))
      refine KwW.cons ?_
      refine EvW.globS (kind_of hsc rfl) S.illM S.s36 ?_
      refine KwW.cons ?_
      refine EvW.bool ?_
      refine KwW.nil ?_
      refine suW S (by (exact lin3 hk (subl (G.k) (1)) (Nat.le_of_eq (Eq.symm hk')) (by simp +arith only))) hh' src (pos + 1) [10] ill false (by (exact Nat.lt_of_lt_of_le (by assumption) (by decide))) (by (exact lin3 hp (show 2 ^ 19 ≤ 524288 by decide +kernel) (show 1048576 ≤ 2 ^ 20 by decide +kernel) (by simp +arith only))) hr (by have := repr_len [10] (by simp); simp at this; (exact lin2 this (show 1048576 ≤ 2 ^ 20 by decide +kernel) (by simp +arith only))) ?_
      cases hq : suT src (pos + 1) [10] ill false with
      | ok n => rw [hq] at h; exact h
      | error m => rw [hq] at h; exact h
    · rw [if_neg (of_decide_eq_false h1)] at h
      refine SW.nil ?_
      refine SW.one ?_
      with_reducible refine S1W.ret ?_
      refine EvW.name rfl ?_
      exact h
  refine SW.cons ?_
  refine S1W.tryB hF hh' excOk_Index (kind_of hsc rfl) S.index ?_
  refine SW.one ?_
  refine S1W.asgP hF (.sc hF hsc rfl) (by simp) rfl ?_
  with_reducible refine EvW.sub ?_
  refine EvW.name rfl ?_
  refine EvW.name rfl ?_
  by_cases hlt : pos < src.length
  · refine OpW.idx_str' (by (with_reducible exact Int.natCast_nonneg _)) (by (with_reducible exact Int.ofNat_lt.mpr (by assumption))) (by (exact Nat.lt_of_lt_of_le (by assumption) (by decide))) ?_
    rw [Int.toNat_natCast]
    refine ⟨rfl, ?_⟩
    refine fin _ _ (.inr ⟨_, rfl, ?_⟩) (.cons rfl (.cons rfl (.cons rfl .nil)))
    rw [List.getD_eq_getElem?_getD, List.getElem?_eq_getElem hlt]; rfl
  · refine OpW.idx_str_oob hh' (by (exact Int.ofNat_le.mpr (lin1 (Nat.le_of_not_lt hlt) (by simp +arith only)))) (by (lia)) ⟨rfl, fun ev => ?_⟩
    have hF2 := hF.mk' ev true
    have hsc2 : (G'.mk' ev true).env.scope = scS := hsc
    refine SW.one ?_
    refine S1W.asgP hF2 (.sc hF2 hsc2 rfl) (by simp) rfl ?_
    refine EvW.none ?_
    refine ⟨rfl, ?_⟩
    refine fin _ _ (.inl ⟨rfl, ?_⟩) (.cons rfl (.cons rfl (.cons rfl .nil)))
    rw [List.getElem?_eq_none (by (exact lin1 (Nat.le_of_not_lt hlt) (by simp +arith only)))]; simp
end
end E11
end Mine

end
section
open PySem PySem.W PySem.Calls PyProof.Rows PySem.Builtin PySem.Builtin.Str
set_option Elab.async false
set_option maxRecDepth 100000
namespace Mine
section
variable {C : Cx} {G : Fc} {ρ : Vars} {Q : D → Prop} {Z : Exn → Prop}
theorem castLt {k n : Nat} (h : k < n) : (k : Int) < (n : Int) := Int.ofNat_lt.mpr h
theorem OpW.idx_chr {value slice : Expr} {l : List Nat} {k : Nat} (hn : k < l.length) (hl : l.length < 2 ^ 62) (h : Q (.str [l.getD k 0])) (hs : isSlice slice = false := by rfl) :
    OpW C G [.str l, .int (k : Int)] (subT value slice) Q Z :=
  OpW.idx_str' (Int.natCast_nonneg k) (castLt hn) hl (by rw [Int.toNat_natCast]; exact h) hs
theorem OpW.idx_at {value slice : Expr} {l : List D} {k : Nat} (hn : k < l.length) (hl : l.length < 2 ^ 62) (h : Q (l.getD k .none)) (hs : isSlice slice = false := by rfl) :
    OpW C G [.list l, .int (k : Int)] (subT value slice) Q Z :=
  OpW.idx_list' (Int.natCast_nonneg k) (castLt hn) hl (by rw [Int.toNat_natCast]; exact h) hs
theorem getD_map {α : Type} {f : α → D} {l : List α} {k : Nat} {d : α} (h : k < l.length) : (l.map f).getD k .none = f (l.getD k d) := by
  rw [List.getD_eq_getElem?_getD, List.getD_eq_getElem?_getD, List.getElem?_map, List.getElem?_eq_getElem h]; rfl
theorem OpW.idx_map {α : Type} {f : α → D} {value slice : Expr} {l : List α} {k : Nat} {d : α} (hn : k < l.length) (hl : l.length < 2 ^ 62) (h : Q (f (l.getD k d))) (hs : isSlice slice = false := by rfl) :
    OpW C G [.list (l.map f), .int (k : Int)] (subT value slice) Q Z :=
  OpW.idx_at (by rw [List.length_map]; exact hn) (by rw [List.length_map]; exact hl) (by rw [getD_map hn]; exact h) hs
end
end Mine

end
section
open PySem PySem.W PySem.Calls PyProof.Rows PySem.Builtin PySem.Builtin.Str
set_option Elab.async false
set_option maxRecDepth 100000
namespace Mine
section
variable {C : Cx} {G : Fc} {ρ : Vars} {Q : D → Prop} {Z : Exn → Prop} {O : List PySem.Str} {P : Fl → Vars → Prop} {Zs : Exn → Vars → Prop}
end
end Mine

end
section
open PySem PySem.W PySem.Calls PyProof.Rows PySem.Builtin PySem.Builtin.Str
set_option Elab.async false
set_option maxRecDepth 100000
namespace Mine
section
variable {C : Cx} {G : Fc} {ρ : Vars} {Q : D → Prop} {Z : Exn → Prop}
end
end Mine

end
section
open PySem PySem.W PySem.Calls PyProof.Rows PySem.Builtin PySem.Builtin.Str
set_option Elab.async false
set_option maxRecDepth 100000
namespace Mine
section
variable {C : Cx} {G : Fc} {ρ : Vars} {Q : D → Prop} {Z : Exn → Prop}
theorem EvW.det {e : Expr} {x : D} (h : EvW C G ρ e (fun y => y = x) Z) (hQ : Q x) : EvW C G ρ e Q Z := h.mono (fun _ q => q ▸ hQ) fun _ z => z
theorem TsW.det {e : Expr} {x : Bool} {R : Bool → Prop} (h : TsW C G ρ e (fun y => y = x) Z) (hR : R x) : TsW C G ρ e R Z := fun X s o =>
  wpAny_mono (h X s o) (fun y s' r => ⟨r.1, r.2 ▸ hR⟩) fun _ _ z => z
end
end Mine

end
section
open PySem PySem.W PySem.Calls PyProof.Rows PySem.Builtin PySem.Builtin.Str
set_option Elab.async false
set_option maxRecDepth 100000
namespace Mine
section
variable {C : Cx} {G : Fc} {ρ : Vars} {Q : D → Prop} {Z : Exn → Prop}
theorem OpW.repr_int {i : Int} (hi : i.natAbs.log2 < 1920) (h : Q (.str (digs i))) : OpW C G [.int i] (callV (.builtin "repr")) Q Z := .one fun ρ X s v o r1 => by
  obtain ⟨t, rfl⟩ := r1
  exact PySem.P.repr_of_int hi (VP.of (Step.tok o.inv _) (.mkStr rfl) h)
end
end Mine

end
section
open PySem PySem.W PySem.Calls PyProof.Rows PySem.Builtin PySem.Builtin.Str
set_option Elab.async false
set_option maxRecDepth 100000
set_option maxHeartbeats 1000000
namespace Mine
section
variable {C : Cx} {G : Fc} {B : Heap} {X : Addr → Prop} {O : List PySem.Str} {ρ ρ' : Vars} {own own' : List (PySem.Str × Addr)} {s s' : Shared} {P : Fl → Vars → Prop} {Zs : Exn → Vars → Prop} {Q : D → Prop} {Z : Exn → Prop} {R : Bool → Prop} {n : Nat}
noncomputable def OpT (n : Nat) (C : Cx) (G : Fc) (ds : List D) (op : List Value → Sem Value) (Q : D → Prop) (Z : Exn → Prop) : Prop :=
  ∀ ρ X s vs, Ok C G X ρ s → Reps C X s.heap vs ds → n ≤ s.toks → wpAny C.M G.A (op vs) (VP C X s Q) (XP C s Z) s
theorem EvT.call {x : PySem.Str} {np pos : Pos} {es : List Expr} {f : Value} (hx : G.env.kindOf x = some .globalImplicit) (hm : Means C x f) (hf : Callee C f)
    (h : EsW C G ρ es (fun ds => OpT n C G ds (callV f) Q Z) Z) (hs : noStars es = true := by rfl) (hd : (x == ("__debug__" : PySem.Str)) = false := by decide) : EvT n C G ρ (.Call (.Name x np) es [] pos) (fun d _ => Q d) Z := fun X s o hn => by
  refine PySem.wpAny_Call_NameR (loadGlob o hx hm ?_ hd)
  refine callWith_core hf hs o (wpAny_tk hn (wpAny_mono (h X s pos o) (fun vs s₁ q hn₁ => ?_) fun _ _ x _ => x))
  obtain ⟨st, ds, rs, p⟩ := q
  exact ⟨st, wpAny_mono (p ρ X s₁ vs (o.step st) rs hn₁) (fun _ _ x => x.back st) fun _ _ x => x.back o.inv st⟩
theorem TsT.cmp1 {l r : Expr} {op : CmpOp} {pos : Pos} (h : EvT n C G ρ l (fun d _ => kEv2 C G ρ r (cop op) (kTr C G R Z) Z d) Z) (hm : behindInMarks op r = false := by rfl) (o : Ok C G X ρ s) (hn : n ≤ s.toks) :
    wpAny C.M G.A (isTrue (.Compare l [op] [r] pos) G.env (eval (.Compare l [op] [r] pos) G.env)) (BP C s R) (XP C s Z) s := by
  refine wpAny_isTrue_Compare1 ?_ hm
  refine wpAny_mono (h X s o hn) (fun v s₁ q9 => ?_) fun _ _ x => x
  obtain ⟨st, d, rv, p⟩ := q9
  refine wpAny_mono (p X s₁ (o.step st)) (fun v' s₂ q9 => ?_) fun _ _ x => x.back o.inv st
  obtain ⟨st', d', rv', p'⟩ := q9
  refine wpAny_mono (p' ρ X s₂ [v, v'] ((o.step st).step st') (.mk2 (rv.step st.inv st') rv')) (fun v s' q9 => ?_) fun _ _ x => (x.back st.inv st').back o.inv st
  obtain ⟨st₃, d₃, r₃, p₃⟩ := q9
  exact wpAny_mono (p₃ ρ X s' v (((o.step st).step st').step st₃) r₃) (fun _ _ x => ((x.back st₃).back st').back st) fun _ _ x => ((x.back st'.inv st₃).back st.inv st').back o.inv st
theorem S1WT.ifC {l r : Expr} {op : CmpOp} {cpos pos : Pos} {a b : List Stmt} (h : EvT n C G ρ l (fun d _ => kEv2 C G ρ r (cop op) (kTr C G (kIf C G O ρ a b P Zs) (kZ Zs ρ)) (kZ Zs ρ) d) (kZ Zs ρ)) (hm : behindInMarks op r = false := by rfl) :
    S1WT n C G O ρ (.If (.Compare l [op] [r] cpos) a b pos) P Zs := fun B X own s o hn => by
  refine wpAny_If (wpAny_mono (TsT.cmp1 h hm o.full hn) (fun k s₁ q9 => ?_) fun _ _ x => x.sx o)
  obtain ⟨st, p⟩ := q9
  cases k with
  | true => exact p.1 rfl B X own s₁ (o.step st)
  | false => exact p.2 rfl B X own s₁ (o.step st)
noncomputable def BodyT (n : Nat) (C : Cx) (hd : Option Value) (O : List PySem.Str) (scope : Scope) (code : Value) (q : PySem.Str) (k : Nat) (ρ : Vars) (body : List Stmt) (Q : D → Prop) (Z : Exn → Prop) : Prop :=
  ∀ G', NewFr hd G' scope code q k → LeaveOk C G' O (fun x _ => Z x) ∧ SWT n C G' O ρ body (fun fl _ => match fl with | .ret d => Q d | .nxt => Q .none | _ => False) (fun x _ => Z x)
theorem OpT.fnIs {f : Addr} {body : List Stmt} {scope : Scope} {code : Value} {q : PySem.Str} {xs : List PySem.Str} {ds : List D} (hf : FnIs C f body scope code q xs) (hk : 0 < G.k) (hlen : xs.length = ds.length) (hloc : (xs.all fun x => kOk scope x && !O.contains x) = true)
    (h : BodyT n C G.A.handled O scope code q (G.k - 1) (puts xs ds []) body Q Z) : OpT n C G ds (callV (.ref f)) Q Z := fun ρ X s vs o r hn => by
  obtain ⟨fd, hf, rfl, rfl, rfl, hbind⟩ := hf
  obtain ⟨oc, od, osl, hK⟩ := hf.here
  have hin := o.inv.ok.kin.keeps o.inv.stays
  obtain ⟨fe, hfr, hfe, hfa⟩ := o.g.frames
  have gd := o.g
  refine wpAny_call (codeAny_mono (call_rawP (C := C) (X := X) (xs := xs) (ds := ds) (k := G.k - 1) (O := O) (Z := Z) (T := fun B X v s' => ∃ d, Rep C X s'.heap v d ∧ Q d) (hin _ _ hK) rfl (codeRec_of hin hf.code) hf.body hf.clo hf.glob hf.blt hf.kind hf.co hf.gen
    (by have := gd.depth; (lia)) (by have := gd.units; (lia)) hfr hfa gd.hnd o.x (hbind vs (by rw [r.length, hlen])) hlen (fun x hx => ?_) o.inv r fun G' N => ⟨(h G' N).1, fun s₂ o₂ ht => ?_⟩) fun r s' w => ?_)
  · have := List.all_eq_true.mp hloc x hx
    simp only [Bool.and_eq_true, kOk, Bool.or_eq_true, beq_iff_eq, Bool.not_eq_true'] at this
    exact ⟨this.1, by simpa using this.2⟩
  · refine wpAny_mono ((h G' N).2 _ X [] s₂ o₂ (Nat.le_trans hn ht)) (fun fl s' q => ?_) fun _ _ x => x
    obtain ⟨ρ', own', o', p⟩ := q
    refine ⟨ρ', own', o', ?_⟩
    cases fl with
    | next => exact ⟨.none, .mkNone, p⟩
    | brk => exact p.elim
    | cont => exact p.elim
    | ret v => exact p
  · match r, w with
    | .ok (.ret v), w => obtain ⟨st, d, r, p⟩ := w; exact ⟨st, d, r, p⟩
    | .error e, w => exact w
/-! ### signs whose tokens are known -/
noncomputable def tkD (p : Nat × Nat) : D := .val (.str ⟨#[p.1]⟩ p.2)
noncomputable def TkOk (n : Nat) (p : Nat × Nat) : Prop := 0 < p.2 ∧ p.2 < n
theorem Rep.tk {h : Heap} {v : Value} {p : Nat × Nat} (r : Rep C X h v (tkD p)) : Rep C X h v (.str [p.1]) := Exists.intro p.2 r
theorem Reps.tk {h : Heap} : ∀ {vs : List Value} {ps : List (Nat × Nat)}, Reps C X h vs (ps.map tkD) → Reps C X h vs ((ps.map fun p => [p.1]).map D.str)
  | [], [], _ => trivial
  | _ :: _, _ :: _, x => And.intro (Rep.tk x.1) (Reps.tk x.2)
  | [], _ :: _, x => False.elim x
  | _ :: _, [], x => False.elim x
noncomputable abbrev NmOk (x : PySem.Str) : Prop := (x == ("__debug__" : PySem.Str)) = false ∧ (x == ("__classdict__" : PySem.Str)) = false
theorem EvW.nameR {x : PySem.Str} {xp : Pos} {d d' : D} (hl : ρ.lookup x = some d) (hr : ∀ X h v, Rep C X h v d → Rep C X h v d') (h : Q d') (hd : NmOk x := by exact ⟨by decide, by decide⟩) : EvW C G ρ (.Name x xp) Q Z := fun X s o =>
  wpAny_mono ((EvW.name (C := C) (G := G) (pos := xp) (Q := fun e => e = d) (Z := Z) hl rfl hd.1 hd.2) X s o) (fun v s' q => by obtain ⟨st, e, r, rfl⟩ := q; exact ⟨st, d', hr _ _ _ r, h⟩) fun _ _ x => x
theorem EvW.nameTk {x : PySem.Str} {xp : Pos} {p : Nat × Nat} (hl : ρ.lookup x = some (tkD p)) (h : Q (.str [p.1])) (hd : NmOk x := by exact ⟨by decide, by decide⟩) : EvW C G ρ (.Name x xp) Q Z := EvW.nameR hl (fun _ _ _ r => r.tk) h hd
theorem EvW.nameTks {x : PySem.Str} {xp : Pos} {ps : List (Nat × Nat)} (hl : ρ.lookup x = some (.list (ps.map tkD))) (h : Q (.list ((ps.map fun p => [p.1]).map D.str))) (hd : NmOk x := by exact ⟨by decide, by decide⟩) : EvW C G ρ (.Name x xp) Q Z :=
  EvW.nameR hl (fun _ _ _ r => by obtain ⟨a, vs, h1, h2, h3, h4⟩ := r; exact Exists.intro a ⟨vs, h1, h2, h3, h4.tk⟩) h hd
end
end Mine

end
section
open PySem PySem.W PySem.Calls PyProof.Rows PySem.Builtin PySem.Builtin.Str
set_option Elab.async false
set_option maxRecDepth 100000
set_option maxHeartbeats 1000000
namespace Mine
section
variable {C : Cx} {G : Fc} {B : Heap} {X : Addr → Prop} {O : List PySem.Str} {ρ ρ' : Vars} {own own' : List (PySem.Str × Addr)} {s s' : Shared} {P : Fl → Vars → Prop} {Zs : Exn → Vars → Prop} {Q : D → Prop} {Z : Exn → Prop} {R : Bool → Prop} {n : Nat} {QT : D → Nat → Prop} {ST : List D → Nat → Prop}
theorem EvT.of {e : Expr} (h : EvW C G ρ e (fun d => ∀ k, n ≤ k → QT d k) Z) : EvT n C G ρ e QT Z := fun X s o hn =>
  wpAny_tk hn (wpAny_mono (h X s o) (fun v s' q hk => by obtain ⟨st, d, r, q⟩ := q; exact ⟨st, d, r, q _ hk⟩) fun _ _ x _ => x)
theorem EvT.str {x : PySem.Str} {k : Nat} {pos : Pos} (h : ∀ t, n ≤ t → QT (.val (.str x t)) (t + 1)) : EvT n C G ρ (.Constant (.str x) k pos) QT Z := fun X s o hn =>
  wpAny_Constant_str ⟨Step.tok o.inv _, .val _, rfl, h _ hn⟩
theorem EvT.bin {l r : Expr} {op : Operator} {pos : Pos} (h : EvT n C G ρ l (fun d k => EvT k C G ρ r (fun e k' => OpW C G [d, e] (bop op) (fun f => ∀ k'', k' ≤ k'' → QT f k'') Z) Z) Z) : EvT n C G ρ (.BinOp l op r pos) QT Z := fun X s o hn => by
  refine wpAny_BinOp (wpAny_mono (h X s o hn) (fun v s₁ q9 => ?_) fun _ _ x => x)
  obtain ⟨st, d, rv, p⟩ := q9
  refine wpAny_mono (p X s₁ (o.step st) (Nat.le_refl _)) (fun v' s₂ q9 => ?_) fun _ _ x => x.back o.inv st
  obtain ⟨st', d', rv', p'⟩ := q9
  refine wpAny_tk (Nat.le_refl s₂.toks) (wpAny_mono (p' ρ X s₂ [v, v'] ((o.step st).step st') (.mk2 (rv.step st.inv st') rv')) (fun v s' x hk => ?_) fun _ _ x _ => (x.back st.inv st').back o.inv st)
  obtain ⟨st3, f, rf, q⟩ := x
  exact ⟨(st.trans st').trans st3, f, rf, q _ hk⟩
noncomputable def EsT (n : Nat) (C : Cx) (G : Fc) (ρ : Vars) (es : List Expr) (S : List D → Nat → Prop) (Z : Exn → Prop) : Prop :=
  ∀ X s pos, Ok C G X ρ s → n ≤ s.toks → wpAny C.M G.A (spliced (backTo pos (starEach es G.env))) (fun vs s' => Step C s s' ∧ ∃ ds, Reps C X s'.heap vs ds ∧ S ds s'.toks) (XP C s Z) s
theorem EsT.nil (h : ∀ k, n ≤ k → ST [] k) : EsT n C G ρ [] ST Z := fun X s pos o hn => wpAny_items_nil ⟨Step.refl o.inv, [], trivial, h _ hn⟩
theorem EsT.cons {e : Expr} {es : List Expr} (h : EvT n C G ρ e (fun d k => EsT k C G ρ es (fun ds k' => ST (d :: ds) k') Z) Z) (hs : notStar e = true := by rfl) : EsT n C G ρ (e :: es) ST Z := fun X s pos o hn => by
  refine wpAny_items_cons ?_ (starEach_cons hs)
  refine wpAny_mono (h X s o hn) (fun v s₁ q9 => ?_) fun _ _ x => x
  obtain ⟨st, d, rv, p⟩ := q9
  exact wpAny_mono (p X s₁ pos (o.step st) (Nat.le_refl _)) (fun vs s₂ q => by obtain ⟨st', ds, rs, q⟩ := q; exact ⟨st.trans st', d :: ds, And.intro (rv.step st.inv st') rs, q⟩) fun _ _ x => x.back o.inv st
theorem EvT.list1 {e : Expr} {pos : Pos} (h : EvT n C G ρ e (fun d k => ∀ k', k ≤ k' → QT (.list [d]) k') Z) (hs : notStar e = true := by rfl) : EvT n C G ρ (.List [e] pos) QT Z := fun X s o hn => by
  refine wpAny_List (wpAny_mono (EsT.cons (ST := fun ds k => ds.length ≤ sizeLine ∧ QT (.list ds) k) (fun X s o hn => wpAny_mono (h X s o hn) (fun v s' q => by
    obtain ⟨st, d, r, q⟩ := q
    exact ⟨st, d, r, EsT.nil fun k hk => ⟨(by show 1 ≤ sizeLine; decide), q k hk⟩⟩) fun _ _ x => x) hs X s pos o hn) (fun vs s₁ q9 => ?_) fun _ _ x => x)
  obtain ⟨st, ds, rs, hl, q⟩ := q9
  refine ⟨by rw [rs.length]; exact hl, ?_⟩
  have fp := (FvP.new (S := fun es => es = ds) o st rs rfl).vp o
  obtain ⟨st2, d, r, es, rfl, rfl⟩ := fp
  exact ⟨st2, _, r, q⟩
theorem SWT.asgT {x : PySem.Str} {xp pos : Pos} {e : Expr} {ss : List Stmt} (hF : Fun G) (hk : Storable G x) (hx : x ∉ O) (hc : isComp e = false) (h : EvT n C G (safe O ρ) e (fun d k => SWT k C G O (put x d ρ) ss P Zs) (kZ Zs ρ)) :
    SWT n C G O ρ (.Assign [.Name x xp] e pos :: ss) P Zs := fun B X own s o hn => by
  refine wpAny_execs_cons ?_
  refine wpAny_Assign_Name ?_ (swaps_plain hc)
  refine wpAny_mono (h _ s o.safeE hn) (fun v s₁ q9 => ?_) fun _ _ x => x.sx o
  obtain ⟨st, d, r, p⟩ := q9
  refine wpAny_tk (Nat.le_refl s₁.toks) (store_loc (o.step st).g hk fun h' tk a l hk => ?_)
  exact p B X own _ ((o.step st).store hF.fr l hx r) hk
theorem EvT.chr {x y : PySem.Str} {np yp pos : Pos} {i : Nat} (hx : G.env.kindOf x = some .globalImplicit) (hm : Means C x (.builtin "chr")) (hl : ρ.lookup y = some (.int i)) (hi : i ≤ 1114111) (h : ∀ t k, n ≤ t → t < k → QT (tkD (i, t)) k) (hd : (x == ("__debug__" : PySem.Str)) = false := by decide) (hn' : NmOk y := by exact ⟨by decide, by decide⟩) :
    EvT n C G ρ (.Call (.Name x np) [.Name y yp] [] pos) QT Z := fun X s o hn => by
  refine PySem.wpAny_Call_NameR (loadGlob o hx hm ?_ hd)
  refine callWith_core Callee.blt rfl o (wpAny_tk hn (wpAny_mono (EsW.cons (C := C) (Z := Z) (S := fun ds => ds = [.int i]) (EvW.name hl (EsW.nil rfl) hn'.1 hn'.2) rfl X s pos o) (fun vs s₁ q hn₁ => ?_) fun _ _ x _ => x))
  obtain ⟨st, ds, rs, rfl⟩ := q
  refine ⟨st, ?_⟩
  obtain ⟨v, rfl, t, rfl⟩ := rs.one
  · refine PySem.P.chr_of_int (by simp; exact Int.ofNat_le.mpr hi) ⟨st.toks _, tkD (i, s₁.toks), ?_, h _ _ hn₁ (Nat.lt_succ_self _)⟩
    show Value.str ⟨#[(i : Int).toNat]⟩ _ = _
    rw [Int.toNat_natCast]
theorem EvT.chrK {x : PySem.Str} {np yp pos : Pos} {i kk : Nat} (hx : G.env.kindOf x = some .globalImplicit) (hm : Means C x (.builtin "chr")) (hi : i ≤ 1114111) (h : ∀ t k, n ≤ t → t < k → QT (tkD (i, t)) k) (hd : (x == ("__debug__" : PySem.Str)) = false := by decide) :
    EvT n C G ρ (.Call (.Name x np) [.Constant (.int (i : Int)) kk yp] [] pos) QT Z := fun X s o hn => by
  refine PySem.wpAny_Call_NameR (loadGlob o hx hm ?_ hd)
  refine callWith_core Callee.blt rfl o (wpAny_tk hn (wpAny_mono (EsW.cons (C := C) (Z := Z) (S := fun ds => ds = [.int i]) (EvW.int (EsW.nil rfl)) rfl X s pos o) (fun vs s₁ q hn₁ => ?_) fun _ _ x _ => x))
  obtain ⟨st, ds, rs, rfl⟩ := q
  refine ⟨st, ?_⟩
  obtain ⟨v, rfl, t, rfl⟩ := rs.one
  · refine PySem.P.chr_of_int (by simp; exact Int.ofNat_le.mpr hi) ⟨st.toks _, tkD (i, s₁.toks), ?_, h _ _ hn₁ (Nat.lt_succ_self _)⟩
    show Value.str ⟨#[(i : Int).toNat]⟩ _ = _
    rw [Int.toNat_natCast]
theorem IfsT.neInt {x : PySem.Str} {xp cp pos : Pos} {i j kk : Nat} {Q : Bool → Nat → Prop} (hl : ρ.lookup x = some (.int (i : Int))) (h : ∀ k, n < k → Q (!decide (i = j)) k) (hn' : NmOk x := by exact ⟨by decide, by decide⟩) : IfsT n C G ρ [.Compare (.Name x xp) [.NotEq] [.Constant (.int (j : Int)) kk cp] pos] Q := fun X s E o hn => by
  rw [List.forIn_cons]
  refine wpAny_bind ?_
  show wpAny C.M G.A (isTrue _ G.env (eval _ G.env) >>= fun ok => pure (ForInStep.yield ok)) _ E s
  refine wpAny_bind (wpAny_isTrue_Compare1 ?_ rfl)
  refine wpAny_tk hn (wpAny_mono ((EvW.name (C := C) (Z := fun _ => False) (Q := fun d => d = .int (i : Int)) hl rfl hn'.1 hn'.2) X s o) (fun v s₁ q hn₁ => ?_) fun _ _ x _ => by obtain ⟨_, _, _, z⟩ := x; exact z.elim)
  obtain ⟨st, d, rv, rfl⟩ := q
  refine wpAny_Constant_int ?_
  have st2 := st.toks (s₁.toks + 1)
  have o₂ := o.step st2
  refine wpAny_tk (n := s₁.toks + 1) (Nat.le_refl _) ?_
  refine wpAny_mono ((OpW.ne_int (Z := fun _ => False) (Q := fun d => d = .bool (!decide (i = j))) rfl) ρ X _ [v, .int j s₁.toks] o₂ (Reps.mk2 (d := .int i) (show Rep C X s₁.heap v (.int (i : Int)) from rv) (Rep.mkInt (i := j)))) (fun w s₃ q => ?_) fun _ _ x => by obtain ⟨_, _, _, z⟩ := x; exact z.elim
  obtain ⟨st3, d, rd, rfl⟩ := q
  intro hk3
  refine wpAny_tk hk3 (wpAny_mono ((TrW.bool (C := C) (G := G) (Z := fun _ => False) (R := fun b => b = !decide (i = j)) rfl) ρ X s₃ w (o₂.step st3) rd) (fun b s₄ q hk => ?_) fun _ _ x => by obtain ⟨_, _, _, z⟩ := x; exact z.elim)
  obtain ⟨st4, rfl⟩ := q
  refine wpAny_pure ?_
  show wpAny _ _ (forIn [] _ _) _ _ _
  rw [List.forIn_nil]
  exact wpAny_pure ⟨(st2.trans st3).trans st4, h _ (Nat.lt_of_le_of_lt hn₁ hk)⟩
/-! ### replace -/
theorem joinL_split {c d : Nat} : ∀ l : List Nat, joinL [d] (splitOn c l) = l.map fun a => if a = c then d else a
  | [] => rfl
  | x :: r => by
    have ih := joinL_split (c := c) (d := d) r
    have hne := splitOn_ne c r
    rw [List.map_cons, ← ih]
    simp only [splitOn]
    by_cases h : x = c
    · rw [if_pos h, if_pos h]
      cases hs : splitOn c r with
      | nil => exact absurd hs hne
      | cons p ps => rfl
    · rw [if_neg h, if_neg h]
      cases hs : splitOn c r with
      | nil => exact absurd hs hne
      | cons p ps => cases ps <;> rfl
theorem txt_replace_one (l : List Nat) (c d : Nat) : (Txt.replace ⟨l.toArray⟩ ⟨#[c]⟩ ⟨#[d]⟩).cps.toList = l.map fun a => if a = c then d else a := by
  rw [StrLaws.replace_one, str_join_eq, txt_split_one]
  exact joinL_split l
theorem OpW.replaceTk {l : List Nat} {p q : Nat × Nat} (h1 : 0 < p.2) (h2 : p.2 < q.2) (hne : p.1 ≠ q.1) (hl : l.length ≤ 1048576) (h : Q (.str (l.map fun a => if a = p.1 then q.1 else a))) : OpW C G [.str l, tkD p, tkD q] (callV (.builtin "str.replace")) Q Z := .three fun ρ X s v w u o r1 r2 r3 => by
  obtain ⟨t, rfl⟩ := r1
  have r2 : w = .str ⟨#[p.1]⟩ p.2 := r2
  have r3 : u = .str ⟨#[q.1]⟩ q.2 := r3
  subst r2 r3
  refine PySem.SC.replaceW (Nat.ne_of_gt h1) (Nat.ne_of_gt (Nat.lt_trans h1 h2)) (Nat.ne_of_lt h2) ?_ (by simpa [PySem.Str.length] using hl) (by show 1 ≤ 14; decide) fun t' k => ?_
  · exact beq_eq_false_iff_ne.mpr fun e => hne (by injection e with e; injection e with e; exact List.head_eq_of_cons_eq e)
  · exact VP.of (Step.tok o.inv _) (.mkStr (txt_replace_one l p.1 q.1)) h
theorem EvT.replace {y : PySem.Str} {x : PySem.Str} {z : PySem.Str} {yp xp zp apos pos : Pos} {kk d : Nat} {l : List Nat} {p : Nat × Nat} (hy : ρ.lookup y = some (.str l)) (hx : ρ.lookup x = some (tkD p)) (hz : z = ⟨#[d]⟩) (hp : TkOk n p) (hd : p.1 ≠ d) (hl : l.length ≤ 1048576) (h : Q (.str (l.map fun a => if a = p.1 then d else a)))
    (hline : (apos.endLine == pos.line) = true := by rfl) (hn1 : NmOk y := by exact ⟨by decide, by decide⟩) (hn2 : NmOk x := by exact ⟨by decide, by decide⟩) : EvT n C G ρ (.Call (.Attribute (.Name y yp) "replace" apos) [.Name x xp, .Constant (.str z) kk zp] [] pos) (fun d _ => Q d) Z := fun X s o hn => by
  refine PySem.wpAny_Call_method (T := "str") (id := "str.replace") (by intros; rfl) ?_ hline F.plainAttrs_str F.slot_str_replace F.type_str_replace ?_
  · have : (backTo pos (starEach [.Name x xp, .Constant (.str z) kk zp] G.env)).all (fun x => !x.1) = true := rfl
    rw [this]
    simp
    exact fun a b hm => (List.not_mem_nil hm).elim
  · refine wpAny_tk hn (wpAny_mono ((EvW.name (C := C) (Z := Z) (Q := fun e => e = .str l) hy rfl hn1.1 hn1.2) X s o) (fun v s₁ q9 hn₁ => ?_) fun _ _ x _ => x)
    obtain ⟨st, e, rv, rfl⟩ := q9
    have rv' := rv
    obtain ⟨t, rfl⟩ := rv'
    refine ⟨typeIs_str _ _ _, fun b e => (by cases e), ?_⟩
    refine callWith_core (first := [_]) Callee.blt rfl (o.step st) (wpAny_mono (EsT.cons (n := n) (C := C) (ρ := ρ) (Z := Z) (ST := fun ds k => ∃ t, n ≤ t ∧ ds = [tkD p, tkD (d, t)]) (EvT.of (EvW.name hx (fun k hk => EsT.cons (EvT.str fun t ht => EsT.nil fun k' hk' => ⟨t, Nat.le_trans hk ht, by rw [hz]; rfl⟩)) hn2.1 hn2.2)) rfl X s₁ pos (o.step st) hn₁) (fun vs s₂ q => ?_) fun _ _ x => x.back o.inv st)
    obtain ⟨st', ds, rs, t₂, ht, rfl⟩ := q
    refine ⟨st', ?_⟩
    refine wpAny_mono (OpW.replaceTk (C := C) (G := G) (Q := Q) (Z := Z) (p := p) (q := (d, t₂)) hp.1 (Nat.lt_of_lt_of_le hp.2 ht) hd hl h ρ X s₂ (_ :: vs) ((o.step st).step st') (And.intro (rv.step st.inv st') rs)) (fun _ _ x => (x.back st').back st) fun _ _ x => (x.back st.inv st').back o.inv st
theorem S1WT.asg {x : PySem.Str} {xp pos : Pos} {e : Expr} (hF : Fun G) (hk : Storable G x) (hx : x ∉ O) (hc : isComp e = false) (h : EvT n C G (safe O ρ) e (fun d _ => P .nxt (put x d ρ)) (kZ Zs ρ)) :
    S1WT n C G O ρ (.Assign [.Name x xp] e pos) P Zs := fun B X own s o hn => by
  refine wpAny_Assign_Name ?_ (swaps_plain hc)
  refine wpAny_mono (h _ s o.safeE hn) (fun v s₁ q9 => ?_) fun _ _ x => x.sx o
  obtain ⟨st, d, r, p⟩ := q9
  exact store_loc (o.step st).g hk fun h' tk a l => ⟨_, own, (o.step st).store hF.fr l hx r, p⟩
theorem OpW.startswith {x y : List Nat} (h : Q (.bool (decide (x.take y.length = y)))) : OpW C G [.str x, .str y] (callV (.builtin "str.startswith")) Q Z := .two fun ρ X s v w o r1 r2 => by
  obtain ⟨t, rfl⟩ := r1; obtain ⟨u, rfl⟩ := r2
  refine PySem.SC.startswith (VP.of (Step.refl o.inv) .mkBool ?_)
  have e : Txt.startswith ⟨x.toArray⟩ ⟨y.toArray⟩ = decide (x.take y.length = y) := by
    show (decide (0 + (⟨y.toArray⟩ : PySem.Str).length ≤ (⟨x.toArray⟩ : PySem.Str).length) && subAt ⟨x.toArray⟩ ⟨y.toArray⟩ 0) = _
    rw [StrLaws.subAt_eq]
    have e1 : (⟨y.toArray⟩ : PySem.Str).length = y.length := by simp [PySem.Str.length]
    have e2 : (⟨x.toArray⟩ : PySem.Str).length = x.length := by simp [PySem.Str.length]
    rw [e1, e2, Nat.zero_add]
    by_cases h : x.take y.length = y
    · have : y.length ≤ x.length := by rw [← h, List.length_take]; exact Nat.min_le_right _ _
      rw [decide_eq_true this, decide_eq_true h]
      simpa using h
    · rw [decide_eq_false h]
      simpa using fun _ => h
  rw [e]; exact h
end
end Mine

end
section
open PySem PySem.W PySem.Calls PyProof.Rows PySem.Builtin PySem.Builtin.Str
set_option Elab.async false
set_option maxRecDepth 100000
set_option maxHeartbeats 1000000
namespace Mine
namespace E11
section
variable {C : Cx} {G : Fc} {ρ : Vars} {Q : D → Prop} {Z : Exn → Prop} {P : Fl → Vars → Prop} {Zs : Exn → Vars → Prop}
theorem St.chrM (S : St C) : Means C "chr" (.builtin "chr") := .of_none (S.no _ (by decide)) PyProof.Rows.Boot.«chr» (by decide)
theorem St.divmodM (S : St C) : Means C "divmod" (.builtin "divmod") := .of_none (S.no _ (by decide)) PyProof.Rows.Boot.«divmod» (by decide)
theorem modN (a b : Nat) : Int.fmod (a : Int) (b : Int) = ((a % b : Nat) : Int) := by rw [Int.fmod_eq_emod_of_nonneg _ (Int.natCast_nonneg _)]; rfl
theorem divN (a b : Nat) : Int.fdiv (a : Int) (b : Int) = ((a / b : Nat) : Int) := by rw [Int.fdiv_eq_ediv_of_nonneg _ (Int.natCast_nonneg _)]; rfl
noncomputable def ctl (t : Int) : Nat := (Int.fmod (t + 28) 32).toNat
theorem ctl_lt (t : Int) : ctl t < 32 := by
  unfold ctl
  have := Int.fmod_lt_of_pos (t + 28) (show (0 : Int) < 32 by decide)
  (lia)
theorem ctl_eq (t : Int) : Int.fmod (t + 28) 32 = (ctl t : Int) := by
  unfold ctl
  have := Int.fmod_nonneg_of_pos (t + 28) (show (0 : Int) < 32 by decide)
  (lia)
noncomputable def sgL (c : Nat) : List Nat := [97, 98, 39, 35, 10, 9, 13, 0, c, 127, 32, 92, 34, 233, 128512, 61]
noncomputable abbrev chD (l : List Nat) : D := .list (l.map fun c => .str [c])
theorem sgW (S : St C) (hk : 1 ≤ G.k) (t : Int) (h : Q (chD (sgL (ctl t)))) : OpW C G [.int t] (callV (.ref 77)) Q Z := by
  refine OpW.fnIs (O := []) S.lsigns (by (assumption)) rfl (by decide +kernel) fun G' N => ⟨.all N.fn, ?_⟩
  have hF := N.fn
  have hsc := N.scope
  have hc := ctl_lt t
  refine SW.cons ?_
  with_reducible refine S1W.asg hF ?_ ?_ ?_ ?_
  · exact .sc hF hsc rfl
  · exact List.not_mem_nil
  · rfl
  rw [safe_nil]
  with_reducible refine FvW.ev ?_
  with_reducible refine FvW.list ?_
  refine EsW.cons ?_
  with_reducible refine EvW.str ?_
  refine EsW.cons ?_
  with_reducible refine EvW.str ?_
  refine EsW.cons ?_
  with_reducible refine EvW.str ?_
  refine EsW.cons ?_
  with_reducible refine EvW.str ?_
  refine EsW.cons ?_
  with_reducible refine EvW.strNl ?_
  refine EsW.cons ?_
  with_reducible refine EvW.str ?_
  refine EsW.cons ?_
  with_reducible refine EvW.str ?_
  refine EsW.cons ?_
  with_reducible refine EvW.str ?_
  refine EsW.cons ?_
  refine EvW.call (kind_of hsc rfl) S.chrM Callee.blt ?_
  (refine EsW.cons ?_; (with_reducible refine EvW.bin ?_); (with_reducible refine EvW.bin ?_); refine EvW.name rfl ?_; (with_reducible refine EvW.int ?_); (with_reducible refine OpW.add_int ?_); (with_reducible refine EvW.int ?_))
  refine OpW.mod_int (by decide) ?_
  rw [ctl_eq]
  with_reducible refine EsW.nil ?_
  refine OpW.chr (Int.natCast_nonneg _) (by (lia)) ?_
  (refine EsW.cons ?_; (with_reducible refine EvW.str ?_); (with_reducible refine EsW.nil ?_))
  refine ⟨by show 10 ≤ sizeLine; decide, ?_⟩
  refine SW.one (S1W.ret ?_)
  with_reducible refine EvW.bin ?_
  refine EvW.name rfl ?_
  with_reducible refine FvW.ev ?_
  with_reducible refine FvW.list ?_
  (refine EsW.cons ?_; (with_reducible refine EvW.str ?_); refine EsW.cons ?_; (with_reducible refine EvW.str ?_); refine EsW.cons ?_; (with_reducible refine EvW.str ?_); refine EsW.cons ?_; (with_reducible refine EvW.str ?_); refine EsW.cons ?_; (with_reducible refine EvW.str ?_); refine EsW.cons ?_; (with_reducible refine EvW.str ?_); (with_reducible refine EsW.nil ?_))
  refine ⟨by show 6 ≤ sizeLine; decide, ?_⟩
  refine FoW.op (FoW.add_list (by show 16 ≤ sizeLine; decide) ?_)
  exact h
noncomputable abbrev sv (ns : List Int) (c : Nat) (u : List Nat) : Vars := [("script", .list (ns.map .int)), ("signs", chD (sgL c)), ("text", .str u)]
noncomputable def Drawn (c : Nat) (u : List Nat) : Prop := u.length ≤ 40 ∧ ∀ a ∈ u, a ∈ sgL c
theorem Drawn.snoc {c a : Nat} {u : List Nat} (h : Drawn c u) (hl : u.length < 40) (ha : a ∈ sgL c) : Drawn c (u ++ [a]) :=
  ⟨by rw [List.length_append, List.length_singleton]; (assumption), fun e he => (List.mem_append.mp he).elim (h.2 e) fun q => by rw [List.mem_singleton.mp q]; exact ha⟩
theorem sg_get {c k : Nat} (h : k < 16) : (sgL c).getD k 0 ∈ sgL c := by
  rw [List.getD_eq_getElem?_getD, List.getElem?_eq_getElem (show k < (sgL c).length from h)]; exact List.getElem_mem _
theorem txTurn (S : St C) (hF : Fun G) (hsc : G.env.scope = ltextS) (hh : G.A.handled = none) (ns : List Int) (x : Int) (c : Nat) (u : List Nat) (hu : Drawn c u) :
    SW C G [] (("x", .int x) :: sv ns c u) (forB ltextB[1]?) (fun fl ρ => match fl with
      | .nxt => ∃ u', Drawn c u' ∧ Sub (sv ns c u') ρ
      | _ => False) (fun _ _ => False) := by
  have hsz : sizeLine = 16777216 := rfl
  refine SW.cons ?_
  refine S1W.asgP hF (.sc hF hsc rfl) (by decide) rfl ?_
  refine EvW.det (x := natD (if 0 ≤ x then (2 * x).toNat else (-2 * x - 1).toNat)) ?_ ⟨rfl, ?_⟩
  · refine EvW.ifExp ?_
    (refine TsW.cmp1 ?_; refine EvW.name rfl ?_; (with_reducible refine EvW.int ?_); (with_reducible refine OpW.ge_int ?_); (with_reducible refine TrW.bool ?_))
    refine ⟨fun h1 => ?_, fun h1 => ?_⟩
    · have h1 := of_decide_eq_true h1
      ((with_reducible refine EvW.bin ?_); (with_reducible refine EvW.int ?_); refine EvW.name rfl ?_)
      refine OpW.mul_int (.of_left (by decide)) ?_
      rw [if_pos h1]
      show D.int _ = D.int _
      congr 1; (lia)
    · have h1 := of_decide_eq_false h1
      ((with_reducible refine EvW.bin ?_); (with_reducible refine EvW.bin ?_); (with_reducible refine EvW.un ?_); (with_reducible refine EvW.int ?_); (with_reducible refine OpW.neg_int ?_); refine EvW.name rfl ?_)
      refine OpW.mul_int (.of_left (by decide)) ?_
      ((with_reducible refine EvW.int ?_); (with_reducible refine OpW.sub_int ?_))
      rw [if_neg h1]
      show D.int _ = D.int _
      congr 1; (lia)
  generalize (if 0 ≤ x then (2 * x).toNat else (-2 * x - 1).toNat) = n
  refine SW.one ?_
  refine S1W.whl (.none (by simp)) (fun k ρ => ∃ (u : List Nat) (n : Nat), Drawn c u ∧ k = 40 - u.length ∧ Sub (("n", natD n) :: sv ns c u) ρ) (40 - u.length) ⟨u, n, hu, rfl, .cons rfl (.cons rfl (.cons rfl (.cons rfl .nil)))⟩ ?_
  rintro k ρ ⟨u, n, hu, rfl, hs⟩
  refine TsW.weak ?_ hs
  refine TsW.cmp1 ?_
  refine EvW.call (kind_of hsc rfl) S.len Callee.blt ?_
  (refine EsW.cons ?_; refine EvW.name rfl ?_; (with_reducible refine EsW.nil ?_))
  refine OpW.len_str (by have := hu.1; (exact lin2 this (show 4611686018427387904 ≤ 2 ^ 62 by decide +kernel) (by simp +arith only))) ?_
  ((with_reducible refine EvW.int ?_); (with_reducible refine OpW.lt_int ?_); (with_reducible refine TrW.bool ?_))
  refine ⟨fun h1 => ⟨u, hu, (Sub.cons rfl (.cons rfl (.cons rfl .nil))).trans hs⟩, fun h1 => ?_⟩
  have h1 := of_decide_eq_true h1
  refine SW.sub ?_ hs
  refine SW.cons ?_
  refine S1W.unpP (xs := [(_, _), (_, _)]) hF hh rfl (by decide) (.all hF hsc rfl) (by decide) rfl rfl ?_
  refine EvW.call (kind_of hsc rfl) S.divmodM Callee.blt ?_
  (refine EsW.cons ?_; refine EvW.name rfl ?_; refine EsW.cons ?_; (with_reducible refine EvW.int ?_); (with_reducible refine EsW.nil ?_))
  refine OpW.divmod (by decide) (by decide) ⟨_, rfl, rfl, rfl, ?_⟩
  rw [show Int.fdiv (n : Int) 16 = ((n / 16 : Nat) : Int) from divN n 16, show Int.fmod (n : Int) 16 = ((n % 16 : Nat) : Int) from modN n 16]
  have hm : n % 16 < 16 := Nat.mod_lt _ (by decide)
  have hu' := hu.snoc (a := (sgL c).getD (n % 16) 0) (by (lia)) (sg_get hm)
  refine SW.cons ?_
  refine S1W.aug hF (.sc hF hsc rfl) (by decide) rfl ?_
  ((with_reducible refine EvW.sub ?_); refine EvW.name rfl ?_; refine EvW.name rfl ?_)
  refine OpW.idx_map (f := fun c => D.str [c]) (l := sgL c) (d := 0) hm (by show 16 < 2 ^ 62; decide) ?_
  refine OpW.iadd_str (by rw [List.length_append, List.length_singleton]; (lia)) ⟨rfl, ?_⟩
  refine SW.sub (ρ := ("n", natD (n / 16)) :: sv ns c (u ++ [(sgL c).getD (n % 16) 0])) ?_ (.cons rfl (.cons rfl (.cons rfl (.cons rfl .nil))))
  refine SW.one (S1W.ifs ?_)
  (refine TsW.cmp1 ?_; refine EvW.name rfl ?_; (with_reducible refine EvW.int ?_))
  refine OpW.eq_int (b := 0) ?_
  with_reducible refine TrW.bool ?_
  refine ⟨fun _ => SW.one (S1W.brk ⟨_, hu', .cons rfl (.cons rfl (.cons rfl .nil))⟩), fun _ => SW.nil ⟨_, ?_, _, _, hu', rfl, .refl⟩⟩
  rw [List.length_append, List.length_singleton]; (lia)
noncomputable def tailL (c : Nat) : List Nat := [39, 35, 0, 97, c, 0, 10]
theorem txW (S : St C) (hk : 1 ≤ G.k) (hh : G.A.handled = none) (ns : List Int) (c : Nat) (h : ∀ u, Drawn c u → Q (.str (u ++ tailL c))) : OpW C G [.list (ns.map .int), chD (sgL c)] (callV (.ref 84)) Q Z := by
  refine OpW.fnIs (O := []) S.ltext (by (assumption)) rfl (by decide +kernel) fun G' N => ⟨.all N.fn, ?_⟩
  have hF := N.fn
  have hsc := N.scope
  have hh' : G'.A.handled = none := N.hnd.trans hh
  have hsz : sizeLine = 16777216 := rfl
  refine SW.cons ?_
  refine S1W.asgP hF (.sc hF hsc rfl) (by decide) rfl ?_
  with_reducible refine EvW.strNil ?_
  refine ⟨rfl, ?_⟩
  refine SW.cons (S1W.for_ hF hh' (.all hF) (fun x => rfl) ?_)
  rw [safe_nil]
  refine EvW.name rfl ?_
  refine ⟨_, rfl, fun i ρ => ∃ u, Drawn c u ∧ Sub (sv ns c u) ρ, ⟨[], ⟨Nat.zero_le _, fun _ q => by cases q⟩, .cons rfl (.cons rfl (.cons rfl .nil))⟩, fun ρ hJ => ?_, fun i d ρ hd hJ => ?_⟩
  · obtain ⟨u, hu, hs⟩ := hJ
    refine SW.sub ?_ hs
    have := hu.1
    refine SW.one (S1W.ret ?_)
    with_reducible refine EvW.bin ?_
    with_reducible refine EvW.bin ?_
    with_reducible refine EvW.bin ?_
    refine EvW.name rfl ?_
    with_reducible refine EvW.str ?_
    have t1 : (PySem.Str.ofString "'#\x00a").cps.toList.length = 4 := rfl
    have t2 : (PySem.Str.ofString "\x00\n").cps.toList.length = 2 := rfl
    refine OpW.add_str (by rw [List.length_append]; (exact lin3 this (Nat.le_of_eq t1) (Nat.le_of_eq (Eq.symm hsz)) (by simp +arith only))) ?_
    ((with_reducible refine EvW.sub ?_); refine EvW.name rfl ?_; (with_reducible refine EvW.int ?_))
    refine OpW.idx_map (f := fun c => D.str [c]) (l := sgL c) (d := 0) (k := 8) (by show 8 < 16; decide) (by show 16 < 2 ^ 62; decide) ?_
    refine OpW.add_str (by rw [List.length_append, List.length_append, List.length_singleton]; (exact lin3 this (Nat.le_of_eq t1) (Nat.le_of_eq (Eq.symm hsz)) (by simp +arith only))) ?_
    with_reducible refine EvW.str ?_
    refine OpW.add_str (by rw [List.length_append, List.length_append, List.length_append, List.length_singleton]; (exact lin4 this (Nat.le_of_eq t1) (Nat.le_of_eq t2) (Nat.le_of_eq (Eq.symm hsz)) (by simp +arith only))) ?_
    rw [List.append_assoc, List.append_assoc]
    exact h u hu
  · obtain ⟨u, hu, hs⟩ := hJ
    obtain ⟨x, hx, rfl⟩ := List.mem_map.mp (List.mem_of_getElem? hd)
    refine ⟨_, TgW.name hF (.sc hF hsc rfl) (by decide), ?_⟩
    refine SW.sub (ρ := ("x", .int x) :: sv ns c u) ?_ (Sub.trans (.cons rfl (.cons rfl (.cons rfl (.cons rfl .nil)))) (Sub.put hs))
    refine (txTurn S hF hsc hh' ns x c u hu).mono (fun fl ρ q => ?_) fun _ _ z => z.elim
    cases fl <;> first | exact q | exact q.elim
end
end E11
end Mine

end
section
open PySem PySem.W PySem.Calls PyProof.Rows PySem.Builtin PySem.Builtin.Str
set_option Elab.async false
set_option maxRecDepth 100000
set_option maxHeartbeats 1000000
namespace Mine
namespace E11
noncomputable def al : List Nat := [0, 1, 2, 3, 4, 5, 6, 7, 8, 9, 10, 11, 12, 13, 14, 15, 16, 17, 18, 19, 20, 21, 22, 23, 24, 25, 26, 27, 28, 29, 30, 31, 127, 97, 98, 39, 35, 32, 92, 34, 233, 128512, 61, 120]
noncomputable def Al (l : List Nat) : Prop := ∀ c ∈ l, c ∈ al
noncomputable def hx (k : Nat) : Nat := (PySem.Str.ofString "0123456789abcdef").cps.toList.getD k 0
noncomputable def qC (q c : Nat) : List Nat := if [c] ∈ [[92], [q]] then [92, c] else if [c] ∈ [[9], [10], [13]] then [92, if c = 9 then 116 else if c = 10 then 110 else 114] else if c < 32 ∨ c = 127 then [92, 120, hx (c / 16), hx (c % 16)] else [c]
theorem qC_eq {q c : Nat} (hq : q = 34 ∨ q = 39) (hc : c ∈ al) : reprChar q c = qC q c := by
  have : ∀ c ∈ al, reprChar 34 c = qC 34 c ∧ reprChar 39 c = qC 39 c := by decide +kernel
  rcases hq with rfl | rfl
  · exact (this c hc).1
  · exact (this c hc).2
theorem qC_len (q c : Nat) : (qC q c).length ≤ 4 := by
  unfold qC
  split
  · exact (by decide : 2 ≤ 4)
  · split
    · exact (by decide : 2 ≤ 4)
    · split
      · exact (by decide : 4 ≤ 4)
      · exact (by decide : 1 ≤ 4)
theorem mark_cases (l : List Nat) : markOf l = 34 ∨ markOf l = 39 := by
  unfold markOf
  split
  · exact .inl rfl
  · exact .inr rfl
theorem repr_al {l : List Nat} (h : Al l) : repr_ l = markOf l :: (l.flatMap (qC (markOf l)) ++ [markOf l]) := by
  rw [repr_eq]
  congr 2
  rw [List.flatMap_def, List.flatMap_def]
  exact congrArg List.flatten (List.map_congr_left fun c hc => qC_eq (mark_cases l) (h c hc))
theorem flat_len (q : Nat) : ∀ l : List Nat, (l.flatMap (qC q)).length ≤ 4 * l.length
  | [] => Nat.zero_le _
  | c :: r => by
    have := flat_len q r
    have := qC_len q c
    rw [List.flatMap_cons, List.length_append, List.length_cons]; (lia)
theorem repr_al_len {l : List Nat} (h : Al l) : (repr_ l).length ≤ 4 * l.length + 2 := by
  rw [repr_al h, List.length_cons, List.length_append, List.length_singleton]
  have := flat_len (markOf l) l
  (exact lin1 this (by simp +arith only))
section
variable {C : Cx} {G : Fc} {ρ : Vars} {Q : D → Prop} {Z : Exn → Prop} {P : Fl → Vars → Prop} {Zs : Exn → Vars → Prop}
theorem St.ordM (S : St C) : Means C "ord" (.builtin "ord") := .of_none (S.no _ (by decide)) PyProof.Rows.Boot.«ord» (by decide)
noncomputable abbrev qv (l : List Nat) (q : Nat) (w : List Nat) : Vars := [("text", .str l), ("mark", .str [q]), ("written", .str w)]
noncomputable abbrev QuPost (l : List Nat) (q : Nat) (w : List Nat) (fl : Fl) (ρ : Vars) : Prop := match fl with
  | .nxt => Sub (qv l q w) ρ
  | _ => False
theorem quTurn (S : St C) (hF : Fun G) (hsc : G.env.scope = lquotedS) (l : List Nat) (q c : Nat) (w : List Nat) (hw : w.length < 2 ^ 16) :
    SW C G [] (("sign", .str [c]) :: qv l q w) (forB lquotedB[2]?) (QuPost l q (w ++ qC q c)) (fun _ _ => False) := by
  have hsz : sizeLine = 16777216 := rfl
  refine SW.one (S1W.ifs ?_)
  (refine TsW.cmp1 ?_; refine EvW.name rfl ?_; (with_reducible refine EvW.tuple ?_); refine EsW.cons ?_; (with_reducible refine EvW.str ?_); refine EsW.cons ?_; refine EvW.name rfl ?_; (with_reducible refine EsW.nil ?_))
  refine ⟨by show 2 ≤ sizeLine; decide, ?_⟩
  refine OpW.in_tup (ls := [[92], [q]]) ?_
  with_reducible refine TrW.bool ?_
  unfold qC
  refine ⟨fun h1 => ?_, fun h1 => ?_⟩
  · rw [if_pos (of_decide_eq_true h1)]
    refine SW.one ?_
    refine S1W.aug hF (.sc hF hsc rfl) (by decide) rfl ?_
    ((with_reducible refine EvW.bin ?_); (with_reducible refine EvW.str ?_); refine EvW.name rfl ?_)
    refine OpW.add_str (by show 2 ≤ sizeLine; decide) ?_
    refine OpW.iadd_str (by rw [List.length_append]; show w.length + 2 ≤ sizeLine; (exact lin3 hw (show 2 ^ 16 ≤ 65536 by decide +kernel) (Nat.le_of_eq (Eq.symm hsz)) (by simp +arith only))) ⟨rfl, ?_⟩
    exact .cons rfl (.cons rfl (.cons rfl .nil))
  rw [if_neg (of_decide_eq_false h1)]
  refine SW.one (S1W.ifs ?_)
  (refine TsW.cmp1 ?_; refine EvW.name rfl ?_; (with_reducible refine EvW.tuple ?_); refine EsW.cons ?_; (with_reducible refine EvW.str ?_); refine EsW.cons ?_; (with_reducible refine EvW.strNl ?_); refine EsW.cons ?_; (with_reducible refine EvW.str ?_); (with_reducible refine EsW.nil ?_))
  refine ⟨by show 3 ≤ sizeLine; decide, ?_⟩
  refine OpW.in_tup (ls := [[9], [10], [13]]) ?_
  with_reducible refine TrW.bool ?_
  refine ⟨fun h2 => ?_, fun h2 => ?_⟩
  · have h2 := of_decide_eq_true h2
    rw [if_pos h2]
    refine SW.one ?_
    refine S1W.aug hF (.sc hF hsc rfl) (by decide) rfl ?_
    with_reducible refine EvW.sub ?_
    with_reducible refine EvW.dictS ?_ ?_ ?_ ?_ ?_
    · decide
    rotate_left
    · rfl
    · rfl
    · exact List.cons_ne_nil _ _
    repeat (with_reducible refine PsW.cons (EvW.str (EvW.str ?_)))
    with_reducible refine PsW.nil ?_
    with_reducible refine Exists.intro [PySem.Str.ofString "\t", PySem.Str.ofString "\n", PySem.Str.ofString "\r"] (And.intro ?_ (And.intro ?_ ?_))
    · rfl
    · decide +kernel
    refine EvW.name rfl ?_
    refine OpW.idx_dictS (xs := [[9], [10], [13]]) (d := .str [92, if c = 9 then 116 else if c = 10 then 110 else 114]) rfl (by decide) ?_ ?_
    · have e : c = 9 ∨ c = 10 ∨ c = 13 := by simpa using h2
      rcases e with rfl | rfl | rfl <;> rfl
    refine OpW.iadd_str (by rw [List.length_append]; show w.length + 2 ≤ sizeLine; (exact lin3 hw (show 2 ^ 16 ≤ 65536 by decide +kernel) (Nat.le_of_eq (Eq.symm hsz)) (by simp +arith only))) ⟨rfl, ?_⟩
    exact .cons rfl (.cons rfl (.cons rfl .nil))
  rw [if_neg (of_decide_eq_false h2)]
  refine SW.one (S1W.ifs ?_)
  refine TsW.det (x := decide (c < 32 ∨ c = 127)) ?_ ?_
  · with_reducible refine TsW.boolOp ?_
    with_reducible refine AllW.or_cons ?_
    refine TsW.cmp1 ?_
    refine EvW.call (kind_of hsc rfl) S.ordM Callee.blt ?_
    (refine EsW.cons ?_; refine EvW.name rfl ?_; (with_reducible refine EsW.nil ?_))
    refine OpW.ord ?_
    ((with_reducible refine EvW.int ?_); (with_reducible refine OpW.lt_int ?_); (with_reducible refine TrW.bool ?_))
    refine ⟨fun h3 => ?_, fun h3 => ?_⟩
    · have h3 := of_decide_eq_true h3
      exact (decide_eq_true (Or.inl (by (lia)))).symm
    · have h3 := of_decide_eq_false h3
      with_reducible refine AllW.or_cons ?_
      refine TsW.cmp1 ?_
      refine EvW.call (kind_of hsc rfl) S.ordM Callee.blt ?_
      (refine EsW.cons ?_; refine EvW.name rfl ?_; (with_reducible refine EsW.nil ?_))
      refine OpW.ord ?_
      with_reducible refine EvW.int ?_
      refine OpW.eq_int (b := 127) ?_
      with_reducible refine TrW.bool ?_
      refine ⟨fun h4 => (decide_eq_true (Or.inr (of_decide_eq_true h4))).symm, fun h4 => AllW.or_nil ?_⟩
      have h4 := of_decide_eq_false h4
      exact (decide_eq_false fun z => z.elim (fun z => h3 (by (lia))) h4).symm
  refine ⟨fun h3 => ?_, fun h3 => ?_⟩
  · have h3 := of_decide_eq_true h3
    rw [if_pos h3]
    refine SW.one ?_
    refine S1W.aug hF (.sc hF hsc rfl) (by decide) rfl ?_
    with_reducible refine EvW.bin ?_
    with_reducible refine EvW.bin ?_
    with_reducible refine EvW.str ?_
    with_reducible refine EvW.sub ?_
    with_reducible refine EvW.str ?_
    with_reducible refine EvW.bin ?_
    refine EvW.call (kind_of hsc rfl) S.ordM Callee.blt ?_
    (refine EsW.cons ?_; refine EvW.name rfl ?_; (with_reducible refine EsW.nil ?_))
    refine OpW.ord ?_
    with_reducible refine EvW.int ?_
    refine OpW.floordiv_int (by decide) (by decide) ?_
    rw [show Int.fdiv (c : Int) 16 = ((c / 16 : Nat) : Int) from divN c 16]
    have hx16 : (PySem.Str.ofString "0123456789abcdef").cps.toList.length = 16 := rfl
    refine OpW.idx_chr (by rw [hx16]; (lia)) (by rw [hx16]; decide) ?_
    refine OpW.add_str (by rw [List.length_append]; show 2 + 1 ≤ sizeLine; decide) ?_
    with_reducible refine EvW.sub ?_
    with_reducible refine EvW.str ?_
    with_reducible refine EvW.bin ?_
    refine EvW.call (kind_of hsc rfl) S.ordM Callee.blt ?_
    (refine EsW.cons ?_; refine EvW.name rfl ?_; (with_reducible refine EsW.nil ?_))
    refine OpW.ord ?_
    with_reducible refine EvW.int ?_
    refine OpW.mod_int (by decide) ?_
    rw [show Int.fmod (c : Int) 16 = ((c % 16 : Nat) : Int) from modN c 16]
    refine OpW.idx_chr (by rw [hx16]; (exact Nat.mod_lt _ (by decide))) (by rw [hx16]; decide) ?_
    refine OpW.add_str (by rw [List.length_append]; show 3 + 1 ≤ sizeLine; decide) ?_
    refine OpW.iadd_str (by rw [List.length_append]; show w.length + 4 ≤ sizeLine; (exact lin3 hw (show 2 ^ 16 ≤ 65536 by decide +kernel) (Nat.le_of_eq (Eq.symm hsz)) (by simp +arith only))) ⟨rfl, ?_⟩
    exact .cons rfl (.cons rfl (.cons rfl .nil))
  · have h3 := of_decide_eq_false h3
    rw [if_neg h3]
    refine SW.one ?_
    refine S1W.aug hF (.sc hF hsc rfl) (by decide) rfl ?_
    refine EvW.name rfl ?_
    refine OpW.iadd_str (by rw [List.length_append]; show w.length + 1 ≤ sizeLine; (exact Nat.lt_of_lt_of_le (by assumption) (by decide))) ⟨rfl, ?_⟩
    exact .cons rfl (.cons rfl (.cons rfl .nil))
theorem quW (S : St C) (hk : 1 ≤ G.k) (hh : G.A.handled = none) (l : List Nat) (hl : l.length < 2 ^ 12) (ha : Al l) (h : Q (.str (repr_ l))) : OpW C G [.str l] (callV (.ref 91)) Q Z := by
  refine OpW.fnIs (O := []) S.lquoted (by (assumption)) rfl (by decide +kernel) fun G' N => ⟨.all N.fn, ?_⟩
  have hF := N.fn
  have hsc := N.scope
  have hh' : G'.A.handled = none := N.hnd.trans hh
  have hsz : sizeLine = 16777216 := rfl
  refine SW.cons ?_
  refine S1W.asgP hF (.sc hF hsc rfl) (by simp) rfl ?_
  refine EvW.det (x := .str [markOf l]) ?_ ⟨rfl, ?_⟩
  · unfold markOf
    refine EvW.ifExp ?_
    with_reducible refine TsW.boolOp ?_
    with_reducible refine AllW.and_cons ?_
    (refine TsW.cmp1 ?_; (with_reducible refine EvW.str ?_); refine EvW.name rfl ?_)
    refine OpW.in_str ?_
    rw [show (PySem.Str.ofString "'").cps.toList = [39] from rfl, inText_one]
    with_reducible refine TrW.bool ?_
    refine ⟨fun h1 => ?_, fun h1 => ⟨fun h2 => (by cases h2), fun _ => ?_⟩⟩
    · have h1 := of_decide_eq_true h1
      with_reducible refine AllW.and_cons ?_
      (refine TsW.cmp1 ?_; (with_reducible refine EvW.str ?_); refine EvW.name rfl ?_)
      refine OpW.notIn_str ?_
      rw [show (PySem.Str.ofString "\"").cps.toList = [34] from rfl, inText_one]
      with_reducible refine TrW.bool ?_
      refine ⟨fun h2 => ?_, fun h2 => ⟨fun h3 => (by cases h3), fun _ => ?_⟩⟩
      · have h2' : 34 ∉ l := by simpa using h2
        refine AllW.and_nil ⟨fun _ => ?_, fun h3 => by cases h3⟩
        with_reducible refine EvW.str ?_
        rw [if_pos ⟨h1, h2'⟩]; rfl
      · have h2' : 34 ∈ l := by simpa using h2
        with_reducible refine EvW.str ?_
        rw [if_neg fun q => q.2 h2']; rfl
    · have h1 := of_decide_eq_false h1
      with_reducible refine EvW.str ?_
      rw [if_neg fun q => h1 q.1]; rfl
  rw [repr_al ha] at h
  generalize markOf l = q at h
  refine SW.cons ?_
  refine S1W.asgP hF (.sc hF hsc rfl) (by simp) rfl ?_
  refine EvW.name rfl ?_
  refine ⟨rfl, ?_⟩
  refine SW.cons (S1W.for_ hF hh' (.all hF) (fun x => rfl) ?_)
  rw [safe_nil]
  refine EvW.name rfl ?_
  refine ⟨_, rfl, fun i ρ => Sub (qv l q (q :: (l.take i).flatMap (qC q))) ρ, .cons rfl (.cons rfl (.cons rfl .nil)), fun ρ hs => ?_, fun i d ρ hd hs => ?_⟩
  · refine SW.sub ?_ hs
    rw [List.length_map, List.take_length]
    refine SW.one (S1W.ret ?_)
    ((with_reducible refine EvW.bin ?_); refine EvW.name rfl ?_; refine EvW.name rfl ?_)
    have := flat_len q l
    refine OpW.add_str (by rw [List.length_append, List.length_cons, List.length_singleton]; (lia)) ?_
    exact h
  · have hi := (List.getElem?_eq_some_iff.mp hd).1
    rw [List.length_map] at hi
    rw [List.getElem?_map, List.getElem?_eq_getElem hi] at hd
    obtain rfl := Option.some.inj hd
    refine ⟨_, TgW.name hF (.sc hF hsc rfl) (by decide), ?_⟩
    refine SW.sub (ρ := ("sign", .str [l[i]]) :: qv l q (q :: (l.take i).flatMap (qC q))) ?_ (Sub.trans (.cons rfl (.cons rfl (.cons rfl (.cons rfl .nil)))) (Sub.put hs))
    have hfl := flat_len q (l.take i)
    rw [List.length_take] at hfl
    refine (quTurn S hF hsc l q l[i] _ (by rw [List.length_cons]; (lia))).mono (fun fl ρ p => ?_) fun _ _ z => z.elim
    have e : q :: (l.take (i + 1)).flatMap (qC q) = q :: (l.take i).flatMap (qC q) ++ qC q l[i] := by
      rw [List.take_add_one, List.getElem?_eq_getElem hi, List.flatMap_append, List.cons_append]
      congr 2
      exact List.append_nil _
    cases fl with
    | nxt => show Sub (qv l q _) ρ; rw [e]; exact p
    | _ => exact p.elim
end
end E11
end Mine

end
section
open PySem PySem.W PySem.Calls PyProof.Rows PySem.Builtin PySem.Builtin.Str
set_option Elab.async false
set_option maxRecDepth 100000
set_option maxHeartbeats 1000000
namespace Mine
namespace E11
noncomputable def stL (t s : List Nat) (p : Nat) : List Nat := (List.range' p (t.length + 1 - p)).filter (hasB t s)
noncomputable def stopT (t s : List Nat) (p : Nat) : Nat := (firstAt t s p).getD t.length
theorem find_head {f : Nat → Bool} {n : Nat} : ∀ l : List Nat, ((l.filter f).map natD ++ [natD n])[0]? = some (natD ((l.find? f).getD n))
  | [] => rfl
  | a :: l => by
    rw [List.filter_cons, List.find?_cons]
    cases f a with
    | true => rfl
    | false => exact find_head l
theorem st_head (t s : List Nat) (p : Nat) : ((stL t s p).map natD ++ [natD t.length])[0]? = some (natD (stopT t s p)) := find_head _
theorem st_nil (t s : List Nat) (p : Nat) : ((stL t s p).map natD).isEmpty = (firstAt t s p).isNone := by
  unfold stL firstAt
  generalize List.range' p (t.length + 1 - p) = l
  induction l with
  | nil => rfl
  | cons a l ih =>
    rw [List.filter_cons, List.find?_cons]
    cases hasB t s a with
    | true => rfl
    | false => exact ih
theorem st_len (t s : List Nat) (p : Nat) : (stL t s p).length ≤ t.length + 1 := by
  have := List.length_filter_le (hasB t s) (List.range' p (t.length + 1 - p))
  rw [List.length_range'] at this
  unfold stL; (exact lin2 this (Nat.sub_le (t.length + 1) (p)) (by simp +arith only))
theorem stop_le (t s : List Nat) (p : Nat) : stopT t s p ≤ t.length := by
  unfold stopT
  cases h : firstAt t s p with
  | none => exact Nat.le_refl _
  | some k =>
    have := (firstAt_some.mp h).2.1.1
    show k ≤ t.length; (exact lin1 this (by simp +arith only))
theorem seqIndex_last {n : Nat} (h : 1 ≤ n) : seqIndex? (-1) n = some (n - 1) := by
  unfold seqIndex?
  simp
  (lia)
noncomputable def whT (t : List Nat) (q : Nat) : List Nat := tx " (at line " ++ digs (lineT t q) ++ tx ", column " ++ digs (colT t q) ++ tx ")"
noncomputable def fndM (t : List Nat) (q : Nat) : List Nat := tx "Found invalid character " ++ repr_ [t.getD q 0] ++ whT t q
noncomputable def expM (s : List Nat) : List Nat := tx "Expected " ++ repr_ s ++ tx " (at end of document)"
noncomputable def fstB (t bs : List Nat) (p q : Nat) : Bool := decide (t.getD q 0 ∈ bs) && decide (t.getD q 0 ∉ (t.take q).drop p)
noncomputable def frL (t bs : List Nat) (p n : Nat) : List Nat := (List.range' p n).filter (fstB t bs p)
theorem fr_len (t bs : List Nat) (p n : Nat) : (frL t bs p n).length ≤ n := by
  have := List.length_filter_le (fstB t bs p) (List.range' p n)
  rw [List.length_range'] at this; exact this
noncomputable def dueTail (t s bs : List Nat) (p : Nat) : List (List Nat) := (frL t bs p (stopT t s p - p)).map (fndM t) ++ [digs (stopT t s p)]
noncomputable def dueT (t : List Nat) (p : Nat) (s bs : List Nat) (st : Bool) : List (List Nat) := if (st && (firstAt t s p).isNone) = true then expM s :: dueTail (t ++ 10 :: s) s bs p else dueTail t s bs p
noncomputable abbrev txD (bs : List Nat) : D := .list ((bs.map fun c => [c]).map D.str)
section
variable {C : Cx} {G : Fc} {ρ ρ' : Vars} {Q : D → Prop} {Z : Exn → Prop} {P : Fl → Vars → Prop} {Zs : Exn → Vars → Prop} {Sx : List D → Prop}
theorem FvW.weak {e : Expr} (h : FvW C G ρ e Sx Z) (hs : Sub ρ ρ') : FvW C G ρ' e Sx Z := fun X s o => h X s (o.weak hs)
theorem St.rangeM (S : St C) : Means C "range" (.type "range") := .of_none (S.no _ (by decide)) PyProof.Rows.Boot.«range» (by decide)
theorem St.strM (S : St C) : Means C "str" (.type "str") := .of_none (S.no _ (by decide)) PyProof.Rows.Boot.«str» (by decide)
theorem St.reprM (S : St C) : Means C "repr" (.builtin "repr") := .of_none (S.no _ (by decide)) PyProof.Rows.Boot.«repr» (by decide)
noncomputable abbrev stSc : Scope := { kind := .function, names := [(".0", .local), ("q", .local), ("len", .globalImplicit), ("sought", .free), ("text", .free)], isGenerator := false, isCoroutine := false }
noncomputable abbrev stV (t s : List Nat) (p : Nat) : Vars := [("text", .str t), ("place", natD p), ("sought", .str s)]
theorem stF {p1 p2 p3 p4 p5 p6 p7 p8 p9 p10 p11 p12 p13 p14 p15 p16 p17 p18 p19 p20 p21 p22 : Pos} {kk : Nat} (S : St C) (hF : Fun G) (hsc : G.env.scope = ldueS) (hh : G.A.handled = none) (t s : List Nat) (p : Nat) (hl : t.length < 2 ^ 12) (hs : s.length < 2 ^ 12) (hρ : Sub (stV t s p) ρ) (h : Sx ((stL t s p).map natD)) :
    FvW C G ρ (.ListComp (.Name "q" p1) [⟨.Name "q" p2, .Call (.Name "range" p3) [.Name "place" p4, .BinOp (.Call (.Name "len" p5) [.Name "text" p6] [] p7) .Add (.Constant (.int 1) kk p8) p9] [] p10, [.Compare (.Subscript (.Name "text" p11) (.Slice (some (.Name "q" p12)) (some (.BinOp (.Name "q" p13) .Add (.Call (.Name "len" p14) [.Name "sought" p15] [] p16) p17)) none p18) p19) [.Eq] [.Name "sought" p20] p21], 0⟩] stSc p22) Sx Z := by
  have hsz : sizeLine = 16777216 := rfl
  refine FvW.weak ?_ hρ
  with_reducible refine FvW.compF hh ?_ ?_ ?_ ?_
  · exact .of hF hsc (by decide +kernel)
  · decide +kernel
  · exact fun v => rfl
  refine EvW.call (kind_of hsc rfl) S.rangeM Callee.ty ?_
  refine EsW.cons ?_
  refine EvW.name rfl ?_
  refine EsW.cons ?_
  with_reducible refine EvW.bin ?_
  refine EvW.call (kind_of hsc rfl) S.len Callee.blt ?_
  (refine EsW.cons ?_; refine EvW.name rfl ?_; (with_reducible refine EsW.nil ?_))
  refine OpW.len_str (by (exact Nat.lt_of_lt_of_le (by assumption) (by decide))) ?_
  ((with_reducible refine EvW.int ?_); (with_reducible refine OpW.add_int ?_); (with_reducible refine EsW.nil ?_))
  rw [show (t.length : Int) + 1 = ((t.length + 1 : Nat) : Int) from rfl]
  refine OpW.range2 ⟨_, iter_2 p (t.length + 1), by rw [List.length_map, List.length_range']; (exact lin4 (Nat.sub_le (t.length + 1) (p)) hl (show 2 ^ 12 ≤ 4096 by decide +kernel) (Nat.le_of_eq (Eq.symm hsz)) (by simp +arith only)), keepF (hasB t s), ?_, fun L d hd => ?_⟩
  · rw [keepF_map]; exact h
  · obtain ⟨k, hk, rfl⟩ := List.mem_map.mp hd
    have hk := List.mem_range'_1.mp hk
    have hsc2 := fun sc => cG_scope (scope := sc) (L := L) hsc
    rw [keepF_nat]
    refine IfsW.cons ?_
    refine TsW.cmp1 ?_
    with_reducible refine EvW.slice ?_
    refine EvW.name rfl ?_
    with_reducible refine EoW.some ?_
    refine EvW.name rfl ?_
    with_reducible refine EoW.some ?_
    with_reducible refine EvW.bin ?_
    refine EvW.name rfl ?_
    refine EvW.call (kind_of (hsc2 _) rfl) S.len Callee.blt ?_
    (refine EsW.cons ?_; refine EvW.name rfl ?_; (with_reducible refine EsW.nil ?_))
    refine OpW.len_str (by (exact Nat.lt_of_lt_of_le (by assumption) (by decide))) ?_
    with_reducible refine OpW.add_int ?_
    rw [show (k : Int) + (s.length : Int) = ((k + s.length : Nat) : Int) from rfl]
    refine .inl ⟨_, _, _, rfl, rfl, rfl, by (exact Nat.le_of_lt (Nat.lt_of_lt_of_le (by assumption) (by decide))), ?_⟩
    rw [pslice_nat]
    refine EvW.name rfl ?_
    refine OpW.eq_str rfl ?_
    with_reducible refine TrW.bool ?_
    have e : decide ((t.take (k + s.length)).drop k = s) = hasB t s k := by
      unfold hasB
      rw [List.drop_take, Nat.add_sub_cancel_left]
      by_cases q : (t.drop k).take s.length = s
      · have : k + s.length ≤ t.length := by
          have := congrArg List.length q
          rw [List.length_take, List.length_drop] at this; (lia)
        rw [decide_eq_true q, decide_eq_true this, q, beq_self_eq_true]; rfl
      · rw [decide_eq_false q, beq_eq_false_iff_ne.mpr q, Bool.and_false]
    rw [e]
    refine ⟨fun hb => IfsW.nil ⟨fun q => (by cases q), fun _ => ?_⟩, fun hb => ⟨fun _ => if_neg (by rw [hb]; decide), fun q => (by cases q)⟩⟩
    rw [if_pos hb]
    refine EvW.name rfl ?_
    rfl
noncomputable abbrev dv (t s bs : List Nat) (p : Nat) (du : List (List Nat)) : Vars := [("text", .str t), ("place", natD p), ("sought", .str s), ("barred", txD bs), ("due", .list (du.map D.str))]
theorem wh_len (t : List Nat) (q : Nat) (hl : t.length < 2 ^ 12) (hq : q ≤ t.length) : (whT t q).length ≤ 2 ^ 14 := by
  unfold whT
  have t1 : (tx " (at line ").length = 10 := rfl
  have t2 : (tx ", column ").length = 9 := rfl
  have t3 : (tx ")").length = 1 := rfl
  have h2 := colT_le t q
  have hcount : (t.take q).count 10 ≤ t.length := Nat.le_trans List.count_le_length (by simp; (exact lin1 (Nat.min_le_right (q) (t.length)) (by simp +arith only)))
  have h3 : lineT t q ≤ t.length + 1 := by unfold lineT; (exact lin1 hcount (by simp +arith only))
  have hd := digs_len (lineT t q)
  have hd2 := digs_len (colT t q)
  simp only [List.length_append]; (lia)
noncomputable abbrev DuPost (t s bs : List Nat) (p : Nat) (du : List (List Nat)) (q : Nat) (st : List D) (fl : Fl) (ρ : Vars) : Prop := match fl with
  | .nxt => Sub (("stands", .list st) :: dv t s bs p (if fstB t bs p q = true then du ++ [fndM t q] else du)) ρ
  | _ => False
theorem duTurn (S : St C) (hF : Fun G) (hsc : G.env.scope = ldueS) (hk : 1 ≤ G.k) (hh : G.A.handled = none) (t s bs : List Nat) (p q : Nat) (du : List (List Nat)) (st : List D) (hl : t.length < 2 ^ 12) (hq : q < t.length) (hdu : du.length < 2 ^ 12) (ha : Al t) :
    SW C G ["due"] (("q", natD q) :: ("stands", .list st) :: dv t s bs p du) (forB ldueB[3]?) (DuPost t s bs p du q st) (fun _ _ => False) := by
  have hsz : sizeLine = 16777216 := rfl
  have hqa : Al [t.getD q 0] := fun c hc => by
    rw [List.mem_singleton.mp hc, List.getD_eq_getElem?_getD, List.getElem?_eq_getElem hq]; exact ha _ (List.getElem_mem hq)
  have hrl := repr_al_len hqa
  rw [List.length_singleton] at hrl
  have hwl := wh_len t q hl (by (exact Nat.le_of_lt (by assumption)))
  refine SW.one (S1W.ifs ?_)
  refine TsW.det (x := fstB t bs p q) ?_ ?_
  · unfold fstB
    with_reducible refine TsW.boolOp ?_
    with_reducible refine AllW.and_cons ?_
    (refine TsW.cmp1 ?_; (with_reducible refine EvW.sub ?_); refine EvW.name rfl ?_; refine EvW.name rfl ?_)
    refine OpW.idx_chr hq (by (exact Nat.lt_of_lt_of_le (by assumption) (by decide))) ?_
    refine EvW.name rfl ?_
    refine OpW.in_list ?_
    have e : decide ([t.getD q 0] ∈ bs.map fun c => [c]) = decide (t.getD q 0 ∈ bs) := decide_eq_decide.mpr (by simp)
    rw [e]
    with_reducible refine TrW.bool ?_
    refine ⟨fun h1 => ?_, fun h1 => by rw [h1]; rfl⟩
    rw [h1]
    with_reducible refine AllW.and_cons ?_
    (refine TsW.cmp1 ?_; (with_reducible refine EvW.sub ?_); refine EvW.name rfl ?_; refine EvW.name rfl ?_)
    refine OpW.idx_chr hq (by (exact Nat.lt_of_lt_of_le (by assumption) (by decide))) ?_
    ((with_reducible refine EvW.slice ?_); refine EvW.name rfl ?_; (with_reducible refine EoW.some ?_); refine EvW.name rfl ?_; (with_reducible refine EoW.some ?_); refine EvW.name rfl ?_)
    refine .inl ⟨_, _, _, rfl, rfl, rfl, by (exact Nat.le_of_lt (Nat.lt_of_lt_of_le (by assumption) (by decide))), ?_⟩
    rw [pslice_nat]
    refine OpW.notIn_str ?_
    rw [inText_one]
    with_reducible refine TrW.bool ?_
    refine ⟨fun h2 => AllW.and_nil ?_, fun h2 => ?_⟩
    · rw [decide_not, h2]; rfl
    · rw [decide_not, h2]; rfl
  refine ⟨fun hb => ?_, fun hb => SW.nil ?_⟩
  · show SW C G ["due"] _ _ (DuPost t s bs p du q st) _
    unfold DuPost
    rw [hb]
    refine SW.cons ?_
    with_reducible refine S1W.asg hF ?_ ?_ ?_ ?_
    · exact .sc hF hsc rfl
    · decide
    · rfl
    refine EvW.m_split ?_
    ((with_reducible refine EvW.slice ?_); refine EvW.name rfl ?_; (with_reducible refine EoW.none ?_); (with_reducible refine EoW.some ?_); refine EvW.name rfl ?_)
    refine .inl ⟨_, _, _, rfl, rfl, rfl, by (exact Nat.le_of_lt (Nat.lt_of_lt_of_le (by assumption) (by decide))), ?_⟩
    rw [pslice_to]
    refine ⟨_, rfl, ?_⟩
    (refine EsW.cons ?_; (with_reducible refine EvW.strNl ?_); (with_reducible refine EsW.nil ?_))
    refine FoW.op (FoW.split (by decide) (by simp; (exact lin4 (Nat.min_le_right (q) (t.length)) hl (show 2 ^ 12 ≤ 4096 by decide +kernel) (Nat.le_of_eq (Eq.symm hsz)) (by simp +arith only))) ?_)
    have hsp : (Txt.split ⟨(t.take q).toArray⟩ ⟨#[10]⟩).map (fun x => D.str x.cps.toList) = (splitOn 10 (t.take q)).map D.str := by
      rw [← txt_split_one, List.map_map]; rfl
    rw [hsp]
    have hrl2 := split_line t q
    have hrc := split_col t q (by (exact Nat.le_of_lt (by assumption)))
    have h2 := colT_le t q
    have hcount : (t.take q).count 10 ≤ t.length := Nat.le_trans List.count_le_length (by simp; (exact lin1 (Nat.min_le_right (q) (t.length)) (by simp +arith only)))
    have h3 : lineT t q ≤ t.length + 1 := by unfold lineT; (exact lin1 hcount (by simp +arith only))
    have hd := digs_len (lineT t q)
    have hd2 := digs_len (colT t q)
    have hne := splitOn_ne 10 (t.take q)
    refine SW.sub (ρ := ("rows", .list ((splitOn 10 (t.take q)).map D.str)) :: ("q", natD q) :: ("stands", .list st) :: dv t s bs p du) ?_ (.cons rfl (.cons rfl (.cons rfl (.cons rfl (.cons rfl (.cons rfl (.cons rfl (.cons rfl .nil))))))))
    refine SW.cons ?_
    refine S1W.asgP hF (.sc hF hsc rfl) (by decide) rfl ?_
    refine EvW.det (x := .str (whT t q)) ?_ ⟨rfl, ?_⟩
    · unfold whT at hwl ⊢
      with_reducible refine EvW.bin ?_
      with_reducible refine EvW.bin ?_
      with_reducible refine EvW.bin ?_
      with_reducible refine EvW.bin ?_
      with_reducible refine EvW.str ?_
      refine EvW.call (kind_of hsc rfl) S.strM Callee.ty ?_
      refine EsW.cons ?_
      refine EvW.call (kind_of hsc rfl) S.len Callee.blt ?_
      (refine EsW.cons ?_; refine EvW.name rfl ?_; (with_reducible refine EsW.nil ?_))
      refine OpW.len_list (by rw [List.length_map]; (exact lin5 (Nat.le_of_eq hrl2) h3 hl (show 2 ^ 12 ≤ 4096 by decide +kernel) (show 4611686018427387904 ≤ 2 ^ 62 by decide +kernel) (by simp +arith only))) ?_
      rw [List.length_map, hrl2]
      with_reducible refine EsW.nil ?_
      refine OpW.str_int (log2_small (by (lia))) ?_
      have t1 : (PySem.Str.ofString " (at line ").cps.toList.length = 10 := rfl
      have t2 : (PySem.Str.ofString ", column ").cps.toList.length = 9 := rfl
      have t3 : (PySem.Str.ofString ")").cps.toList.length = 1 := rfl
      refine OpW.add_str (by rw [List.length_append]; (exact lin6 (Nat.le_of_eq t1) hd h3 hl (show 2 ^ 12 ≤ 4096 by decide +kernel) (Nat.le_of_eq (Eq.symm hsz)) (by simp +arith only))) ?_
      with_reducible refine EvW.str ?_
      refine OpW.add_str (by rw [List.length_append, List.length_append]; (exact Nat.le_trans (m := 8192) (lin6 (Nat.le_of_eq t1) hd h3 hl (show 2 ^ 12 ≤ 4096 by decide +kernel) (Nat.le_of_eq t2) (by simp +arith only)) (by decide +kernel))) ?_
      refine EvW.call (kind_of hsc rfl) S.strM Callee.ty ?_
      refine EsW.cons ?_
      with_reducible refine EvW.bin ?_
      refine EvW.call (kind_of hsc rfl) S.len Callee.blt ?_
      refine EsW.cons ?_
      with_reducible refine EvW.sub ?_
      refine EvW.name rfl ?_
      refine EvW.un (EvW.int (OpW.neg_int ?_))
      refine OpW.idx_list (j := (splitOn 10 (t.take q)).length - 1) (c := .str ((splitOn 10 (t.take q)).getLast hne)) (by decide) (by decide) ?_ ?_ ?_
      · have h1 : 1 ≤ (splitOn 10 (t.take q)).length := List.length_pos_iff.mpr hne
        rw [List.length_map]; exact seqIndex_last h1
      · rw [List.getElem?_map, ← List.getLast?_eq_getElem?, List.getLast?_eq_some_getLast hne]; rfl
      with_reducible refine EsW.nil ?_
      refine OpW.len_str (by (lia)) ?_
      with_reducible refine EvW.int ?_
      with_reducible refine OpW.add_int ?_
      with_reducible refine EsW.nil ?_
      rw [show ((((splitOn 10 (t.take q)).getLast hne).length : Nat) : Int) + 1 = ((colT t q : Nat) : Int) by (lia)]
      refine OpW.str_int (log2_small (by (lia))) ?_
      refine OpW.add_str (by rw [List.length_append, List.length_append, List.length_append]; (lia)) ?_
      with_reducible refine EvW.str ?_
      refine OpW.add_str (by rw [List.length_append, List.length_append, List.length_append, List.length_append]; (lia)) ?_
      rfl
    refine SW.one ?_
    refine S1W.appendP (d0 := du.map D.str) (by decide) rfl (by rw [List.length_map]; (exact Nat.lt_of_lt_of_le (by assumption) (by decide))) ?_
    with_reducible refine EvW.bin ?_
    with_reducible refine EvW.bin ?_
    with_reducible refine EvW.str ?_
    refine EvW.call (kind_of hsc rfl) S.lquotedM S.lquoted.callee ?_
    (refine EsW.cons ?_; (with_reducible refine EvW.sub ?_); refine EvW.name rfl ?_; refine EvW.name rfl ?_)
    refine OpW.idx_chr hq (by (exact Nat.lt_of_lt_of_le (by assumption) (by decide))) ?_
    with_reducible refine EsW.nil ?_
    refine quW S hk hh [t.getD q 0] (by show 1 < 2 ^ 12; decide) hqa ?_
    have t4 : (PySem.Str.ofString "Found invalid character ").cps.toList.length = 24 := rfl
    refine OpW.add_str (by rw [List.length_append]; (exact lin3 (Nat.le_of_eq t4) hrl (Nat.le_of_eq (Eq.symm hsz)) (by simp +arith only))) ?_
    refine EvW.name rfl ?_
    refine OpW.add_str (by rw [List.length_append, List.length_append]; (exact lin5 (Nat.le_of_eq t4) hrl hwl (show 2 ^ 14 ≤ 16384 by decide +kernel) (Nat.le_of_eq (Eq.symm hsz)) (by simp +arith only))) ⟨rfl, ?_⟩
    show Sub (("stands", .list st) :: dv t s bs p (du ++ [fndM t q])) _
    refine .cons rfl (.cons rfl (.cons rfl (.cons rfl (.cons rfl (.cons ?_ .nil)))))
    rw [List.map_append]; rfl
  · unfold DuPost
    rw [hb]
    exact .cons rfl (.cons rfl (.cons rfl (.cons rfl (.cons rfl (.cons rfl .nil)))))
end
end E11
end Mine

end
section
open PySem PySem.W PySem.Calls PyProof.Rows PySem.Builtin PySem.Builtin.Str
set_option Elab.async false
set_option maxRecDepth 100000
set_option maxHeartbeats 1000000
namespace Mine
namespace E11
theorem fr_step (t bs : List Nat) (p i : Nat) : frL t bs p (i + 1) = if fstB t bs p (p + i) = true then frL t bs p i ++ [p + i] else frL t bs p i := by
  unfold frL
  rw [List.range'_concat, Nat.one_mul, List.filter_append]
  show _ ++ (match fstB t bs p (p + i) with | true => [p + i] | false => []) = _
  cases fstB t bs p (p + i) with
  | true => rfl
  | false => exact List.append_nil _
section
variable {C : Cx} {G : Fc} {ρ ρ' : Vars} {Q : D → Prop} {Z : Exn → Prop} {P : Fl → Vars → Prop} {Zs : Exn → Vars → Prop} {Sx : List D → Prop}
noncomputable abbrev RetP (Q : D → Prop) (fl : Fl) (_ : Vars) : Prop := match fl with | .ret d => Q d | .nxt => Q .none | _ => False
theorem duTail (S : St C) (hF : Fun G) (hsc : G.env.scope = ldueS) (hk : 1 ≤ G.k) (hh : G.A.handled = none) (t s bs : List Nat) (p : Nat) (pre : List (List Nat)) (hl : t.length < 2 ^ 11) (hs : s.length < 2 ^ 11) (hpre : pre.length < 2 ^ 10) (ha : Al t)
    (h : Q (.list ((pre ++ dueTail t s bs p).map D.str))) : SW C G ["due"] (dv t s bs p pre) (ldueB.drop 2) (RetP Q) (fun x _ => Z x) := by
  have hsz : sizeLine = 16777216 := rfl
  have hst := st_len t s p
  have h0 := st_head t s p
  have hsp := stop_le t s p
  unfold dueTail at h
  refine SW.cons ?_
  with_reducible refine S1W.asg hF ?_ ?_ ?_ ?_
  · exact .sc hF hsc rfl
  · decide
  · rfl
  with_reducible refine FvW.ev ?_
  with_reducible refine FvW.bin ?_
  with_reducible refine FvW.ev ?_
  refine stF S hF hsc hh t s p (by (exact Nat.lt_of_lt_of_le (by assumption) (by decide))) (by (exact Nat.lt_of_lt_of_le (by assumption) (by decide))) (.cons rfl (.cons rfl (.cons rfl .nil))) ?_
  with_reducible refine FvW.ev ?_
  with_reducible refine FvW.list ?_
  refine EsW.cons ?_
  refine EvW.call (kind_of hsc rfl) S.len Callee.blt ?_
  (refine EsW.cons ?_; refine EvW.name rfl ?_; (with_reducible refine EsW.nil ?_))
  refine OpW.len_str (by (exact Nat.lt_of_lt_of_le (by assumption) (by decide))) ?_
  with_reducible refine EsW.nil ?_
  refine ⟨by show 1 ≤ sizeLine; (decide), ?_⟩
  refine FoW.add_list (by rw [List.length_append, List.length_map, List.length_singleton]; (exact lin4 hst hl (show 2 ^ 11 ≤ 2048 by decide +kernel) (Nat.le_of_eq (Eq.symm hsz)) (by simp +arith only))) ?_
  generalize hsd : (stL t s p).map natD ++ [D.int (t.length : Int)] = sd
  have h0' : sd[0]? = some (natD (stopT t s p)) := by rw [← hsd]; exact h0
  have hsl : sd.length < 2 ^ 12 := by rw [← hsd, List.length_append, List.length_map, List.length_singleton]; (exact lin4 hst hl (show 2 ^ 11 ≤ 2048 by decide +kernel) (show 4096 ≤ 2 ^ 12 by decide +kernel) (by simp +arith only))
  have hs1 : seqIndex? 0 sd.length = some 0 := seqIndex_nonneg (by decide) (by have := (List.getElem?_eq_some_iff.mp h0').1; (lia))
  generalize stopT t s p = e at h0' hsp h
  refine SW.sub (ρ := ("stands", .list sd) :: dv t s bs p pre) ?_ (.cons rfl (.cons rfl (.cons rfl (.cons rfl (.cons rfl (.cons rfl .nil))))))
  refine SW.cons (S1W.for_ hF hh (.all hF) (fun x => rfl) ?_)
  refine EvW.call (kind_of hsc rfl) S.rangeM Callee.ty ?_
  (refine EsW.cons ?_; refine EvW.name rfl ?_; refine EsW.cons ?_; (with_reducible refine EvW.sub ?_); refine EvW.name rfl ?_; (with_reducible refine EvW.int ?_))
  refine OpW.idx_list (by decide) (by decide) hs1 h0' ?_
  with_reducible refine EsW.nil ?_
  refine OpW.range2 ⟨_, iter_2 p e, fun i ρ => Sub (("stands", .list sd) :: dv t s bs p (pre ++ (frL t bs p i).map (fndM t))) ρ, .cons rfl (.cons rfl (.cons rfl (.cons rfl (.cons rfl (.cons ?_ .nil))))), fun ρ hJ => ?_, fun i d ρ hd hJ => ?_⟩
  · show _ = some (D.list ((pre ++ []).map D.str))
    rw [List.append_nil]; rfl
  · rw [List.length_map, List.length_range'] at hJ
    refine SW.sub ?_ hJ
    have hfl := fr_len t bs p (e - p)
    refine SW.one (S1W.ret ?_)
    with_reducible refine EvW.bin ?_
    refine EvW.name rfl ?_
    with_reducible refine FvW.ev ?_
    with_reducible refine FvW.list ?_
    refine EsW.cons ?_
    refine EvW.call (kind_of hsc rfl) S.reprM Callee.blt ?_
    (refine EsW.cons ?_; (with_reducible refine EvW.sub ?_); refine EvW.name rfl ?_; (with_reducible refine EvW.int ?_))
    refine OpW.idx_list (by decide) (by decide) hs1 h0' ?_
    with_reducible refine EsW.nil ?_
    refine OpW.repr_int (log2_small (by (lia))) ?_
    with_reducible refine EsW.nil ?_
    refine ⟨by show 1 ≤ sizeLine; (decide), ?_⟩
    refine FoW.op (FoW.add_list (by rw [List.length_append, List.length_map, List.length_append, List.length_map, List.length_singleton]; (lia)) ?_)
    rw [← List.append_assoc, List.map_append] at h
    exact h
  · obtain ⟨hi, rfl⟩ := iter_2_get hd
    have hfl := fr_len t bs p i
    refine ⟨_, TgW.name hF (.sc hF hsc rfl) (by decide), ?_⟩
    refine SW.sub (ρ := ("q", natD (p + i)) :: ("stands", .list sd) :: dv t s bs p (pre ++ (frL t bs p i).map (fndM t))) ?_ (Sub.trans (.cons rfl (.cons rfl (.cons rfl (.cons rfl (.cons rfl (.cons rfl (.cons rfl .nil))))))) (Sub.put hJ))
    refine (duTurn S hF hsc hk hh t s bs p (p + i) _ sd (by (exact Nat.lt_of_lt_of_le (by assumption) (by decide))) (by (lia)) (by rw [List.length_append, List.length_map]; (lia)) ha).mono (fun fl ρ q => ?_) fun _ _ z => z.elim
    have e : pre ++ (frL t bs p (i + 1)).map (fndM t) = if fstB t bs p (p + i) = true then pre ++ (frL t bs p i).map (fndM t) ++ [fndM t (p + i)] else pre ++ (frL t bs p i).map (fndM t) := by
      rw [fr_step]
      split
      · rw [List.map_append, List.append_assoc]; rfl
      · rfl
    cases fl with
    | nxt => show Sub _ ρ; rw [e]; exact q
    | _ => exact q.elim
theorem duW (S : St C) (hk : 2 ≤ G.k) (hh : G.A.handled = none) (t s bs : List Nat) (p : Nat) (st : Bool) (hl : t.length < 2 ^ 10) (hs : s.length < 2 ^ 10) (ha : Al t) (has : Al s)
    (h : Q (.list ((dueT t p s bs st).map D.str))) : OpW C G [.str t, natD p, .str s, txD bs, .bool st] (callV (.ref 96)) Q Z := by
  refine OpW.fnIs (O := ["due"]) S.ldue (by (exact Nat.le_of_lt (by assumption))) rfl (by decide +kernel) fun G' N => ⟨.all N.fn, ?_⟩
  have hF := N.fn
  have hsc := N.scope
  have hk' := N.k
  have hh' : G'.A.handled = none := N.hnd.trans hh
  have hsz : sizeLine = 16777216 := rfl
  refine SW.cons ?_
  refine S1W.asgO hF (.sc hF hsc rfl) (by decide) rfl ?_
  refine FvW.list ?_
  with_reducible refine EsW.nil ?_
  refine ⟨by decide, ?_⟩
  refine SW.cons (S1W.ifs ?_)
  refine TsW.det (x := st && (firstAt t s p).isNone) ?_ ?_
  · with_reducible refine TsW.boolOp ?_
    with_reducible refine AllW.and_cons ?_
    refine TsW.val rfl ?_
    refine EvW.name rfl ?_
    with_reducible refine TrW.bool ?_
    refine ⟨fun h1 => ?_, fun h1 => by rw [h1]; rfl⟩
    rw [h1]
    with_reducible refine AllW.and_cons ?_
    refine TsW.cmp1 ?_
    with_reducible refine FvW.ev ?_
    refine stF S hF hsc hh' t s p (by (exact Nat.lt_of_lt_of_le (by assumption) (by decide))) (by (exact Nat.lt_of_lt_of_le (by assumption) (by decide))) (.cons rfl (.cons rfl (.cons rfl .nil))) ?_
    with_reducible refine FvW.ev ?_
    with_reducible refine FvW.list ?_
    with_reducible refine EsW.nil ?_
    refine ⟨by show 0 ≤ sizeLine; (decide), ?_⟩
    refine OpW.eq_nil ?_
    rw [st_nil]
    with_reducible refine TrW.bool ?_
    exact ⟨fun h2 => AllW.and_nil (by rw [h2]; rfl), fun h2 => by rw [h2]; rfl⟩
  unfold dueT at h
  refine ⟨fun hb => ?_, fun hb => SW.nil ?_⟩
  · rw [if_pos hb] at h
    have hrl := repr_al_len has
    have t1 : (PySem.Str.ofString "Expected ").cps.toList.length = 9 := rfl
    have t2 : (PySem.Str.ofString " (at end of document)").cps.toList.length = 21 := rfl
    refine SW.cons ?_
    refine S1W.appendP (d0 := []) (by decide) rfl (by decide) ?_
    with_reducible refine EvW.bin ?_
    with_reducible refine EvW.bin ?_
    with_reducible refine EvW.str ?_
    refine EvW.call (kind_of hsc rfl) S.lquotedM S.lquoted.callee ?_
    (refine EsW.cons ?_; refine EvW.name rfl ?_; (with_reducible refine EsW.nil ?_))
    refine quW S (by (exact lin3 hk (subl (G.k) (1)) (Nat.le_of_eq (Eq.symm hk')) (by simp +arith only))) hh' s (by (exact Nat.lt_of_lt_of_le (by assumption) (by decide))) has ?_
    refine OpW.add_str (by rw [List.length_append]; (lia)) ?_
    with_reducible refine EvW.str ?_
    refine OpW.add_str (by rw [List.length_append, List.length_append]; (lia)) ⟨rfl, ?_⟩
    refine SW.one ?_
    refine S1W.aug hF (.sc hF hsc rfl) (by decide) rfl ?_
    ((with_reducible refine EvW.bin ?_); (with_reducible refine EvW.strNl ?_); refine EvW.name rfl ?_)
    refine OpW.add_str (by rw [List.length_append]; show 1 + s.length ≤ sizeLine; (exact lin3 hs (show 2 ^ 10 ≤ 1024 by decide +kernel) (Nat.le_of_eq (Eq.symm hsz)) (by simp +arith only))) ?_
    refine OpW.iadd_str (by rw [List.length_append, List.length_append]; show t.length + (1 + s.length) ≤ sizeLine; (exact lin5 hl (show 2 ^ 10 ≤ 1024 by decide +kernel) hs (show 2 ^ 10 ≤ 1024 by decide +kernel) (Nat.le_of_eq (Eq.symm hsz)) (by simp +arith only))) ⟨rfl, ?_⟩
    refine SW.sub (ρ := dv (t ++ 10 :: s) s bs p [expM s]) ?_ (.cons rfl (.cons rfl (.cons rfl (.cons rfl (.cons rfl .nil)))))
    refine duTail S hF hsc (by (exact lin3 hk (subl (G.k) (1)) (Nat.le_of_eq (Eq.symm hk')) (by simp +arith only))) hh' (t ++ 10 :: s) s bs p [expM s] (by rw [List.length_append, List.length_cons]; (exact lin5 hl (show 2 ^ 10 ≤ 1024 by decide +kernel) hs (show 2 ^ 10 ≤ 1024 by decide +kernel) (show 2048 ≤ 2 ^ 11 by decide +kernel) (by simp +arith only))) (by (exact Nat.lt_of_lt_of_le (by assumption) (by decide))) (by show 1 < 2 ^ 10; decide) (fun c hc => ?_) h
    rcases List.mem_append.mp hc with hc | hc
    · exact ha c hc
    · rcases List.mem_cons.mp hc with rfl | hc
      · decide
      · exact has c hc
  · rw [if_neg (by rw [hb]; decide)] at h
    refine SW.sub (ρ := dv t s bs p []) ?_ (.cons rfl (.cons rfl (.cons rfl (.cons rfl (.cons rfl .nil)))))
    exact duTail S hF hsc (by (exact lin3 hk (subl (G.k) (1)) (Nat.le_of_eq (Eq.symm hk')) (by simp +arith only))) hh' t s bs p [] (by (exact Nat.lt_of_lt_of_le (by assumption) (by decide))) (by (exact Nat.lt_of_lt_of_le (by assumption) (by decide))) (by decide) ha h
end
end E11
end Mine

end
section
open PySem PySem.W PySem.Calls PyProof.Rows PySem.Builtin PySem.Builtin.Str
set_option Elab.async false
set_option maxRecDepth 100000
set_option maxHeartbeats 1000000
namespace Mine
section
variable {C : Cx} {G : Fc} {B : Heap} {X : Addr → Prop} {O : List PySem.Str} {ρ ρ' : Vars} {own own' : List (PySem.Str × Addr)} {s s' s₁ : Shared} {P : Fl → Vars → Prop} {Zs : Exn → Vars → Prop} {scope : Scope} {Da L : Addr} {es : List D}
theorem postP {y : PySem.Str} {py : Pos} {E : Value → Shared → Prop} (hF : Fun G) (hk : Storable G y) (hy : y ∉ O) (o₁ : OkS C G B X O ρ own s₁) (c : CS C G scope X s₁ Da L es s') (hDL : Da ≠ L) (hpl0 : plains es = true) (fin : P .nxt (put y (.list es) ρ)) :
    compPost C.M G.A E (some (assign (.Name y py) G.env)) (fun _ s' => SP C G B X O P .next s') (.ref Da) L (.ok .next) s' := by
  obtain ⟨ob, des, dep, eL, hcL, hdL⟩ := c.loc
  obtain ⟨vs, hpl, hr⟩ := c.acc
  have oB : OkS C G B (fun c => c = L ∨ X c) O ρ own s' := o₁.bar c.step c.fL ⟨ob, eL, ⟨by rw [hcL]; simp, by rw [hcL]; simp, by rw [hdL]; simp⟩, .inr hcL⟩
  have hBL : B.get? L = none := o₁.freshB c.fL
  show wpAny C.M G.A (assign (.Name y py) G.env (.ref Da)) _ _ s'
  refine PyProof.Rows.assign_Name (store_loc oB.g hk fun h₂ tk a l => ?_)
  have hrv : Rep C (inl own (fun c => c = L ∨ X c)) s'.heap (.ref Da) (.list es) := by
    refine Exists.intro Da ⟨vs, rfl, fun q => ?_, hpl.isList, hr.plain hpl0⟩
    rcases q with (q | q) | ⟨p, hp, q⟩
    · exact hDL q
    · obtain ⟨o', e', _⟩ := o₁.xH _ q; rw [c.fD] at e'; cases e'
    · obtain ⟨us, n, e'⟩ := o₁.oH p hp; rw [q, c.fD] at e'; cases e'
  have hLa : L ≠ a := fun q => by
    subst q
    rcases l.here with ⟨hb, _⟩ | ⟨_, _, _, v₀, o', e', hd'⟩
    · have := oB.g.framed hF.fr ob (hb ▸ eL)
      rw [hcL] at this; simp at this
    · rw [eL] at e'; cases e'; rw [hdL] at hd'; cases hd'
  have eL₂ : h₂.get? L = some ob := (l.same.2 L hLa).trans eL
  obtain ⟨m, hm⟩ := c.g.loc
  refine ⟨m, hm.sameBut l.same hLa, fun h' hs' => ⟨_, own, ?_, fin⟩⟩
  exact OkS.dead (tk := tk) hF (oB.store hF.fr l hy hrv) (.inl rfl) hBL hs' eL₂ hcL hdL fun a ha => ⟨.inr ha, fun q => by
    subst q
    obtain ⟨o', e', _⟩ := o₁.xH a ha
    rw [c.fL] at e'; cases e'⟩
theorem S1W.asgCP {elt it : Expr} {x y : PySem.Str} {px py spos : Pos} {ifs : List Expr} {pos : Pos} (hF : Fun G) (hh : G.A.handled = none) (N : NamesOk G scope) (hk : Storable G y) (hy : y ∉ O) (hsw : swp scope y py pos G.env = true)
    (hx : (x, NameKind.local) ∈ scope.names ∨ (x, NameKind.cell) ∈ scope.names) (hs : ∀ v, foldedSetIterable it G.env v = pure v)
    (h : EvW C G ρ it (fun d => ∃ ds, iterOf d = some ds ∧ ds.length ≤ sizeLine ∧ ∃ f : D → Option D, (plains (ds.filterMap f) = true ∧ P .nxt (put y (.list (ds.filterMap f)) ρ)) ∧
      ∀ L d, d ∈ ds → IfsW C (cG G scope L) ((x, d) :: compVars scope ρ) ifs (fun b => (b = false → f d = none) ∧ (b = true → EvW C (cG G scope L) ((x, d) :: compVars scope ρ) elt (fun e => f d = some e) (fun _ => False)))) (fun z => Zs z ρ)) :
    S1W C G O ρ (.Assign [.Name y py] (.ListComp elt [⟨.Name x px, it, ifs, 0⟩] scope pos) spos) P Zs := fun B X own s o => by
  have hsw' : swapsWith (.ListComp elt [⟨.Name x px, it, ifs, 0⟩] scope pos) (some (.Name y py)) spos.line G.env = pure true := by rw [swaps_comp, hsw]
  rw [exec_Assign_Name_used _ _ _ _ hsw']
  refine wpAny_bind (wpAny_standAt (wpAny_bind ?_))
  show wpAny _ G.A (do let _ ← comprehension (.ListComp elt [⟨.Name x px, it, ifs, 0⟩] scope pos) scope G.env _ (newList []) false (eval it G.env) (some (assign (.Name y py) G.env))) _ _ s
  refine wpAny_bind (wpAny_mono (comp_core (C := C) (use := some (assign (.Name y py) G.env)) (Q := fun _ s' => SP C G B X O P .next s') hh N hx hs ?_) (fun _ s' hq => wpAny_pure (wpAny_pure hq)) fun _ _ e => e)
  refine wpAny_mono (h _ s o.full) (fun v s₁ q9 => ?_) fun _ _ x => x.sx o
  obtain ⟨st, d, r, ds, hd, hlen, f, ⟨hpl0, fin⟩, turn⟩ := q9
  refine ⟨d, ds, X, ρ, o.full.step st, r, hd, hlen, fun i es => i ≤ ds.length ∧ es = (ds.take i).filterMap f, ⟨Nat.zero_le _, by simp⟩, ?_, ?_, ?_⟩
  · rintro i es ⟨hi, rfl⟩
    exact Nat.le_trans (List.length_filterMap_le ..) (by simp; (exact lin1 (Nat.min_le_left (i) (ds.length)) (by simp +arith only)))
  · rintro L i d es hd ⟨hi, rfl⟩ X s E o
    have hlt := (List.getElem?_eq_some_iff.mp hd).1
    have htk : ds.take (i + 1) = ds.take i ++ [d] := by
      rw [List.take_add_one, hd]; rfl
    refine wpAny_mono (turn L d (List.mem_of_getElem? hd) X s E o) (fun b s' q => ⟨q.1, fun hb => ⟨hlt, ?_⟩, fun hb => ?_⟩) fun _ _ x => x
    · rw [htk, List.filterMap_append]; simp [q.2.1 hb]
    · exact (q.2.2 hb).mono (fun e he => ⟨hlt, by rw [htk, List.filterMap_append]; simp [he]⟩) fun _ x => x
  · rintro Da L es s' ⟨_, rfl⟩ c hDL
    rw [List.take_length] at c
    exact postP hF hk hy (o.step st) c hDL hpl0 fin
/-! ### enumerate -/
noncomputable def enumD : Nat → List D → List D
  | _, [] => []
  | i, d :: r => .tup [.int (i : Int), d] :: enumD (i + 1) r
theorem enum_len : ∀ (k : Nat) (ds : List D), (enumD k ds).length = ds.length
  | _, [] => rfl
  | k, _ :: r => congrArg Nat.succ (enum_len (k + 1) r)
theorem enum_get : ∀ {k i : Nat} {ds : List D} {d : D}, (enumD k ds)[i]? = some d → ∃ e, ds[i]? = some e ∧ d = .tup [.int ((k + i : Nat) : Int), e]
  | k, 0, e :: r, d, h => ⟨e, rfl, (Option.some.inj h).symm⟩
  | k, i + 1, _ :: r, d, h => by
    obtain ⟨e, h1, h2⟩ := enum_get (k := k + 1) (i := i) (ds := r) h
    exact ⟨e, h1, by rw [h2, Nat.add_right_comm]; rfl⟩
  | k, i, [], d, h => nomatch h
theorem itObj_enum {o : Obj} {ws : Array Value} (hc : o.cls = .type "enumerate") (hd : o.data = .fields ws) (h1 : ∀ q t, ws[1]? ≠ some (.str q t)) : ItObj o :=
  ⟨⟨"enumerate", hc, by decide, by decide, by decide, by decide, by decide, by decide, by decide, by decide⟩, ws, hd, h1⟩
theorem itObj_list {h : Heap} {a l : Addr} {i : Nat} (x : h.IsListIter a l i) : ∃ o, h.get? a = some o ∧ ItObj o := by
  obtain ⟨o, e, hc, hd⟩ := x
  exact ⟨o, e, ⟨"list_iterator", hc, by decide, by decide, by decide, by decide, by decide, by decide, by decide, by decide⟩, _, hd, by simp⟩
theorem itrEnum {ea ia l : Addr} {vs : List Value} {ds : List D} {ts : List Expr} {k : Nat} {tp : Pos} {S : Heap} (hh : G.A.handled = none) (hei : ea ≠ ia) (hle : l ≠ ea) (hli : l ≠ ia) (hl : S.IsList l vs.toArray) (hr : Reps C (out X S) S vs ds) (hbt : ∀ a ∈ C.tabA, S.get? a = none) :
    ItrG C G.A (.Tuple ts k tp) (out X S) S ea (enumD 0 ds) [ea, ia, l] [ea, ia] (fun (i : Nat) h => (∃ old, IsEnum h ea ia i old) ∧ h.IsListIter ia l i ∧ h.IsList l vs.toArray) := by
  have W := WalksT.enumerate (prog := C.prog) (w := C.w) (A := G.A) hh ea ia l hei hle hli vs.toArray
  have hlen : (enumD 0 ds).length = vs.toArray.size := by rw [enum_len]; simp [hr.length]
  have ob : ∀ (i : Nat) h, ((∃ old, IsEnum h ea ia i old) ∧ h.IsListIter ia l i ∧ h.IsList l vs.toArray) → ∀ a ∈ [ea, ia], ∃ o, h.get? a = some o ∧ ItObj o := fun i h st a ha => by
    obtain ⟨⟨old, he⟩, hit, _⟩ := st
    rcases List.mem_cons.mp ha with rfl | ha
    · exact ⟨_, he, itObj_enum rfl rfl (by simp)⟩
    · rw [List.mem_singleton.mp ha]; exact itObj_list hit
  refine { frame := W.frame, obj := ob, fpS := fun b hb hn => ?_, next := fun i d s K E hd hst hK => ?_, done := fun s Q E hst hQ => ?_, self := W.self }
  · have hb : b = l := by
      rcases List.mem_cons.mp hb with rfl | hb
      · exact absurd (.head _) hn
      · rcases List.mem_cons.mp hb with rfl | hb
        · exact absurd (.tail _ (.head _)) hn
        · exact List.mem_singleton.mp hb
    obtain ⟨o, e, hc, _⟩ := hl
    rw [hb]; exact ⟨o, e, by rw [hc]; simp⟩
  · obtain ⟨e, he, rfl⟩ := enum_get hd
    have hi : i < vs.toArray.size := by rw [← hlen]; exact (List.getElem?_eq_some_iff.mp hd).1
    refine wpAny_tk (Nat.le_refl s.toks) (W.item i s _ _ hi hst fun T vals h' tk hp hT ht hmid hk3 htk => ?_)
    refine W.go ts k tp i T _ _ _ hmid fun h'' hst'' hk' => ?_
    have hTn := W.apart i T h' hmid
    refine hK (.ref T) h'' tk htk ⟨fun b o hb e => hk' b o hb (hk3 b o hb e), ob i s.heap hst⟩ (fun kS => ?_) hst''
    have hT'' : IsTup h'' T vals := by obtain ⟨o, e, r⟩ := ht; exact ⟨o, hk' T o hTn e, r⟩
    obtain ⟨tt, x, hx', rfl⟩ := hp
    obtain ⟨v', e1, e2⟩ := hr.get he
    have : x = v' := by
      have hp' : vs[i]? = some x := by simpa using hx'
      rw [e1] at hp'; exact (Option.some.inj hp').symm
    subst this
    rw [Nat.zero_add]
    exact Exists.intro T ⟨[.int i tt, x], rfl, hT'', And.intro Rep.mkInt (And.intro (e2.ofS kS hbt) trivial)⟩
  · refine wpAny_tk (Nat.le_refl s.toks) (W.done s _ _ (by rw [← hlen]; exact hst) fun h' tk hk ht => hQ h' tk ht ⟨fun b o hb e => hk b o hb e, ob _ _ hst⟩)
noncomputable def bsOf (xs : List PySem.Str) : D → Vars
  | .tup ds => bsT xs ds []
  | _ => []
theorem EsW.one {e : Expr} {R : D → Prop} {Z : Exn → Prop} (h : EvW C G ρ e R Z) (hns : notStar e = true) : EsW C G ρ [e] (fun ds => ∃ d, ds = [d] ∧ R d) Z := EsW.cons (h.mono (fun d q => EsW.nil ⟨d, rfl, q⟩) fun _ z => z) hns
theorem S1W.asgE {elt e : Expr} {y en : PySem.Str} {xs : List (PySem.Str × Pos)} {ts : List Expr} {k : Nat} {tp np cp py spos : Pos} {ifs : List Expr} {pos : Pos} (hF : Fun G) (hh : G.A.handled = none) (N : NamesOk G scope) (hk : Storable G y) (hy : y ∉ O) (hsw : swp scope y py pos G.env = true)
    (hts : ts = nameTs xs) (hl2 : xs.length = 2) (hx : ∀ p ∈ xs, (p.1, NameKind.local) ∈ scope.names ∨ (p.1, NameKind.cell) ∈ scope.names) (he : G.env.kindOf en = some .globalImplicit) (hm : Means C en (.type "enumerate"))
    (h : EvW C G ρ e (fun d => ∃ ds, d = .list ds ∧ ds.length ≤ sizeLine ∧ ∃ J : Nat → List D → Prop, J 0 [] ∧ (∀ i es, J i es → es.length ≤ i) ∧ (∀ es, J ds.length es → plains es = true ∧ P .nxt (put y (.list es) ρ)) ∧
      ∀ L i d es, ds[i]? = some d → J i es → IfsW C (cG G scope L) (bsT (xs.map (·.1)) [.int (i : Int), d] [] ++ compVars scope ρ) ifs (fun b => (b = false → J (i + 1) es) ∧ (b = true → EvW C (cG G scope L) (bsT (xs.map (·.1)) [.int (i : Int), d] [] ++ compVars scope ρ) elt (fun e => J (i + 1) (es ++ [e])) (fun _ => False)))) (fun z => Zs z ρ))
    (hns : notStar e = true := by rfl) (hd : (en == ("__debug__" : PySem.Str)) = false := by decide) (hs : ∀ x, foldedSetIterable (.Call (.Name en np) [e] [] cp) G.env x = pure x := by intro x; rfl) :
    S1W C G O ρ (.Assign [.Name y py] (.ListComp elt [⟨.Tuple ts k tp, .Call (.Name en np) [e] [] cp, ifs, 0⟩] scope pos) spos) P Zs := fun B X own s o => by
  have hsw' : swapsWith (.ListComp elt [⟨.Tuple ts k tp, .Call (.Name en np) [e] [] cp, ifs, 0⟩] scope pos) (some (.Name y py)) spos.line G.env = pure true := by rw [swaps_comp, hsw]
  rw [exec_Assign_Name_used _ _ _ _ hsw']
  refine wpAny_bind (wpAny_standAt (wpAny_bind ?_))
  show wpAny _ G.A (do let _ ← comprehension (.ListComp elt [⟨.Tuple ts k tp, .Call (.Name en np) [e] [] cp, ifs, 0⟩] scope pos) scope G.env _ (newList []) false (eval (.Call (.Name en np) [e] [] cp) G.env) (some (assign (.Name y py) G.env))) _ _ s
  refine wpAny_bind (wpAny_mono (comp_coreG (C := C) (bs := bsOf (xs.map (·.1))) (use := some (assign (.Name y py) G.env)) (Q := fun _ s' => SP C G B X O P .next s') hh N hs ?_) (fun _ s' hq => wpAny_pure (wpAny_pure hq)) fun _ _ e => e)
  have of := o.full
  refine PySem.wpAny_Call_NameR (loadGlob of he hm ?_ hd)
  refine callWith_core Callee.ty (by simp [noStars, hns]) of (wpAny_mono ((EsW.one h hns) X s cp of) (fun us s₁ q9 => ?_) fun _ _ x => x.sx o)
  obtain ⟨st, dd, rs, d, rfl, ds, rfl, hlen, J, h0, hJl, fin, turn⟩ := q9
  refine ⟨st, ?_⟩
  obtain ⟨u, rfl, r⟩ := rs.one
  obtain ⟨l, vs, rfl, hX, hl, hr⟩ := r
  have o₁ := of.step st
  show wpAny C.M G.A (PySem.call (.type "enumerate") [.ref l]) _ _ s₁
  refine call_enumerate_list hl fun h₂ g1 g2 g3 g4 => ?_
  have hS1 : ∀ b ob, s₁.heap.get? b = some ob → Dat C ob → (hideAll s₁.heap C.tabA).get? b = some ob := fun b ob e hd => hideAll_get _ e (o₁.inv.notTab e hd.1.1)
  have hlS : (hideAll s₁.heap C.tabA).IsList l vs.toArray := by
    obtain ⟨ob, e, hc, n, hd⟩ := hl
    exact ⟨ob, hS1 _ ob e ⟨⟨by rw [hc]; simp, by rw [hc]; simp, by rw [hd]; simp⟩, by simp [hc, datCls]⟩, hc, n, hd⟩
  have hll : l < s₁.heap.objs.size := by obtain ⟨ob, e, _⟩ := hl; exact Heap.lt_size e
  have hrS := hr.move (Y := out X (hideAll s₁.heap C.tabA)) (fun b ob e hd _ => hS1 b ob e hd) fun b ob e hn q => by
    rcases q with q | q
    · exact hn q
    · rw [e] at q; cases q
  refine ⟨s₁, enumD 0 ds, X, ρ, o₁, ?_, by rw [enum_len]; exact hlen, fun d hd => ?_, fun i es _ => J i es, fun _ => h0, ⟨fun _ _ _ _ _ q => q, fun i es _ => hJl i es⟩, fun L i d es _ hd hJ => ?_, fun Da L es s' hJ c hDL => ?_⟩
  · refine wpAny_pyIter_enum (s := { s₁ with heap := h₂ }) g1 ⟨Step.keeps (tk := s₁.toks) (dr := s₁.drawn) o₁.inv g4, _, _, [s₁.heap.objs.size + 1, s₁.heap.objs.size], _, rfl, fun a ha => ?_, itrEnum (ds := ds) hh (Nat.succ_ne_self _) (Nat.ne_of_lt (Nat.lt_succ_of_lt hll)) (Nat.ne_of_lt hll) hlS hrS (fun a ha => hideAll_none _ ha), ⟨_, g1⟩, g2, ?_⟩
    · have key : ∀ b, s₁.heap.objs.size ≤ b → s₁.heap.get? b = none := fun b hb => by
        cases e : s₁.heap.get? b with
        | none => rfl
        | some ob => exact absurd (Heap.lt_size e) (Nat.not_lt.mpr hb)
      rcases List.mem_cons.mp ha with rfl | ha
      · exact ⟨key _ (Nat.le_succ _), _, g1⟩
      · rw [List.mem_singleton.mp ha]
        obtain ⟨o, e, _⟩ := itObj_list g2
        exact ⟨key _ (Nat.le_refl _), o, e⟩
    · obtain ⟨ob, e, r⟩ := hl; exact ⟨ob, g4 _ _ e, r⟩
  · obtain ⟨i, hi, e⟩ := List.mem_iff_getElem.mp hd
    obtain ⟨e', _, rfl⟩ := enum_get (show (enumD 0 ds)[i]? = some d by rw [List.getElem?_eq_getElem hi, e])
    exact TgC.tup (k := k) (tp := tp) (xs := xs) hh N hx hts (by rw [hl2]; rfl)
  · obtain ⟨e', h1, rfl⟩ := enum_get hd
    rw [Nat.zero_add]
    exact turnT (turn L i e' es h1 hJ)
  · rw [enum_len] at hJ
    exact postP hF hk hy (o.step st) c hDL (fin es hJ).1 (fin es hJ).2
end
end Mine

end
section
open PySem PySem.W PySem.Calls PyProof.Rows PySem.Builtin PySem.Builtin.Str
set_option Elab.async false
set_option maxRecDepth 100000
set_option maxHeartbeats 1000000
namespace Mine
namespace E11
noncomputable def foM (c : Nat) : List Nat := tx "Found invalid character " ++ repr_ [c] ++ tx " ("
noncomputable def begins (m y : List Nat) : Bool := decide (m.take y.length = y)
noncomputable def hits (m : List Nat) (c : Nat) : Bool := begins m (foM c)
noncomputable def runT (p : Nat) (s : List Nat) (st : Bool) : Nat → List (List Nat) → List Nat → List Nat → List (List Nat)
  | 0, told, _, _ => told
  | n + 1, told, t, bs => match suT t p s (bs.map fun c => [c]) st with
    | .ok k => told ++ [digs k]
    | .error m => runT p s st n (told ++ [m]) (if begins m (tx "Expected ") = true then t ++ 10 :: s else t) (bs.filter fun c => !hits m c)
noncomputable def keepS (p : Nat → Bool) : D → Option D
  | .str [c] => if p c = true then some (.str [c]) else none
  | _ => none
theorem keepS_map (p : Nat → Bool) : ∀ bs : List Nat, ((bs.map fun c => [c]).map D.str).filterMap (keepS p) = ((bs.filter p).map fun c => [c]).map D.str
  | [] => rfl
  | c :: r => by
    have e : keepS p (.str [c]) = if p c = true then some (.str [c]) else none := rfl
    rw [List.map_cons, List.map_cons, List.filterMap_cons, keepS_map p r, List.filter_cons, e]
    cases p c <;> rfl
theorem plains_tx : ∀ ls : List (List Nat), plains (ls.map D.str) = true
  | [] => rfl
  | _ :: r => plains_tx r
section
variable {C : Cx} {G : Fc} {ρ ρ' : Vars} {Q : D → Prop} {Z : Exn → Prop} {P : Fl → Vars → Prop} {Zs : Exn → Vars → Prop} {Sx : List D → Prop}
theorem St.fsetM (S : St C) : Means C "frozenset" (.type "frozenset") := .of_none (S.no _ (by decide)) PyProof.Rows.Boot.«frozenset» (by decide)
theorem startsW {p1 p2 p3 p4 p5 p6 : Pos} {kk : Nat} {told : List (List Nat)} {m : List Nat} {e : Expr} (hlen : told.length < 2 ^ 20) (ht : ρ.lookup ("told" : PySem.Str) = some (D.list ((told ++ [m]).map D.str))) (hs : notStar e = true)
    (hline : (p5.endLine == p6.line) = true) (h : EvW C G ρ e (fun d => ∃ y, d = .str y ∧ Q (.bool (begins m y))) Z) :
    EvW C G ρ (.Call (.Attribute (.Subscript (.Name "told" p1) (.UnaryOp .USub (.Constant (.int 1) kk p2) p3) p4) "startswith" p5) [e] [] p6) Q Z := by
  refine EvW.m_startswith ?_ (by intros; rfl) (by simp [noStars, hs]) (by show 1 < 20; decide) hline
  refine EvW.sub (EvW.name ht (EvW.un (EvW.int (OpW.neg_int ?_))))
  refine OpW.idx_list (j := told.length) (c := .str m) (by decide) (by decide) ?_ ?_ ?_
  · rw [List.length_map, List.length_append, List.length_singleton]; exact seqIndex_last (by (exact lin0 (by simp +arith only)))
  · rw [List.map_append, List.getElem?_append_right (by rw [List.length_map]; exact Nat.le_refl _), List.length_map, Nat.sub_self]; rfl
  refine ⟨_, rfl, EsW.cons (h.mono (fun d q => ?_) fun _ z => z) hs⟩
  obtain ⟨y, rfl, q⟩ := q
  exact EsW.nil (OpW.startswith q)
noncomputable abbrev tv (p : Nat) (s : List Nat) (st : Bool) (told : List (List Nat)) (t bs : List Nat) : Vars := [("text", .str t), ("place", natD p), ("sought", .str s), ("barred", txD bs), ("strict", .bool st), ("told", .list (told.map D.str))]
noncomputable abbrev nextT (m s t : List Nat) : List Nat := if begins m (tx "Expected ") = true then t ++ 10 :: s else t
theorem dnRest (S : St C) (hF : Fun G) (hsc : G.env.scope = ldoneS) (hk : 1 ≤ G.k) (hh : G.A.handled = none) (p : Nat) (s : List Nat) (st : Bool) (told : List (List Nat)) (m t bs : List Nat) (hlen : told.length < 2 ^ 10) (hl : t.length < 2 ^ 10) (hs : s.length < 2 ^ 10) (hb : Al bs) (hbl : bs.length < 2 ^ 10) :
    SW C G ["told"] (tv p s st (told ++ [m]) t bs) ((forB ldoneB[1]?).drop 1) (fun fl ρ => match fl with
      | .nxt => Sub (tv p s st (told ++ [m]) (nextT m s t) (bs.filter fun c => !hits m c)) ρ
      | _ => False) (fun _ _ => False) := by
  have hsz : sizeLine = 16777216 := rfl
  have key : ∀ t' ρ, Sub (tv p s st (told ++ [m]) t' bs) ρ → SW C G ["told"] ρ ((forB ldoneB[1]?).drop 2) (fun fl ρ => match fl with
      | .nxt => Sub (tv p s st (told ++ [m]) t' (bs.filter fun c => !hits m c)) ρ
      | _ => False) (fun _ _ => False) := fun t' ρ hsub => by
    refine SW.sub ?_ hsub
    refine SW.one ?_
    with_reducible refine S1W.asgCP hF hh ?_ ?_ ?_ ?_ ?_ ?_ ?_
    · exact .of hF hsc (by decide +kernel)
    · exact .sc hF hsc rfl
    · decide
    · unfold swp Env.blockKind Env.kindOf
      rw [hsc]
      decide +kernel
    · decide +kernel
    · exact fun v => rfl
    refine EvW.name rfl ?_
    refine ⟨_, rfl, by rw [List.length_map, List.length_map]; (exact Nat.le_of_lt (Nat.lt_of_lt_of_le (by assumption) (by decide))), keepS (fun c => !hits m c), ⟨by rw [keepS_map]; exact plains_tx _, ?_⟩, fun L d hd => ?_⟩
    · rw [keepS_map]
      exact .cons rfl (.cons rfl (.cons rfl (.cons rfl (.cons rfl (.cons rfl .nil)))))
    · obtain ⟨x, hx, rfl⟩ := List.mem_map.mp hd
      obtain ⟨c, hc, rfl⟩ := List.mem_map.mp hx
      have hsc2 := fun sc => cG_scope (scope := sc) (L := L) hsc
      have hca : Al [c] := fun a ha => by rw [List.mem_singleton.mp ha]; exact hb c hc
      have hrl := repr_al_len hca
      rw [List.length_singleton] at hrl
      refine IfsW.cons ?_
      refine TsW.not (TsW.val rfl ?_)
      refine startsW (told := told) (m := m) (by (exact Nat.lt_of_lt_of_le (by assumption) (by decide))) rfl rfl rfl ?_
      with_reducible refine EvW.bin ?_
      with_reducible refine EvW.bin ?_
      with_reducible refine EvW.str ?_
      refine EvW.call (kind_of (hsc2 _) rfl) S.lquotedM S.lquoted.callee ?_
      (refine EsW.cons ?_; refine EvW.name rfl ?_; (with_reducible refine EsW.nil ?_))
      refine quW (G := cG G _ L) S hk hh [c] (by show 1 < 2 ^ 12; decide) hca ?_
      have t1 : (PySem.Str.ofString "Found invalid character ").cps.toList.length = 24 := rfl
      have t2 : (PySem.Str.ofString " (").cps.toList.length = 2 := rfl
      refine OpW.add_str (by rw [List.length_append]; (exact lin3 (Nat.le_of_eq t1) hrl (Nat.le_of_eq (Eq.symm hsz)) (by simp +arith only))) ?_
      with_reducible refine EvW.str ?_
      refine OpW.add_str (by rw [List.length_append, List.length_append]; (exact lin4 (Nat.le_of_eq t1) hrl (Nat.le_of_eq t2) (Nat.le_of_eq (Eq.symm hsz)) (by simp +arith only))) ⟨_, rfl, ?_⟩
      with_reducible refine TrW.bool ?_
      have eT : (!hits m c) = true → keepS (fun c => !hits m c) (.str [c]) = some (.str [c]) := fun hb => if_pos hb
      have eF : (!hits m c) = false → keepS (fun c => !hits m c) (.str [c]) = none := fun hb => if_neg (by show ¬ (!hits m c) = true; rw [hb]; decide)
      refine ⟨fun hb => IfsW.nil ⟨fun q => (by cases q), fun _ => ?_⟩, fun hb => ⟨fun _ => eF hb, fun q => (by cases q)⟩⟩
      refine EvW.name rfl ?_
      exact eT hb
  refine SW.cons (S1W.ifs ?_)
  refine TsW.val rfl ?_
  refine startsW (told := told) (m := m) (by (exact Nat.lt_of_lt_of_le (by assumption) (by decide))) rfl rfl rfl ?_
  with_reducible refine EvW.str ?_
  refine ⟨_, rfl, ?_⟩
  with_reducible refine TrW.bool ?_
  unfold nextT
  refine ⟨fun hb => ?_, fun hb => ?_⟩
  · rw [if_pos hb]
    refine SW.one ?_
    refine S1W.aug hF (.sc hF hsc rfl) (by decide) rfl ?_
    ((with_reducible refine EvW.bin ?_); (with_reducible refine EvW.strNl ?_); refine EvW.name rfl ?_)
    refine OpW.add_str (by rw [List.length_append]; show 1 + s.length ≤ sizeLine; (exact lin3 hs (show 2 ^ 10 ≤ 1024 by decide +kernel) (Nat.le_of_eq (Eq.symm hsz)) (by simp +arith only))) ?_
    refine OpW.iadd_str (by rw [List.length_append, List.length_append]; show t.length + (1 + s.length) ≤ sizeLine; (exact lin5 hl (show 2 ^ 10 ≤ 1024 by decide +kernel) hs (show 2 ^ 10 ≤ 1024 by decide +kernel) (Nat.le_of_eq (Eq.symm hsz)) (by simp +arith only))) ⟨rfl, ?_⟩
    exact key _ _ (.cons rfl (.cons rfl (.cons rfl (.cons rfl (.cons rfl (.cons rfl .nil))))))
  · rw [if_neg (show ¬ begins m (tx "Expected ") = true by show ¬ begins m _ = true; rw [show begins m (tx "Expected ") = false from hb]; decide)]
    exact SW.nil (key t _ .refl)
end
end E11
end Mine

end
section
open PySem PySem.W PySem.Calls PyProof.Rows PySem.Builtin PySem.Builtin.Str
set_option Elab.async false
set_option maxRecDepth 100000
set_option maxHeartbeats 1000000
namespace Mine
namespace E11
structure Far (i : Nat) (told : List (List Nat)) (t bs : List Nat) : Prop where
  ftold : told.length ≤ i
  ft : t.length ≤ 100 + 10 * i
  fal : Al t
  fbs : Al bs
  fbl : bs.length ≤ 40
theorem Al.ext {t s : List Nat} (ha : Al t) (hs : Al s) : Al (t ++ 10 :: s) := fun c hc => by
  rcases List.mem_append.mp hc with hc | hc
  · exact ha c hc
  · rcases List.mem_cons.mp hc with rfl | hc
    · decide
    · exact hs c hc
theorem Far.next {i : Nat} {told : List (List Nat)} {m s t bs : List Nat} {f : Nat → Bool} (F : Far i told t bs) (hs : Al s) (hl : s.length ≤ 8) : Far (i + 1) (told ++ [m]) (nextT m s t) (bs.filter f) where
  ftold := by rw [List.length_append, List.length_singleton]; exact Nat.succ_le_succ F.ftold
  ft := by
    have := F.ft
    unfold nextT
    split
    · rw [List.length_append, List.length_cons]; (exact lin2 this hl (by simp +arith only))
    · (exact lin1 this (by simp +arith only))
  fal := by
    unfold nextT
    split
    · exact F.fal.ext hs
    · exact F.fal
  fbs c hc := F.fbs c (List.mem_filter.mp hc).1
  fbl := Nat.le_trans (List.length_filter_le _ _) F.fbl
theorem repr_one {t : List Nat} (ha : Al t) : ∀ c ∈ t, (repr_ [c]).length < 2 ^ 20 := fun c hc => by
  have := repr_al_len (l := [c]) (fun d hd => by rw [List.mem_singleton.mp hd]; exact ha c hc)
  rw [List.length_singleton] at this; (exact lin2 this (show 1048576 ≤ 2 ^ 20 by decide +kernel) (by simp +arith only))
section
variable {C : Cx} {G : Fc} {ρ ρ' : Vars} {Q : D → Prop} {Z : Exn → Prop} {P : Fl → Vars → Prop} {Zs : Exn → Vars → Prop} {Sx : List D → Prop}
noncomputable abbrev DnPost (Q : D → Prop) (p : Nat) (s : List Nat) (st : Bool) (R : List (List Nat)) (n i : Nat) (fl : Fl) (ρ : Vars) : Prop := match fl with
  | .nxt => ∃ told t bs, runT p s st n told t bs = R ∧ Far i told t bs ∧ Sub (tv p s st told t bs) ρ
  | .ret d => Q d
  | _ => False
theorem dnTurn (S : St C) (hF : Fun G) (hsc : G.env.scope = ldoneS) (hk : 3 ≤ G.k) (hh : G.A.handled = none) (p : Nat) (s : List Nat) (st : Bool) (R : List (List Nat)) (n i : Nat) (told : List (List Nat)) (t bs : List Nat) (hi : i ≤ 42) (hp : p < 2 ^ 10) (hs : Al s) (hsl : s.length ≤ 8) (F : Far i told t bs)
    (hR : runT p s st (n + 1) told t bs = R) (h : Q (.list (R.map D.str))) : SW C G ["told"] (("_", natD i) :: tv p s st told t bs) (forB ldoneB[1]?) (DnPost Q p s st R n (i + 1)) (fun _ _ => False) := by
  have hsz : sizeLine = 16777216 := rfl
  have hsb : scanBound = 4096 := rfl
  have ht := F.ft
  have hto := F.ftold
  have hbl := F.fbl
  have hrs := repr_al_len hs
  refine SW.cons ?_
  refine S1W.tryT hF hh S.tomlAt (kind_of hsc rfl) S.tomlM (kind_of hsc rfl) (by decide) ?_
  refine SW.one ?_
  with_reducible refine S1W.ret ?_
  with_reducible refine EvW.bin ?_
  refine EvW.name rfl ?_
  with_reducible refine FvW.ev ?_
  with_reducible refine FvW.list ?_
  refine EsW.cons ?_
  refine EvW.call (kind_of hsc rfl) S.reprM Callee.blt ?_
  refine EsW.cons ?_
  refine EvW.callKw ["error_on", "error_on_eof"] (kind_of hsc rfl) S.suM S.su.callee ?_
  (refine EsW.cons ?_; refine EvW.name rfl ?_; refine EsW.cons ?_; refine EvW.name rfl ?_; refine EsW.cons ?_; refine EvW.name rfl ?_; (with_reducible refine EsW.nil ?_))
  refine KwW.cons ?_
  refine EvW.call (kind_of hsc rfl) S.fsetM Callee.ty ?_
  (refine EsW.cons ?_; refine EvW.name rfl ?_; (with_reducible refine EsW.nil ?_))
  refine OpW.fset_list hh (by rw [List.length_map]; (exact lin2 hbl (Nat.le_of_eq (Eq.symm hsb)) (by simp +arith only))) ?_
  refine KwW.cons ?_
  refine EvW.name rfl ?_
  refine KwW.nil ?_
  refine suW S hk hh t p s (bs.map fun c => [c]) st (by (lia)) (by (exact Nat.lt_of_lt_of_le (by assumption) (by decide))) (repr_one F.fal) (by (exact lin6 hrs hsl hsl hsl hsl (show 1048576 ≤ 2 ^ 20 by decide +kernel) (by simp +arith only))) ?_
  unfold runT at hR
  cases hq : suT t p s (bs.map fun c => [c]) st with
  | ok k =>
    rw [hq] at hR
    show EsW _ _ _ _ _ _
    with_reducible refine EsW.nil ?_
    have hkl : k ≤ t.length := by
      unfold suT at hq
      have tail : ∀ e, e ≤ t.length → suTail t p (bs.map fun c => [c]) e = .ok k → k ≤ t.length := fun e he q => by
        unfold suTail at q
        split at q
        · cases q; exact he
        · cases q
      split at hq
      · split at hq
        · cases hq
        · exact tail _ (Nat.le_refl _) hq
      · rename_i e he
        have := (firstAt_some.mp he).2.1.1
        exact tail e (by (exact lin1 this (by simp +arith only))) hq
    refine OpW.repr_int (log2_small (by (lia))) ?_
    with_reducible refine EsW.nil ?_
    refine ⟨by show 1 ≤ sizeLine; (decide), ?_⟩
    refine FoW.op (FoW.add_list (by rw [List.length_append, List.length_map, List.length_singleton]; (exact lin3 hto hi (Nat.le_of_eq (Eq.symm hsz)) (by simp +arith only))) ?_)
    rw [← hR, List.map_append] at h
    exact h
  | error m =>
    rw [hq] at hR
    refine ⟨m, rfl, fun ev => ?_⟩
    refine SW.one ?_
    refine S1W.appendP (d0 := told.map D.str) (by decide) rfl (by rw [List.length_map]; (exact lin3 hto hi (Nat.le_of_eq (Eq.symm hsz)) (by simp +arith only))) ?_
    refine EvW.call (kind_of (G := G.mk' ev false) hsc rfl) S.strM Callee.ty ?_
    (refine EsW.cons ?_; refine EvW.name rfl ?_; (with_reducible refine EsW.nil ?_))
    refine OpW.str_exc S.tomlAt ⟨rfl, ?_⟩
    refine SW.sub (ρ := tv p s st (told ++ [m]) t bs) ?_ (.cons rfl (.cons rfl (.cons rfl (.cons rfl (.cons rfl (.cons (by rw [List.map_append]; rfl) .nil))))))
    refine (dnRest S hF hsc (by (exact lin1 hk (by simp +arith only))) hh p s st told m t bs (by (exact lin3 hto hi (show 1024 ≤ 2 ^ 10 by decide +kernel) (by simp +arith only))) (by (lia)) (by (exact lin2 hsl (show 1024 ≤ 2 ^ 10 by decide +kernel) (by simp +arith only))) F.fbs (by (exact lin2 hbl (show 1024 ≤ 2 ^ 10 by decide +kernel) (by simp +arith only)))).mono (fun fl ρ q => ?_) fun _ _ z => z.elim
    cases fl with
    | nxt => exact ⟨_, _, _, hR, F.next hs hsl, q⟩
    | _ => exact q.elim
theorem dnW (S : St C) (hk : 4 ≤ G.k) (hh : G.A.handled = none) (t s bs : List Nat) (p : Nat) (st : Bool) (hl : t.length ≤ 100) (hp : p < 2 ^ 10) (hs : s.length ≤ 8) (hb : bs.length ≤ 40) (ha : Al t) (has : Al s) (hab : Al bs)
    (h : Q (.list ((runT p s st (bs.length + 2) [] t bs).map D.str))) : OpW C G [.str t, natD p, .str s, txD bs, .bool st] (callV (.ref 101)) Q Z := by
  refine OpW.fnIs (O := ["told"]) S.ldone (by (exact lin1 hk (by simp +arith only))) rfl (by decide +kernel) fun G' N => ⟨.all N.fn, ?_⟩
  have hF := N.fn
  have hsc := N.scope
  have hk' := N.k
  have hh' : G'.A.handled = none := N.hnd.trans hh
  have hsz : sizeLine = 16777216 := rfl
  generalize hR : runT p s st (bs.length + 2) [] t bs = R at h
  refine SW.cons ?_
  refine S1W.asgO hF (.sc hF hsc rfl) (by decide) rfl ?_
  refine FvW.list ?_
  with_reducible refine EsW.nil ?_
  refine ⟨by decide, ?_⟩
  refine SW.cons (S1W.for_ hF hh' (.all hF) (fun x => rfl) ?_)
  refine EvW.call (kind_of hsc rfl) S.rangeM Callee.ty ?_
  refine EsW.cons ?_
  with_reducible refine EvW.bin ?_
  refine EvW.call (kind_of hsc rfl) S.len Callee.blt ?_
  (refine EsW.cons ?_; refine EvW.name rfl ?_; (with_reducible refine EsW.nil ?_))
  refine OpW.len_list (by rw [List.length_map, List.length_map]; (exact lin2 hb (show 4611686018427387904 ≤ 2 ^ 62 by decide +kernel) (by simp +arith only))) ?_
  rw [List.length_map, List.length_map]
  ((with_reducible refine EvW.int ?_); (with_reducible refine OpW.add_int ?_); (with_reducible refine EsW.nil ?_))
  rw [show (bs.length : Int) + 2 = ((bs.length + 2 : Nat) : Int) from rfl]
  refine OpW.range1 ⟨_, iter_n (bs.length + 2), fun i ρ => ∃ told t' bs', runT p s st (bs.length + 2 - i) told t' bs' = R ∧ Far i told t' bs' ∧ Sub (tv p s st told t' bs') ρ, ⟨[], t, bs, hR, ⟨Nat.le_refl _, by (assumption), ha, hab, hb⟩, .cons rfl (.cons rfl (.cons rfl (.cons rfl (.cons rfl (.cons rfl .nil)))))⟩, fun ρ hJ => ?_, fun i d ρ hd hJ => ?_⟩
  · obtain ⟨told, t', bs', h1, F, hsub⟩ := hJ
    rw [List.length_map, List.length_range, Nat.sub_self] at h1
    refine SW.sub ?_ hsub
    refine SW.one (S1W.ret ?_)
    refine EvW.name rfl ?_
    unfold runT at h1
    rw [h1]
    exact h
  · obtain ⟨told, t', bs', h1, F, hsub⟩ := hJ
    obtain ⟨hi, rfl⟩ := iter_n_get hd
    refine ⟨_, TgW.name hF (.sc hF hsc rfl) (by decide), ?_⟩
    refine SW.sub (ρ := ("_", natD i) :: tv p s st told t' bs') ?_ (Sub.trans (.cons rfl (.cons rfl (.cons rfl (.cons rfl (.cons rfl (.cons rfl (.cons rfl .nil))))))) (Sub.put hsub))
    rw [show bs.length + 2 - i = bs.length + 2 - (i + 1) + 1 by (exact Nat.le_antisymm (lin2 (subu (a := bs.length + 2) (b := i) (lin1 hi (by simp +arith only))) (subl (bs.length + 2) (i + 1)) (by simp +arith only)) (lin2 (subu (a := bs.length + 2) (b := i + 1) (lin1 hi (by simp +arith only))) (subl (bs.length + 2) (i)) (by simp +arith only)))] at h1
    refine (dnTurn S hF hsc (by (exact lin3 hk (subl (G.k) (1)) (Nat.le_of_eq (Eq.symm hk')) (by simp +arith only))) hh' p s st R (bs.length + 2 - (i + 1)) i told t' bs' (by (exact lin2 hi hb (by simp +arith only))) hp has hs F h1 h).mono (fun fl ρ q => ?_) fun _ _ z => z.elim
    cases fl with
    | nxt => exact q
    | ret d => exact q
    | _ => exact q.elim
end
end E11
end Mine

end
section
open PySem PySem.W PySem.Calls PyProof.Rows PySem.Builtin PySem.Builtin.Str
set_option Elab.async false
set_option maxRecDepth 100000
set_option maxHeartbeats 1000000
namespace Mine
theorem SWT.one {n : Nat} {C : Cx} {G : Fc} {O : List PySem.Str} {ρ : Vars} {st : Stmt} {P : Fl → Vars → Prop} {Zs : Exn → Vars → Prop} (h : S1WT n C G O ρ st P Zs) : SWT n C G O ρ [st] P Zs :=
  SWT.cons (fun B X own s o hn => wpAny_mono (h B X own s o hn) (fun fl s' q => by
    obtain ⟨ρ', own', o', p⟩ := q
    refine ⟨ρ', own', o', ?_⟩
    cases fl with
    | next => exact (SW.nil p).t
    | brk => exact p
    | cont => exact p
    | ret v => exact p) fun _ _ x => x)
theorem SWT.sub {n : Nat} {C : Cx} {G : Fc} {O : List PySem.Str} {ρ ρ' : Vars} {ss : List Stmt} {P : Fl → Vars → Prop} {Zs : Exn → Vars → Prop} (h : SWT n C G O ρ ss P Zs) (hs : Sub ρ ρ') : SWT n C G O ρ' ss P Zs := fun B X own s o hn => h B X own s (o.congr hs) hn
theorem SWT.mono {n : Nat} {C : Cx} {G : Fc} {O : List PySem.Str} {ρ : Vars} {ss : List Stmt} {P P' : Fl → Vars → Prop} {Zs Zs' : Exn → Vars → Prop} (h : SWT n C G O ρ ss P Zs) (hp : ∀ fl ρ, P fl ρ → P' fl ρ) (hz : ∀ x ρ, Zs x ρ → Zs' x ρ) : SWT n C G O ρ ss P' Zs' := fun B X own s o hn =>
  wpAny_mono (h B X own s o hn) (fun fl s₁ q => by
    obtain ⟨ρ', own', o', p⟩ := q
    refine ⟨ρ', own', o', ?_⟩
    cases fl with
    | ret v => obtain ⟨d, r, q⟩ := p; exact ⟨d, r, hp _ _ q⟩
    | _ => exact hp _ _ p) fun _ _ q => by obtain ⟨ρ', own', o', x, r, z⟩ := q; exact ⟨ρ', own', o', x, r, hz _ _ z⟩
namespace E11
noncomputable def subT (m : List Nat) (cs : List Nat) (t : List Nat) : List Nat := cs.foldl (fun t c => if hits m c = true then t.map fun a => if a = c then 120 else a else t) t
theorem sub_snoc (m : List Nat) (cs : List Nat) (c : Nat) (t : List Nat) : subT m (cs ++ [c]) t = if hits m c = true then (subT m cs t).map fun a => if a = c then 120 else a else subT m cs t := by
  unfold subT
  rw [List.foldl_append]; rfl
theorem sub_keeps (m : List Nat) : ∀ (cs t : List Nat), Al t → Al (subT m cs t) ∧ (subT m cs t).length = t.length
  | [], t, h => ⟨h, rfl⟩
  | c :: r, t, h => by
    have key : Al (if hits m c = true then t.map fun a => if a = c then 120 else a else t) ∧ (if hits m c = true then t.map fun a => if a = c then 120 else a else t).length = t.length := by
      split
      · refine ⟨fun b hb => ?_, List.length_map _⟩
        obtain ⟨a, ha, rfl⟩ := List.mem_map.mp hb
        split
        · decide
        · exact h a ha
      · exact ⟨h, rfl⟩
    obtain ⟨h1, h2⟩ := sub_keeps m r _ key.1
    exact ⟨h1, h2.trans key.2⟩
noncomputable def remT (p : Nat) (cs : List Nat) : Nat → List (List Nat) → List Nat → List (List Nat)
  | 0, told, _ => told
  | n + 1, told, t => match scT t p with
    | .ok k => told ++ [digs k]
    | .error m => remT p cs n (told ++ [m]) (subT m cs t)
section
variable {C : Cx} {G : Fc} {ρ ρ' : Vars} {Q : D → Prop} {Z : Exn → Prop} {P : Fl → Vars → Prop} {Zs : Exn → Vars → Prop} {Sx : List D → Prop}
noncomputable abbrev rv (p : Nat) (ps : List (Nat × Nat)) (told : List (List Nat)) (t : List Nat) : Vars := [("text", .str t), ("place", natD p), ("barred", .list (ps.map tkD)), ("told", .list (told.map D.str))]
noncomputable def Bars (n : Nat) (ps : List (Nat × Nat)) : Prop := ∀ q ∈ ps, TkOk n q ∧ q.1 ∈ al ∧ q.1 ≠ 120
noncomputable abbrev SgPost (p : Nat) (ps : List (Nat × Nat)) (told : List (List Nat)) (u : List Nat) (fl : Fl) (ρ : Vars) : Prop := match fl with
  | .nxt => Sub (rv p ps told u) ρ
  | _ => False
theorem reSign (S : St C) {n : Nat} (hF : Fun G) (hsc : G.env.scope = lremarkS) (hk : 1 ≤ G.k) (hh : G.A.handled = none) (p : Nat) (ps : List (Nat × Nat)) (told : List (List Nat)) (m u : List Nat) (q : Nat × Nat) (hT : TkOk n q) (hal : q.1 ∈ al) (hx : q.1 ≠ 120) (hlen : told.length < 2 ^ 10) (hl : u.length < 2 ^ 10) :
    SWT n C G ["told"] (("sign", tkD q) :: rv p ps (told ++ [m]) u) (forB ((forB lremarkB[1]?)[1]?)) (SgPost p ps (told ++ [m]) (if hits m q.1 = true then u.map (fun a => if a = q.1 then 120 else a) else u)) (fun _ _ => False) := by
  have hsz : sizeLine = 16777216 := rfl
  have hca : Al [q.1] := fun a ha => by rw [List.mem_singleton.mp ha]; exact hal
  have hrl := repr_al_len hca
  rw [List.length_singleton] at hrl
  refine SWT.one (S1WT.ifs ?_)
  refine TsW.val rfl ?_
  refine startsW (told := told) (m := m) (by (exact Nat.lt_of_lt_of_le (by assumption) (by decide))) rfl rfl rfl ?_
  with_reducible refine EvW.bin ?_
  with_reducible refine EvW.bin ?_
  with_reducible refine EvW.str ?_
  refine EvW.call (kind_of hsc rfl) S.lquotedM S.lquoted.callee ?_
  refine EsW.cons (EvW.nameTk rfl ?_)
  with_reducible refine EsW.nil ?_
  refine quW S hk hh [q.1] (by show 1 < 2 ^ 12; decide) hca ?_
  have t1 : (PySem.Str.ofString "Found invalid character ").cps.toList.length = 24 := rfl
  have t2 : (PySem.Str.ofString " (").cps.toList.length = 2 := rfl
  refine OpW.add_str (by rw [List.length_append]; (exact lin3 (Nat.le_of_eq t1) hrl (Nat.le_of_eq (Eq.symm hsz)) (by simp +arith only))) ?_
  with_reducible refine EvW.str ?_
  refine OpW.add_str (by rw [List.length_append, List.length_append]; (exact lin4 (Nat.le_of_eq t1) hrl (Nat.le_of_eq t2) (Nat.le_of_eq (Eq.symm hsz)) (by simp +arith only))) ⟨_, rfl, ?_⟩
  with_reducible refine TrW.bool ?_
  refine ⟨fun hb => ?_, fun hb => (SW.nil ?_).t⟩
  · have hb : hits m q.1 = true := hb
    rw [if_pos hb]
    refine SWT.one ?_
    refine S1WT.asg hF (.sc hF hsc rfl) (by decide) rfl ?_
    refine EvT.replace (p := q) (d := 120) (l := u) rfl rfl rfl hT hx (by (exact Nat.le_of_lt (Nat.lt_of_lt_of_le (by assumption) (by decide)))) ?_
    exact .cons rfl (.cons rfl (.cons rfl (.cons rfl .nil)))
  · have hb : hits m q.1 = false := hb
    rw [if_neg (by rw [hb]; decide)]
    exact .cons rfl (.cons rfl (.cons rfl (.cons rfl .nil)))
theorem reRest (S : St C) {n : Nat} (hF : Fun G) (hsc : G.env.scope = lremarkS) (hk : 1 ≤ G.k) (hh : G.A.handled = none) (p : Nat) (ps : List (Nat × Nat)) (told : List (List Nat)) (m t : List Nat) (hB : Bars n ps) (hlen : told.length < 2 ^ 10) (hl : t.length < 2 ^ 10) (ha : Al t) :
    SWT n C G ["told"] (rv p ps (told ++ [m]) t) ((forB lremarkB[1]?).drop 1) (SgPost p ps (told ++ [m]) (subT m (ps.map (·.1)) t)) (fun _ _ => False) := by
  refine SWT.one (S1WT.for_ hF hh (.none (by simp)) (fun x => rfl) ?_)
  refine EvW.name rfl ?_
  refine ⟨_, rfl, fun i ρ => Sub (rv p ps (told ++ [m]) (subT m ((ps.map (·.1)).take i) t)) ρ, .cons rfl (.cons rfl (.cons rfl (.cons rfl .nil))), fun ρ hJ => ?_, fun i d ρ hd hJ => ?_⟩
  · rw [List.length_map, ← List.length_map (f := (·.1)), List.take_length] at hJ
    exact hJ
  · have hi := (List.getElem?_eq_some_iff.mp hd).1
    rw [List.length_map] at hi
    rw [List.getElem?_map, List.getElem?_eq_getElem hi] at hd
    obtain rfl := Option.some.inj hd
    obtain ⟨hT, hal, hx⟩ := hB _ (List.getElem_mem hi)
    obtain ⟨k1, k2⟩ := sub_keeps m ((ps.map (·.1)).take i) t ha
    have e : subT m ((ps.map (·.1)).take (i + 1)) t = if hits m ps[i].1 = true then (subT m ((ps.map (·.1)).take i) t).map (fun a => if a = ps[i].1 then 120 else a) else subT m ((ps.map (·.1)).take i) t := by
      rw [List.take_add_one, List.getElem?_map, List.getElem?_eq_getElem hi]
      exact sub_snoc _ _ _ _
    refine ⟨_, TgW.name hF (.sc hF hsc rfl) (by decide), ?_⟩
    refine SWT.sub (ρ := ("sign", tkD ps[i]) :: rv p ps (told ++ [m]) (subT m ((ps.map (·.1)).take i) t)) ?_ (Sub.trans (.cons rfl (.cons rfl (.cons rfl (.cons rfl (.cons rfl .nil))))) (Sub.put hJ))
    refine (reSign S hF hsc hk hh p ps told m _ ps[i] hT hal hx hlen (by (exact lin2 (Nat.le_of_eq k2) hl (by simp +arith only)))).mono (fun fl ρ q => ?_) fun _ _ z => z.elim
    cases fl with
    | nxt => show Sub (rv p ps (told ++ [m]) (subT m ((ps.map (·.1)).take (i + 1)) t)) ρ; rw [e]; exact q
    | _ => exact q.elim
noncomputable abbrev RePost (Q : D → Prop) (p : Nat) (ps : List (Nat × Nat)) (R : List (List Nat)) (n i : Nat) (fl : Fl) (ρ : Vars) : Prop := match fl with
  | .nxt => ∃ told t, remT p (ps.map (·.1)) n told t = R ∧ (told.length ≤ i ∧ t.length ≤ 100 ∧ Al t) ∧ Sub (rv p ps told t) ρ
  | .ret d => Q d
  | _ => False
theorem reTurn (S : St C) {n : Nat} (hF : Fun G) (hsc : G.env.scope = lremarkS) (hk : 4 ≤ G.k) (hh : G.A.handled = none) (p : Nat) (ps : List (Nat × Nat)) (R : List (List Nat)) (j i : Nat) (told : List (List Nat)) (t : List Nat) (hB : Bars n ps) (hi : i ≤ 42) (hp : p < 2 ^ 10) (hlen : told.length ≤ i) (hl : t.length ≤ 100) (ha : Al t)
    (hR : remT p (ps.map (·.1)) (j + 1) told t = R) (h : Q (.list (R.map D.str))) : SWT n C G ["told"] (("_", natD i) :: rv p ps told t) (forB lremarkB[1]?) (RePost Q p ps R j (i + 1)) (fun _ _ => False) := by
  have hsz : sizeLine = 16777216 := rfl
  refine SWT.cons (S1W.t ?_)
  refine S1W.tryT hF hh S.tomlAt (kind_of hsc rfl) S.tomlM (kind_of hsc rfl) (by decide) ?_
  refine SW.one ?_
  with_reducible refine S1W.ret ?_
  with_reducible refine EvW.bin ?_
  refine EvW.name rfl ?_
  with_reducible refine FvW.ev ?_
  with_reducible refine FvW.list ?_
  refine EsW.cons ?_
  refine EvW.call (kind_of hsc rfl) S.reprM Callee.blt ?_
  refine EsW.cons ?_
  refine EvW.call (kind_of hsc rfl) S.scM S.sc.callee ?_
  (refine EsW.cons ?_; refine EvW.name rfl ?_; refine EsW.cons ?_; refine EvW.name rfl ?_; (with_reducible refine EsW.nil ?_))
  refine scW S hk hh t p (by (exact lin2 hl (show 524288 ≤ 2 ^ 19 by decide +kernel) (by simp +arith only))) (by (exact Nat.lt_of_lt_of_le (by assumption) (by decide))) (repr_one ha) ?_
  unfold remT at hR
  cases hq : scT t p with
  | ok k =>
    rw [hq] at hR
    show EsW _ _ _ _ _ _
    with_reducible refine EsW.nil ?_
    have hkl : k ≤ 2 ^ 10 := by
      have tail : ∀ e, e ≤ t.length → suTail t (p + 1) ill e = .ok k → k ≤ t.length := fun e he q => by
        unfold suTail at q
        split at q
        · cases q; exact he
        · cases q
      unfold scT at hq
      split at hq
      · unfold suT at hq
        split at hq
        · split at hq
          · cases hq
          · have := tail _ (Nat.le_refl _) hq; (exact lin3 this hl (show 1024 ≤ 2 ^ 10 by decide +kernel) (by simp +arith only))
        · rename_i e he
          have := (firstAt_some.mp he).2.1.1
          have := tail e (by (exact Nat.le_of_lt (by assumption))) hq
          (exact lin3 this hl (show 1024 ≤ 2 ^ 10 by decide +kernel) (by simp +arith only))
      · cases hq; (exact Nat.le_of_lt (Nat.lt_of_lt_of_le (by assumption) (by decide)))
    refine OpW.repr_int (log2_small (by (lia))) ?_
    with_reducible refine EsW.nil ?_
    refine ⟨by show 1 ≤ sizeLine; (decide), ?_⟩
    refine FoW.op (FoW.add_list (by rw [List.length_append, List.length_map, List.length_singleton]; (exact lin3 hlen hi (Nat.le_of_eq (Eq.symm hsz)) (by simp +arith only))) ?_)
    rw [← hR, List.map_append] at h
    exact h
  | error m =>
    rw [hq] at hR
    refine ⟨m, rfl, fun ev => ?_⟩
    refine SW.one ?_
    refine S1W.appendP (d0 := told.map D.str) (by decide) rfl (by rw [List.length_map]; (exact lin3 hlen hi (Nat.le_of_eq (Eq.symm hsz)) (by simp +arith only))) ?_
    refine EvW.call (kind_of (G := G.mk' ev false) hsc rfl) S.strM Callee.ty ?_
    (refine EsW.cons ?_; refine EvW.name rfl ?_; (with_reducible refine EsW.nil ?_))
    refine OpW.str_exc S.tomlAt ⟨rfl, ?_⟩
    refine SWT.sub (ρ := rv p ps (told ++ [m]) t) ?_ (.cons rfl (.cons rfl (.cons rfl (.cons (by rw [List.map_append]; rfl) .nil))))
    obtain ⟨k1, k2⟩ := sub_keeps m (ps.map (·.1)) t ha
    refine (reRest S hF hsc (by (exact lin1 hk (by simp +arith only))) hh p ps told m t hB (by (exact lin3 hlen hi (show 1024 ≤ 2 ^ 10 by decide +kernel) (by simp +arith only))) (by (exact lin2 hl (show 1024 ≤ 2 ^ 10 by decide +kernel) (by simp +arith only))) ha).mono (fun fl ρ q => ?_) fun _ _ z => z.elim
    cases fl with
    | nxt => exact ⟨_, _, hR, ⟨by rw [List.length_append, List.length_singleton]; (exact lin1 hlen (by simp +arith only)), by (exact lin2 (Nat.le_of_eq k2) hl (by simp +arith only)), k1⟩, q⟩
    | _ => exact q.elim
theorem reW (S : St C) {n : Nat} (hk : 5 ≤ G.k) (hh : G.A.handled = none) (t : List Nat) (p : Nat) (ps : List (Nat × Nat)) (hB : Bars n ps) (hl : t.length ≤ 100) (hp : p < 2 ^ 10) (hb : ps.length ≤ 40) (ha : Al t)
    (h : Q (.list ((remT p (ps.map (·.1)) (ps.length + 1) [] t).map D.str))) : OpT n C G [.str t, natD p, .list (ps.map tkD)] (callV (.ref 108)) Q Z := by
  refine OpT.fnIs (O := ["told"]) S.lremark (by (exact lin1 hk (by simp +arith only))) rfl (by decide +kernel) fun G' N => ⟨.all N.fn, ?_⟩
  have hF := N.fn
  have hsc := N.scope
  have hk' := N.k
  have hh' : G'.A.handled = none := N.hnd.trans hh
  have hsz : sizeLine = 16777216 := rfl
  generalize hR : remT p (ps.map (·.1)) (ps.length + 1) [] t = R at h
  refine SWT.cons (S1W.t ?_)
  refine S1W.asgO hF (.sc hF hsc rfl) (by decide) rfl ?_
  refine FvW.list ?_
  with_reducible refine EsW.nil ?_
  refine ⟨by decide, ?_⟩
  refine SWT.cons (S1WT.for_ hF hh' (.all hF) (fun x => rfl) ?_)
  refine EvW.call (kind_of hsc rfl) S.rangeM Callee.ty ?_
  refine EsW.cons ?_
  with_reducible refine EvW.bin ?_
  refine EvW.call (kind_of hsc rfl) S.len Callee.blt ?_
  (refine EsW.cons ?_; refine EvW.name rfl ?_; (with_reducible refine EsW.nil ?_))
  refine OpW.len_list (by rw [List.length_map]; (exact lin2 hb (show 4611686018427387904 ≤ 2 ^ 62 by decide +kernel) (by simp +arith only))) ?_
  rw [List.length_map]
  ((with_reducible refine EvW.int ?_); (with_reducible refine OpW.add_int ?_); (with_reducible refine EsW.nil ?_))
  rw [show (ps.length : Int) + 1 = ((ps.length + 1 : Nat) : Int) from rfl]
  refine OpW.range1 ⟨_, iter_n (ps.length + 1), fun i ρ => ∃ told t', remT p (ps.map (·.1)) (ps.length + 1 - i) told t' = R ∧ (told.length ≤ i ∧ t'.length ≤ 100 ∧ Al t') ∧ Sub (rv p ps told t') ρ, ⟨[], t, hR, ⟨Nat.le_refl _, hl, ha⟩, .cons rfl (.cons rfl (.cons rfl (.cons rfl .nil)))⟩, fun ρ hJ => ?_, fun i d ρ hd hJ => ?_⟩
  · obtain ⟨told, t', h1, F, hsub⟩ := hJ
    rw [List.length_map, List.length_range, Nat.sub_self] at h1
    refine SWT.sub ?_ hsub
    refine SWT.one (S1W.t (S1W.ret ?_))
    refine EvW.name rfl ?_
    unfold remT at h1
    rw [h1]
    exact h
  · obtain ⟨told, t', h1, ⟨F1, F2, F3⟩, hsub⟩ := hJ
    obtain ⟨hi, rfl⟩ := iter_n_get hd
    refine ⟨_, TgW.name hF (.sc hF hsc rfl) (by decide), ?_⟩
    refine SWT.sub (ρ := ("_", natD i) :: rv p ps told t') ?_ (Sub.trans (.cons rfl (.cons rfl (.cons rfl (.cons rfl (.cons rfl .nil))))) (Sub.put hsub))
    rw [show ps.length + 1 - i = ps.length + 1 - (i + 1) + 1 by (exact Nat.le_antisymm (lin2 (subu (a := ps.length + 1) (b := i) (lin1 hi (by simp +arith only))) (subl (ps.length + 1) (i + 1)) (by simp +arith only)) (lin2 (subu (a := ps.length + 1) (b := i + 1) (lin1 hi (by simp +arith only))) (subl (ps.length + 1) (i)) (by simp +arith only)))] at h1
    refine (reTurn S hF hsc (by (exact lin3 hk (subl (G.k) (1)) (Nat.le_of_eq (Eq.symm hk')) (by simp +arith only))) hh' p ps R (ps.length + 1 - (i + 1)) i told t' hB (by (exact lin2 hi hb (by simp +arith only))) hp F1 F2 F3 h1 h).mono (fun fl ρ q => ?_) fun _ _ z => z.elim
    cases fl with
    | nxt => exact q
    | ret d => exact q
    | _ => exact q.elim
end
end E11
end Mine

end
section
open PySem PySem.W PySem.Calls PyProof.Rows PySem.Builtin PySem.Builtin.Str
set_option Elab.async false
set_option maxRecDepth 100000
set_option maxHeartbeats 1000000
namespace Mine
namespace E11
theorem getD_at {t : List Nat} {q : Nat} (h : q < t.length) : t[q]? = some (t.getD q 0) := by
  rw [List.getD_eq_getElem?_getD, List.getElem?_eq_getElem h]; rfl
theorem Al.get {t : List Nat} (ha : Al t) {q : Nat} (h : q < t.length) : t.getD q 0 ∈ al := by
  rw [List.getD_eq_getElem?_getD, List.getElem?_eq_getElem h]; exact ha _ (List.getElem_mem h)
theorem found_eq {t : List Nat} {q : Nat} (h : q < t.length) : tx "Found invalid character " ++ repr_ [t.getD q 0] ++ tx " (at " ++ coordT t q ++ tx ")" = fndM t q := by
  unfold fndM whT coordT
  rw [if_neg (by (exact Nat.not_le_of_lt (lin1 h (by simp +arith only)))), show tx " (at line " = tx " (at " ++ tx "line " from rfl]
  simp only [List.append_assoc]
theorem exp_eq {t s : List Nat} : tx "Expected " ++ repr_ s ++ tx " (at " ++ coordT t t.length ++ tx ")" = expM s := by
  unfold expM coordT
  rw [if_pos (Nat.le_refl _), show tx " (at end of document)" = tx " (at " ++ (tx "end of document" ++ tx ")") from rfl]
  simp only [List.append_assoc]
theorem begins_ne {a b : Nat} {m y : List Nat} (h : a ≠ b) : begins (a :: m) (b :: y) = false := decide_eq_false fun q => h (List.head_eq_of_cons_eq q)
theorem found_not (t : List Nat) (q : Nat) : begins (fndM t q) (tx "Expected ") = false := by
  have e : fndM t q = 70 :: (fndM t q).tail := rfl
  rw [e]; exact begins_ne (by decide)
theorem exp_is (s : List Nat) : begins (expM s) (tx "Expected ") = true := by
  refine decide_eq_true ?_
  unfold expM
  rw [List.append_assoc]
  exact List.take_left' rfl
theorem exp_hits (s : List Nat) (c : Nat) : hits (expM s) c = false := by
  have e : expM s = 69 :: (expM s).tail := rfl
  have e2 : foM c = 70 :: (foM c).tail := rfl
  unfold hits
  rw [e, e2]; exact begins_ne (by decide)
noncomputable def rq (a : Nat) : List Nat := let m := markOf [a]; m :: (qC m a ++ [m])
theorem rq_eq {a : Nat} (ha : a ∈ al) : repr_ [a] = rq a := by
  rw [repr_al (l := [a]) fun c hc => by rw [List.mem_singleton.mp hc]; exact ha]
  unfold rq
  rw [List.flatMap_cons, List.flatMap_nil, List.append_nil]
theorem rq_table : ∀ a ∈ al, ∀ c ∈ al, (rq c ++ tx " (").length ≤ (rq a ++ tx " (at line ").length ∧ ((rq a ++ tx " (at line ").take (rq c ++ tx " (").length = rq c ++ tx " (" ↔ c = a) := by decide +kernel
theorem hits_iff {t : List Nat} {q c : Nat} (ha : t.getD q 0 ∈ al) (hc : c ∈ al) : hits (fndM t q) c = decide (c = t.getD q 0) := by
  obtain ⟨h1, h2⟩ := rq_table _ ha _ hc
  refine decide_eq_decide.mpr (Iff.trans ?_ h2)
  unfold fndM foM whT
  rw [rq_eq ha, rq_eq hc]
  generalize digs (lineT t q) ++ tx ", column " ++ digs (colT t q) ++ tx ")" = r
  have e : tx "Found invalid character " ++ rq (t.getD q 0) ++ (tx " (at line " ++ digs (lineT t q) ++ tx ", column " ++ digs (colT t q) ++ tx ")") = tx "Found invalid character " ++ (rq (t.getD q 0) ++ tx " (at line " ++ (digs (lineT t q) ++ tx ", column " ++ digs (colT t q) ++ tx ")")) := by
    simp only [List.append_assoc]
  rw [e, List.append_assoc (tx "Found invalid character ") (rq c), List.length_append, List.take_length_add_append, List.take_append_of_le_length h1]
  exact ⟨fun q => List.append_cancel_left q, fun q => by rw [q]⟩
noncomputable def fst (t : List Nat) : List Nat → List Nat → List Nat
  | _, [] => []
  | bs, q :: L => if t.getD q 0 ∈ bs then q :: fst t (bs.filter fun c => !decide (c = t.getD q 0)) L else fst t bs L
theorem mem_drop_take {t : List Nat} {p q : Nat} (hp : p ≤ q) (hq : q < t.length) (c : Nat) : c ∈ (t.take (q + 1)).drop p ↔ c ∈ (t.take q).drop p ∨ c = t.getD q 0 := by
  rw [List.take_add_one, getD_at hq, List.drop_append_of_le_length (by rw [List.length_take]; (lia))]
  show c ∈ _ ++ [_] ↔ _
  rw [List.mem_append, List.mem_singleton]
theorem filter_fst (t bs : List Nat) (p : Nat) : ∀ (n q : Nat) (bs' : List Nat), p ≤ q → q + n ≤ t.length → (∀ c, c ∈ bs' ↔ c ∈ bs ∧ c ∉ (t.take q).drop p) → (List.range' q n).filter (fstB t bs p) = fst t bs' (List.range' q n)
  | 0, _, _, _, _, _ => rfl
  | n + 1, q, bs', hp, hl, h => by
    have hm := mem_drop_take hp (show q < t.length by (exact lin1 hl (by simp +arith only)))
    rw [List.range'_succ, List.filter_cons]
    show _ = if t.getD q 0 ∈ bs' then _ else _
    have e : fstB t bs p q = decide (t.getD q 0 ∈ bs') := by
      unfold fstB
      rw [← Bool.decide_and]
      exact decide_eq_decide.mpr (h _).symm
    rw [e]
    by_cases hc : t.getD q 0 ∈ bs'
    · rw [if_pos (decide_eq_true hc), if_pos hc]
      refine congrArg (q :: ·) (filter_fst t bs p n (q + 1) _ (by (exact lin1 hp (by simp +arith only))) (by (exact lin1 hl (by simp +arith only))) fun c => ?_)
      rw [List.mem_filter, h c, hm c]
      constructor
      · rintro ⟨⟨a, b⟩, d⟩
        exact ⟨a, fun z => z.elim b fun z => by rw [z] at d; simp at d⟩
      · rintro ⟨a, b⟩
        exact ⟨⟨a, fun z => b (.inl z)⟩, by simpa using fun z => b (.inr z)⟩
    · rw [if_neg (by simpa using hc), if_neg hc]
      refine filter_fst t bs p n (q + 1) _ (by (exact lin1 hp (by simp +arith only))) (by (exact lin1 hl (by simp +arith only))) fun c => ?_
      rw [h c, hm c]
      constructor
      · rintro ⟨a, b⟩
        exact ⟨a, fun z => z.elim b fun z => hc (by rw [← z]; exact (h c).mpr ⟨a, b⟩)⟩
      · rintro ⟨a, b⟩
        exact ⟨a, fun z => b (.inl z)⟩
theorem fr_fst {t bs : List Nat} {p e : Nat} (he : e ≤ t.length) : frL t bs p (e - p) = fst t bs (List.range' p (e - p)) := by
  by_cases hp : p ≤ e
  · refine filter_fst t bs p (e - p) p bs (Nat.le_refl _) (by (exact lin2 (subu (a := e) (b := p) (lin1 hp (by simp +arith only))) he (by simp +arith only))) fun c => ⟨fun h => ⟨h, ?_⟩, fun h => h.1⟩
    rw [List.drop_take, Nat.sub_self]
    exact List.not_mem_nil
  · rw [show e - p = 0 by (exact Nat.le_antisymm (lin1 (subz (a := e) (b := p) (lin1 (Nat.lt_of_not_le hp) (by simp +arith only))) (by simp +arith only)) (lin0 (by simp +arith only)))]; rfl
theorem filter_lt {bs : List Nat} {a : Nat} (h : a ∈ bs) : (bs.filter fun c => !decide (c = a)).length < bs.length := by
  refine List.length_filter_lt_length_iff_exists.mpr ⟨a, h, by simp⟩
theorem bar_at {t bs : List Nat} {p q e : Nat} (hp : p ≤ q) (he : q < e) (hc : t.getD q 0 ∈ bs) (hn : ∀ i, p ≤ i → i < q → t.getD i 0 ∉ bs) : firstBar t (bs.map fun c => [c]) p e = some q :=
  firstBar_some.mpr ⟨hp, he, List.mem_map.mpr ⟨_, hc, rfl⟩, fun i a b z => by
    obtain ⟨c, h1, h2⟩ := List.mem_map.mp z
    exact hn i a b (by rw [← List.head_eq_of_cons_eq h2]; exact h1)⟩
theorem bar_none {t bs : List Nat} {p e : Nat} (hn : ∀ i, p ≤ i → i < e → t.getD i 0 ∉ bs) : firstBar t (bs.map fun c => [c]) p e = none :=
  firstBar_none.mpr fun i a b z => by
    obtain ⟨c, h1, h2⟩ := List.mem_map.mp z
    exact hn i a b (by rw [← List.head_eq_of_cons_eq h2]; exact h1)
theorem su_tail {t s : List Nat} {p : Nat} {st : Bool} {bars : List (List Nat)} (h : (st && (firstAt t s p).isNone) = false) : suT t p s bars st = suTail t p bars (stopT t s p) := by
  unfold suT stopT
  cases hf : firstAt t s p with
  | none =>
    rw [hf] at h
    have : st = false := by simpa using h
    rw [this]; rfl
  | some k => rfl
theorem run_fst {t s : List Nat} {p : Nat} {st : Bool} (ha : Al t) (h : (st && (firstAt t s p).isNone) = false) : ∀ (n q fuel : Nat) (told : List (List Nat)) (bs : List Nat), n = stopT t s p - q → p ≤ q → Al bs → bs.length + 1 ≤ fuel → (∀ i, p ≤ i → i < q → t.getD i 0 ∉ bs) →
    runT p s st fuel told t bs = told ++ ((fst t bs (List.range' q n)).map (fndM t) ++ [digs (stopT t s p)])
  | 0, q, fuel, told, bs, hn, hp, hb, hf, hno => by
    obtain ⟨f, rfl⟩ : ∃ f, fuel = f + 1 := ⟨fuel - 1, by (exact Nat.le_antisymm (lin1 (subl (fuel) (1)) (by simp +arith only)) (lin1 (subu (a := fuel) (b := 1) (lin1 hf (by simp +arith only))) (by simp +arith only)))⟩
    unfold runT
    rw [su_tail h]
    unfold suTail
    rw [bar_none fun i a b => hno i a (by (exact lin3 b (subl (stopT t s p) (q)) (Nat.le_of_eq (Eq.symm hn)) (by simp +arith only)))]
    rfl
  | n + 1, q, fuel, told, bs, hn, hp, hb, hf, hno => by
    have hs := stop_le t s p
    have hq : q < t.length := by (lia)
    have hqa := ha.get hq
    rw [List.range'_succ]
    show _ = told ++ ((if t.getD q 0 ∈ bs then _ else _ : List Nat).map (fndM t) ++ _)
    by_cases hc : t.getD q 0 ∈ bs
    · rw [if_pos hc]
      obtain ⟨f, rfl⟩ : ∃ f, fuel = f + 1 := ⟨fuel - 1, by (exact Nat.le_antisymm (lin1 (subl (fuel) (1)) (by simp +arith only)) (lin1 (subu (a := fuel) (b := 1) (lin1 hf (by simp +arith only))) (by simp +arith only)))⟩
      unfold runT
      rw [su_tail h]
      unfold suTail
      rw [bar_at hp (by (lia)) hc hno]
      show runT p s st f (told ++ [tx "Found invalid character " ++ repr_ [t.getD q 0] ++ tx " (at " ++ coordT t q ++ tx ")"]) _ _ = _
      have e : (bs.filter fun c => !hits (fndM t q) c) = bs.filter fun c => !decide (c = t.getD q 0) := List.filter_congr fun c hc => by rw [hits_iff hqa (hb c hc)]
      rw [found_eq hq, found_not, if_neg Bool.false_ne_true, e, run_fst ha h n (q + 1) f _ _ (by (lia)) (by (exact lin1 hp (by simp +arith only))) (fun c hc => hb c (List.mem_filter.mp hc).1) (by have := filter_lt hc; (exact lin2 this hf (by simp +arith only))) fun i a b z => ?_]
      · rw [List.append_assoc]; rfl
      · obtain ⟨z1, z2⟩ := List.mem_filter.mp z
        by_cases hiq : i = q
        · rw [hiq] at z2; simp at z2
        · exact hno i a (by (lia)) z1
    · rw [if_neg hc]
      exact run_fst ha h n (q + 1) fuel told bs (by (lia)) (by (exact lin1 hp (by simp +arith only))) hb hf fun i a b => by
        by_cases hiq : i = q
        · rw [hiq]; exact hc
        · exact hno i a (by (lia))
theorem ext_stands {t s : List Nat} {p : Nat} (hp : p ≤ t.length + 1) : (firstAt (t ++ 10 :: s) s p).isNone = false := by
  cases h : firstAt (t ++ 10 :: s) s p with
  | some k => rfl
  | none =>
    refine absurd ⟨?_, ?_⟩ (firstAt_none.mp h (t.length + 1) hp)
    · rw [List.length_append, List.length_cons]; (exact lin0 (by simp +arith only))
    · rw [show t ++ 10 :: s = (t ++ [10]) ++ s by rw [List.append_assoc]; rfl, List.drop_left' (by rw [List.length_append, List.length_singleton])]
      exact List.take_length ..
theorem run_due {t s bs : List Nat} {p : Nat} {st : Bool} (ha : Al t) (has : Al s) (hab : Al bs) (hp : p ≤ t.length + 1) : runT p s st (bs.length + 2) [] t bs = dueT t p s bs st := by
  unfold dueT
  have fin : ∀ (t : List Nat) (told : List (List Nat)) (f : Nat), Al t → (st && (firstAt t s p).isNone) = false → bs.length + 1 ≤ f → runT p s st f told t bs = told ++ dueTail t s bs p := fun t told f ha h hf => by
    rw [run_fst ha h _ p f told bs rfl (Nat.le_refl _) hab hf fun i a b => by (lia)]
    unfold dueTail
    rw [fr_fst (stop_le t s p)]
  cases h : st && (firstAt t s p).isNone with
  | false =>
    rw [if_neg Bool.false_ne_true]
    exact fin t [] _ ha h (by (exact lin0 (by simp +arith only)))
  | true =>
    rw [if_pos rfl]
    obtain ⟨h1, h2⟩ := Bool.and_eq_true_iff.mp h
    have h3 : firstAt t s p = none := Option.isNone_iff_eq_none.mp h2
    unfold runT suT
    rw [h3, h1]
    show runT p s true (bs.length + 1) ([] ++ [tx "Expected " ++ repr_ s ++ tx " (at " ++ coordT t t.length ++ tx ")"]) _ _ = _
    have e : (bs.filter fun c => !hits (expM s) c) = bs := List.filter_eq_self.mpr fun c _ => by rw [exp_hits]; rfl
    rw [exp_eq, exp_is, if_pos rfl, e]
    rw [h1] at fin
    exact fin _ _ _ (ha.ext has) (by rw [ext_stands hp]; rfl) (Nat.le_refl _)
end E11
end Mine

end
section
open PySem PySem.W PySem.Calls PyProof.Rows PySem.Builtin PySem.Builtin.Str
set_option Elab.async false
set_option maxRecDepth 100000
set_option maxHeartbeats 1000000
namespace Mine
namespace E11
noncomputable def ctlL : List Nat := [0, 1, 2, 3, 4, 5, 6, 7, 8, 10, 11, 12, 13, 14, 15, 16, 17, 18, 19, 20, 21, 22, 23, 24, 25, 26, 27, 28, 29, 30, 31, 127]
theorem ctl_al : ∀ c ∈ ctlL, c ∈ al ∧ c ≠ 120 ∧ c ≠ 35 := by decide +kernel
noncomputable def mskF (bs : List Nat) (a : Nat) : Nat := if a ∈ ctlL ∧ a ∉ bs then 120 else a
theorem msk_pos {bs : List Nat} {a : Nat} (h : a ∈ ctlL ∧ a ∉ bs) : mskF bs a = 120 := if_pos h
theorem msk_neg {bs : List Nat} {a : Nat} (h : ¬ (a ∈ ctlL ∧ a ∉ bs)) : mskF bs a = a := if_neg h
theorem msk_in {bs : List Nat} {a : Nat} (h : a ∈ bs) : mskF bs a = a := msk_neg fun q => q.2 h
theorem msk_ctl {bs : List Nat} (hb : ∀ c ∈ bs, c ∈ ctlL) {a : Nat} : mskF bs a ∈ ctlL ↔ a ∈ bs := by
  by_cases h : a ∈ ctlL ∧ a ∉ bs
  · rw [msk_pos h]
    exact ⟨fun q => absurd q (by decide), fun q => absurd q h.2⟩
  · rw [msk_neg h]
    exact ⟨fun q => Classical.byContradiction fun z => h ⟨q, z⟩, hb a⟩
theorem msk_keep {bs : List Nat} {c a : Nat} (hc : c ∉ ctlL ∨ c ∈ bs) (hx : c ≠ 120) : mskF bs a = c ↔ a = c := by
  by_cases h : a ∈ ctlL ∧ a ∉ bs
  · rw [msk_pos h]
    refine ⟨fun q => absurd q.symm hx, fun q => ?_⟩
    rw [q] at h
    exact hc.elim (fun z => absurd h.1 z) fun z => absurd z h.2
  · rw [msk_neg h]
noncomputable def msk (bs t : List Nat) : List Nat := t.map (mskF bs)
theorem msk_len (bs t : List Nat) : (msk bs t).length = t.length := List.length_map _
theorem msk_at (bs : List Nat) {t : List Nat} {q : Nat} (h : q < t.length) : (msk bs t).getD q 0 = mskF bs (t.getD q 0) := by
  unfold msk
  rw [List.getD_eq_getElem?_getD, List.getElem?_map, getD_at h]; rfl
theorem msk_all (t : List Nat) : msk ctlL t = t := by
  have e : t.map (mskF ctlL) = t.map fun a => a := List.map_congr_left fun a _ => msk_neg fun q => q.2 q.1
  unfold msk
  rw [e, List.map_id']
theorem map_has {f : Nat → Nat} (hf : ∀ a, f a = 10 ↔ a = 10) (t : List Nat) (i : Nat) : hasB (t.map f) [10] i = hasB t [10] i := by
  unfold hasB
  rw [List.length_map]
  refine congrArg (decide (i + [10].length ≤ t.length) && ·) ?_
  show (((t.map f).drop i).take 1 == [10]) = ((t.drop i).take 1 == [10])
  rw [← List.map_drop]
  cases t.drop i with
  | nil => rfl
  | cons a r =>
    show ([f a] == [10]) = ([a] == [10])
    by_cases h : a = 10
    · rw [h, (hf 10).mpr rfl]
    · rw [beq_eq_false_iff_ne.mpr fun q => h ((hf a).mp (List.head_eq_of_cons_eq q)), beq_eq_false_iff_ne.mpr fun q => h (List.head_eq_of_cons_eq q)]
theorem map_first {f : Nat → Nat} (hf : ∀ a, f a = 10 ↔ a = 10) (t : List Nat) (p : Nat) : firstAt (t.map f) [10] p = firstAt t [10] p := by
  unfold firstAt
  rw [List.length_map, show hasB (t.map f) [10] = hasB t [10] from funext (map_has hf t)]
theorem map_last {f : Nat → Nat} (hf : ∀ a, f a = 10 ↔ a = 10) : ∀ l : List Nat, lastIdx 10 (l.map f) = lastIdx 10 l
  | [] => rfl
  | x :: r => by
    have ih := map_last hf r
    rw [List.map_cons]
    unfold lastIdx
    rw [ih]
    cases lastIdx 10 r with
    | some i => rfl
    | none =>
      show (if f x = 10 then some 0 else none) = if x = 10 then some 0 else none
      by_cases h : x = 10
      · rw [if_pos ((hf x).mpr h), if_pos h]
      · rw [if_neg fun q => h ((hf x).mp q), if_neg h]
theorem map_count {f : Nat → Nat} (hf : ∀ a, f a = 10 ↔ a = 10) : ∀ l : List Nat, (l.map f).count 10 = l.count 10
  | [] => rfl
  | x :: r => by
    rw [List.map_cons, List.count_cons, List.count_cons, map_count hf r]
    by_cases h : x = 10
    · rw [h, (hf 10).mpr rfl]
    · rw [beq_eq_false_iff_ne.mpr fun q => h ((hf x).mp q), beq_eq_false_iff_ne.mpr h]
theorem map_found {f : Nat → Nat} (hf : ∀ a, f a = 10 ↔ a = 10) {t : List Nat} {q : Nat} (hq : q < t.length) (h : f (t.getD q 0) = t.getD q 0) : fndM (t.map f) q = fndM t q := by
  have e : (t.map f).getD q 0 = t.getD q 0 := by
    rw [List.getD_eq_getElem?_getD, List.getElem?_map, getD_at hq]; exact h
  unfold fndM whT lineT colT
  rw [e, ← List.map_take, map_count hf, map_last hf]
theorem sub_once {t : List Nat} {q : Nat} (ha : t.getD q 0 ∈ al) (hx : t.getD q 0 ≠ 120) : ∀ (cs u : List Nat), Al cs → subT (fndM t q) cs u = if t.getD q 0 ∈ cs then u.map (fun a => if a = t.getD q 0 then 120 else a) else u
  | [], u, _ => rfl
  | c :: r, u, hc => by
    have ih := fun u => sub_once ha hx r u fun d hd => hc d (.tail _ hd)
    show subT (fndM t q) r (if hits (fndM t q) c = true then u.map fun a => if a = c then 120 else a else u) = _
    rw [hits_iff ha (hc c (.head _)), ih]
    by_cases h : c = t.getD q 0
    · rw [show decide (c = t.getD q 0) = true from decide_eq_true h, if_pos (rfl : true = true), if_pos (show t.getD q 0 ∈ c :: r by rw [h]; exact .head _), h]
      split
      · rw [List.map_map]
        refine List.map_congr_left fun a _ => ?_
        show (if (if a = t.getD q 0 then 120 else a) = t.getD q 0 then 120 else (if a = t.getD q 0 then 120 else a)) = _
        by_cases z : a = t.getD q 0
        · rw [if_pos z, if_neg fun w => hx w.symm]
        · rw [if_neg z, if_neg z]
      · rfl
    · rw [show decide (c = t.getD q 0) = false from decide_eq_false h, if_neg Bool.false_ne_true]
      by_cases z : t.getD q 0 ∈ r
      · rw [if_pos z, if_pos (List.mem_cons_of_mem _ z)]
      · rw [if_neg z, if_neg fun w => (List.mem_cons.mp w).elim (fun w => h w.symm) z]
theorem msk_next {bs t : List Nat} {b : Nat} (hb : b ∈ bs) (hc : ∀ c ∈ bs, c ∈ ctlL) : (msk bs t).map (fun a => if a = b then 120 else a) = msk (bs.filter fun c => !decide (c = b)) t := by
  unfold msk
  rw [List.map_map]
  refine List.map_congr_left fun a _ => ?_
  show (if mskF bs a = b then 120 else mskF bs a) = _
  have hx := (ctl_al b (hc b hb)).2.1
  by_cases h : a = b
  · rw [h, msk_in hb, if_pos rfl, msk_pos ⟨hc b hb, fun q => by have := (List.mem_filter.mp q).2; simp at this⟩]
  · rw [if_neg fun q => h ((msk_keep (.inr hb) hx).mp q)]
    have e : (a ∈ bs.filter fun c => !decide (c = b)) ↔ a ∈ bs := by
      rw [List.mem_filter]
      exact ⟨fun q => q.1, fun q => ⟨q, by simpa using h⟩⟩
    by_cases z : a ∈ ctlL ∧ a ∉ bs
    · rw [msk_pos z, msk_pos ⟨z.1, fun q => z.2 (e.mp q)⟩]
    · rw [msk_neg z, msk_neg fun q => z ⟨q.1, fun w => q.2 (e.mpr w)⟩]
theorem ill_in (c : Nat) : [c] ∈ ill ↔ c ∈ ctlL := by
  have e : ill = ctlL.map fun c => [c] := rfl
  rw [e]
  exact ⟨fun h => by obtain ⟨d, h1, h2⟩ := List.mem_map.mp h; rw [← List.head_eq_of_cons_eq h2]; exact h1, fun h => List.mem_map.mpr ⟨c, h, rfl⟩⟩
theorem rem_fst {t : List Nat} {p : Nat} (ha : Al t) (hp35 : t[p]? = some 35) : ∀ (n q fuel : Nat) (told : List (List Nat)) (bs : List Nat), n = stopT t [10] (p + 1) - q → p + 1 ≤ q → (∀ c ∈ bs, c ∈ ctlL) → 10 ∈ bs → bs.length + 1 ≤ fuel → (∀ i, p + 1 ≤ i → i < q → t.getD i 0 ∉ bs) →
    remT p ctlL fuel told (msk bs t) = told ++ ((fst t bs (List.range' q n)).map (fndM t) ++ [digs (stopT t [10] (p + 1))]) := by
  have hs := stop_le t [10] (p + 1)
  have no10 : ∀ i, p + 1 ≤ i → i < stopT t [10] (p + 1) → t.getD i 0 ≠ 10 := fun i h1 h2 h3 => by
    have hi : i < t.length := by (exact lin2 h2 hs (by simp +arith only))
    have hat : hasAt t [10] i := ⟨by rw [List.length_singleton]; (assumption), by
      show (t.drop i).take 1 = [10]
      rw [List.drop_eq_getElem_cons hi]
      have := getD_at hi
      rw [List.getElem?_eq_getElem hi, h3] at this
      rw [Option.some.inj this]; rfl⟩
    unfold stopT at h2
    cases h : firstAt t [10] (p + 1) with
    | none => exact firstAt_none.mp h i h1 hat
    | some k => rw [h] at h2; exact (firstAt_some.mp h).2.2 i h1 h2 hat
  have key : ∀ bs : List Nat, 10 ∈ bs → scT (msk bs t) p = suTail (msk bs t) (p + 1) ill (stopT t [10] (p + 1)) := fun bs h10 => by
    have h35 : (msk bs t)[p]? = some 35 := by
      unfold msk
      rw [List.getElem?_map, hp35]
      exact congrArg some ((msk_keep (.inl (by decide)) (by decide)).mpr rfl)
    have hf : ∀ a, mskF bs a = 10 ↔ a = 10 := fun a => msk_keep (.inr h10) (by decide)
    unfold scT
    rw [if_pos h35, su_tail (by rfl)]
    unfold stopT
    rw [show firstAt (msk bs t) [10] (p + 1) = firstAt t [10] (p + 1) from map_first hf t _, msk_len]
  intro n
  induction n with
  | zero =>
    intro q fuel told bs hn hp hb h10 hf hno
    obtain ⟨f, rfl⟩ : ∃ f, fuel = f + 1 := ⟨fuel - 1, by (exact Nat.le_antisymm (lin1 (subl (fuel) (1)) (by simp +arith only)) (lin1 (subu (a := fuel) (b := 1) (lin1 hf (by simp +arith only))) (by simp +arith only)))⟩
    unfold remT
    rw [key bs h10]
    unfold suTail
    rw [firstBar_none.mpr fun i a b z => hno i a (by (exact lin3 b (subl (stopT t [10] (p + 1)) (q)) (Nat.le_of_eq (Eq.symm hn)) (by simp +arith only))) ?_]
    · rfl
    · rw [ill_in, msk_at bs (by (exact lin2 b hs (by simp +arith only))), msk_ctl hb] at z
      exact z
  | succ n ih =>
    intro q fuel told bs hn hp hb h10 hf hno
    have hq : q < t.length := by (lia)
    have hqa := ha.get hq
    rw [List.range'_succ]
    show _ = told ++ ((if t.getD q 0 ∈ bs then _ else _ : List Nat).map (fndM t) ++ _)
    by_cases hc : t.getD q 0 ∈ bs
    · rw [if_pos hc]
      obtain ⟨f, rfl⟩ : ∃ f, fuel = f + 1 := ⟨fuel - 1, by (exact Nat.le_antisymm (lin1 (subl (fuel) (1)) (by simp +arith only)) (lin1 (subu (a := fuel) (b := 1) (lin1 hf (by simp +arith only))) (by simp +arith only)))⟩
      have hx := (ctl_al _ (hb _ hc)).2.1
      have hm : (msk bs t).getD q 0 = t.getD q 0 := by rw [msk_at bs hq, msk_in hc]
      unfold remT
      rw [key bs h10]
      unfold suTail
      rw [firstBar_some.mpr ⟨hp, (by (lia) : q < stopT t [10] (p + 1)), by rw [ill_in, hm]; exact hb _ hc, fun i a b z => hno i a b ?_⟩]
      rotate_left
      · rw [ill_in, msk_at bs (by (exact lin2 b hq (by simp +arith only))), msk_ctl hb] at z
        exact z
      show remT p ctlL f (told ++ [tx "Found invalid character " ++ repr_ [(msk bs t).getD q 0] ++ tx " (at " ++ coordT (msk bs t) q ++ tx ")"]) _ = _
      have e : fndM (msk bs t) q = fndM t q := map_found (fun a => msk_keep (.inr h10) (by decide)) hq (msk_in hc)
      rw [found_eq (by rw [msk_len]; exact hq), e, sub_once hqa hx ctlL (msk bs t) fun c hc => (ctl_al c hc).1, if_pos (hb _ hc), msk_next hc hb,
        ih (q + 1) f _ _ (by (lia)) (by (exact lin1 hp (by simp +arith only))) (fun c hc => hb c (List.mem_filter.mp hc).1) (List.mem_filter.mpr ⟨h10, by simpa using fun z => no10 q hp (by (lia)) z.symm⟩) (by have := filter_lt hc; (exact lin2 this hf (by simp +arith only))) fun i a b z => ?_]
      · rw [List.append_assoc]; rfl
      · obtain ⟨z1, z2⟩ := List.mem_filter.mp z
        by_cases hiq : i = q
        · rw [hiq] at z2; simp at z2
        · exact hno i a (by (lia)) z1
    · rw [if_neg hc]
      exact ih (q + 1) fuel told bs (by (lia)) (by (exact lin1 hp (by simp +arith only))) hb h10 hf fun i a b => by
        by_cases hiq : i = q
        · rw [hiq]; exact hc
        · exact hno i a (by (lia))
theorem rem_due {t : List Nat} {p : Nat} (ha : Al t) : remT p ctlL 33 [] t = if t[p]? = some 35 then dueT t (p + 1) [10] ctlL false else [digs p] := by
  by_cases h : t[p]? = some 35
  · rw [if_pos h]
    have := rem_fst ha h _ (p + 1) 33 [] ctlL rfl (Nat.le_refl _) (fun c hc => hc) (by decide) (by decide) fun i a b => by (lia)
    rw [msk_all] at this
    rw [this]
    unfold dueT dueTail
    rw [Bool.false_and, if_neg Bool.false_ne_true, fr_fst (stop_le t [10] (p + 1))]
    rfl
  · rw [if_neg h]
    unfold remT scT
    rw [if_neg h]
    rfl
end E11
end Mine

end
section
open PySem PySem.W PySem.Calls PyProof.Rows PySem.Builtin PySem.Builtin.Str
set_option Elab.async false
set_option maxRecDepth 100000
set_option maxHeartbeats 1000000
namespace Mine
namespace E11
section
variable {C : Cx} {G : Fc} {ρ ρ' : Vars} {Q : D → Prop} {Z : Exn → Prop} {P : Fl → Vars → Prop} {Zs : Exn → Vars → Prop} {Sx : List D → Prop}
noncomputable abbrev fv (w s bs : List Nat) (ps : List (Nat × Nat)) : Vars := [("whole", .str w), ("sought", .str s), ("barred", txD bs), ("control", .list (ps.map tkD))]
noncomputable abbrev tvL (w s bs : List Nat) (ps : List (Nat × Nat)) (t : List Nat) : Vars := ("text", .str t) :: fv w s bs ps
noncomputable abbrev pvL (w s bs : List Nat) (ps : List (Nat × Nat)) (t : List Nat) (p : Nat) : Vars := ("place", natD p) :: tvL w s bs ps t
noncomputable abbrev nxP (ρ₀ : Vars) (fl : Fl) (ρ : Vars) : Prop := match fl with
  | .nxt => Sub ρ₀ ρ
  | _ => False
noncomputable abbrev tuB : List Stmt := forB laB[8]?
noncomputable abbrev plB : List Stmt := forB tuB[0]?
structure Hand (n : Nat) (w s bs : List Nat) (ps : List (Nat × Nat)) : Prop where
  hB : Bars n ps
  hps : ps.map (·.1) = ctlL
  hw : w.length ≤ 47
  haw : Al w
  hs : s.length ≤ 8
  has : Al s
  hbl : bs.length ≤ 40
  hab : Al bs
theorem sc_tx (ls : List (List Nat)) : ∀ d ∈ ls.map D.str, Sc2 d := fun d hd => by
  obtain ⟨l, _, rfl⟩ := List.mem_map.mp hd
  exact .sc (.str _)
theorem laStrict (S : St C) {n : Nat} (hF : Fun G) (hsc : G.env.scope = laS) (hk : 8 ≤ G.k) (hh : G.A.handled = none) (w s bs : List Nat) (ps : List (Nat × Nat)) (t : List Nat) (p : Nat) (H : Hand n w s bs ps) (hl : t.length ≤ 47) (ha : Al t) (hp : p ≤ t.length + 1) (b : Bool) :
    SW C G [] (("strict", .bool b) :: pvL w s bs ps t p) (forB plB[0]?) (nxP (pvL w s bs ps t p)) (fun _ _ => False) := by
  have hsz : sizeLine = 16777216 := rfl
  have h1 := H.hs
  have h2 := H.hbl
  refine SW.one (S1W.ifs ?_)
  refine TsW.cmp1 ?_
  refine EvW.call (kind_of hsc rfl) S.ldoneM S.ldone.callee ?_
  (refine EsW.cons ?_; refine EvW.name rfl ?_; refine EsW.cons ?_; refine EvW.name rfl ?_; refine EsW.cons ?_; refine EvW.name rfl ?_; refine EsW.cons ?_; refine EvW.name rfl ?_; refine EsW.cons ?_; refine EvW.name rfl ?_; (with_reducible refine EsW.nil ?_))
  refine dnW S (by (exact lin1 hk (by simp +arith only))) hh t s bs p b (by (exact Nat.le_trans (by assumption) (by decide))) (by (exact lin3 hp hl (show 1024 ≤ 2 ^ 10 by decide +kernel) (by simp +arith only))) H.hs H.hbl ha H.has H.hab ?_
  rw [run_due ha H.has H.hab hp]
  refine EvW.call (kind_of hsc rfl) S.ldueM S.ldue.callee ?_
  (refine EsW.cons ?_; refine EvW.name rfl ?_; refine EsW.cons ?_; refine EvW.name rfl ?_; refine EsW.cons ?_; refine EvW.name rfl ?_; refine EsW.cons ?_; refine EvW.name rfl ?_; refine EsW.cons ?_; refine EvW.name rfl ?_; (with_reducible refine EsW.nil ?_))
  refine duW S (by (exact lin1 hk (by simp +arith only))) hh t s bs p b (by (exact lin2 hl (show 1024 ≤ 2 ^ 10 by decide +kernel) (by simp +arith only))) (by (exact lin2 h1 (show 1024 ≤ 2 ^ 10 by decide +kernel) (by simp +arith only))) ha H.has ?_
  refine OpW.ne_same (sc_tx _) ?_
  with_reducible refine TrW.bool ?_
  exact ⟨fun q => (by cases q), fun _ => SW.nil (.cons rfl (.cons rfl (.cons rfl (.cons rfl (.cons rfl (.cons rfl .nil))))))⟩
theorem laPlace (S : St C) {n : Nat} (hF : Fun G) (hsc : G.env.scope = laS) (hk : 8 ≤ G.k) (hh : G.A.handled = none) (w s bs : List Nat) (ps : List (Nat × Nat)) (t : List Nat) (p : Nat) (H : Hand n w s bs ps) (hl : t.length ≤ 47) (ha : Al t) (hp : p ≤ t.length + 1) :
    SWT n C G [] (pvL w s bs ps t p) plB (nxP (tvL w s bs ps t)) (fun _ _ => False) := by
  have hsz : sizeLine = 16777216 := rfl
  have h2 := H.hbl
  have hlen : ps.length = 32 := by
    have := congrArg List.length H.hps
    rw [List.length_map] at this; exact this
  refine SWT.cons (S1W.t (S1W.for_ hF hh (.none (by simp)) (fun x => rfl) ?_))
  rw [safe_nil]
  ((with_reducible refine EvW.tuple ?_); refine EsW.cons ?_; (with_reducible refine EvW.bool ?_); refine EsW.cons ?_; (with_reducible refine EvW.bool ?_); (with_reducible refine EsW.nil ?_))
  refine ⟨by show 2 ≤ sizeLine; (decide), _, rfl, fun _ ρ => Sub (pvL w s bs ps t p) ρ, .refl, fun ρ hJ => ?_, fun i d ρ hd hJ => ?_⟩
  rotate_left
  · obtain ⟨b, rfl⟩ : ∃ b, d = .bool b := by
      rcases i with _ | _ | i
      · exact ⟨_, (Option.some.inj hd).symm⟩
      · exact ⟨_, (Option.some.inj hd).symm⟩
      · cases hd
    refine ⟨_, TgW.name hF (.sc hF hsc rfl) (by decide), ?_⟩
    refine SW.sub (ρ := ("strict", .bool b) :: pvL w s bs ps t p) ?_ (Sub.trans (.cons rfl (.cons rfl (.cons rfl (.cons rfl (.cons rfl (.cons rfl (.cons rfl .nil))))))) (Sub.put hJ))
    refine (laStrict S hF hsc hk hh w s bs ps t p H hl ha hp b).mono (fun fl ρ q => ?_) fun _ _ z => z.elim
    cases fl with
    | nxt => exact q
    | _ => exact q.elim
  refine SWT.sub ?_ hJ
  refine SWT.cons (S1W.t ?_)
  refine S1W.asg0 hF (.sc hF hsc rfl) ?_
  with_reducible refine FvW.ev ?_
  with_reducible refine FvW.list ?_
  refine EsW.cons ?_
  refine EvW.call (kind_of hsc rfl) S.reprM Callee.blt ?_
  (refine EsW.cons ?_; refine EvW.name rfl ?_; (with_reducible refine EsW.nil ?_))
  refine OpW.repr_int (log2_small (by (lia))) ?_
  with_reducible refine EsW.nil ?_
  refine ⟨by show 1 ≤ sizeLine; (decide), ?_⟩
  -- behind the choice of what is due
  have tl : ∀ ρ, Sub (("due", .list ((remT p ctlL 33 [] t).map D.str)) :: pvL w s bs ps t p) ρ → SWT n C G [] ρ (plB.drop 3) (nxP (tvL w s bs ps t)) (fun _ _ => False) := fun ρ hs => by
    refine SWT.sub ?_ hs
    refine SWT.one ?_
    refine S1WT.ifC ?_
    refine EvT.call (kind_of hsc rfl) S.lremarkM S.lremark.callee ?_
    (refine EsW.cons ?_; refine EvW.name rfl ?_; refine EsW.cons ?_; refine EvW.name rfl ?_; refine EsW.cons ?_; refine EvW.name rfl ?_; (with_reducible refine EsW.nil ?_))
    refine reW S (by (exact lin1 hk (by simp +arith only))) hh t p ps H.hB (by (exact Nat.le_trans (by assumption) (by decide))) (by (exact lin3 hp hl (show 1024 ≤ 2 ^ 10 by decide +kernel) (by simp +arith only))) (by (exact lin1 (Nat.le_of_eq hlen) (by simp +arith only))) ha ?_
    rw [H.hps, hlen]
    refine EvW.name rfl ?_
    refine OpW.ne_same (sc_tx _) ?_
    with_reducible refine TrW.bool ?_
    exact ⟨fun q => (by cases q), fun _ => SW.nil (.cons rfl (.cons rfl (.cons rfl (.cons rfl (.cons rfl .nil)))))⟩
  rw [rem_due ha] at tl
  refine SWT.cons (S1WT.ifs ?_)
  refine TsW.det (x := decide (t[p]? = some 35)) ?_ ?_
  · (refine TsW.cmp1 ?_; (with_reducible refine EvW.slice ?_); refine EvW.name rfl ?_; (with_reducible refine EoW.some ?_); refine EvW.name rfl ?_; (with_reducible refine EoW.some ?_); (with_reducible refine EvW.bin ?_); refine EvW.name rfl ?_; (with_reducible refine EvW.int ?_); (with_reducible refine OpW.add_int ?_))
    refine .inl ⟨_, _, _, rfl, rfl, rfl, by (exact Nat.le_trans (by assumption) (by decide)), ?_⟩
    rw [show (p : Int) + 1 = ((p + 1 : Nat) : Int) from rfl, pslice_nat]
    with_reducible refine EvW.str ?_
    refine OpW.eq_str (c := [35]) rfl ?_
    with_reducible refine TrW.bool ?_
    refine decide_eq_decide.mpr ?_
    rw [List.drop_take, Nat.add_sub_cancel_left]
    by_cases hpt : p < t.length
    · rw [List.drop_eq_getElem_cons hpt, List.getElem?_eq_getElem hpt]
      exact ⟨fun q => congrArg some (List.head_eq_of_cons_eq q), fun q => by rw [Option.some.inj q]; rfl⟩
    · rw [List.drop_of_length_le (by (exact lin1 (Nat.le_of_not_lt hpt) (by simp +arith only))), List.getElem?_eq_none (by (exact lin1 (Nat.le_of_not_lt hpt) (by simp +arith only)))]
      exact ⟨fun q => (by cases q), fun q => (by cases q)⟩
  refine ⟨fun hb => ?_, fun hb => ?_⟩
  · rw [if_pos (of_decide_eq_true hb)] at tl
    refine SWT.one (S1W.t ?_)
    refine S1W.asg0 hF (.sc hF hsc rfl) ?_
    refine EvW.call (kind_of hsc rfl) S.ldueM S.ldue.callee ?_
    refine EsW.cons ?_
    refine EvW.name rfl ?_
    refine EsW.cons ?_
    with_reducible refine EvW.bin ?_
    refine EvW.name rfl ?_
    with_reducible refine EvW.int ?_
    with_reducible refine OpW.add_int ?_
    refine EsW.cons ?_
    with_reducible refine EvW.strNl ?_
    refine EsW.cons ?_
    refine EvW.nameTks rfl ?_
    rw [show (ps.map fun p => [p.1]) = (ps.map (·.1)).map fun c => [c] by rw [List.map_map]; rfl, H.hps]
    (refine EsW.cons ?_; (with_reducible refine EvW.bool ?_); (with_reducible refine EsW.nil ?_))
    refine duW (Z := fun _ => False) (p := p + 1) S (by (exact lin1 hk (by simp +arith only))) hh t [10] ctlL false (by (exact lin2 hl (show 1024 ≤ 2 ^ 10 by decide +kernel) (by simp +arith only))) (by decide) ha (fun c hc => by rw [List.mem_singleton.mp hc]; decide) ?_
    exact tl _ (.cons rfl (.cons rfl (.cons rfl (.cons rfl (.cons rfl (.cons rfl (.cons rfl .nil)))))))
  · rw [if_neg (of_decide_eq_false hb)] at tl
    exact (SW.nil (tl _ (.cons rfl (.cons rfl (.cons rfl (.cons rfl (.cons rfl (.cons rfl (.cons rfl .nil))))))))).t
end
end E11
end Mine

end
section
open PySem PySem.W PySem.Calls PyProof.Rows PySem.Builtin PySem.Builtin.Str
set_option Elab.async false
set_option maxRecDepth 100000
set_option maxHeartbeats 1000000
namespace Mine
theorem EvT.compT {n : Nat} {C : Cx} {G : Fc} {ρ : Vars} {QT : D → Nat → Prop} {Z : Exn → Prop} {scope : Scope} {elt it tgt : Expr} (bs : D → Vars) {ifs : List Expr} {pos : Pos} (hh : G.A.handled = none) (N : NamesOk G scope)
    (hs : ∀ v, foldedSetIterable it G.env v = pure v)
    (h : EvW C G ρ it (fun d => ∃ ds, iterOf d = some ds ∧ ds.length ≤ sizeLine ∧ (∀ d ∈ ds, TgC C G scope tgt d (bs d)) ∧ ∃ J : Nat → List D → Nat → Prop, (∀ k, J 0 [] k) ∧ ((∀ i es k k', k ≤ k' → J i es k → J i es k') ∧ ∀ i es k, J i es k → es.length ≤ i) ∧ (∀ es k, J ds.length es k → QT (.list es) k) ∧
      ∀ L i d es k, ds[i]? = some d → J i es k → IfsT k C (cG G scope L) (bs d ++ compVars scope ρ) ifs (fun b k' => (b = false → J (i + 1) es k') ∧ (b = true → EvT k' C (cG G scope L) (bs d ++ compVars scope ρ) elt (fun e k'' => J (i + 1) (es ++ [e]) k'') (fun _ => False)))) Z) :
    EvT n C G ρ (.ListComp elt [⟨tgt, it, ifs, 0⟩] scope pos) QT Z := fun X s o _ =>
  wpAny_mono (compTT (S := fun es k => QT (.list es) k) bs hh N hs h o) (fun v s' x => by
    obtain ⟨st, d, r, ds, rfl, q⟩ := x.vp o
    exact ⟨st, _, r, q⟩) fun _ _ x => x
namespace E11
section
variable {C : Cx} {G : Fc} {ρ ρ' : Vars} {Q : D → Prop} {Z : Exn → Prop} {P : Fl → Vars → Prop} {Zs : Exn → Vars → Prop} {Sx : List D → Prop}
theorem pslice_but {α : Type} (l : List α) : pslice none (some (-1)) l = l.take (l.length - 1) := by
  unfold pslice
  show (l.drop 0).take (clipAt l.length (-1) - 0) = _
  rw [List.drop_zero, Nat.sub_zero]
  refine congrArg (l.take ·) ?_
  generalize l.length = n
  cases n with
  | zero => rfl
  | succ n =>
    show (max 0 (min (-1 + (((n + 1 : Nat) : Int))) ((n + 1 : Nat) : Int))).toNat = n
    rw [show -1 + (((n + 1 : Nat) : Int)) = (n : Int) from by rw [Int.natCast_add, Int.add_comm, Int.add_assoc]; exact Int.add_zero _, Int.min_eq_left (Int.ofNat_le.mpr (Nat.le_succ n)), Int.max_eq_right (Int.natCast_nonneg n), Int.toNat_natCast]
theorem laText (S : St C) {n : Nat} (hF : Fun G) (hsc : G.env.scope = laS) (hk : 8 ≤ G.k) (hh : G.A.handled = none) (w s bs : List Nat) (ps : List (Nat × Nat)) (t : List Nat) (H : Hand n w s bs ps) (hl : t.length ≤ 47) (ha : Al t) :
    SWT n C G [] (tvL w s bs ps t) tuB (nxP (fv w s bs ps)) (fun _ _ => False) := by
  have hsz : sizeLine = 16777216 := rfl
  refine SWT.one (S1WT.for_ hF hh (.none (by simp)) (fun x => rfl) ?_)
  rw [safe_nil]
  refine EvW.call (kind_of hsc rfl) S.rangeM Callee.ty ?_
  refine EsW.cons ?_
  with_reducible refine EvW.bin ?_
  refine EvW.call (kind_of hsc rfl) S.len Callee.blt ?_
  (refine EsW.cons ?_; refine EvW.name rfl ?_; (with_reducible refine EsW.nil ?_))
  refine OpW.len_str (by (exact lin2 hl (show 4611686018427387904 ≤ 2 ^ 62 by decide +kernel) (by simp +arith only))) ?_
  ((with_reducible refine EvW.int ?_); (with_reducible refine OpW.add_int ?_); (with_reducible refine EsW.nil ?_))
  rw [show (t.length : Int) + 2 = ((t.length + 2 : Nat) : Int) from rfl]
  refine OpW.range1 ⟨_, iter_n (t.length + 2), fun _ ρ => Sub (tvL w s bs ps t) ρ, .refl, fun ρ hJ => Sub.trans (.cons rfl (.cons rfl (.cons rfl (.cons rfl .nil)))) hJ, fun i d ρ hd hJ => ?_⟩
  obtain ⟨hi, rfl⟩ := iter_n_get hd
  refine ⟨_, TgW.name hF (.sc hF hsc rfl) (by decide), ?_⟩
  refine SWT.sub (ρ := pvL w s bs ps t i) ?_ (Sub.trans (.cons rfl (.cons rfl (.cons rfl (.cons rfl (.cons rfl (.cons rfl .nil)))))) (Sub.put hJ))
  refine (laPlace S hF hsc hk hh w s bs ps t i H hl ha (by (exact lin1 hi (by simp +arith only)))).mono (fun fl ρ q => ?_) fun _ _ z => z.elim
  cases fl with
  | nxt => exact q
  | _ => exact q.elim
noncomputable abbrev LaPost (Q : D → Prop) (fl : Fl) (ρ : Vars) : Prop := match fl with | .ret d => Q d | .nxt => Q .none | _ => False
theorem laLoop (S : St C) {n : Nat} (hF : Fun G) (hsc : G.env.scope = laS) (hk : 8 ≤ G.k) (hh : G.A.handled = none) (w s bs : List Nat) (ps : List (Nat × Nat)) (H : Hand n w s bs ps) (h : Q (.bool true)) :
    SWT n C G [] (fv w s bs ps) (laB.drop 8) (LaPost Q) (fun _ _ => False) := by
  have hsz : sizeLine = 16777216 := rfl
  have h1 := H.hw
  refine SWT.cons (S1WT.for_ hF hh (.none (by simp)) (fun x => rfl) ?_)
  rw [safe_nil]
  ((with_reducible refine EvW.tuple ?_); refine EsW.cons ?_; refine EvW.name rfl ?_; refine EsW.cons ?_; (with_reducible refine EvW.slice ?_); refine EvW.name rfl ?_; (with_reducible refine EoW.none ?_); (with_reducible refine EoW.some ?_); (with_reducible refine EvW.un ?_); (with_reducible refine EvW.int ?_); (with_reducible refine OpW.neg_int ?_))
  refine .inl ⟨_, _, _, rfl, rfl, rfl, by (exact Nat.le_trans (by assumption) (by decide)), ?_⟩
  rw [pslice_but]
  with_reducible refine EsW.nil ?_
  refine ⟨by show 2 ≤ sizeLine; (decide), _, rfl, fun _ ρ => Sub (fv w s bs ps) ρ, .refl, fun ρ hJ => ?_, fun i d ρ hd hJ => ?_⟩
  · refine SWT.sub ?_ hJ
    refine SWT.one (S1W.t (S1W.ret ?_))
    with_reducible refine EvW.bool ?_
    exact h
  · obtain ⟨t, rfl, ht, hta⟩ : ∃ t, d = .str t ∧ t.length ≤ 47 ∧ Al t := by
      rcases i with _ | _ | i
      · exact ⟨_, (Option.some.inj hd).symm, H.hw, H.haw⟩
      · exact ⟨_, (Option.some.inj hd).symm, by rw [List.length_take]; (exact lin2 (Nat.min_le_right (w.length - 1) (w.length)) h1 (by simp +arith only)), fun c hc => H.haw c (List.mem_of_mem_take hc)⟩
      · cases hd
    refine ⟨_, TgW.name hF (.sc hF hsc rfl) (by decide), ?_⟩
    refine SWT.sub (ρ := tvL w s bs ps t) ?_ (Sub.trans (.cons rfl (.cons rfl (.cons rfl (.cons rfl (.cons rfl .nil))))) (Sub.put hJ))
    refine (laText S hF hsc hk hh w s bs ps t H ht hta).mono (fun fl ρ q => ?_) fun _ _ z => z.elim
    cases fl with
    | nxt => exact q
    | _ => exact q.elim
noncomputable def ctJ (i : Nat) (es : List D) (k : Nat) : Prop := (0 < i → 0 < k) ∧ ∃ ps : List (Nat × Nat), es = ps.map tkD ∧ ps.map (·.1) = (List.range i).filter (fun n => !decide (n = 9)) ∧ ∀ q ∈ ps, TkOk k q
theorem tk_up {k k' : Nat} {q : Nat × Nat} (h : TkOk k q) (hk : k ≤ k') : TkOk k' q := ⟨h.1, Nat.lt_of_lt_of_le h.2 hk⟩
theorem range_snoc (i : Nat) (f : Nat → Bool) : (List.range (i + 1)).filter f = if f i = true then (List.range i).filter f ++ [i] else (List.range i).filter f := by
  rw [List.range_succ, List.filter_append]
  cases h : f i with
  | true => rw [if_pos rfl, List.filter_cons, h]; rfl
  | false => rw [if_neg Bool.false_ne_true, List.filter_cons, h]; exact List.append_nil _
theorem laCtl (S : St C) (hF : Fun G) (hsc : G.env.scope = laS) (hk : 8 ≤ G.k) (hh : G.A.handled = none) (w s bs : List Nat) (hw : w.length ≤ 47) (haw : Al w) (hs : s.length ≤ 8) (has : Al s) (hbl : bs.length ≤ 40) (hab : Al bs) (h : Q (.bool true)) :
    SWT 0 C G [] [("whole", .str w), ("sought", .str s), ("barred", txD bs)] (laB.drop 7) (LaPost Q) (fun _ _ => False) := by
  have hsz : sizeLine = 16777216 := rfl
  refine SWT.asgT hF (.sc hF hsc rfl) List.not_mem_nil rfl ?_
  rw [safe_nil]
  refine EvT.bin ?_
  refine EvT.compT (fun d => [("n", d)]) hh (.of hF hsc (by decide +kernel)) (fun v => rfl) ?_
  refine EvW.call (kind_of hsc rfl) S.rangeM Callee.ty ?_
  (refine EsW.cons ?_; (with_reducible refine EvW.int ?_); (with_reducible refine EsW.nil ?_))
  refine OpW.range1 ⟨_, iter_n 32, by show 32 ≤ sizeLine; (decide), fun d _ => .name (.of hF hsc (by decide +kernel)) (by decide), ctJ, fun k => ⟨fun q => (by (exact lin1 q (by simp +arith only))), [], rfl, rfl, fun q hq => (by cases hq)⟩, ⟨fun i es k k' hkk q => ?_, fun i es k q => ?_⟩, fun es k q => ?_, fun L i d es k hd hJ => ?_⟩
  · obtain ⟨q0, ps, q1, q2, q3⟩ := q
    exact ⟨fun z => Nat.lt_of_lt_of_le (q0 z) hkk, ps, q1, q2, fun q hq => tk_up (q3 q hq) hkk⟩
  · obtain ⟨_, ps, rfl, q2, _⟩ := q
    have := congrArg List.length q2
    have := List.length_filter_le (fun n => !decide (n = 9)) (List.range i)
    rw [List.length_range] at this
    rw [List.length_map] at *
    (lia)
  · obtain ⟨q0, ps, rfl, q2, q3⟩ := q
    have hk0 : 0 < k := q0 (by decide)
    refine EvT.list1 (EvT.chrK (i := 127) (kind_of hsc rfl) S.chrM (by decide) fun t k' h1 h2 k'' h3 => ?_)
    refine FoW.op (FoW.add_list ?_ fun k3 h4 => ?_)
    · have := congrArg List.length q2
      rw [List.length_map] at this
      rw [List.length_append, List.length_map, this]
      show 32 ≤ sizeLine; (decide)
    have hps : (ps ++ [((127 : Nat), t)]).map (fun q : Nat × Nat => q.1) = ctlL := by
      rw [List.map_append, q2]; rfl
    have hB : Bars k3 (ps ++ [(127, t)]) := fun q hq => by
      have hc := ctl_al q.1 (by rw [← hps]; exact List.mem_map_of_mem hq)
      refine ⟨?_, hc.1, hc.2.1⟩
      rcases List.mem_append.mp hq with hq | hq
      · exact tk_up (q3 q hq) (by (exact lin4 h1 h2 h3 h4 (by simp +arith only)))
      · rw [List.mem_singleton.mp hq]
        exact ⟨by show 0 < t; (exact lin2 hk0 h1 (by simp +arith only)), by show t < k3; (exact lin3 h2 h3 h4 (by simp +arith only))⟩
    refine SWT.sub (laLoop (n := k3) S hF hsc hk hh w s bs (ps ++ [(127, t)]) ⟨hB, hps, hw, haw, hs, has, hbl, hab⟩ h) (.cons rfl (.cons rfl (.cons rfl (.cons (by rw [List.map_append]; rfl) .nil))))
  · obtain ⟨hi, rfl⟩ := iter_n_get hd
    obtain ⟨q0, ps, rfl, q2, q3⟩ := hJ
    have hsc2 := fun sc => cG_scope (scope := sc) (L := L) hsc
    have hr := range_snoc i fun n => !decide (n = 9)
    refine IfsT.neInt (i := i) (j := 9) rfl fun k' hk' => ⟨fun hb => ?_, fun hb => ?_⟩
    · refine ⟨fun _ => by (exact lin1 hk' (by simp +arith only)), ps, rfl, ?_, fun q hq => tk_up (q3 q hq) (by (exact Nat.le_of_lt (by assumption)))⟩
      rw [hr, if_neg (by rw [hb]; decide)]; exact q2
    · refine EvT.chr (i := i) (kind_of (hsc2 _) rfl) S.chrM rfl (by (exact Nat.le_of_lt (Nat.lt_of_lt_of_le (by assumption) (by decide)))) fun t k'' h1 h2 => ?_
      refine ⟨fun _ => by (exact lin1 h2 (by simp +arith only)), ps ++ [(i, t)], by rw [List.map_append]; rfl, ?_, fun q hq => ?_⟩
      · rw [hr, if_pos hb, List.map_append, q2]; rfl
      · rcases List.mem_append.mp hq with hq | hq
        · exact tk_up (q3 q hq) (by (exact lin3 hk' h1 h2 (by simp +arith only)))
        · rw [List.mem_singleton.mp hq]
          exact ⟨by show 0 < t; (exact lin2 hk' h1 (by simp +arith only)), h2⟩
end
end E11
end Mine

end
section
open PySem PySem.W PySem.Calls PyProof.Rows PySem.Builtin PySem.Builtin.Str
set_option Elab.async false
set_option maxRecDepth 100000
set_option maxHeartbeats 1000000
namespace Mine
theorem SWT.z {C : Cx} {G : Fc} {O : List PySem.Str} {ρ : Vars} {ss : List Stmt} {P : Fl → Vars → Prop} {Zs : Exn → Vars → Prop} (h : SWT 0 C G O ρ ss P Zs) : SW C G O ρ ss P Zs := fun B X own s o => h B X own s o (Nat.zero_le _)
namespace E11
section
variable {C : Cx} {G : Fc} {ρ ρ' : Vars} {Q : D → Prop} {Z : Exn → Prop} {P : Fl → Vars → Prop} {Zs : Exn → Vars → Prop} {Sx : List D → Prop}
theorem St.enumM (S : St C) : Means C "enumerate" (.type "enumerate") := .of_none (S.no _ (by decide)) (by decide +kernel) (by decide)
theorem St.sumM (S : St C) : Means C "sum" (.builtin "sum") := .of_none (S.no _ (by decide)) PyProof.Rows.Boot.«sum» (by decide)
theorem sg_al {c : Nat} (hc : c < 32) : Al (sgL c) := fun a ha => by
  have key : ∀ c, c < 32 → ∀ a ∈ sgL c, a ∈ al := by decide +kernel
  exact key c hc a ha
theorem modC (x : Int) {b : Nat} (hb : 0 < b) : Int.fmod x (b : Int) = ((Int.fmod x (b : Int)).toNat : Int) := (Int.toNat_of_nonneg (Int.fmod_nonneg_of_pos x (by (lia)))).symm
theorem modL (x : Int) {b : Nat} (hb : 0 < b) : (Int.fmod x (b : Int)).toNat < b := by
  have := Int.fmod_lt_of_pos x (show (0 : Int) < (b : Int) by (lia))
  (lia)
noncomputable abbrev bvL (T : Int) (c : Nat) (w s : List Nat) : Vars := [("total", .int T), ("signs", chD (sgL c)), ("whole", .str w), ("sought", .str s)]
theorem laBar (S : St C) (hF : Fun G) (hsc : G.env.scope = laS) (hk : 8 ≤ G.k) (hh : G.A.handled = none) (T : Int) (c : Nat) (hc : c < 32) (w s : List Nat) (hw : w.length ≤ 47) (haw : Al w) (hs : s.length ≤ 8) (has : Al s) (h : Q (.bool true)) :
    SW C G [] (bvL T c w s) (laB.drop 6) (LaPost Q) (fun _ _ => False) := by
  have hsz : sizeLine = 16777216 := rfl
  refine SW.cons ?_
  have hsw : ∀ (sc : Scope) (py pos : Pos), sc = { kind := .function, names := [(".0", .local), ("k", .local), ("sign", .local), ("total", .free)], isGenerator := false, isCoroutine := false } → py.line == pos.line → swp sc "barred" py pos G.env = true := fun sc py pos e1 e2 => by
    subst e1
    unfold swp Env.blockKind Env.kindOf
    rw [hsc, e2]
    decide +kernel
  refine S1W.asgE (xs := [(_, _), (_, _)]) hF hh (.of hF hsc (by decide +kernel)) (.sc hF hsc rfl) List.not_mem_nil (hsw _ _ _ rfl rfl) rfl rfl ?_ (kind_of hsc rfl) S.enumM ?_
  · simp only [List.forall_mem_cons]
    exact ⟨.inl (by decide +kernel), .inl (by decide +kernel), fun _ h => by cases h⟩
  refine EvW.name rfl ?_
  refine ⟨_, rfl, by show 16 ≤ sizeLine; (decide), fun i es => ∃ bs : List Nat, es = (bs.map fun c => [c]).map D.str ∧ (∀ a ∈ bs, a ∈ sgL c) ∧ bs.length ≤ i, ⟨[], rfl, fun _ q => (by cases q), Nat.le_refl _⟩, fun i es q => ?_, fun es q => ?_, fun L i d es hd q => ?_⟩
  · obtain ⟨bs, rfl, _, h3⟩ := q
    rw [List.length_map, List.length_map]; exact h3
  · obtain ⟨bs, rfl, h2, h3⟩ := q
    have h3 : bs.length ≤ 16 := h3
    refine ⟨plains_tx _, ?_⟩
    refine SW.sub (ρ := [("whole", .str w), ("sought", .str s), ("barred", txD bs)]) ?_ (.cons rfl (.cons rfl (.cons rfl .nil)))
    exact (laCtl S hF hsc hk hh w s bs hw haw hs has (by (exact Nat.le_trans (by assumption) (by decide))) (fun a ha => sg_al hc a (h2 a ha)) h).z
  · obtain ⟨bs, rfl, h2, h3⟩ := q
    have hi := (List.getElem?_eq_some_iff.mp hd).1
    rw [List.length_map] at hi
    rw [List.getElem?_map, List.getElem?_eq_getElem hi] at hd
    obtain rfl := Option.some.inj hd
    have hi : i < 16 := hi
    have hsc2 := fun sc => cG_scope (scope := sc) (L := L) hsc
    refine IfsW.cons ?_
    (refine TsW.cmp1 ?_; (with_reducible refine EvW.bin ?_); (with_reducible refine EvW.bin ?_); (with_reducible refine EvW.bin ?_); refine EvW.name rfl ?_; (with_reducible refine EvW.int ?_); (with_reducible refine OpW.add_int ?_); (with_reducible refine EvW.bin ?_); (with_reducible refine EvW.int ?_); refine EvW.name rfl ?_)
    refine OpW.pow_int (Int.natCast_nonneg _) (by (lia)) (by decide) ?_
    rw [Int.toNat_natCast, show (2 : Int) ^ i = ((2 ^ i : Nat) : Int) by simp]
    refine OpW.floordiv_int (by have := Nat.two_pow_pos i; (lia)) ?_ ?_
    · rw [Int.natAbs_natCast, Nat.log2_two_pow]; (exact Nat.lt_of_lt_of_le (by assumption) (by decide))
    with_reducible refine EvW.int ?_
    refine OpW.mod_int (by decide) ?_
    rw [show ((2 : Int)) = ((2 : Nat) : Int) from rfl, modC _ (by decide)]
    with_reducible refine EvW.int ?_
    refine OpW.eq_int (b := 1) ?_
    with_reducible refine TrW.bool ?_
    refine ⟨fun _ => IfsW.nil ⟨fun q => (by cases q), fun _ => ?_⟩, fun _ => ⟨fun _ => ⟨bs, rfl, h2, by (exact lin1 h3 (by simp +arith only))⟩, fun q => (by cases q)⟩⟩
    refine EvW.name rfl ?_
    refine ⟨bs ++ [(sgL c)[i]], by rw [List.map_append, List.map_append]; rfl, fun a ha => ?_, by rw [List.length_append, List.length_singleton]; (exact lin1 h3 (by simp +arith only))⟩
    rcases List.mem_append.mp ha with ha | ha
    · exact h2 a ha
    · rw [List.mem_singleton.mp ha]; exact List.getElem_mem _
end
end E11
end Mine

end
section
open PySem PySem.W PySem.Calls PyProof.Rows PySem.Builtin PySem.Builtin.Str
set_option Elab.async false
set_option maxRecDepth 100000
set_option maxHeartbeats 1000000
namespace Mine
namespace E11
noncomputable def rvF (w : List Nat) : D → Option D
  | .int k => some (.str [w.getD (w.length - 1 - k.toNat) 0])
  | _ => none
theorem rv_map (w : List Nat) : ∀ l : List Nat, (l.map natD).filterMap (rvF w) = (l.map fun k => [w.getD (w.length - 1 - k) 0]).map D.str
  | [] => rfl
  | k :: r => by
    have e : rvF w (natD k) = some (.str [w.getD (w.length - 1 - k) 0]) := rfl
    rw [List.map_cons, List.filterMap_cons, e, rv_map w r]; rfl
theorem ones_flat {α : Type} (f : α → Nat) : ∀ l : List α, (l.map fun a => [f a]).flatten = l.map f
  | [] => rfl
  | a :: r => by rw [List.map_cons, List.flatten_cons, ones_flat f r]; rfl
theorem ones_sum {α : Type} (f : α → Nat) : ∀ l : List α, ((l.map fun a => [f a]).map List.length).sum = l.length
  | [] => rfl
  | a :: r => by
    have := ones_sum f r
    rw [List.map_cons, List.map_cons, List.sum_cons, this, List.length_cons (as := r)]
    show 1 + r.length = r.length + 1
    (exact Nat.le_antisymm (lin0 (by simp +arith only)) (lin0 (by simp +arith only)))
theorem rv_in {w : List Nat} (haw : Al w) {a : Nat} (ha : a ∈ (List.range w.length).map fun k => w.getD (w.length - 1 - k) 0) : a ∈ al := by
  obtain ⟨k, hk, rfl⟩ := List.mem_map.mp ha
  have hk := List.mem_range.mp hk
  exact haw.get (by (exact lin2 (Nat.sub_le (w.length - 1) (k)) (subu (a := w.length) (b := 1) (lin1 hk (by simp +arith only))) (by simp +arith only)))
section
variable {C : Cx} {G : Fc} {ρ ρ' : Vars} {Q : D → Prop} {Z : Exn → Prop} {P : Fl → Vars → Prop} {Zs : Exn → Vars → Prop} {Sx : List D → Prop}
noncomputable abbrev hvL (T : Int) (c : Nat) (w : List Nat) : Vars := [("total", .int T), ("signs", chD (sgL c)), ("whole", .str w)]
theorem laSought (S : St C) (hF : Fun G) (hsc : G.env.scope = laS) (hk : 8 ≤ G.k) (hh : G.A.handled = none) (T : Int) (c : Nat) (hc : c < 32) (w v : List Nat) (hw : w.length ≤ 47) (haw : Al w) (hv : v.length ≤ 47) (hav : Al v) (h : Q (.bool true)) :
    SW C G [] (("turned", .str v) :: hvL T c w) (laB.drop 4) (LaPost Q) (fun _ _ => False) := by
  have hsz : sizeLine = 16777216 := rfl
  refine SW.cons ?_
  refine S1W.asgP hF (.sc hF hsc rfl) List.not_mem_nil rfl ?_
  ((with_reducible refine EvW.bin ?_); (with_reducible refine EvW.bin ?_); refine EvW.name rfl ?_; (with_reducible refine EvW.int ?_))
  refine OpW.floordiv_int (by decide) (by decide) ?_
  with_reducible refine EvW.bin ?_
  refine EvW.call (kind_of hsc rfl) S.len Callee.blt ?_
  (refine EsW.cons ?_; refine EvW.name rfl ?_; (with_reducible refine EsW.nil ?_))
  refine OpW.len_str (by (exact lin2 hw (show 4611686018427387904 ≤ 2 ^ 62 by decide +kernel) (by simp +arith only))) ?_
  ((with_reducible refine EvW.int ?_); (with_reducible refine OpW.add_int ?_))
  rw [show (w.length : Int) + 1 = ((w.length + 1 : Nat) : Int) from rfl]
  refine OpW.mod_int (by (lia)) ?_
  have hfl := modL (Int.fdiv T 3) (show 0 < w.length + 1 by (exact lin0 (by simp +arith only)))
  rw [modC (Int.fdiv T 3) (show 0 < w.length + 1 by (exact lin0 (by simp +arith only)))]
  generalize (Int.fmod (Int.fdiv T 3) ((w.length + 1 : Nat) : Int)).toNat = f at hfl
  refine ⟨rfl, ?_⟩
  refine SW.sub (ρ := ("first", natD f) :: ("turned", .str v) :: hvL T c w) ?_ (.cons rfl (.cons rfl (.cons rfl (.cons rfl (.cons rfl .nil)))))
  refine SW.cons ?_
  refine S1W.asgP hF (.sc hF hsc rfl) List.not_mem_nil rfl ?_
  with_reducible refine EvW.slice ?_
  generalize he : (Int.fmod (Int.fdiv T 2) ((2 : Nat) : Int)).toNat = e
  refine EvW.det (x := .str (if decide (e = 0) = true then w else v)) ?_ ?_
  · refine EvW.ifExp ?_
    (refine TsW.cmp1 ?_; (with_reducible refine EvW.bin ?_); (with_reducible refine EvW.bin ?_); refine EvW.name rfl ?_; (with_reducible refine EvW.int ?_))
    refine OpW.floordiv_int (by decide) (by decide) ?_
    with_reducible refine EvW.int ?_
    refine OpW.mod_int (by decide) ?_
    rw [show Int.fmod (Int.fdiv T 2) 2 = ((e : Nat) : Int) by rw [← he]; exact modC (b := 2) _ (by decide)]
    with_reducible refine EvW.int ?_
    refine OpW.eq_int (b := 0) ?_
    with_reducible refine TrW.bool ?_
    refine ⟨fun h1 => ?_, fun h1 => ?_⟩
    · refine EvW.name rfl ?_
      rw [if_pos h1]
    · refine EvW.name rfl ?_
      rw [if_neg (by rw [h1]; decide)]
  have hx : (if decide (e = 0) = true then w else v).length ≤ 47 ∧ Al (if decide (e = 0) = true then w else v) := by
    split
    · exact ⟨hw, haw⟩
    · exact ⟨hv, hav⟩
  generalize (if decide (e = 0) = true then w else v) = x at hx
  ((with_reducible refine EoW.some ?_); refine EvW.name rfl ?_; (with_reducible refine EoW.some ?_); (with_reducible refine EvW.bin ?_); (with_reducible refine EvW.bin ?_); refine EvW.name rfl ?_; (with_reducible refine EvW.int ?_); (with_reducible refine OpW.add_int ?_); (with_reducible refine EvW.bin ?_); refine EvW.name rfl ?_; (with_reducible refine EvW.int ?_))
  refine OpW.mod_int (by decide) ?_
  have hrl := modL T (show 0 < 3 by decide)
  rw [show Int.fmod T 3 = ((Int.fmod T ((3 : Nat) : Int)).toNat : Int) from modC (b := 3) _ (by decide)]
  generalize (Int.fmod T ((3 : Nat) : Int)).toNat = r at hrl
  with_reducible refine OpW.add_int ?_
  refine .inl ⟨_, _, _, rfl, rfl, rfl, by (exact lin2 hx.1 (Nat.le_of_eq (Eq.symm hsz)) (by simp +arith only)), ?_⟩
  rw [show (f : Int) + 1 + (r : Int) = ((f + 1 + r : Nat) : Int) from rfl, pslice_nat]
  refine ⟨rfl, ?_⟩
  refine SW.sub (ρ := bvL T c w ((x.take (f + 1 + r)).drop f)) ?_ (.cons rfl (.cons rfl (.cons rfl (.cons rfl .nil))))
  exact laBar S hF hsc hk hh T c hc w _ hw haw (by rw [List.length_drop, List.length_take]; (lia)) (fun a ha => hx.2 a (List.mem_of_mem_take (List.mem_of_mem_drop ha))) h
theorem laTurned (S : St C) (hF : Fun G) (hsc : G.env.scope = laS) (hk : 8 ≤ G.k) (hh : G.A.handled = none) (T : Int) (c : Nat) (hc : c < 32) (w : List Nat) (hw : w.length ≤ 47) (haw : Al w) (h : Q (.bool true)) :
    SW C G [] (hvL T c w) (laB.drop 3) (LaPost Q) (fun _ _ => False) := by
  have hsz : sizeLine = 16777216 := rfl
  refine SW.cons ?_
  refine S1W.asgP hF (.sc hF hsc rfl) List.not_mem_nil rfl ?_
  refine EvW.m_join ?_
  with_reducible refine EvW.strNil ?_
  refine ⟨_, rfl, ?_⟩
  refine EsW.cons ?_
  with_reducible refine FvW.ev ?_
  with_reducible refine FvW.compF hh ?_ ?_ ?_ ?_
  · exact .of hF hsc (by decide +kernel)
  · decide +kernel
  · exact fun v => rfl
  refine EvW.call (kind_of hsc rfl) S.rangeM Callee.ty ?_
  refine EsW.cons ?_
  refine EvW.call (kind_of hsc rfl) S.len Callee.blt ?_
  (refine EsW.cons ?_; refine EvW.name rfl ?_; (with_reducible refine EsW.nil ?_))
  refine OpW.len_str (by (exact lin2 hw (show 4611686018427387904 ≤ 2 ^ 62 by decide +kernel) (by simp +arith only))) ?_
  with_reducible refine EsW.nil ?_
  refine OpW.range1 ⟨_, iter_n w.length, by rw [List.length_map, List.length_range]; (exact Nat.le_trans (by assumption) (by decide)), rvF w, ?_, fun L d hd => ?_⟩
  · rw [rv_map]
    with_reducible refine EsW.nil ?_
    have hj := OpW.join0 (C := C) (G := G) (Q := fun d => kPutP (kNx C G [] (laB.drop 4) (LaPost Q) (fun _ _ => False)) "turned" (hvL T c w) d) (Z := kZ (fun _ _ => False) (hvL T c w)) (ds := ((List.range w.length).map fun k => [w.getD (w.length - 1 - k) 0]).map D.str) (ls := (List.range w.length).map fun k => [w.getD (w.length - 1 - k) 0]) rfl (by rw [ones_sum (fun k => w.getD (w.length - 1 - k) 0), List.length_range]; (exact Nat.le_trans (by assumption) (by decide))) (by
      rw [ones_flat (fun k => w.getD (w.length - 1 - k) 0)]
      refine ⟨rfl, ?_⟩
      exact SW.sub (laSought S hF hsc hk hh T c hc w _ hw haw (by rw [List.length_map, List.length_range]; exact hw) (fun a ha => rv_in haw ha) h) (.cons rfl (.cons rfl (.cons rfl (.cons rfl .nil)))))
    exact hj
  · obtain ⟨k, hk', rfl⟩ := List.mem_map.mp hd
    have hk' := List.mem_range.mp hk'
    have hsc2 := fun sc => cG_scope (scope := sc) (L := L) hsc
    refine IfsW.nil ⟨fun q => (by cases q), fun _ => ?_⟩
    ((with_reducible refine EvW.sub ?_); refine EvW.name rfl ?_; (with_reducible refine EvW.bin ?_); (with_reducible refine EvW.un ?_); (with_reducible refine EvW.int ?_); (with_reducible refine OpW.neg_int ?_); refine EvW.name rfl ?_; (with_reducible refine OpW.sub_int ?_))
    refine OpW.idx_str (j := w.length - 1 - k) (c := w.getD (w.length - 1 - k) 0) (by (lia)) (by (lia)) ?_ (getD_at (by (exact lin2 (Nat.sub_le (w.length - 1) (k)) (subu (a := w.length) (b := 1) (lin1 hk' (by simp +arith only))) (by simp +arith only)))) rfl
    rw [seqIndex_negative (by (lia)) (by (lia))]
    congr 1; (lia)
theorem laW (S : St C) (hF : Fun G) (hsc : G.env.scope = laS) (hk : 8 ≤ G.k) (hh : G.A.handled = none) (ns : List Int) (hlen : ns.length ≤ 63) (h : Q (.bool true)) :
    SW C G [] [("script", .list (ns.map .int))] laB (LaPost Q) (fun _ _ => False) := by
  have hsz : sizeLine = 16777216 := rfl
  refine SW.cons ?_
  refine S1W.asgP hF (.sc hF hsc rfl) List.not_mem_nil rfl ?_
  refine EvW.call (kind_of hsc rfl) S.sumM Callee.blt ?_
  (refine EsW.cons ?_; refine EvW.name rfl ?_; (with_reducible refine EsW.nil ?_))
  refine OpW.sum_list hh ⟨rfl, ?_⟩
  generalize ns.sum = T
  have hc := ctl_lt T
  refine SW.cons ?_
  refine S1W.asg0 hF (.sc hF hsc rfl) ?_
  refine EvW.call (kind_of hsc rfl) S.lsignsM S.lsigns.callee ?_
  (refine EsW.cons ?_; refine EvW.name rfl ?_; (with_reducible refine EsW.nil ?_))
  refine sgW S (by (exact lin1 hk (by simp +arith only))) T ?_
  refine SW.cons ?_
  refine S1W.asgP hF (.sc hF hsc rfl) List.not_mem_nil rfl ?_
  refine EvW.call (kind_of hsc rfl) S.ltextM S.ltext.callee ?_
  (refine EsW.cons ?_; refine EvW.name rfl ?_; refine EsW.cons ?_; refine EvW.name rfl ?_; (with_reducible refine EsW.nil ?_))
  refine txW S (by (exact lin1 hk (by simp +arith only))) hh ns (ctl T) fun u hu => ⟨rfl, ?_⟩
  refine SW.sub (ρ := hvL T (ctl T) (u ++ tailL (ctl T))) ?_ (.cons rfl (.cons rfl (.cons rfl .nil)))
  refine laTurned S hF hsc hk hh T (ctl T) hc _ ?_ (fun a ha => ?_) h
  · have := hu.1
    rw [List.length_append]; show u.length + 7 ≤ 47; (exact lin1 this (by simp +arith only))
  · rcases List.mem_append.mp ha with ha | ha
    · exact sg_al hc a (hu.2 a ha)
    · refine sg_al hc a ?_
      unfold tailL at ha
      unfold sgL
      simp only [List.mem_cons, List.not_mem_nil, or_false] at ha ⊢
      rcases ha with h1 | h1 | h1 | h1 | h1 | h1 | h1 <;> simp [h1]
end
end E11
end Mine

end
section
open PySem PySem.W PySem.Calls PyProof.Rows
set_option Elab.async false
set_option maxRecDepth 1000000
namespace Mine
namespace H
noncomputable section
noncomputable abbrev p11 : Program := PySem.Challenge.rw_dn0207_11.prog
noncomputable def loose11 : List Str := ["__name__", "ASCII_CTRL", "ILLEGAL_BASIC_STR_CHARS", "ILLEGAL_COMMENT_CHARS", "TOMLDecodeError", "skip_until", "skip_comment", "suffixed_err", "_law_signs", "_law_text", "_law_quoted", "_law_due", "_law_done", "_law_remark"]
noncomputable def as11 : List Addr := [56, 55, 63, 62, 70, 69, 77, 76, 84, 83, 91, 90, 96, 95, 101, 100, 108, 107, 113, 112, 65, 46]
noncomputable def vs11 : List Seen := [fnWant p11.main.body[5]? 55, .code "skip_until" 51, fnWant p11.main.body[6]? 62, .code "skip_comment" 58, fnWant p11.main.body[7]? 69, .code "suffixed_err" 65, fnWant p11.main.body[9]? 76, .code "_law_signs" 72, fnWant p11.main.body[10]? 83, .code "_law_text" 79, fnWant p11.main.body[11]? 90, .code "_law_quoted" 86, fnWant p11.main.body[12]? 95, .code "_law_due" 93, fnWant p11.main.body[13]? 100, .code "_law_done" 98, fnWant p11.main.body[14]? 107, .code "_law_remark" 103, fnWant p11.main.body[15]? 112, .code "law" 110, .tab, .cls [.ref 46, .type "ValueError", .type "Exception", .type "BaseException", .type "object"] 45 "ValueError.__new__"]
noncomputable def names11 : List (Addr × Str) := [(3, "skip_until"), (3, "skip_comment"), (3, "suffixed_err"), (3, "_law_signs"), (3, "_law_text"), (3, "_law_quoted"), (3, "_law_due"), (3, "_law_done"), (3, "_law_remark"), (3, "law"), (3, "TOMLDecodeError"), (45, "__init__"), (45, "__str__"), (3, "ILLEGAL_COMMENT_CHARS"), (3, "len"), (3, "chr"), (3, "divmod"), (3, "range"), (3, "ord"), (3, "str"), (3, "sum"), (3, "repr"), (3, "frozenset"), (3, "enumerate"), (3, "IndexError"), (3, "ValueError")]
noncomputable def vals11 : List (Option Value) := [some (.ref 56), some (.ref 63), some (.ref 70), some (.ref 77), some (.ref 84), some (.ref 91), some (.ref 96), some (.ref 101), some (.ref 108), some (.ref 113), some (.ref 46), none, none, some (.ref 36), none, none, none, none, none, none, none, none, none, none, none, none]
noncomputable def marks11 : List Addr := [36]
noncomputable def mems11 : List (Option (List (List Nat))) := [some (chars [0, 1, 2, 3, 4, 5, 6, 7, 8, 10, 11, 12, 13, 14, 15, 16, 17, 18, 19, 20, 21, 22, 23, 24, 25, 26, 27, 28, 29, 30, 31, 127])]
noncomputable abbrev Ev11 (b c : Bool) : Prop := ∀ (rd : SD → SDat) (pf : Ctx → Addr → Value → Pos → ES → ES → Pos) (w : World) (os : OsState),
  (evR rd pf p11 (wf w b c) 3000 Γ0 default (topStub p11).cur [] (es0 (wf w b c).params)).map (looked p11 (lastDef p11) loose11 (boot_heap (wf w b c).params).life os (wf w b c).params as11 names11 marks11) =
    some (sought (lastDef p11) loose11 (wf w b c).params vs11 vals11 mems11)
theorem ev11_ff : Ev11 false false := fun rd pf w os => by kernel_rfl
theorem ev11_ft : Ev11 false true := fun rd pf w os => by kernel_rfl
theorem ev11_tf : Ev11 true false := fun rd pf w os => by kernel_rfl
theorem ev11_tt : Ev11 true true := fun rd pf w os => by kernel_rfl
theorem behind11 : ∀ w, Behind p11 (lastDef p11) loose11 (Told p11 as11 vs11 names11 vals11 marks11 mems11) w :=
  behind_of (N := 3000) rfl (fun _ => rfl) (by kernel_rfl) fun rd pf b c w os => by
    cases b <;> cases c
    · exact ev11_ff rd pf w os
    · exact ev11_ft rd pf w os
    · exact ev11_tf rd pf w os
    · exact ev11_tt rd pf w os
end
end H
end Mine

end
section
open PySem PySem.W PySem.Calls PyProof.Rows PySem.Builtin PySem.Builtin.Str
set_option Elab.async false
set_option maxRecDepth 100000
namespace Mine
open H
theorem setRep_of {C : Cx} {h : Heap} {a : Addr} {D : SDat} {ss : List (List Nat)} (e : h.get? a = some (fsObj D)) (W : WF C.w D ss) (hl : ss.length < 4096) : SetRep C h a ss := by
  have hlen : D.1.size = ss.length := by
    have := W.perm.length_eq
    rw [List.length_map, Array.length_toList] at this; exact this
  refine ⟨_, e, rfl, rfl, rfl, D.1, D.2.1, D.2.2, rfl, W.fits, by rw [hlen]; exact hl, W.el, fun l => ?_⟩
  rw [← W.perm.mem_iff, List.mem_map]
  constructor
  · rintro ⟨⟨k, v⟩, hx, rfl⟩
    obtain ⟨y, u, h1, _⟩ := W.el _ hx
    dsimp only at h1
    subst h1
    exact ⟨_, hx, u, rfl⟩
  · rintro ⟨⟨k, v⟩, hx, u, h1⟩
    dsimp only at h1
    subst h1
    exact ⟨_, hx, rfl⟩
theorem H.Told.mg {prog : Program} {as : List Addr} {vs : List Seen} {names : List (Addr × PySem.Str)} {vals : List (Option Value)} {marks : List Addr} {mems : List (Option (List (List Nat)))} {w : World} {h : Heap} {mg : PySem.Str → Option Value}
    (Y : Told prog as vs names vals marks mems w h) (g : h.Ns 3 mg) (i : Nat) (x : PySem.Str) (v : Option Value) (h1 : names[i]? = some (3, x)) (h2 : vals[i]? = some v) : mg x = v := by
  obtain ⟨m, a, b⟩ := Y.names i _ v h1 h2
  rw [ns_same g a]; exact b
theorem H.Told.set {prog : Program} {as : List Addr} {vs : List Seen} {names : List (Addr × PySem.Str)} {vals : List (Option Value)} {marks : List Addr} {mems : List (Option (List (List Nat)))} {C : Cx} {h : Heap} {tabs : List (Addr × Addr)}
    (Y : Told prog as vs names vals marks mems C.w h) (hT : TabsAt tabs h) (hb : C.base = ghostOf h tabs) (i : Nat) (a : Addr) (ss : List (List Nat)) (h1 : marks[i]? = some a) (h2 : mems[i]? = some (some ss)) (hl : ss.length < 4096) : SetRep C C.base a ss := by
  obtain ⟨D, e, W⟩ := Y.sets i a ss h1 h2
  rw [hb]
  exact setRep_of (ghost_get hT e fun q => by cases q) W hl
section
variable {prog : Program} {as : List Addr} {vs : List H.Seen} {names : List (Addr × PySem.Str)} {vals : List (Option Value)} {marks : List Addr} {mems : List (Option (List (List Nat)))} {w : World} {C : Cx} {h : Heap} {ks : List Addr} {a c P : Addr} {q : PySem.Str} {params : Arguments} {body : List Stmt} {scope : Scope} {xs kws : List PySem.Str} {n : Nat}
theorem fd_same {fd : FuncData} (h1 : fd.params = params) (h2 : fd.defaults = .none) (h3 : fd.kwdefaults = .none) : fd = { fd with params := params, defaults := .none, kwdefaults := .none } := by
  cases fd
  dsimp only at h1 h2 h3
  subst h1 h2 h3
  rfl
theorem H.Told.fnIs (Y : Told prog as vs names vals marks mems w h) (hK : C.K = kOf h ks) (i : Nat) (h1 : as[i]? = some a) (h2 : vs[i]? = some (.fn q params (.stmts body) scope 3 [] .none .none (.ref c) 0)) (h3 : as[i + 1]? = some c) (h4 : vs[i + 1]? = some (.code q P)) (ha : a ∈ ks) (hc : c ∈ ks)
    (hsp : scope.kind = .function ∧ scope.isCoroutine = false ∧ scope.isGenerator = false)
    (hb : ∀ (fd : FuncData) (vs : List Value), vs.length = xs.length → bindArgs { fd with params := params, defaults := .none, kwdefaults := .none } ⟨vs, []⟩ = pure (xs.zip vs)) : FnIs C a body scope (.ref c) q xs := by
  obtain ⟨o, a1, a2⟩ := Y.objs i a _ h1 h2 (fun q => by cases q)
  obtain ⟨o', b1, b2⟩ := Y.objs (i + 1) c _ h3 h4 (fun q => by cases q)
  exact fnIs_of (P := P) hK ha hc a1 b1 a2 b2 hsp fun fd vs e1 e2 e3 hv => by rw [fd_same e1 e2 e3]; exact hb fd vs hv
theorem H.Told.fnKw (Y : Told prog as vs names vals marks mems w h) (hK : C.K = kOf h ks) (i : Nat) (h1 : as[i]? = some a) (h2 : vs[i]? = some (.fn q params (.stmts body) scope 3 [] .none .none (.ref c) 0)) (h3 : as[i + 1]? = some c) (h4 : vs[i + 1]? = some (.code q P)) (ha : a ∈ ks) (hc : c ∈ ks)
    (hsp : scope.kind = .function ∧ scope.isCoroutine = false ∧ scope.isGenerator = false)
    (hb : ∀ (fd : FuncData) (vs : List Value), vs.length = xs.length → bindArgs { fd with params := params, defaults := .none, kwdefaults := .none } ⟨vs.take n, kws.zip (vs.drop n)⟩ = pure (xs.zip vs)) : FnKw C a body scope (.ref c) q xs n kws := by
  obtain ⟨o, a1, a2⟩ := Y.objs i a _ h1 h2 (fun q => by cases q)
  obtain ⟨o', b1, b2⟩ := Y.objs (i + 1) c _ h3 h4 (fun q => by cases q)
  exact fnKw_of (P := P) hK ha hc a1 b1 a2 b2 hsp fun fd vs e1 e2 e3 hv => by rw [fd_same e1 e2 e3]; exact hb fd vs hv
end
noncomputable def recAt (st : Option Stmt) : DefRec := match st with
  | some (.FunctionDef n a b _ _ _ sc _ _ pos) => ⟨n, a, b, sc, pos⟩
  | _ => ⟨"", { posonlyargs := [], args := [], vararg := none, kwonlyargs := [], kw_defaults := [], kwarg := none, defaults := [] }, [], default, default⟩
end Mine

end
section
open PySem PySem.W PySem.Calls PyProof.Rows PySem.Builtin PySem.Builtin.Str
set_option Elab.async false
set_option maxRecDepth 100000
set_option maxHeartbeats 8000000
namespace Mine
namespace E11
open H
noncomputable abbrev dd : DefRec := recAt p11.main.body[15]?
noncomputable abbrev kss : List Addr := [56, 55, 63, 62, 70, 69, 77, 76, 84, 83, 91, 90, 96, 95, 101, 100, 108, 107, 113, 112, 46]
noncomputable abbrev cx (w : World) (s₁ : Shared) (mg mb : PySem.Str → Option Value) : Cx := cxOf PySem.Challenge.rw_dn0207_11.prog w s₁ mg mb [(69, 65)] [(65, ("suffixed_err.<locals>.coord_repr" : PySem.Str))] 46 (kOf s₁.heap kss)
noncomputable abbrev YY (w : World) (h : Heap) : Prop := H.Told p11 as11 vs11 names11 vals11 marks11 mems11 w h
theorem firm {w : World} {h : Heap} (Y : YY w h) : Firm h kss := by
  have key : ∀ i, (h1 : i < 22) → i ≠ 20 → ∃ o, h.get? (as11.getD i 0) = some o ∧ (see (some o)).firm = true := fun i h1 n0 => by
    have : ∀ i, i < 22 → i ≠ 20 → ∃ v, vs11[i]? = some v ∧ v.firm = true := by
      intro i h1 n0
      rcases i with _ | _ | _ | _ | _ | _ | _ | _ | _ | _ | _ | _ | _ | _ | _ | _ | _ | _ | _ | _ | _ | _ | i
      all_goals first | exact ⟨_, rfl, rfl⟩ | (lia)
    obtain ⟨v, e, f⟩ := this i h1 n0
    obtain ⟨o, a, b⟩ := Y.objs i (as11.getD i 0) v (by rw [List.getD_eq_getElem?_getD, List.getElem?_eq_getElem (by exact h1)]; rfl) e (fun q => by rw [q] at f; cases f)
    exact ⟨o, a, by rw [b]; exact f⟩
  intro a ha
  obtain ⟨i, hi, e⟩ := List.mem_iff_getElem.mp ha
  have hi : i < 21 := hi
  by_cases hc : i = 20
  · subst hc; subst e; exact key 21 (by (decide)) (by (decide))
  · have := key i (by (exact Nat.lt_of_lt_of_le (by assumption) (by decide))) (by (assumption))
    have e2 : as11.getD i 0 = a := by
      subst e
      rw [List.getD_eq_getElem?_getD, List.getElem?_eq_getElem (show i < as11.length by show i < 22; (exact Nat.lt_of_lt_of_le (by assumption) (by decide)))]
      clear this
      rcases i with _ | _ | _ | _ | _ | _ | _ | _ | _ | _ | _ | _ | _ | _ | _ | _ | _ | _ | _ | _ | i
      all_goals first | rfl | (lia)
    rw [← e2]; exact this
theorem tabs {w : World} {h : Heap} (Y : YY w h) : TabsAt [(69, 65)] h := by
  have key : ∀ (i j : Nat) (c t : Addr) (f : PySem.Str), as11[i]? = some c → vs11[i]? = some (Seen.code f t) → as11[j]? = some t → vs11[j]? = some Seen.tab → c ≠ t → CodeHd h c t ∧ h.get? t = some (tabObj #[]) := by
    intro i j c t f h1 h2 h3 h4 hne
    obtain ⟨o, e1, e2⟩ := Y.objs i c _ h1 h2 (by intro q; cases q)
    obtain ⟨o', f1, f2⟩ := Y.objs j t _ h3 h4 (by intro q; cases q)
    exact ⟨codeHd_of e1 e2 hne, by rw [f1, see_tab f2]⟩
  intro q hq

  obtain rfl := List.mem_singleton.mp hq
  exact key 5 20 69 65 "suffixed_err" rfl rfl rfl rfl (by decide)
theorem st {w : World} {s₁ : Shared} {mg mb : PySem.Str → Option Value} (Y : YY w s₁.heap) (g : s₁.heap.Ns 3 mg) : St (cx w s₁ mg mb) := by
  have hT := tabs Y
  have nm := fun i x v h1 h2 => Y.mg g i x v h1 h2
  have f0 : FnKw (cx w s₁ mg mb) 56 suB suS (.ref 55) "skip_until" ["src", "pos", "expect", "error_on", "error_on_eof"] 3 ["error_on", "error_on_eof"] := by
    refine H.Told.fnKw (P := 51) Y rfl 0 rfl rfl rfl rfl (by decide) (by decide) ⟨rfl, rfl, rfl⟩ fun fd vs hv => ?_
    obtain ⟨a, b, c, d, e, rfl⟩ := vs5 hv
    rfl
  have f1 : FnIs (cx w s₁ mg mb) 63 scB scS (.ref 62) "skip_comment" ["src", "pos"] := by
    refine H.Told.fnIs (P := 58) Y rfl 2 rfl rfl rfl rfl (by decide) (by decide) ⟨rfl, rfl, rfl⟩ fun fd vs hv => ?_
    obtain ⟨a, b, rfl⟩ := vs2 hv
    rfl
  have f2 : FnIs (cx w s₁ mg mb) 70 seB seS (.ref 69) "suffixed_err" ["src", "pos", "msg"] := by
    refine H.Told.fnIs (P := 65) Y rfl 4 rfl rfl rfl rfl (by decide) (by decide) ⟨rfl, rfl, rfl⟩ fun fd vs hv => ?_
    obtain ⟨a, b, c, rfl⟩ := vs3 hv
    rfl
  have f3 : FnIs (cx w s₁ mg mb) 77 lsignsB lsignsS (.ref 76) "_law_signs" ["total"] := by
    refine H.Told.fnIs (P := 72) Y rfl 6 rfl rfl rfl rfl (by decide) (by decide) ⟨rfl, rfl, rfl⟩ fun fd vs hv => ?_
    obtain ⟨a, rfl⟩ := vs1 hv
    rfl
  have f4 : FnIs (cx w s₁ mg mb) 84 ltextB ltextS (.ref 83) "_law_text" ["script", "signs"] := by
    refine H.Told.fnIs (P := 79) Y rfl 8 rfl rfl rfl rfl (by decide) (by decide) ⟨rfl, rfl, rfl⟩ fun fd vs hv => ?_
    obtain ⟨a, b, rfl⟩ := vs2 hv
    rfl
  have f5 : FnIs (cx w s₁ mg mb) 91 lquotedB lquotedS (.ref 90) "_law_quoted" ["text"] := by
    refine H.Told.fnIs (P := 86) Y rfl 10 rfl rfl rfl rfl (by decide) (by decide) ⟨rfl, rfl, rfl⟩ fun fd vs hv => ?_
    obtain ⟨a, rfl⟩ := vs1 hv
    rfl
  have f6 : FnIs (cx w s₁ mg mb) 96 ldueB ldueS (.ref 95) "_law_due" ["text", "place", "sought", "barred", "strict"] := by
    refine H.Told.fnIs (P := 93) Y rfl 12 rfl rfl rfl rfl (by decide) (by decide) ⟨rfl, rfl, rfl⟩ fun fd vs hv => ?_
    obtain ⟨a, b, c, d, e, rfl⟩ := vs5 hv
    rfl
  have f7 : FnIs (cx w s₁ mg mb) 101 ldoneB ldoneS (.ref 100) "_law_done" ["text", "place", "sought", "barred", "strict"] := by
    refine H.Told.fnIs (P := 98) Y rfl 14 rfl rfl rfl rfl (by decide) (by decide) ⟨rfl, rfl, rfl⟩ fun fd vs hv => ?_
    obtain ⟨a, b, c, d, e, rfl⟩ := vs5 hv
    rfl
  have f8 : FnIs (cx w s₁ mg mb) 108 lremarkB lremarkS (.ref 107) "_law_remark" ["text", "place", "barred"] := by
    refine H.Told.fnIs (P := 103) Y rfl 16 rfl rfl rfl rfl (by decide) (by decide) ⟨rfl, rfl, rfl⟩ fun fd vs hv => ?_
    obtain ⟨a, b, c, rfl⟩ := vs3 hv
    rfl
  have f9 : FnIs (cx w s₁ mg mb) 113 laB laS (.ref 112) "law" ["script"] := by
    refine H.Told.fnIs (P := 110) Y rfl 18 rfl rfl rfl rfl (by decide) (by decide) ⟨rfl, rfl, rfl⟩ fun fd vs hv => ?_
    obtain ⟨a, rfl⟩ := vs1 hv
    rfl
  obtain ⟨oc, c1, c2⟩ := Y.objs 21 46 (.cls (.ref 46 :: veMro) 45 "ValueError.__new__") rfl rfl (by intro q; cases q)
  obtain ⟨od0, d10, d20⟩ := Y.objs 5 69 (.code "suffixed_err" 65) rfl rfl (by intro q; cases q)
  obtain ⟨m1, n1, n2⟩ := Y.names 11 (45, "__init__") none rfl rfl
  obtain ⟨m2, k1, k2⟩ := Y.names 12 (45, "__str__") none rfl rfl
  exact {
    toml := rfl
    tomlAt := toml_of (ghost_ne c1 (show 46 ∉ [65] by decide)) c2 (ghost_ns hT n1) n2 (by rw [ns_same n1 k1]; exact k2)
    tomlC := callee_cls rfl (show 46 ∈ kss by decide) c1 c2
    tabs := rfl
    code := codeHd_of (ghost_ne d10 (by decide)) d20 (by decide)
    gl := fun x a h => by
      have key : ∀ p ∈ gl, mg p.1 = some (.ref p.2) := by
        unfold gl
        simp only [List.forall_mem_cons]
        exact ⟨nm 0 _ _ rfl rfl, nm 1 _ _ rfl rfl, nm 2 _ _ rfl rfl, nm 3 _ _ rfl rfl, nm 4 _ _ rfl rfl, nm 5 _ _ rfl rfl, nm 6 _ _ rfl rfl, nm 7 _ _ rfl rfl, nm 8 _ _ rfl rfl, nm 9 _ _ rfl rfl, nm 13 _ _ rfl rfl, nm 10 _ _ rfl rfl, fun _ h => nomatch h⟩
      exact key (x, a) h
    no := fun x h => by
      have key : ∀ x ∈ blts, mg x = none := by
        unfold blts
        simp only [List.forall_mem_cons]
        exact ⟨nm 14 _ _ rfl rfl, nm 15 _ _ rfl rfl, nm 16 _ _ rfl rfl, nm 17 _ _ rfl rfl, nm 18 _ _ rfl rfl, nm 19 _ _ rfl rfl, nm 20 _ _ rfl rfl, nm 21 _ _ rfl rfl, nm 22 _ _ rfl rfl, nm 23 _ _ rfl rfl, nm 24 _ _ rfl rfl, nm 25 _ _ rfl rfl, fun _ h => nomatch h⟩
      exact key x h
    su := f0
    sc := f1
    se := f2
    lsigns := f3
    ltext := f4
    lquoted := f5
    ldue := f6
    ldone := f7
    lremark := f8
    la := f9
    s36 := H.Told.set (C := cx w s₁ mg mb) Y hT rfl 0 36 _ rfl rfl (by decide) }
theorem okk : PySem.Challenge.rw_dn0207_11.wellSaid = true := by kernel_rfl
theorem holds : PySem.Challenge.rw_dn0207_11.Holds := by
  refine holds_law okk fun said => ?_
  refine own_holds (d := dd) (kwd := []) said behind11 (fun w h h' x k => x.keeps k) (by kernel_rfl) (by rfl) (by rfl) (by decide +kernel) ⟨rfl, rfl, rfl, rfl, rfl, by decide +kernel⟩ (by w_witness2) rfl (by decide +kernel) ?_
  intro w s₀ s₁ mg mb G Y fa o pm cd doc dV kV ho hd hcd hD hmg hg args vals as hpre hlay hrd hwl hlo
  wrow_args hpre hlay hrd hwl hlo
  rename IntsAre _ _ => hI
  rename Heap.IsList _ _ _ => hL
  rename ¬ _ => hlen
  have e1 := hD.none rfl
  have e2 : kV = .none := by
    rcases hD.kw with h | h
    · exact h.2
    · exact absurd rfl h.1
  subst e1 e2
  have hT := tabs Y
  have S := st (mb := mb) Y G.T.g
  refine law_own (tabs := [(69, 65)]) [] (by decide) [(65, ("suffixed_err.<locals>.coord_repr" : PySem.Str))] 46 hT G.T (kOf_in (firm Y)) (kOf_noTabs (firm Y)) hg rfl ho hd hcd rfl rfl rfl rfl rfl rfl rfl rfl rfl hL hI (fun _ _ => rfl) (by wrow_post) fun hst hok => ?_
  refine fun G' N => ⟨.none (by simp), SW.mono (laW (C := cx w s₁ mg mb) (G := G') (Q := fun d => d = .bool true) S N.fn N.scope (by rw [N.k]; decide) N.hnd _ (by (lia))  rfl) (fun fl ρ p => ?_) (fun _ _ z => z)⟩
  cases fl <;> first | exact p | exact p.elim
end E11
theorem holds11 : PySem.Challenge.rw_dn0207_11.Holds := E11.holds
end Mine

end
set_option maxRecDepth 100000 in
set_option maxHeartbeats 8000000 in
theorem PySem.Challenge.cw_dn0207_11_holds : PySem.Challenge.rw_dn0207_11.Holds := by
  exact Mine.holds11
