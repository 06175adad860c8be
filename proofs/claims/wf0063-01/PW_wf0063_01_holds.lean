import PyProof.Rows.All
import Wide.All
import OpenK.AllK
import Wide.FinOn
import PySem.Challenge.RW_wf0063_01
set_option Elab.async false
set_option maxRecDepth 100000
set_option genInjectivity false
set_option genSizeOfSpec false
set_option linter.all false
section
namespace Mine
open PySem PySem.Calls PyProof.Rows PySem.W
theorem itp {c : Prop} [i : Decidable c] {a b : Prop} (h : c) (x : a) : if c then a else b := by
  cases i with
  | isTrue => exact x
  | isFalse n => exact absurd h n
theorem itn {c : Prop} [i : Decidable c] {a b : Prop} (h : ¬c) (x : b) : if c then a else b := by
  cases i with
  | isTrue n => exact absurd n h
  | isFalse => exact x
theorem nos {α : Type} {a : α} {p : Prop} (h : none = some a) : p := nomatch h
theorem som {α : Type} {a b : α} (h : some a = some b) : a = b := Option.some.inj h
theorem bindE {α β : Type} {o : Option α} {f : α → Option β} {r : β} {P : Prop} (h : o.bind f = some r) (H : ∀ a, o = some a → f a = some r → P) : P := by
  cases o with
  | none => exact nos h
  | some a => exact H a rfl h
theorem bnd {α β : Type} {o : Option α} {f : α → Option β} {a : α} {r : Option β} (h : o = some a) (k : f a = r) : o.bind f = r := by
  subst h; exact k
theorem iteE {α : Type} {c : Prop} [i : Decidable c] {x : Option α} {r : α} (h : (if c then x else none) = some r) : c ∧ x = some r := by
  cases i with
  | isTrue hc => exact ⟨hc, h⟩
  | isFalse => exact nos h
theorem no_eq {p : Prop} (h : false = true) : p := nomatch h
theorem band {a b : Bool} (h : (a && b) = true) : a = true ∧ b = true := by
  cases a with
  | true => exact ⟨rfl, h⟩
  | false => exact no_eq h
theorem bnot {a : Bool} (h : (!a) = true) : a = false := by
  cases a with
  | false => rfl
  | true => exact no_eq h
inductive D where
  | none
  | bool (b : Bool)
  | int (i : Int)
  | flt (b : UInt64)
  | str (s : Str)
  | bytes (b : Array UInt8)
  | tup (l : List D)
  | lst (l : List D)
mutual
noncomputable def Has (O : Addr → Prop) (h : Heap) : D → Value → Prop
  | .none, v => v = .none
  | .bool b, v => v = .bool b
  | .int i, v => ∃ t, v = .int i t
  | .flt b, v => ∃ t, v = .float b t
  | .str s, v => ∃ t, v = .str s t
  | .bytes b, v => ∃ t, v = .bytes b t
  | .tup l, v => ∃ a vs, v = .ref a ∧ h.IsTuple a vs ∧ HasL O h l vs.toList
  | .lst l, v => ∃ a vs, v = .ref a ∧ ¬ O a ∧ h.IsList a vs ∧ HasL O h l vs.toList
noncomputable def HasL (O : Addr → Prop) (h : Heap) : List D → List Value → Prop
  | [], vs => vs = []
  | d :: ds, vs => ∃ v r, vs = v :: r ∧ Has O h d v ∧ HasL O h ds r
end
theorem hasL_nil {O h} : HasL O h [] [] := by simp [HasL]
theorem hasL_cons {O h d ds v vs} (a : Has O h d v) (b : HasL O h ds vs) : HasL O h (d :: ds) (v :: vs) := by
  rw [HasL]; exact ⟨v, vs, rfl, a, b⟩
theorem hasL_length {O h} : ∀ {ds vs}, HasL O h ds vs → vs.length = ds.length
  | [], _, x => by rw [HasL] at x; rw [x]; rfl
  | d :: ds, vs, x => by rw [HasL] at x; obtain ⟨v, r, rfl, _, b⟩ := x; simp [hasL_length b]
theorem hasL_append {O h} : ∀ {ds vs es us}, HasL O h ds vs → HasL O h es us → HasL O h (ds ++ es) (vs ++ us)
  | [], _, _, _, x, y => by rw [HasL] at x; rw [x]; exact y
  | d :: ds, vs, _, _, x, y => by
    rw [HasL] at x; obtain ⟨v, r, rfl, a, b⟩ := x
    exact hasL_cons a (hasL_append b y)
theorem hasL_get {O h} : ∀ {ds vs} (n : Nat) {d}, HasL O h ds vs → ds[n]? = some d → ∃ v, vs[n]? = some v ∧ Has O h d v
  | [], _, n, d, _, e => by simp at e
  | d :: ds, vs, 0, d', x, e => by
    rw [HasL] at x; obtain ⟨v, r, rfl, a, b⟩ := x
    simp at e; subst e; exact ⟨v, rfl, a⟩
  | d :: ds, vs, n + 1, d', x, e => by
    rw [HasL] at x; obtain ⟨v, r, rfl, a, b⟩ := x
    simpa using hasL_get n b (by simpa using e)
theorem hasL_take {O h} : ∀ {ds vs} (n : Nat), HasL O h ds vs → HasL O h (ds.take n) (vs.take n)
  | _, _, 0, _ => by simpa using hasL_nil
  | [], _, n + 1, x => by rw [HasL] at x; subst x; simpa using hasL_nil
  | d :: ds, vs, n + 1, x => by
    rw [HasL] at x; obtain ⟨v, r, rfl, a, b⟩ := x
    exact hasL_cons a (hasL_take n b)
theorem hasL_drop {O h} : ∀ {ds vs} (n : Nat), HasL O h ds vs → HasL O h (ds.drop n) (vs.drop n)
  | _, _, 0, x => x
  | [], _, n + 1, x => by rw [HasL] at x; subst x; simpa using hasL_nil
  | d :: ds, vs, n + 1, x => by
    rw [HasL] at x; obtain ⟨v, r, rfl, a, b⟩ := x
    simpa using hasL_drop n b
theorem hasL_set {O h} : ∀ {ds vs} (n : Nat) {d v}, HasL O h ds vs → Has O h d v → HasL O h (ds.set n d) (vs.set n v)
  | [], _, n, _, _, x, _ => by rw [HasL] at x; subst x; simpa using hasL_nil
  | d :: ds, vs, 0, _, _, x, y => by
    rw [HasL] at x; obtain ⟨v, r, rfl, a, b⟩ := x
    exact hasL_cons y b
  | d :: ds, vs, n + 1, _, _, x, y => by
    rw [HasL] at x; obtain ⟨v, r, rfl, a, b⟩ := x
    exact hasL_cons a (hasL_set n b y)
noncomputable def SeqKeep (T : Addr → Prop) (h h' : Heap) : Prop :=
  (∀ a vs, ¬ T a → h.IsList a vs → h'.IsList a vs) ∧ (∀ a vs, h.IsTuple a vs → h'.IsTuple a vs)
mutual
theorem has_keep {O T : Addr → Prop} {h h' : Heap} (k : SeqKeep T h h') (hT : ∀ a, T a → O a) : ∀ (d : D) (v : Value), Has O h d v → Has O h' d v
  | .none, v, x => by simpa [Has] using x
  | .bool b, v, x => by simpa [Has] using x
  | .int i, v, x => by simpa [Has] using x
  | .flt b, v, x => by simpa [Has] using x
  | .str s, v, x => by simpa [Has] using x
  | .bytes b, v, x => by simpa [Has] using x
  | .tup l, v, x => by
    rw [Has] at x ⊢; obtain ⟨a, vs, rfl, q, r⟩ := x
    exact ⟨a, vs, rfl, k.2 _ _ q, hasL_keep k hT l _ r⟩
  | .lst l, v, x => by
    rw [Has] at x ⊢; obtain ⟨a, vs, rfl, no, q, r⟩ := x
    exact ⟨a, vs, rfl, no, k.1 _ _ (λ t => no (hT _ t)) q, hasL_keep k hT l _ r⟩
theorem hasL_keep {O T : Addr → Prop} {h h' : Heap} (k : SeqKeep T h h') (hT : ∀ a, T a → O a) : ∀ (ds : List D) (vs : List Value), HasL O h ds vs → HasL O h' ds vs
  | [], vs, x => by simpa [HasL] using x
  | d :: ds, vs, x => by
    rw [HasL] at x ⊢; obtain ⟨v, r, rfl, a, b⟩ := x
    exact ⟨v, r, rfl, has_keep k hT d v a, hasL_keep k hT ds r b⟩
end
mutual
theorem has_sub {O O' : Addr → Prop} {h : Heap} (k : ∀ a, O' a → O a ∨ h.get? a = .none) : ∀ (d : D) (v : Value), Has O h d v → Has O' h d v
  | .none, v, x => by simpa [Has] using x
  | .bool b, v, x => by simpa [Has] using x
  | .int i, v, x => by simpa [Has] using x
  | .flt b, v, x => by simpa [Has] using x
  | .str s, v, x => by simpa [Has] using x
  | .bytes b, v, x => by simpa [Has] using x
  | .tup l, v, x => by
    rw [Has] at x ⊢; obtain ⟨a, vs, rfl, q, r⟩ := x
    exact ⟨a, vs, rfl, q, hasL_sub k l _ r⟩
  | .lst l, v, x => by
    rw [Has] at x ⊢; obtain ⟨a, vs, rfl, no, q, r⟩ := x
    refine ⟨a, vs, rfl, λ t => (k a t).elim no λ e => ?_, q, hasL_sub k l _ r⟩
    obtain ⟨o, ho, _⟩ := q; rw [e] at ho; cases ho
theorem hasL_sub {O O' : Addr → Prop} {h : Heap} (k : ∀ a, O' a → O a ∨ h.get? a = .none) : ∀ (ds : List D) (vs : List Value), HasL O h ds vs → HasL O' h ds vs
  | [], vs, x => by simpa [HasL] using x
  | d :: ds, vs, x => by
    rw [HasL] at x ⊢; obtain ⟨v, r, rfl, a, b⟩ := x
    exact ⟨v, r, rfl, has_sub k d v a, hasL_sub k ds r b⟩
end
structure Ext (s s' : Shared) : Prop where
  heap : ∀ b o, s.heap.get? b = some o → s'.heap.get? b = some o
  os : s'.os = s.os
  bare : AllBare s.gens → AllBare s'.gens
  gens : ∀ (i : Nat) (g : GenState), s.gens[i]? = some g → s'.gens[i]? = some g
theorem Ext.refl (s : Shared) : Ext s s := ⟨λ _ _ e => e, rfl, id, λ _ _ e => e⟩
theorem Ext.trans {a b c : Shared} (x : Ext a b) (y : Ext b c) : Ext a c :=
  ⟨λ b o e => y.heap b o (x.heap b o e), y.os.trans x.os, λ q => y.bare (x.bare q), λ i g e => y.gens i g (x.gens i g e)⟩
theorem Ext.toks {s : Shared} (t : Nat) : Ext s { s with toks := t } := ⟨λ _ _ e => e, rfl, id, λ _ _ e => e⟩
theorem Ext.ofHeap {s : Shared} {h : Heap} (k : ∀ b o, s.heap.get? b = some o → h.get? b = some o) (t : Nat) : Ext s { s with heap := h, toks := t } :=
  ⟨k, rfl, id, λ _ _ e => e⟩
theorem isList_ext {h h' : Heap} (k : ∀ b o, h.get? b = some o → h'.get? b = some o) {a vs} (x : h.IsList a vs) : h'.IsList a vs :=
  let ⟨o, ho, r⟩ := x; ⟨o, k _ _ ho, r⟩
theorem isTuple_ext {h h' : Heap} (k : ∀ b o, h.get? b = some o → h'.get? b = some o) {a vs} (x : h.IsTuple a vs) : h'.IsTuple a vs :=
  let ⟨o, ho, r⟩ := x; ⟨o, k _ _ ho, r⟩
theorem seqKeep_ext {T} {h h' : Heap} (k : ∀ b o, h.get? b = some o → h'.get? b = some o) : SeqKeep T h h' :=
  ⟨λ _ _ _ x => isList_ext k x, λ _ _ x => isTuple_ext k x⟩
theorem Ext.has {s s' : Shared} (x : Ext s s') {O d v} (y : Has O s.heap d v) : Has O s'.heap d v :=
  has_keep (T := λ _ => False) (seqKeep_ext x.heap) (λ _ f => f.elim) d v y
theorem Ext.hasL {s s' : Shared} (x : Ext s s') {O d v} (y : HasL O s.heap d v) : HasL O s'.heap d v :=
  hasL_keep (T := λ _ => False) (seqKeep_ext x.heap) (λ _ f => f.elim) d v y
theorem get_none_of_ge {h : Heap} {a : Addr} (ha : h.objs.size ≤ a) : h.get? a = none := by
  cases e : h.get? a with
  | none => rfl
  | some o => exact absurd (Heap.lt_size e) (Nat.not_lt.mpr ha)
noncomputable def NoSeq (h : Heap) (a : Addr) : Prop := ∀ o vs n, h.get? a = some o → o.data ≠ .seq vs n
theorem seqKeep_sameBut {h h' : Heap} {a : Addr} (hs : Heap.SameBut a h h') (hn : NoSeq h a) {T} : SeqKeep T h h' := by
  constructor
  · rintro b vs _ ⟨o, ho, hc, n, hd⟩
    refine ⟨o, (hs.2 b ?_).trans ho, hc, n, hd⟩
    rintro rfl; exact hn _ _ _ ho hd
  · rintro b vs ⟨o, ho, hc, n, hd⟩
    refine ⟨o, (hs.2 b ?_).trans ho, hc, n, hd⟩
    rintro rfl; exact hn _ _ _ ho hd
theorem seqKeep_list {h h' : Heap} {a : Addr} {its} (hs : Heap.SameBut a h h') (hl : h.IsList a its) {T : Addr → Prop} (hT : T a) : SeqKeep T h h' := by
  constructor
  · rintro b vs hb ⟨o, ho, hc, n, hd⟩
    refine ⟨o, (hs.2 b ?_).trans ho, hc, n, hd⟩
    rintro rfl; exact hb hT
  · rintro b vs ⟨o, ho, hc, n, hd⟩
    refine ⟨o, (hs.2 b ?_).trans ho, hc, n, hd⟩
    rintro rfl
    obtain ⟨o', ho', hc', _⟩ := hl
    rw [ho] at ho'; cases ho'; rw [hc] at hc'; exact absurd (Value.type.inj hc') (by decide)
theorem Ns.noSeq {h : Heap} {a m} (x : h.Ns a m) : NoSeq h a := by
  rintro o vs n ho hd
  obtain ⟨o', es, ep, ho', hd', _⟩ := x
  rw [ho] at ho'; cases ho'; rw [hd] at hd'; cases hd'
theorem IsCell.noSeq {h : Heap} {a m} (x : h.IsCell a m) : NoSeq h a := by
  rintro o vs n ho hd
  obtain ⟨o', ho', hd'⟩ := x
  rw [ho] at ho'; cases ho'; rw [hd] at hd'; cases hd'
structure GF (mg mb : Str → Option Value) (h : Heap) : Prop where
  g : h.Ns mainGlobals mg
  b : h.Ns builtinsNs mb
  lim : h.NoLimit
  boot : ∀ x : Str, x ≠ "__name__" → mb x = bootBuiltins x
theorem GF.keeps {mg mb h h'} (x : GF mg mb h) (k : ∀ b o, h.get? b = some o → h'.get? b = some o) : GF mg mb h' :=
  ⟨x.g.keeps k, x.b.keeps k, x.lim.keeps k, x.boot⟩
noncomputable def VarAt (env : Env) (h : Heap) (x : Str) (v : Value) : Prop :=
  (env.kindOf x = some .local ∧ ∃ m, h.Ns env.locals m ∧ m x = some v) ∨
  ((env.kindOf x = some .cell ∨ env.kindOf x = some .free) ∧ ∃ c, env.cells.lookup x = some c ∧ h.IsCell c (some v))
structure FrAt (cw : Bool) (env : Env) (base h : Heap) : Prop where
  kind : env.scope.kind = .function
  globals : env.globals = mainGlobals
  builtins : env.builtins = builtinsNs
  ns : ∃ m, h.Ns env.locals m
  fresh : base.get? env.locals = none
  cell : cw = true → ∀ x, env.kindOf x = some .cell → ∃ c v, env.cells.lookup x = some c ∧ h.IsCell c v ∧ base.get? c = none
  apart : cw = true → ∀ x y c, env.cells.lookup x = some c → env.cells.lookup y = some c → x = y
  keep : ∀ b o, base.get? b = some o → h.get? b = some o
inductive Slot where
  | undef
  | fro (d : D)
  | own (ds : List D)
noncomputable def SlotAt (env : Env) (h : Heap) (O : Addr → Prop) (x : Str) (a : Addr) : Slot → Prop
  | .undef => True
  | .fro d => ∃ v, VarAt env h x v ∧ Has O h d v
  | .own ds => (VarAt env h x (.ref a) ∨ x = Str.empty) ∧ ∃ vs, h.PlainList a vs ∧ HasL O h ds vs.toList
noncomputable def Own (ow : Nat → Addr) (ρ : List Slot) (a : Addr) : Prop := ∃ i ds, ρ[i]? = some (.own ds) ∧ ow i = a
noncomputable def Oof (O₀ : Addr → Prop) (ow : Nat → Addr) (ρ : List Slot) : Addr → Prop := λ a => O₀ a ∨ Own ow ρ a
structure Frame where
  env : Env
  base : Heap
  names : List Str
  cw : Bool
structure St (F : Frame) (O₀ : Addr → Prop) (ow : Nat → Addr) (ρ : List Slot) (s : Shared) : Prop where
  fr : FrAt F.cw F.env F.base s.heap
  slots : ∀ i sl x, ρ[i]? = some sl → F.names[i]? = some x → SlotAt F.env s.heap (Oof O₀ ow ρ) x (ow i) sl
  inj : ∀ i j ds es, ρ[i]? = some (.own ds) → ρ[j]? = some (.own es) → ow i = ow j → i = j
  new : ∀ i ds, ρ[i]? = some (.own ds) → ¬ O₀ (ow i) ∧ F.base.get? (ow i) = none
  len : ρ.length = F.names.length
  nodup : ∀ (i j : Nat) (x : Str), F.names[i]? = some x → F.names[j]? = some x → i = j
  bare : AllBare s.gens
  old : ∀ a, O₀ a → ∃ vs, F.base.IsList a vs
theorem VarAt.keep {env h h' x v} (y : VarAt env h x v) (kL : ∀ o, h.get? env.locals = some o → h'.get? env.locals = some o)
    (kc : ∀ c o, env.cells.lookup x = some c → h.get? c = some o → h'.get? c = some o) : VarAt env h' x v := by
  rcases y with ⟨k, m, hm, e⟩ | ⟨k, c, hc, hv⟩
  · obtain ⟨o, es, ep, ho, r⟩ := hm
    exact .inl ⟨k, m, ⟨o, es, ep, kL _ ho, r⟩, e⟩
  · obtain ⟨o, ho, hd⟩ := hv
    exact .inr ⟨k, c, hc, o, kc _ _ hc ho, hd⟩
theorem VarAt.ext {env h h' x v} (y : VarAt env h x v) (k : ∀ b o, h.get? b = some o → h'.get? b = some o) : VarAt env h' x v :=
  y.keep (λ _ e => k _ _ e) λ _ _ _ e => k _ _ e
theorem FrAt.ext {cw env base h h'} (y : FrAt cw env base h) (k : ∀ b o, h.get? b = some o → h'.get? b = some o) : FrAt cw env base h' :=
  ⟨y.kind, y.globals, y.builtins, y.ns.imp λ _ q => q.keeps k, y.fresh,
   λ w x e => let ⟨c, v, a, b, d⟩ := y.cell w x e; ⟨c, v, a, b.keeps k, d⟩, y.apart, λ b o e => k _ _ (y.keep b o e)⟩
theorem PlainList.ext {h h' : Heap} {a vs} (x : h.PlainList a vs) (k : ∀ b o, h.get? b = some o → h'.get? b = some o) : h'.PlainList a vs :=
  let ⟨n, e⟩ := x; ⟨n, k _ _ e⟩
theorem PlainList.isL {h : Heap} {a vs} (x : h.PlainList a vs) : h.IsList a vs := let ⟨n, e⟩ := x; ⟨_, e, rfl, n, rfl⟩
theorem SlotAt.ext {env h h' O x a sl} (k : ∀ b o, h.get? b = some o → h'.get? b = some o) (y : SlotAt env h O x a sl) : SlotAt env h' O x a sl := by
  cases sl with
  | undef => trivial
  | fro d => obtain ⟨v, p, q⟩ := y; exact ⟨v, p.ext k, has_keep (T := λ _ => False) (seqKeep_ext k) (λ _ f => f.elim) d v q⟩
  | own ds => obtain ⟨p, vs, q, r⟩ := y; exact ⟨p.imp (λ p => p.ext k) id, vs, PlainList.ext q k, hasL_keep (T := λ _ => False) (seqKeep_ext k) (λ _ f => f.elim) ds _ r⟩
theorem St.ext {F O₀ ow ρ s s'} (y : St F O₀ ow ρ s) (x : Ext s s') : St F O₀ ow ρ s' :=
  ⟨y.fr.ext x.heap, λ i sl n e e' => (y.slots i sl n e e').ext x.heap, y.inj, y.new, y.len, y.nodup, x.bare y.bare, y.old⟩
theorem St.at_fro {F O₀ ow ρ s} (y : St F O₀ ow ρ s) {i : Nat} {d : D} {x : Str} (e : ρ[i]? = some (.fro d)) (n : F.names[i]? = some x) :
    ∃ v, VarAt F.env s.heap x v ∧ Has (Oof O₀ ow ρ) s.heap d v := y.slots i _ x e n
theorem St.at_own {F O₀ ow ρ s} (y : St F O₀ ow ρ s) {i : Nat} {ds : List D} {x : Str} (e : ρ[i]? = some (.own ds)) (n : F.names[i]? = some x) :
    (VarAt F.env s.heap x (.ref (ow i)) ∨ x = Str.empty) ∧ ∃ vs, s.heap.PlainList (ow i) vs ∧ HasL (Oof O₀ ow ρ) s.heap ds vs.toList := y.slots i _ x e n
theorem wpAny_var {M : Model} {A : Around} {E : Value → Shared → Prop} {s : Shared} {env : Env} {x : Str} {v : Value} {Q : Value → Shared → Prop}
    (hk : env.scope.kind = .function) (y : VarAt env s.heap x v) (hn : (x == ("__classdict__" : Str)) = false) (h : Q v s) : wpAny M A (loadName env x) Q E s := by
  rcases y with ⟨k, m, hm, e⟩ | ⟨k | k, c, hc, hv⟩
  · exact wpAny_loadName_local hk k hm e h
  · exact wpAny_loadName_cell hk k hc hv h
  · exact wpAny_loadName_free hk k hc hv h hn
theorem own_set_sub {ow : Nat → Addr} {ρ : List Slot} {i : Nat} {sl : Slot} (hs : ∀ ds, sl ≠ .own ds) {a : Addr} (x : Own ow (ρ.set i sl) a) : Own ow ρ a := by
  obtain ⟨j, ds, e, q⟩ := x
  by_cases hij : i = j
  · subst hij
    rw [List.getElem?_set] at e
    simp only [if_true] at e
    split at e
    · exact absurd (Option.some.inj e) (hs ds)
    · cases e
  · rw [List.getElem?_set_ne hij] at e
    exact ⟨j, ds, e, q⟩
noncomputable def OwnCell (F : Frame) (c : Addr) : Prop := F.cw = true ∧ ∃ x, F.env.kindOf x = some .cell ∧ F.env.cells.lookup x = some c
structure StepR (F : Frame) (O₀ : Addr → Prop) (ow : Nat → Addr) (ρ : List Slot) (s : Shared) (ow' : Nat → Addr) (ρ' : List Slot) (s' : Shared) : Prop where
  rest : ∀ b o, s.heap.get? b = some o → b ≠ F.env.locals → ¬ OwnCell F b → ¬ Oof O₀ ow ρ b → s'.heap.get? b = some o
  own : ∀ a, Oof O₀ ow' ρ' a → Oof O₀ ow ρ a ∨ s.heap.get? a = none
  live : ∀ b, s'.heap.get? b = none → s.heap.get? b = none
  gens : ∀ (i : Nat) (g : GenState), s.gens[i]? = some g → s'.gens[i]? = some g
  os : s'.os = s.os
theorem StepR.refl {F O₀ ow ρ s} : StepR F O₀ ow ρ s ow ρ s :=
  ⟨λ _ _ e _ _ _ => e, λ _ x => .inl x, λ _ x => x, λ _ _ e => e, rfl⟩
theorem StepR.trans {F O₀ ow ρ s ow' ρ' s' ow'' ρ'' s''} (x : StepR F O₀ ow ρ s ow' ρ' s') (y : StepR F O₀ ow' ρ' s' ow'' ρ'' s'') : StepR F O₀ ow ρ s ow'' ρ'' s'' := by
  refine ⟨λ b o e n1 n2 n3 => y.rest b o (x.rest b o e n1 n2 n3) n1 n2 λ t => ?_, λ a h => ?_, λ b e => x.live b (y.live b e), λ i g e => y.gens i g (x.gens i g e), y.os.trans x.os⟩
  · rcases x.own b t with q | q
    · exact n3 q
    · rw [q] at e; cases e
  · rcases y.own a h with q | q
    · exact x.own a q
    · exact .inr (x.live a q)
theorem StepR.ofExt {F O₀ ow ρ s s'} (x : Ext s s') : StepR F O₀ ow ρ s ow ρ s' :=
  ⟨λ b o e _ _ _ => x.heap b o e, λ _ q => .inl q, λ b e => (by
    cases q : s.heap.get? b with
    | none => rfl
    | some o => rw [x.heap b o q] at e; cases e), x.gens, x.os⟩
theorem St.not_frame {F O₀ ow ρ s} (S : St F O₀ ow ρ s) {b o} (e : s.heap.get? b = some o) (h1 : ∀ es n, o.data ≠ .dict es n) (h2 : ∀ v, o.data ≠ .cell v) : b ≠ F.env.locals ∧ ¬ OwnCell F b := by
  constructor
  · rintro rfl
    obtain ⟨m, o', es, ep, ho', hd', _⟩ := S.fr.ns
    rw [e] at ho'; cases ho'; exact h1 _ _ hd'
  · rintro ⟨hw, x, hk, hc⟩
    obtain ⟨c, v, hc', ⟨o', ho', hd'⟩, _⟩ := S.fr.cell hw x hk
    rw [hc] at hc'; cases hc'
    rw [e] at ho'; cases ho'; exact h2 _ hd'
theorem StepR.fields {F O₀ ow ρ s ow' ρ' s'} (x : StepR F O₀ ow ρ s ow' ρ' s') (S : St F O₀ ow ρ s) {b o vs} (e : s.heap.get? b = some o) (d : o.data = .fields vs) : s'.heap.get? b = some o := by
  obtain ⟨n1, n2⟩ := S.not_frame e (λ _ _ q => by rw [d] at q; cases q) (λ _ q => by rw [d] at q; cases q)
  refine x.rest b o e n1 n2 ?_
  rintro (q | ⟨i, ds, ei, q⟩)
  · obtain ⟨vs', o', ho', hc', n', hd'⟩ := S.old b q
    have e' := S.fr.keep b o' ho'
    rw [e] at e'; cases e'; rw [d] at hd'; cases hd'
  · obtain ⟨y, ny⟩ : ∃ y, F.names[i]? = some y := ⟨F.names[i]'(S.len ▸ (List.getElem?_eq_some_iff.mp ei).1), List.getElem?_eq_getElem _⟩
    obtain ⟨_, us, ⟨k, q'⟩, _⟩ := S.at_own ei ny
    rw [q] at q'; rw [e] at q'; cases q'; cases d
theorem StepR.seq {F O₀ ow ρ s ow' ρ' s'} (x : StepR F O₀ ow ρ s ow' ρ' s') (S : St F O₀ ow ρ s) : SeqKeep (Oof O₀ ow ρ) s.heap s'.heap := by
  constructor
  · rintro a vs na ⟨o, ho, hc, n, hd⟩
    obtain ⟨n1, n2⟩ := S.not_frame ho (λ _ _ q => by rw [hd] at q; cases q) (λ _ q => by rw [hd] at q; cases q)
    exact ⟨o, x.rest a o ho n1 n2 na, hc, n, hd⟩
  · rintro a vs ⟨o, ho, hc, n, hd⟩
    obtain ⟨n1, n2⟩ := S.not_frame ho (λ _ _ q => by rw [hd] at q; cases q) (λ _ q => by rw [hd] at q; cases q)
    refine ⟨o, x.rest a o ho n1 n2 ?_, hc, n, hd⟩
    rintro (q | ⟨i, ds, ei, q⟩)
    · obtain ⟨vs', o', ho', hc', n', hd'⟩ := S.old a q
      have e' := S.fr.keep a o' ho'
      rw [ho] at e'; cases e'; rw [hc] at hc'; exact absurd (Value.type.inj hc') (by decide)
    · obtain ⟨y, ny⟩ : ∃ y, F.names[i]? = some y := ⟨F.names[i]'(S.len ▸ (List.getElem?_eq_some_iff.mp ei).1), List.getElem?_eq_getElem _⟩
      obtain ⟨_, us, ⟨k, q'⟩, _⟩ := S.at_own ei ny
      rw [q, ho] at q'; cases q'; exact absurd (Value.type.inj hc) (by decide)
theorem Ns_unique {h : Heap} {a m m'} (x : h.Ns a m) (y : h.Ns a m') : m = m' := by
  obtain ⟨o, es, ep, ho, hd, _, hm⟩ := x
  obtain ⟨o', es', ep', ho', hd', _, hm'⟩ := y
  rw [ho] at ho'; cases ho'; rw [hd] at hd'; cases hd'
  funext n; rw [← hm n, hm' n]
theorem cell_ne_ns {h : Heap} {a c m v} (x : h.Ns a m) (y : h.IsCell c v) : c ≠ a := by
  rintro rfl
  obtain ⟨o, es, ep, ho, hd, _⟩ := x
  obtain ⟨o', ho', hd'⟩ := y
  rw [ho] at ho'; cases ho'; rw [hd] at hd'; cases hd'
structure Writable (F : Frame) (x : Str) : Prop where
  can : F.env.kindOf x = some .local ∨ (F.cw = true ∧ F.env.kindOf x = some .cell)
structure Stored (F : Frame) (x : Str) (v : Value) (h h' : Heap) (b : Addr) : Prop where
  same : Heap.SameBut b h h'
  noSeq : NoSeq h b
  noFields : ∀ o vs, h.get? b = some o → o.data ≠ .fields vs
  was : ∃ o, h.get? b = some o
  now : ∃ o, h'.get? b = some o
  fresh : F.base.get? b = none
  mine : b = F.env.locals ∨ OwnCell F b
  fr : FrAt F.cw F.env F.base h'
  here : VarAt F.env h' x v
  there : ∀ y u, y ≠ x → VarAt F.env h y u → VarAt F.env h' y u
theorem wpAny_store {M : Model} {A : Around} {E : Value → Shared → Prop} {s : Shared} {F : Frame} {x : Str} {v : Value} {Q : Unit → Shared → Prop}
    (fr : FrAt F.cw F.env F.base s.heap) (w : Writable F x) (h : ∀ h' t b, Stored F x v s.heap h' b → Q () { s with heap := h', toks := t }) :
    wpAny M A (storeName F.env x v) Q E s := by
  have hk := fr.kind
  rcases w.can with hl | ⟨hw, hl⟩
  · obtain ⟨m, hm⟩ := fr.ns
    refine wpAny_storeName_local hl hm (λ h' hn hs => h h' _ F.env.locals ?_) (by rw [hk]; rfl)
    refine ⟨hs, Ns.noSeq hm, ?_, ?_, (by obtain ⟨o', es, ep, ho', _⟩ := hn; exact ⟨o', ho'⟩), fr.fresh, .inl rfl, ?_, ?_, ?_⟩
    · rintro o vs ho hd
      obtain ⟨o', es, ep, ho', hd', _⟩ := hm
      rw [ho] at ho'; cases ho'; rw [hd] at hd'; cases hd'
    · obtain ⟨o', es, ep, ho', _⟩ := hm; exact ⟨o', ho'⟩
    · refine ⟨hk, fr.globals, fr.builtins, ⟨_, hn⟩, fr.fresh, λ w y e => ?_, fr.apart, λ b o e => ?_⟩
      · obtain ⟨c, v', a, q, r⟩ := fr.cell w y e
        exact ⟨c, v', a, q.sameBut hs (cell_ne_ns hm q), r⟩
      · refine (hs.2 b ?_).trans (fr.keep b o e)
        rintro rfl; rw [fr.fresh] at e; cases e
    · exact .inl ⟨hl, _, hn, if_pos rfl⟩
    · rintro y u ne (⟨k, m', hm', e⟩ | ⟨k, c, hc, hv⟩)
      · obtain rfl := Ns_unique hm hm'
        exact .inl ⟨k, _, hn, by rw [if_neg ne]; exact e⟩
      · exact .inr ⟨k, c, hc, hv.sameBut hs (cell_ne_ns hm hv)⟩
  · obtain ⟨c, v₀, hc, hv, hb⟩ := fr.cell hw x hl
    obtain ⟨m, hm⟩ := fr.ns
    refine wpAny_storeName_cell hk hl hc hv λ h' hv' hs => h h' s.toks c ?_
    refine ⟨hs, IsCell.noSeq hv, ?_, ?_, (by obtain ⟨o', ho', _⟩ := hv'; exact ⟨o', ho'⟩), hb, .inr ⟨hw, x, hl, hc⟩, ?_, ?_, ?_⟩
    · rintro o vs ho hd
      obtain ⟨o', ho', hd'⟩ := hv
      rw [ho] at ho'; cases ho'; rw [hd] at hd'; cases hd'
    · obtain ⟨o', ho', _⟩ := hv; exact ⟨o', ho'⟩
    · refine ⟨hk, fr.globals, fr.builtins, ⟨m, hm.sameBut hs (Ne.symm (cell_ne_ns hm hv))⟩, fr.fresh, λ w y e => ?_, fr.apart, λ b o e => ?_⟩
      · by_cases hxy : y = x
        · subst hxy; exact ⟨c, _, hc, hv', hb⟩
        · obtain ⟨c', v', a, q, r⟩ := fr.cell w y e
          exact ⟨c', v', a, q.sameBut hs (λ q' => hxy (fr.apart hw y x c (q' ▸ a) hc)), r⟩
      · refine (hs.2 b ?_).trans (fr.keep b o e)
        rintro rfl; rw [hb] at e; cases e
    · exact .inr ⟨.inl hl, c, hc, hv'⟩
    · rintro y u ne (⟨k, m', hm', e⟩ | ⟨k, c', hc', hv''⟩)
      · exact .inl ⟨k, m', hm'.sameBut hs (Ne.symm (cell_ne_ns hm' hv)), e⟩
      · exact .inr ⟨k, c', hc', hv''.sameBut hs (λ q' => ne (fr.apart hw y x c (q' ▸ hc') hc))⟩
theorem getElem?_set_cases {ρ : List Slot} {i j : Nat} {sl sl' : Slot} (e : (ρ.set i sl)[j]? = some sl') : (j = i ∧ sl' = sl) ∨ (j ≠ i ∧ ρ[j]? = some sl') := by
  by_cases hij : i = j
  · subst hij
    rw [List.getElem?_set] at e
    simp only [if_true] at e
    split at e
    · exact .inl ⟨rfl, (Option.some.inj e).symm⟩
    · cases e
  · rw [List.getElem?_set_ne hij] at e
    exact .inr ⟨Ne.symm hij, e⟩
theorem stepR_sameBut {F O₀ ow ρ s h' t ow' ρ' b} (hs : Heap.SameBut b s.heap h') (hm : b = F.env.locals ∨ OwnCell F b) (hb : ∃ o, h'.get? b = some o)
    (ho : ∀ a, Oof O₀ ow' ρ' a → Oof O₀ ow ρ a ∨ s.heap.get? a = none) : StepR F O₀ ow ρ s ow' ρ' { s with heap := h', toks := t } := by
  refine ⟨λ c o e n1 n2 _ => (hs.2 c ?_).trans e, ho, λ c e => ?_, λ _ _ e => e, rfl⟩
  · rintro rfl; exact hm.elim n1 n2
  · by_cases hc : c = b
    · subst hc
      obtain ⟨o, q⟩ := hb
      have e' : h'.get? c = none := e
      rw [e'] at q; cases q
    · rw [← hs.2 c hc]; exact e
theorem own_set_fro {O₀ ow ρ i d a} (x : Oof O₀ ow (ρ.set i (.fro d)) a) : Oof O₀ ow ρ a := x.imp id λ q => own_set_sub (λ _ e => by cases e) q
theorem SlotAt.stored {F : Frame} {O O' : Addr → Prop} {h₀ h h' : Heap} {x y : Str} {v : Value} {b a : Addr} {sl : Slot} (S : Stored F x v h h' b) (ne : y ≠ x)
    (k : ∀ b o, h₀.get? b = some o → h.get? b = some o) (ho : ∀ a, O' a → O a ∨ h₀.get? a = none) (q : SlotAt F.env h₀ O y a sl) : SlotAt F.env h' O' y a sl := by
  have kk : SeqKeep (λ _ => False) h h' := seqKeep_sameBut S.same S.noSeq
  cases sl with
  | undef => trivial
  | fro d =>
    obtain ⟨u, p, r⟩ := q
    exact ⟨u, S.there y u ne (p.ext k), has_keep kk (λ _ f => f.elim) d u (has_keep (T := λ _ => False) (seqKeep_ext k) (λ _ f => f.elim) d u (has_sub ho d u r))⟩
  | own ds =>
    obtain ⟨p, vs, l, r⟩ := q
    refine ⟨p.imp (λ p => S.there y _ ne (p.ext k)) id, vs, ?_, hasL_keep kk (λ _ f => f.elim) ds _ (hasL_keep (T := λ _ => False) (seqKeep_ext k) (λ _ f => f.elim) ds _ (hasL_sub ho ds _ r))⟩
    obtain ⟨n, e⟩ := l
    refine ⟨n, (S.same.2 a ?_).trans (k _ _ e)⟩
    rintro rfl; exact S.noSeq _ _ _ (k _ _ e) rfl
theorem St.put_fro {F O₀ ow ρ s h' t b} (S : St F O₀ ow ρ s) {i : Nat} {x : Str} {d : D} {v : Value} (n : F.names[i]? = some x) (W : Stored F x v s.heap h' b) (hd : Has (Oof O₀ ow ρ) s.heap d v) :
    St F O₀ ow (ρ.set i (.fro d)) { s with heap := h', toks := t } ∧ StepR F O₀ ow ρ s ow (ρ.set i (.fro d)) { s with heap := h', toks := t } := by
  have ho : ∀ a, Oof O₀ ow (ρ.set i (.fro d)) a → Oof O₀ ow ρ a ∨ s.heap.get? a = none := λ a q => .inl (own_set_fro q)
  refine ⟨⟨W.fr, λ j sl y e ny => ?_, λ j k ds es e e' => ?_, λ j ds e => ?_, (by rw [List.length_set]; exact S.len), S.nodup, S.bare, S.old⟩, stepR_sameBut W.same W.mine W.now ho⟩
  · rcases getElem?_set_cases e with ⟨rfl, rfl⟩ | ⟨ne, e⟩
    · obtain rfl : y = x := by rw [n] at ny; exact (Option.some.inj ny).symm
      exact ⟨v, W.here, has_keep (T := λ _ => False) (seqKeep_sameBut W.same W.noSeq) (λ _ f => f.elim) d v (has_sub ho d v hd)⟩
    · have ne' : y ≠ x := λ q => ne (S.nodup j i x (q ▸ ny) n)
      exact SlotAt.stored W ne' (λ _ _ e => e) ho (S.slots j sl y e ny)
  · rcases getElem?_set_cases e with ⟨_, q⟩ | ⟨_, e⟩
    · cases q
    · rcases getElem?_set_cases e' with ⟨_, q⟩ | ⟨_, e'⟩
      · cases q
      · exact S.inj j k ds es e e'
  · rcases getElem?_set_cases e with ⟨_, q⟩ | ⟨_, e⟩
    · cases q
    · exact S.new j ds e
structure FreshL (O : Addr → Prop) (s₀ s : Shared) (v : Value) (ds : List D) : Prop where
  is : ∃ a vs, v = .ref a ∧ s₀.heap.get? a = none ∧ s.heap.PlainList a vs ∧ HasL (λ b => O b ∨ b = a) s.heap ds vs.toList
theorem St.put_own {F O₀ ow ρ s₀ s h' t b} (S : St F O₀ ow ρ s₀) (X : Ext s₀ s) {i : Nat} {x : Str} {a : Addr} {ds : List D} {vs : Array Value} (n : F.names[i]? = some x) (W : Stored F x (.ref a) s.heap h' b)
    (ha : s₀.heap.get? a = none) (hl : s.heap.PlainList a vs) (hd : HasL (λ b => Oof O₀ ow ρ b ∨ b = a) s.heap ds vs.toList) :
    St F O₀ (λ j => if j = i then a else ow j) (ρ.set i (.own ds)) { s with heap := h', toks := t } ∧
      StepR F O₀ ow ρ s₀ (λ j => if j = i then a else ow j) (ρ.set i (.own ds)) { s with heap := h', toks := t } := by
  have hsub : ∀ a', Oof O₀ (λ j => if j = i then a else ow j) (ρ.set i (.own ds)) a' → Oof O₀ ow ρ a' ∨ a' = a := by
    rintro a' (q | ⟨j, es, e, q⟩)
    · exact .inl (.inl q)
    · rcases getElem?_set_cases e with ⟨rfl, _⟩ | ⟨ne, e⟩
      · simp at q; exact .inr q.symm
      · simp [ne] at q; exact .inl (.inr ⟨j, es, e, q⟩)
  have ho : ∀ a', Oof O₀ (λ j => if j = i then a else ow j) (ρ.set i (.own ds)) a' → Oof O₀ ow ρ a' ∨ s₀.heap.get? a' = none :=
    λ a' q => (hsub a' q).imp id λ (e : a' = a) => by rw [e]; exact ha
  have hba : F.base.get? a = none := by
    cases q : F.base.get? a with
    | none => rfl
    | some o => rw [S.fr.keep a o q] at ha; cases ha
  have hOa : ¬ O₀ a := λ q => by obtain ⟨_, o, e, _⟩ := S.old a q; rw [hba] at e; cases e
  have hold : ∀ j es, ρ[j]? = some (.own es) → j ≠ i → ow j ≠ a := by
    rintro j es e ne rfl
    have hj : j < ρ.length := (List.getElem?_eq_some_iff.mp e).1
    obtain ⟨y, ny⟩ : ∃ y, F.names[j]? = some y := ⟨F.names[j]'(S.len ▸ hj), List.getElem?_eq_getElem _⟩
    obtain ⟨_, us, ⟨k, q⟩, _⟩ := S.at_own e ny
    rw [ha] at q; cases q
  refine ⟨⟨W.fr, λ j sl y e ny => ?_, λ j k es fs e e' q => ?_, λ j es e => ?_, (by rw [List.length_set]; exact S.len), S.nodup, X.bare S.bare, S.old⟩, ?_⟩
  · rcases getElem?_set_cases e with ⟨rfl, rfl⟩ | ⟨ne, e⟩
    · obtain rfl : y = x := by rw [n] at ny; exact (Option.some.inj ny).symm
      simp only [if_true]
      refine ⟨.inl W.here, vs, ?_, hasL_keep (T := λ _ => False) (seqKeep_sameBut W.same W.noSeq) (λ _ f => f.elim) ds _ (hasL_sub (λ a' q => .inl (hsub a' q)) ds _ hd)⟩
      obtain ⟨k, e⟩ := hl
      refine ⟨k, (W.same.2 a ?_).trans e⟩
      rintro rfl; exact W.noSeq _ _ _ e rfl
    · have ne' : y ≠ x := λ q => ne (S.nodup j i x (q ▸ ny) n)
      simp only [ne, if_false]
      exact SlotAt.stored W ne' X.heap ho (S.slots j sl y e ny)
  · rcases getElem?_set_cases e with ⟨q1, _⟩ | ⟨ne, e1⟩
    · rcases getElem?_set_cases e' with ⟨q2, _⟩ | ⟨ne', e2⟩
      · rw [q1, q2]
      · simp only [q1, if_true, ne', if_false] at q
        exact absurd q.symm (hold k fs e2 ne')
    · rcases getElem?_set_cases e' with ⟨q2, _⟩ | ⟨ne', e2⟩
      · simp only [q2, if_true, ne, if_false] at q
        exact absurd q (hold j es e1 ne)
      · simp only [ne, ne', if_false] at q
        exact S.inj j k es fs e1 e2 q
  · rcases getElem?_set_cases e with ⟨rfl, _⟩ | ⟨ne, e⟩
    · simp only [if_true]; exact ⟨hOa, hba⟩
    · simp only [ne, if_false]; exact S.new j es e
  · have A1 : StepR F O₀ ow ρ s₀ ow ρ s := .ofExt X
    refine ⟨λ c o e n1 n2 _ => (W.same.2 c ?_).trans (X.heap c o e), ho, λ c e => ?_, X.gens, X.os⟩
    · rintro rfl; exact W.mine.elim n1 n2
    · refine A1.live c ?_
      by_cases hc : c = b
      · subst hc
        obtain ⟨o, q⟩ := W.now
        have e' : h'.get? c = none := e
        rw [e'] at q; cases q
      · rw [← W.same.2 c hc]; exact e
theorem St.upd {F O₀ ow ρ s h' t} (S : St F O₀ ow ρ s) {i : Nat} {ds ds' : List D} {vs' : Array Value} (e : ρ[i]? = some (.own ds)) (hs : Heap.SameBut (ow i) s.heap h') (hl : h'.PlainList (ow i) vs')
    (hd : HasL (Oof O₀ ow ρ) s.heap ds' vs'.toList) :
    St F O₀ ow (ρ.set i (.own ds')) { s with heap := h', toks := t } ∧ StepR F O₀ ow ρ s ow (ρ.set i (.own ds')) { s with heap := h', toks := t } := by
  have hi : i < ρ.length := (List.getElem?_eq_some_iff.mp e).1
  obtain ⟨x, n⟩ : ∃ y, F.names[i]? = some y := ⟨F.names[i]'(S.len ▸ hi), List.getElem?_eq_getElem _⟩
  obtain ⟨hv, vs, hl0, hd0⟩ := S.at_own e n
  have own_iff : ∀ a, Oof O₀ ow (ρ.set i (.own ds')) a → Oof O₀ ow ρ a := by
    rintro a (q | ⟨j, es, e', q⟩)
    · exact .inl q
    · rcases getElem?_set_cases e' with ⟨rfl, _⟩ | ⟨_, e'⟩
      · exact .inr ⟨j, ds, e, q⟩
      · exact .inr ⟨j, es, e', q⟩
  have hT : Oof O₀ ow ρ (ow i) := .inr ⟨i, ds, e, rfl⟩
  have kk : SeqKeep (λ a => a = ow i) s.heap h' := seqKeep_list hs (PlainList.isL hl0) rfl
  have kT : ∀ a, a = ow i → Oof O₀ ow ρ a := λ a q => q ▸ hT
  have notNs : ∀ {a m}, s.heap.Ns a m → a ≠ ow i := by
    rintro a m x rfl
    obtain ⟨k, q⟩ := hl0
    exact Ns.noSeq x _ _ _ q rfl
  have notCell : ∀ {c v}, s.heap.IsCell c v → c ≠ ow i := by
    rintro a m x rfl
    obtain ⟨k, q⟩ := hl0
    exact IsCell.noSeq x _ _ _ q rfl
  have hvar : ∀ {y u}, VarAt F.env s.heap y u → VarAt F.env h' y u := by
    rintro y u (⟨k, m, hm, q⟩ | ⟨k, c, hc, hv⟩)
    · exact .inl ⟨k, m, hm.sameBut hs (notNs hm), q⟩
    · exact .inr ⟨k, c, hc, hv.sameBut hs (notCell hv)⟩
  refine ⟨⟨⟨S.fr.kind, S.fr.globals, S.fr.builtins, S.fr.ns.imp λ _ q => q.sameBut hs (notNs q), S.fr.fresh, λ w y q => ?_, S.fr.apart, λ b o q => ?_⟩, λ j sl y e' ny => ?_, λ j k es fs e1 e2 q => ?_, λ j es e' => ?_, (by rw [List.length_set]; exact S.len), S.nodup, S.bare, S.old⟩, ?_⟩
  · obtain ⟨c, v, a, b, d⟩ := S.fr.cell w y q
    exact ⟨c, v, a, b.sameBut hs (notCell b), d⟩
  · refine (hs.2 b ?_).trans (S.fr.keep b o q)
    rintro rfl; rw [(S.new i ds e).2] at q; cases q
  · rcases getElem?_set_cases e' with ⟨rfl, rfl⟩ | ⟨ne, e'⟩
    · obtain rfl : y = x := by rw [n] at ny; exact (Option.some.inj ny).symm
      exact ⟨hv.imp hvar id, vs', hl, hasL_sub (λ a q => .inl (own_iff a q)) ds' _ (hasL_keep kk kT ds' _ hd)⟩
    · have q := S.slots j sl y e' ny
      cases sl with
      | undef => trivial
      | fro d =>
        obtain ⟨u, p, r⟩ := q
        exact ⟨u, hvar p, has_sub (λ a q => .inl (own_iff a q)) d u (has_keep kk kT d u r)⟩
      | own es =>
        obtain ⟨p, us, l, r⟩ := q
        refine ⟨p.imp hvar id, us, ?_, hasL_sub (λ a q => .inl (own_iff a q)) es _ (hasL_keep kk kT es _ r)⟩
        obtain ⟨k, q⟩ := l
        exact ⟨k, (hs.2 _ (λ h => ne (S.inj j i es ds e' e h))).trans q⟩
  · have f1 : ∃ es', ρ[j]? = some (.own es') := by
      rcases getElem?_set_cases e1 with ⟨rfl, _⟩ | ⟨_, e1⟩
      · exact ⟨ds, e⟩
      · exact ⟨_, e1⟩
    have f2 : ∃ es', ρ[k]? = some (.own es') := by
      rcases getElem?_set_cases e2 with ⟨rfl, _⟩ | ⟨_, e2⟩
      · exact ⟨ds, e⟩
      · exact ⟨_, e2⟩
    obtain ⟨a1, f1⟩ := f1; obtain ⟨a2, f2⟩ := f2
    exact S.inj j k a1 a2 f1 f2 q
  · rcases getElem?_set_cases e' with ⟨rfl, _⟩ | ⟨_, e'⟩
    · exact S.new _ ds e
    · exact S.new j es e'
  · refine ⟨λ c o q _ _ n3 => (hs.2 c ?_).trans q, λ a q => .inl (own_iff a q), λ c q => ?_, λ _ _ q => q, rfl⟩
    · rintro rfl; exact n3 hT
    · by_cases hc : c = ow i
      · obtain ⟨k, q'⟩ := hl
        have : h'.get? (ow i) = none := hc ▸ q
        rw [this] at q'; cases q'
      · rw [← hs.2 c hc]; exact q
theorem St.freeze {F O₀ ow ρ s} (S : St F O₀ ow ρ s) {i : Nat} {ds : List D} {x₀ : Str} (n₀ : F.names[i]? = some x₀) (hx₀ : x₀ ≠ Str.empty) (e : ρ[i]? = some (.own ds)) :
    St F O₀ ow (ρ.set i (.fro (.lst ds))) s ∧ StepR F O₀ ow ρ s ow (ρ.set i (.fro (.lst ds))) s := by
  have ho : ∀ a, Oof O₀ ow (ρ.set i (.fro (.lst ds))) a → Oof O₀ ow ρ a := λ a q => own_set_fro q
  refine ⟨⟨S.fr, λ j sl y e' ny => ?_, λ j k es fs e1 e2 => ?_, λ j es e' => ?_, (by rw [List.length_set]; exact S.len), S.nodup, S.bare, S.old⟩, ?_⟩
  · rcases getElem?_set_cases e' with ⟨rfl, rfl⟩ | ⟨ne, e'⟩
    · obtain ⟨p, vs, l, r⟩ := S.at_own e ny
      obtain rfl : y = x₀ := by rw [n₀] at ny; exact (Option.some.inj ny).symm
      refine ⟨_, p.resolve_right hx₀, ?_⟩
      rw [Has]
      refine ⟨_, vs, rfl, ?_, PlainList.isL l, hasL_sub (λ a q => .inl (ho a q)) ds _ r⟩
      rintro (q | ⟨k, es, ek, q⟩)
      · exact (S.new j ds e).1 q
      · rcases getElem?_set_cases ek with ⟨_, c⟩ | ⟨ne, ek⟩
        · cases c
        · exact ne (S.inj k j es ds ek e q)
    · have q := S.slots j sl y e' ny
      cases sl with
      | undef => trivial
      | fro d => obtain ⟨u, p, r⟩ := q; exact ⟨u, p, has_sub (λ a q => .inl (ho a q)) d u r⟩
      | own es => obtain ⟨p, us, l, r⟩ := q; exact ⟨p, us, l, hasL_sub (λ a q => .inl (ho a q)) es _ r⟩
  · rcases getElem?_set_cases e1 with ⟨_, c⟩ | ⟨_, e1⟩
    · cases c
    · rcases getElem?_set_cases e2 with ⟨_, c⟩ | ⟨_, e2⟩
      · cases c
      · exact S.inj j k es fs e1 e2
  · rcases getElem?_set_cases e' with ⟨_, c⟩ | ⟨_, e'⟩
    · cases c
    · exact S.new j es e'
  · exact ⟨λ _ _ e _ _ _ => e, λ a q => .inl (ho a q), λ _ x => x, λ _ _ e => e, rfl⟩
noncomputable def HasT (O : Addr → Prop) (h : Heap) : D → Value → Prop
  | .lst l, v => ∃ a vs, v = .ref a ∧ h.IsList a vs ∧ HasL O h l vs.toList
  | d, v => Has O h d v
theorem HasT.of {O h d v} (x : Has O h d v) : HasT O h d v := by
  cases d <;> first | exact x | (rw [Has] at x; obtain ⟨a, vs, e, _, l, r⟩ := x; exact ⟨a, vs, e, l, r⟩)
noncomputable def AOk (n : Nat) (A : Around) : Prop := A.handled = none ∧ A.depth + n ≤ 900 ∧ A.units + 10 * n ≤ 9000
theorem AOk.room {n A} (x : AOk n A) : A.depth < recursionLimit := by
  have := x.2.1; unfold recursionLimit; lia
theorem AOk.le {n m A} (x : AOk n A) (h : m ≤ n) : AOk m A := ⟨x.1, by have := x.2.1; lia, by have := x.2.2; lia⟩
theorem AOk.units {n A} (x : AOk n A) : A.units + 64 < cLine := by have := x.2.2; unfold cLine; lia
theorem AOk.deeper {n A env} (x : AOk (n + 1) A) : AOk n (A.deeper env) := ⟨x.1, by show A.depth + 1 + n ≤ 900; have := x.2.1; lia, by show A.units + 3 + 10 * n ≤ 9000; have := x.2.2; lia⟩
theorem AOk.in1 {n A} (x : AOk (n + 1) A) : AOk n A.in1 := ⟨x.1, by show A.depth + n ≤ 900; have := x.2.1; lia, by show A.units + 1 + 10 * n ≤ 9000; have := x.2.2; lia⟩
theorem FreshL.has {O : Addr → Prop} {s₀ s : Shared} {v ds} (hO : ∀ a, O a → ∃ o, s₀.heap.get? a = some o) (x : FreshL O s₀ s v ds) : Has O s.heap (.lst ds) v := by
  obtain ⟨a, vs, rfl, n, l, r⟩ := x
  rw [Has]
  refine ⟨a, vs, rfl, λ q => ?_, PlainList.isL l, hasL_sub (λ b q => .inl (.inl q)) ds _ r⟩
  obtain ⟨o, e⟩ := hO a q; rw [n] at e; cases e
abbrev Hands (O : Addr → Prop) (s : Shared) (d : D) (Q : Value → Shared → Prop) : Prop :=
  ∀ v s', Ext s s' → Has O s'.heap d v → (∀ ds, d = .lst ds → FreshL O s s' v ds) → Q v s'
section
variable {prog : Program} {w : World} {A : Around} {E : Value → Shared → Prop} {s : Shared} {O : Addr → Prop} {Q : Value → Shared → Prop}
theorem hands_int {i : Int} {t tk : Nat} (h : Hands O s (.int i) Q) : Q (.int i t) { s with toks := tk } :=
  h _ _ (.toks tk) (by rw [Has]; exact ⟨t, rfl⟩) (λ _ e => by cases e)
theorem hands_flt {i : UInt64} {t tk : Nat} (h : Hands O s (.flt i) Q) : Q (.float i t) { s with toks := tk } :=
  h _ _ (.toks tk) (by rw [Has]; exact ⟨t, rfl⟩) (λ _ e => by cases e)
theorem hands_str {i : Str} {t tk : Nat} (h : Hands O s (.str i) Q) : Q (.str i t) { s with toks := tk } :=
  h _ _ (.toks tk) (by rw [Has]; exact ⟨t, rfl⟩) (λ _ e => by cases e)
theorem hands_list {ds : List D} {vs : List Value} {n : Nat} {h' : Heap} {tk : Nat} (hO : ∀ a, O a → ∃ o, s.heap.get? a = some o) (hd : HasL O s.heap ds vs) (h : Hands O s (.lst ds) Q)
    (e : h' = s.heap.push { cls := .type "list", data := .seq vs.toArray n }) : Q (.ref s.heap.objs.size) { s with heap := h', toks := tk } := by
  subst e
  have X : Ext s { s with heap := s.heap.push { cls := .type "list", data := .seq vs.toArray n }, toks := tk } := .ofHeap (λ b o e => Heap.get?_push_of_some _ e) tk
  have Fr : FreshL O s { s with heap := s.heap.push { cls := .type "list", data := .seq vs.toArray n }, toks := tk } (.ref s.heap.objs.size) ds := by
    refine ⟨s.heap.objs.size, vs.toArray, rfl, get_none_of_ge (Nat.le_refl _), ⟨n, Heap.get?_push_size _ rfl⟩, ?_⟩
    refine X.hasL (hasL_sub (λ b q => ?_) ds _ hd)
    exact q.imp id λ (q : b = s.heap.objs.size) => by rw [q]; exact get_none_of_ge (Nat.le_refl _)
  exact h _ _ X (Fr.has hO) λ ds' e => by cases e; exact Fr
noncomputable def smallI (x : Int) : Bool := decide (-(2 ^ 62) < x) && decide (x < 2 ^ 62)
theorem smallI_iff {x : Int} : smallI x = true ↔ -(2 ^ 62) < x ∧ x < 2 ^ 62 := by unfold smallI; simp
theorem smallI_bits {x : Int} (h : smallI x = true) : Builtin.Int.intBits x ≤ 64 := by
  have := smallI_iff.mp h
  exact intBits_le_64 (by lia) (by lia)
noncomputable def dbinII (op : Operator) (x y : Int) : Option D :=
  match op with
  | .Add => some (.int (x + y))
  | .Sub => some (.int (x - y))
  | .Mult => if smallI x then some (.int (x * y)) else none
  | .FloorDiv => if smallI y && y != 0 then some (.int (x.fdiv y)) else none
  | .Mod => if y != 0 then some (.int (x.fmod y)) else none
  | .Pow => if smallI x && decide (0 ≤ y) && decide (y ≤ 1000) then some (.int (x ^ y.toNat)) else none
  | .LShift => if smallI x && decide (0 ≤ y) && decide (y ≤ 1000) then some (.int (x * 2 ^ y.toNat)) else none
  | .BitAnd => some (.int (Builtin.bitAnd x y))
  | .BitOr => some (.int (Builtin.bitOr x y))
  | .Div => if y != 0 && !Float64.isInf (Float64.ofFrac (decide (x < 0) != decide (y < 0)) x.natAbs y.natAbs) then some (.flt (Float64.ofFrac (decide (x < 0) != decide (y < 0)) x.natAbs y.natAbs)) else none
  | _ => none
theorem noPylong {y : Int} (h : smallI y = true) {x : Int} : Builtin.divisionGoesByPylong x y = false := by
  have hb := smallI_iff.mp h
  have hl : y.natAbs.log2 < 62 := by
    rcases Nat.eq_zero_or_pos y.natAbs with h0 | h0
    · rw [h0]; decide
    · exact (Nat.log2_lt (by omega)).mpr (by omega)
  unfold Builtin.divisionGoesByPylong
  have h2 : ¬ ((if y == 0 then 0 else y.natAbs.log2 / 30 + 1) > 300) := by split <;> omega
  simp only [decide_eq_false h2, Bool.false_and]
theorem le1000 {y : Int} (h : decide (y ≤ 1000) = true) : y ≤ 1000 := of_decide_eq_true h
theorem bin_II (hh : A.handled = none) {op : Operator} {x y : Int} {t u : Tok} {d : D} (e : dbinII op x y = some d) (h : Hands O s d Q) :
    wpAny (model prog w) A (binaryOp op (.int x t) (.int y u)) Q E s := by
  cases op with
  | Add => cases e; exact PyProof.Rows.add_int (hands_int h)
  | Sub => cases e; exact PyProof.Rows.sub_int (hands_int h)
  | Mult =>
    have q := iteE e
    cases q.2; exact PyProof.Rows.mul_int (hands_int h) (IntMulOk.of_left (smallI_bits q.1))
  | Div =>
    have q := iteE e
    cases q.2
    exact AutoIntOps.truediv_2 (by simpa using bne_iff_ne.mp (band q.1).1) (by simp [bnot (band q.1).2]) (hands_flt h)
  | Mod =>
    have q := iteE e
    cases q.2; exact PyProof.Rows.mod_int' (bne_iff_ne.mp q.1) (hands_int h)
  | Pow =>
    have q := iteE e
    cases q.2
    have q1 := band q.1
    have q2 := band q1.1
    exact PyProof.Rows.pow_int_small (of_decide_eq_true q2.2) (by have := le1000 q1.2; omega) (by have := smallI_iff.mp q2.1; omega) (hands_int h)
  | LShift =>
    have q := iteE e
    cases q.2
    have q1 := band q.1
    have q2 := band q1.1
    exact PyProof.Rows.lshift_int_small (of_decide_eq_true q2.2) (by have := le1000 q1.2; omega) (by have := smallI_iff.mp q2.1; omega) (hands_int h)
  | BitOr => cases e; exact PyProof.Rows.or_int (hands_int h)
  | BitAnd => cases e; exact PyProof.Rows.and_int (hands_int h)
  | FloorDiv =>
    have q := iteE e
    cases q.2
    exact PyProof.Rows.floordiv_int (bne_iff_ne.mp (band q.1).2) (hands_int h) (.inl (noPylong (band q.1).1))
  | _ => exact nos e
noncomputable def dbinFF (op : Operator) (x y : UInt64) : Option D :=
  match op with
  | .Add => some (.flt (Float64.add x y))
  | .Sub => some (.flt (Float64.sub x y))
  | .Mult => some (.flt (Float64.mul x y))
  | .Div => if !Float64.isZero y then some (.flt (Float64.div x y)) else none
  | .Mod => if !Float64.isZero y then some (.flt (Float64.divmod x y).snd) else none
  | _ => none
theorem bin_FF (hh : A.handled = none) {op : Operator} {x y : UInt64} {t u : Tok} {d : D} (e : dbinFF op x y = some d) (h : Hands O s d Q) :
    wpAny (model prog w) A (binaryOp op (.float x t) (.float y u)) Q E s := by
  cases op with
  | Add => cases e; exact PyProof.Rows.add_float (hands_flt h)
  | Sub => cases e; exact PyProof.Rows.sub_float (hands_flt h)
  | Mult => cases e; exact PyProof.Rows.mul_float (hands_flt h)
  | Div =>
    have q := iteE e
    cases q.2
    exact PyProof.Rows.truediv_float_or hh (λ z => nomatch (bnot q.1).symm.trans z) (λ _ => hands_flt h)
  | Mod =>
    have q := iteE e
    cases q.2
    exact AutoFloatOpsIf.mod (itn (λ z => nomatch (bnot q.1).symm.trans z) (hands_flt h))
  | _ => exact nos e
noncomputable def dbinIF (op : Operator) (x : Int) (y : UInt64) : Option D :=
  match op with
  | .Mult => if smallI x then some (.flt (Float64.mul (Float64.ofInt x) y)) else none
  | _ => none
noncomputable def dbinFI (op : Operator) (x : UInt64) (y : Int) : Option D :=
  match op with
  | .Sub => if smallI y then some (.flt (Float64.sub x (Float64.ofInt y))) else none
  | _ => none
theorem small_1023 {x : Int} (h : smallI x = true) : x.natAbs < 2 ^ 1023 := by
  have h' := smallI_iff.mp h
  have : x.natAbs < 2 ^ 62 := by omega
  exact Nat.lt_trans this (Nat.pow_lt_pow_right (by decide) (by decide))
theorem bin_IF {op : Operator} {x : Int} {y : UInt64} {t u : Tok} {d : D} (e : dbinIF op x y = some d) (h : Hands O s d Q) :
    wpAny (model prog w) A (binaryOp op (.int x t) (.float y u)) Q E s := by
  cases op with
  | Mult =>
    have q := iteE e
    cases q.2; exact PyProof.Rows.mul_if_fits (small_1023 q.1) (hands_flt h)
  | _ => exact nos e
theorem bin_FI {op : Operator} {x : UInt64} {y : Int} {t u : Tok} {d : D} (e : dbinFI op x y = some d) (h : Hands O s d Q) :
    wpAny (model prog w) A (binaryOp op (.float x t) (.int y u)) Q E s := by
  cases op with
  | Sub =>
    have q := iteE e
    cases q.2; exact PyProof.Rows.sub_fi_fits (small_1023 q.1) (hands_flt h)
  | _ => exact nos e
noncomputable def dbinSS (op : Operator) (x y : Str) : Option D :=
  match op with
  | .Add => if decide (x.length + y.length ≤ 16777216) then some (.str (x ++ y)) else none
  | _ => none
theorem bin_SS {op : Operator} {x y : Str} {t u : Tok} {d : D} (e : dbinSS op x y = some d) (h : Hands O s d Q) :
    wpAny (model prog w) A (binaryOp op (.str x t) (.str y u)) Q E s := by
  cases op with
  | Add =>
    have q := iteE e
    cases q.2
    exact PyProof.Rows.add_str (λ t' tk => hands_str h) (of_decide_eq_true q.1)
  | _ => exact nos e
noncomputable def dbinLL (op : Operator) (x y : List D) : Option D :=
  match op with
  | .Add => if decide (x.length + y.length ≤ 16777216) then some (.lst (x ++ y)) else none
  | _ => none
theorem list_of {h : Heap} {a : Addr} {vs : Array Value} (l : h.IsList a vs) : ∃ dd n sl, h.get? a = some ⟨.type "list", dd, .seq vs n, sl⟩ := by
  obtain ⟨⟨cls, dd, data, sl⟩, ho, hc, n, hd⟩ := l
  cases hc; cases hd
  exact ⟨dd, n, sl, ho⟩
theorem add_LL {x y : List D} {a b : Addr} {vs us : Array Value} (hO : ∀ a, O a → ∃ o, s.heap.get? a = some o) (la : s.heap.IsList a vs) (ha : HasL O s.heap x vs.toList)
    (lb : s.heap.IsList b us) (hb : HasL O s.heap y us.toList) (q : x.length + y.length ≤ 16777216) (h : Hands O s (.lst (x ++ y)) Q) :
    wpAny (model prog w) A (binaryOp .Add (.ref a) (.ref b)) Q E s := by
  have l1 := hasL_length ha
  have l2 := hasL_length hb
  rw [Array.length_toList] at l1 l2
  obtain ⟨dd, n, sl, ho⟩ := list_of la
  obtain ⟨dd2, n2, sl2, ho2⟩ := list_of lb
  refine concat_meets ⟨_, ho, rfl⟩ ⟨_, ho2, rfl⟩ noFill_list_add seq_list_add PySem.F.slot_list_add PySem.F.entry_list_add (PySem.F.args_list_add_2 _ _)
    (list_addW a b vs us n n2 dd dd2 sl sl2 (by rw [l1, l2, sizeLine_eq]; exact q)) ⟨ho, ho2, ?_⟩
  have e1 : vs ++ us = (vs.toList ++ us.toList).toArray := by simp
  rw [e1]
  exact hands_list hO (hasL_append ha hb) h (n := 0) rfl
theorem bin_LL {op : Operator} {x y : List D} {a b : Addr} {vs us : Array Value} {d : D} (hO : ∀ a, O a → ∃ o, s.heap.get? a = some o) (la : s.heap.IsList a vs) (ha : HasL O s.heap x vs.toList)
    (lb : s.heap.IsList b us) (hb : HasL O s.heap y us.toList) (e : dbinLL op x y = some d) (h : Hands O s d Q) :
    wpAny (model prog w) A (binaryOp op (.ref a) (.ref b)) Q E s := by
  cases op with
  | Add =>
    have q := iteE e
    cases q.2
    exact add_LL hO la ha lb hb (of_decide_eq_true q.1) h
  | _ => exact nos e
theorem hasL_repeat {h : Heap} {x : List D} {vs : List Value} (ha : HasL O h x vs) : ∀ k : Nat, HasL O h (List.replicate k x).flatten (List.replicate k vs).flatten
  | 0 => by simpa using hasL_nil
  | k + 1 => by
    rw [List.replicate_succ, List.replicate_succ, List.flatten_cons, List.flatten_cons]
    exact hasL_append ha (hasL_repeat ha k)
noncomputable def dbinLI (op : Operator) (x : List D) (k : Int) : Option D :=
  match op with
  | .Mult => if decide (0 ≤ k) && decide (x.length * k.toNat ≤ 16777216) && smallI k then some (.lst (List.replicate k.toNat x).flatten) else none
  | _ => none
theorem mul_LI {x : List D} {k : Int} {t : Tok} {a : Addr} {vs : Array Value} (hO : ∀ a, O a → ∃ o, s.heap.get? a = some o) (la : s.heap.IsList a vs) (ha : HasL O s.heap x vs.toList) (q0 : 0 ≤ k) (q1 : x.length * k.toNat ≤ 16777216) (q2 : smallI k = true)
    (h : Hands O s (.lst (List.replicate k.toNat x).flatten) Q) : wpAny (model prog w) A (binaryOp .Mult (.ref a) (.int k t)) Q E s := by
  have hk := smallI_iff.mp q2
  have l1 := hasL_length ha
  rw [Array.length_toList] at l1
  rw [← l1] at q1
  obtain ⟨dd, n, sl, ho⟩ := list_of la
  have f1 : Builtin.List.listFitsIndex k = true := by
    unfold Builtin.List.listFitsIndex
    rw [decide_eq_true (by omega), decide_eq_true (by omega)]; rfl
  have f2 : ¬ Builtin.List.listTooLong (vs.size * k.toNat) = true := by
    unfold Builtin.List.listTooLong
    rw [sizeLine_eq]
    exact λ z => absurd (of_decide_eq_true z) (Nat.not_lt.mpr q1)
  refine wpAny_binaryOp_repeat_ref (T := "list") (U := "int") (by decide) ⟨_, ho, rfl⟩ (λ s' => typeIs_int s' k t) noFill_list_mul F.fills_int_mul F.slot_int_rmul repeat_list F.slot_int_index.lookup
    (call_meets F.slot_int_rmul (typeIs_int s k t) F.entry_int_rmul (F.args_int_rmul_2 _ _) (lm_int_rmul_list_any k t a vs n dd sl)
      ⟨ho, rfl, ⟨_, ho, rfl⟩, call_meets F.slot_list_mul ⟨_, ho, rfl⟩ F.entry_list_mul (F.args_list_mul_2 _ _)
        (lm_list_mul_any a vs n dd sl k t (by simp [f1]) (by omega) f2)
        ⟨ho, ?_⟩⟩)
  rw [listMul_foldl_if]
  exact hands_list hO (hasL_repeat ha k.toNat) h (n := 0) rfl
theorem bin_LI {op : Operator} {x : List D} {k : Int} {t : Tok} {a : Addr} {vs : Array Value} {d : D} (hO : ∀ a, O a → ∃ o, s.heap.get? a = some o) (la : s.heap.IsList a vs) (ha : HasL O s.heap x vs.toList)
    (e : dbinLI op x k = some d) (h : Hands O s d Q) :
    wpAny (model prog w) A (binaryOp op (.ref a) (.int k t)) Q E s := by
  cases op with
  | Mult =>
    have q := iteE e
    cases q.2
    exact mul_LI hO la ha (of_decide_eq_true (band (band q.1).1).1) (of_decide_eq_true (band (band q.1).1).2) (band q.1).2 h
  | _ => exact nos e
noncomputable def dbin (op : Operator) (a b : D) : Option D :=
  match a, b with
  | .int x, .int y => dbinII op x y
  | .flt x, .flt y => dbinFF op x y
  | .int x, .flt y => dbinIF op x y
  | .flt x, .int y => dbinFI op x y
  | .str x, .str y => dbinSS op x y
  | .lst x, .lst y => dbinLL op x y
  | .lst x, .int y => dbinLI op x y
  | _, _ => none
theorem hasT_int {O : Addr → Prop} {h : Heap} {i : Int} {v : Value} (x : HasT O h (.int i) v) : ∃ t, v = .int i t := x
theorem hasT_flt {O : Addr → Prop} {h : Heap} {i : UInt64} {v : Value} (x : HasT O h (.flt i) v) : ∃ t, v = .float i t := x
theorem hasT_str {O : Addr → Prop} {h : Heap} {i : Str} {v : Value} (x : HasT O h (.str i) v) : ∃ t, v = .str i t := x
theorem hasT_lst {O : Addr → Prop} {h : Heap} {l : List D} {v : Value} (x : HasT O h (.lst l) v) : ∃ a vs, v = .ref a ∧ h.IsList a vs ∧ HasL O h l vs.toList := x
theorem hasT_tup {O : Addr → Prop} {h : Heap} {l : List D} {v : Value} (x : HasT O h (.tup l) v) : ∃ a vs, v = .ref a ∧ h.IsTuple a vs ∧ HasL O h l vs.toList := x
theorem hasT_none {O : Addr → Prop} {h : Heap} {v : Value} (x : HasT O h .none v) : v = .none := x
theorem hasT_bool {O : Addr → Prop} {h : Heap} {b : Bool} {v : Value} (x : HasT O h (.bool b) v) : v = .bool b := x
theorem hasT_bytes {O : Addr → Prop} {h : Heap} {b : Array UInt8} {v : Value} (x : HasT O h (.bytes b) v) : ∃ t, v = .bytes b t := x
theorem dbin_ok {P : D → D → Prop} {op : Operator} {a b d : D} (e : dbin op a b = some d) (h1 : ∀ x y, dbinII op x y = some d → P (.int x) (.int y)) (h2 : ∀ x y, dbinFF op x y = some d → P (.flt x) (.flt y)) (h3 : ∀ x y, dbinIF op x y = some d → P (.int x) (.flt y))
    (h4 : ∀ x y, dbinFI op x y = some d → P (.flt x) (.int y)) (h5 : ∀ x y, dbinSS op x y = some d → P (.str x) (.str y)) (h6 : ∀ x y, dbinLL op x y = some d → P (.lst x) (.lst y)) (h7 : ∀ x y, dbinLI op x y = some d → P (.lst x) (.int y)) : P a b := by
  cases a with
  | int x => cases b with
    | int y => exact h1 x y e
    | flt y => exact h3 x y e
    | _ => exact nos e
  | flt x => cases b with
    | int y => exact h4 x y e
    | flt y => exact h2 x y e
    | _ => exact nos e
  | str x => cases b with
    | str y => exact h5 x y e
    | _ => exact nos e
  | lst x => cases b with
    | int y => exact h7 x y e
    | lst y => exact h6 x y e
    | _ => exact nos e
  | _ => exact nos e
set_option maxHeartbeats 2000000 in
theorem bin_ok (hh : A.handled = none) (hO : ∀ a, O a → ∃ o, s.heap.get? a = some o) {op : Operator} {a b d : D} {v u : Value} (e : dbin op a b = some d) (ha : HasT O s.heap a v) (hb : HasT O s.heap b u) (h : Hands O s d Q) :
    wpAny (model prog w) A (binaryOp op v u) Q E s := by
  refine dbin_ok (P := λ a b => HasT O s.heap a v → HasT O s.heap b u → wpAny (model prog w) A (binaryOp op v u) Q E s) e ?_ ?_ ?_ ?_ ?_ ?_ ?_ ha hb <;> intro x y e ha hb
  · obtain ⟨t, rfl⟩ := hasT_int ha; obtain ⟨t', rfl⟩ := hasT_int hb; exact bin_II hh e h
  · obtain ⟨t, rfl⟩ := hasT_flt ha; obtain ⟨t', rfl⟩ := hasT_flt hb; exact bin_FF hh e h
  · obtain ⟨t, rfl⟩ := hasT_int ha; obtain ⟨t', rfl⟩ := hasT_flt hb; exact bin_IF e h
  · obtain ⟨t, rfl⟩ := hasT_flt ha; obtain ⟨t', rfl⟩ := hasT_int hb; exact bin_FI e h
  · obtain ⟨t, rfl⟩ := hasT_str ha; obtain ⟨t', rfl⟩ := hasT_str hb; exact bin_SS e h
  · obtain ⟨p, vs, rfl, l1, q1⟩ := hasT_lst ha; obtain ⟨p', us, rfl, l2, q2⟩ := hasT_lst hb; exact bin_LL hO l1 q1 l2 q2 e h
  · obtain ⟨p, vs, rfl, l1, q1⟩ := hasT_lst ha; obtain ⟨t', rfl⟩ := hasT_int hb; exact bin_LI hO l1 q1 e h
end
mutual
noncomputable def toPy : D → Option PyData
  | .none => some .none
  | .bool b => some (.bool b)
  | .int i => some (.int i)
  | .str s => some (.str s)
  | .tup l => (toPyL l).map .tuple
  | .lst l => (toPyL l).map .list
  | .flt _ => none
  | .bytes _ => none
noncomputable def toPyL : List D → Option (List PyData)
  | [] => some []
  | d :: ds => (toPy d).bind λ x => (toPyL ds).map (x :: ·)
end
theorem mapE {α β : Type} {o : Option α} {f : α → β} {r : β} {P : β → Prop} (h : o.map f = some r) (H : ∀ a, o = some a → P (f a)) : P r := by
  cases o with
  | none => exact nos h
  | some a => cases h; exact H a rfl
mutual
theorem reads_of {O : Addr → Prop} {h : Heap} : ∀ (d : D) (v : Value) (p : PyData), Has O h d v → toPy d = some p → ∃ as, Reads h v p as
  | .none, v, p, x, e => by cases e; rw [Has] at x; subst x; exact ⟨_, .none⟩
  | .bool b, v, p, x, e => by cases e; rw [Has] at x; subst x; exact ⟨_, .bool b⟩
  | .int b, v, p, x, e => by cases e; rw [Has] at x; obtain ⟨t, rfl⟩ := x; exact ⟨_, .int b t⟩
  | .str b, v, p, x, e => by cases e; rw [Has] at x; obtain ⟨t, rfl⟩ := x; exact ⟨_, .str b t⟩
  | .flt b, v, p, x, e => nos e
  | .bytes b, v, p, x, e => nos e
  | .tup l, v, p, x, e => mapE (P := λ p => ∃ as, Reads h v p as) e λ ps e => by
    rw [Has] at x; obtain ⟨a, vs, rfl, ⟨o, ho, hc, n, hd⟩, r⟩ := x
    obtain ⟨as, q⟩ := readsL_of l _ ps r e
    exact ⟨_, .tuple ho hc hd q⟩
  | .lst l, v, p, x, e => mapE (P := λ p => ∃ as, Reads h v p as) e λ ps e => by
    rw [Has] at x; obtain ⟨a, vs, rfl, _, ⟨o, ho, hc, n, hd⟩, r⟩ := x
    obtain ⟨as, q⟩ := readsL_of l _ ps r e
    exact ⟨_, .list ho hc hd q⟩
theorem readsL_of {O : Addr → Prop} {h : Heap} : ∀ (ds : List D) (vs : List Value) (ps : List PyData), HasL O h ds vs → toPyL ds = some ps → ∃ as, ReadsAll h vs ps as
  | [], vs, ps, x, e => by
    cases e
    rw [HasL] at x; subst x; exact ⟨_, .nil⟩
  | d :: ds, vs, ps, x, e => bindE e λ p1 e1 e => mapE (P := λ ps => ∃ as, ReadsAll h vs ps as) e λ p2 e2 => by
    rw [HasL] at x; obtain ⟨v, r, rfl, a, b⟩ := x
    obtain ⟨as, q1⟩ := reads_of d v p1 a e1
    obtain ⟨bs, q2⟩ := readsL_of ds r p2 b e2
    exact ⟨_, .cons q1 q2⟩
end
section
variable {prog : Program} {w : World} {A : Around} {E : Value → Shared → Prop} {s : Shared} {O : Addr → Prop} {Q : Value → Shared → Prop}
noncomputable def dcmpII (op : CmpOp) (x y : Int) : Option Bool :=
  match op with
  | .Eq => some (x == y)
  | .NotEq => some (x != y)
  | .Lt => some (decide (x < y))
  | .LtE => some (decide (x ≤ y))
  | .Gt => some (decide (y < x))
  | .GtE => some (decide (y ≤ x))
  | _ => none
theorem cmp_II {op : CmpOp} {x y : Int} {t u : Tok} {b : Bool} (e : dcmpII op x y = some b) (h : Q (.bool b) s) : wpAny (model prog w) A (compareOp op (.int x t) (.int y u)) Q E s := by
  cases op with
  | Eq => cases e; exact PyProof.Rows.eq_int h
  | NotEq => cases e; exact PyProof.Rows.ne_int h
  | Lt => cases e; exact PyProof.Rows.lt_int h
  | LtE => cases e; exact PyProof.Rows.le_int h
  | Gt => cases e; exact PyProof.Rows.gt_int h
  | GtE => cases e; exact PyProof.Rows.ge_int h
  | _ => exact nos e
noncomputable def dcmpFF (op : CmpOp) (x y : UInt64) : Option Bool :=
  match op with
  | .Eq => some (Float64.cmp x y == some Ordering.eq)
  | .LtE => some (Float64.cmp x y == some Ordering.lt || Float64.cmp x y == some Ordering.eq)
  | _ => none
theorem cmp_FF {op : CmpOp} {x y : UInt64} {t u : Tok} {b : Bool} (e : dcmpFF op x y = some b) (h : Q (.bool b) s) : wpAny (model prog w) A (compareOp op (.float x t) (.float y u)) Q E s := by
  cases op with
  | Eq => cases e; exact AutoFloatOps.eq_0 h
  | LtE => cases e; exact AutoFloatOps.le_0 h
  | _ => exact nos e
noncomputable def dcmpFI (op : CmpOp) (x : UInt64) (y : Int) : Option Bool :=
  match op with
  | .NotEq => some (Float64.cmpInt x y != some Ordering.eq)
  | _ => none
theorem cmp_FI {op : CmpOp} {x : UInt64} {y : Int} {t u : Tok} {b : Bool} (e : dcmpFI op x y = some b) (h : Q (.bool b) s) : wpAny (model prog w) A (compareOp op (.float x t) (.int y u)) Q E s := by
  cases op with
  | NotEq => cases e; exact PyProof.Rows.ne_fi h
  | _ => exact nos e
noncomputable def dcmpSS (op : CmpOp) (x y : Str) : Option Bool :=
  match op with
  | .Eq => some (x == y)
  | .NotIn => some (!Txt.contains y x)
  | _ => none
theorem cmp_SS {op : CmpOp} {x y : Str} {t u : Tok} {b : Bool} (e : dcmpSS op x y = some b) (h : Q (.bool b) s) : wpAny (model prog w) A (compareOp op (.str x t) (.str y u)) Q E s := by
  cases op with
  | Eq => cases e; exact PyProof.Rows.eq_str h
  | NotIn => cases e; exact P.notIn_str h
  | _ => exact nos e
noncomputable def dIs (a : D) : Bool := match a with | .none => true | _ => false
theorem cmp_none {a : D} {v : Value} (ha : HasT O s.heap a v) (h : Q (.bool (dIs a)) s) : wpAny (model prog w) A (compareOp .Is v .none) Q E s := by
  refine is_none_gen ?_
  have e : (v == Value.none) = dIs a := by
    cases a
    · rw [hasT_none ha]; rfl
    · rw [hasT_bool ha]; rfl
    · obtain ⟨t, rfl⟩ := hasT_int ha; rfl
    · obtain ⟨t, rfl⟩ := hasT_flt ha; rfl
    · obtain ⟨t, rfl⟩ := hasT_str ha; rfl
    · obtain ⟨t, rfl⟩ := hasT_bytes ha; rfl
    · obtain ⟨p, vs, rfl, _⟩ := hasT_tup ha; rfl
    · obtain ⟨p, vs, rfl, _⟩ := hasT_lst ha; rfl
  rw [e]; exact h
noncomputable def intsOf : List D → Option (List Int)
  | [] => some []
  | .int i :: ds => (intsOf ds).map (i :: ·)
  | _ => none
noncomputable def eqInt (x : Int) : Value → Bool
  | .int i _ => i == x
  | _ => false
theorem any_ints {h : Heap} {x : Int} : ∀ {ds : List D} {vs : List Value} {is : List Int}, HasL O h ds vs → intsOf ds = some is →
    vs.any (eqInt x) = is.contains x ∧ ∀ v ∈ vs, ∃ i t, v = .int i t
  | [], vs, is, a, e => by rw [HasL] at a; subst a; cases e; exact ⟨rfl, λ _ h => nomatch h⟩
  | d :: ds, vs, is, a, e => by
    rw [HasL] at a; obtain ⟨v, r, rfl, a, b⟩ := a
    cases d with
    | int i =>
      refine mapE (P := λ is => (v :: r).any (eqInt x) = is.contains x ∧ ∀ v' ∈ v :: r, ∃ i t, v' = .int i t) e λ js e => ?_
      obtain ⟨q1, q2⟩ := any_ints (x := x) b e
      rw [Has] at a; obtain ⟨t, rfl⟩ := a
      refine ⟨?_, List.forall_mem_cons.mpr ⟨⟨_, _, rfl⟩, q2⟩⟩
      rw [List.any_cons, q1, List.contains_cons]
      show (_ == x || _) = (x == _ || _)
      rw [Bool.beq_comm]
    | _ => exact nos e
theorem cmp_inTup {x : Int} {t : Tok} {ds : List D} {is : List Int} {v : Value} (ha : HasT O s.heap (.tup ds) v) (e : intsOf ds = some is) (h : Q (.bool (is.contains x)) s) :
    wpAny (model prog w) A (compareOp .In (.int x t) v) Q E s := by
  obtain ⟨p, vs, rfl, l, r⟩ := hasT_tup ha
  obtain ⟨q1, q2⟩ := any_ints (x := x) r e
  refine SeqAt.in_tupleAt (eqInt x) l (λ y hy => ?_) ?_
  · obtain ⟨i, t', rfl⟩ := q2 y (by simpa using hy)
    exact SeqAt.EqAt.int_int i t' x t
  · rw [← Array.any_toList, q1]; exact h
noncomputable def dcmpNe (x y : List D) : Option Bool := (toPyL x).bind λ p => (toPyL y).bind λ q => if SeqAt.shaped (.list p) && SeqAt.shaped (.list q) then some (!PyData.eqv (.list p) (.list q)) else none
noncomputable def dcmpLL (op : CmpOp) (x y : List D) : Option Bool :=
  match op with
  | .NotEq => dcmpNe x y
  | _ => none
theorem cmp_LL {op : CmpOp} {x y : List D} {a b : Addr} {vs us : Array Value} {c : Bool} (hu : A.units + 64 < cLine) (la : s.heap.IsList a vs) (ha : HasL O s.heap x vs.toList)
    (lb : s.heap.IsList b us) (hb : HasL O s.heap y us.toList) (e : dcmpLL op x y = some c) (h : Q (.bool c) s) : wpAny (model prog w) A (compareOp op (.ref a) (.ref b)) Q E s := by
  cases op with
  | NotEq =>
    refine bindE e λ p ex e => bindE e λ q ey e => ?_
    have sh := iteE e
    cases sh.2
    obtain ⟨o, ho, hc, n, hd⟩ := la
    obtain ⟨o2, ho2, hc2, n2, hd2⟩ := lb
    obtain ⟨as, r1⟩ := readsL_of x _ p ha ex
    obtain ⟨bs, r2⟩ := readsL_of y _ q hb ey
    exact SeqAt.compareNe_shaped (.list ho hc hd r1) (.list ho2 hc2 hd2 r2) (band sh.1).1 (band sh.1).2 hu h
  | _ => exact nos e
noncomputable def dcmpIT (op : CmpOp) (x : Int) (ds : List D) : Option Bool :=
  match op with
  | .In => (intsOf ds).map (·.contains x)
  | _ => none
noncomputable def dcmpN (op : CmpOp) (a : D) : Option Bool :=
  match op with
  | .Is => some (dIs a)
  | _ => none
noncomputable def dcmpI (op : CmpOp) (x : Int) : D → Option Bool
  | .int y => dcmpII op x y
  | .tup ds => dcmpIT op x ds
  | .none => dcmpN op (.int x)
  | _ => none
noncomputable def dcmpF (op : CmpOp) (x : UInt64) : D → Option Bool
  | .flt y => dcmpFF op x y
  | .int y => dcmpFI op x y
  | .none => dcmpN op (.flt x)
  | _ => none
noncomputable def dcmpS (op : CmpOp) (x : Str) : D → Option Bool
  | .str y => dcmpSS op x y
  | .none => dcmpN op (.str x)
  | _ => none
noncomputable def dcmpL (op : CmpOp) (x : List D) : D → Option Bool
  | .lst y => dcmpLL op x y
  | .none => dcmpN op (.lst x)
  | _ => none
noncomputable def dcmpO (op : CmpOp) (a : D) : D → Option Bool
  | .none => dcmpN op a
  | _ => none
noncomputable def dcmp (op : CmpOp) (a b : D) : Option Bool :=
  match a with
  | .int x => dcmpI op x b
  | .flt x => dcmpF op x b
  | .str x => dcmpS op x b
  | .lst x => dcmpL op x b
  | a => dcmpO op a b
theorem dcmp_ok {P : D → D → Prop} {op : CmpOp} {a b : D} {c : Bool} (e : dcmp op a b = some c) (h1 : ∀ x y, dcmpII op x y = some c → P (.int x) (.int y)) (h2 : ∀ x y, dcmpFF op x y = some c → P (.flt x) (.flt y)) (h3 : ∀ x y, dcmpFI op x y = some c → P (.flt x) (.int y))
    (h4 : ∀ x y, dcmpSS op x y = some c → P (.str x) (.str y)) (h5 : ∀ x y, dcmpLL op x y = some c → P (.lst x) (.lst y)) (h6 : ∀ x ds, dcmpIT op x ds = some c → P (.int x) (.tup ds)) (h7 : ∀ a, dcmpN op a = some c → P a .none) : P a b := by
  have oth : ∀ a, dcmpO op a b = some c → P a b := λ a e => by
    cases b with
    | none => exact h7 _ e
    | _ => exact nos e
  cases a with
  | int x => clear oth; cases b with
    | int y => exact h1 x y e
    | tup y => exact h6 x y e
    | none => exact h7 _ e
    | _ => exact nos e
  | flt x => clear oth; cases b with
    | int y => exact h3 x y e
    | flt y => exact h2 x y e
    | none => exact h7 _ e
    | _ => exact nos e
  | str x => clear oth; cases b with
    | str y => exact h4 x y e
    | none => exact h7 _ e
    | _ => exact nos e
  | lst x => clear oth; cases b with
    | lst y => exact h5 x y e
    | none => exact h7 _ e
    | _ => exact nos e
  | _ => exact oth _ e
theorem cmp_ok {n : Nat} (hA : AOk n A) {op : CmpOp} {a b : D} {c : Bool} {v u : Value} (e : dcmp op a b = some c) (ha : HasT O s.heap a v) (hb : HasT O s.heap b u) (h : Q (.bool c) s) :
    wpAny (model prog w) A (compareOp op v u) Q E s := by
  refine dcmp_ok (P := λ a b => HasT O s.heap a v → HasT O s.heap b u → wpAny (model prog w) A (compareOp op v u) Q E s) e (λ x y e ha hb => ?_) (λ x y e ha hb => ?_) (λ x y e ha hb => ?_) (λ x y e ha hb => ?_) (λ x y e ha hb => ?_) (λ x y e ha hb => ?_) (λ a e ha hb => ?_) ha hb
  · obtain ⟨t, rfl⟩ := hasT_int ha; obtain ⟨t', rfl⟩ := hasT_int hb; exact cmp_II e h
  · obtain ⟨t, rfl⟩ := hasT_flt ha; obtain ⟨t', rfl⟩ := hasT_flt hb; exact cmp_FF e h
  · obtain ⟨t, rfl⟩ := hasT_flt ha; obtain ⟨t', rfl⟩ := hasT_int hb; exact cmp_FI e h
  · obtain ⟨t, rfl⟩ := hasT_str ha; obtain ⟨t', rfl⟩ := hasT_str hb; exact cmp_SS e h
  · obtain ⟨p, vs, rfl, l1, q1⟩ := hasT_lst ha; obtain ⟨p', us, rfl, l2, q2⟩ := hasT_lst hb; exact cmp_LL hA.units l1 q1 l2 q2 e h
  · obtain ⟨t, rfl⟩ := hasT_int ha
    cases op with
    | In => exact mapE (P := λ c => Q (.bool c) s → wpAny (model prog w) A (compareOp .In (.int x t) u) Q E s) e (λ is ei h => cmp_inTup hb ei h) h
    | _ => exact nos e
  · cases hasT_none hb
    cases op with
    | Is => cases e; exact cmp_none ha h
    | _ => exact nos e
abbrev HandsP (O : Addr → Prop) (s : Shared) (d : D) (Q : Value → Shared → Prop) : Prop := ∀ v s', Ext s s' → Has O s'.heap d v → Q v s'
theorem seqIndex_pos {k : Int} {n : Nat} (h0 : 0 ≤ k) (h1 : k < (n : Int)) : seqIndex? k n = some k.toNat := by
  unfold seqIndex?
  have e : ¬ k < 0 := by omega
  simp only [e, if_false]
  rw [if_pos (by simp only [Bool.and_eq_true, decide_eq_true_eq]; omega)]
noncomputable def dsubL (l : List D) (k : Int) : Option D := if smallI k then (if 0 ≤ k then l[k.toNat]? else if -(l.length : Int) ≤ k then l[(k + l.length).toNat]? else none) else none
noncomputable def dsubT (l : List D) (k : Int) : Option D := if smallI k then (if 0 ≤ k then l[k.toNat]? else none) else none
noncomputable def dsubS (x : Str) (k : Int) : Option D := if smallI k then (if 0 ≤ k then (x.cps[k.toNat]?).map λ c => .str ⟨#[c]⟩ else if -(x.length : Int) ≤ k then (x.cps[(k + x.length).toNat]?).map λ c => .str ⟨#[c]⟩ else none) else none
noncomputable def atInt {α : Type} (b : D) (f : Int → Option α) : Option α := match b with | .int k => f k | _ => none
theorem atInt_ok {α : Type} {P : D → Prop} {b : D} {f : Int → Option α} {r : α} (h : atInt b f = some r) (H : ∀ k, f k = some r → P (.int k)) : P b := by
  cases b with
  | int k => exact H k h
  | _ => exact nos h
noncomputable def dsub (a b : D) : Option D :=
  match a with
  | .lst l => atInt b (dsubL l)
  | .tup l => atInt b (dsubT l)
  | .str x => atInt b (dsubS x)
  | _ => none
theorem getElem?_toList {vs : Array Value} {n : Nat} {v : Value} (h : vs.toList[n]? = some v) : vs[n]? = some v := by rw [← Array.getElem?_toList]; exact h
theorem iteB {α : Type} {c : Prop} [i : Decidable c] {x y : Option α} {r : α} {P : Prop} (h : (if c then x else y) = some r) (h1 : c → x = some r → P) (h2 : ¬c → y = some r → P) : P := by
  cases i with
  | isTrue hc => exact h1 hc h
  | isFalse hc => exact h2 hc h
theorem at_list {l : List D} {k : Int} {t : Tok} {d : D} {a : Addr} {vs : Array Value} (l1 : s.heap.IsList a vs) (q1 : HasL O s.heap l vs.toList) (e : dsubL l k = some d) (h : HandsP O s d Q) : wpAny (model prog w) A (getItem (.ref a) (.int k t)) Q E s := by
  have hl := hasL_length q1
  rw [Array.length_toList] at hl
  have sm := smallI_iff.mp (iteE e).1
  refine iteB (iteE e).2 (λ h0 e => ?_) λ h0 e => ?_
  · obtain ⟨x, ex, hx⟩ := hasL_get _ q1 e
    exact wpAny_getItem_list l1 h0 (by omega) (getElem?_toList ex) (h _ _ (.refl s) hx)
  · obtain ⟨x, ex, hx⟩ := hasL_get _ q1 (iteE e).2
    have h1 := (iteE e).1
    exact wpAny_getItem_list_neg l1 (by omega) (by omega) (by omega) (by rw [hl]; exact getElem?_toList ex) (h _ _ (.refl s) hx)
theorem at_tup {l : List D} {k : Int} {t : Tok} {d : D} {a : Addr} {vs : Array Value} (l1 : s.heap.IsTuple a vs) (q1 : HasL O s.heap l vs.toList) (e : dsubT l k = some d) (h : HandsP O s d Q) : wpAny (model prog w) A (getItem (.ref a) (.int k t)) Q E s := by
  have sm := smallI_iff.mp (iteE e).1
  have h0 := (iteE (iteE e).2).1
  obtain ⟨x, ex, hx⟩ := hasL_get _ q1 (iteE (iteE e).2).2
  have hlt : k.toNat < vs.size := (Array.getElem?_eq_some_iff.mp (getElem?_toList ex)).1
  exact PyProof.Rows.getItem_tuple (j := k.toNat) l1 (by omega) (by omega) (seqIndex_pos h0 (by omega)) (getElem?_toList ex) (h _ _ (.refl s) hx)
theorem at_str {x : Str} {k : Int} {t u : Tok} {d : D} (e : dsubS x k = some d) (h : HandsP O s d Q) : wpAny (model prog w) A (getItem (.str x u) (.int k t)) Q E s := by
  have sm := smallI_iff.mp (iteE e).1
  have one : ∀ {c : Nat}, HandsP O s (.str ⟨#[c]⟩) Q → Q (.str ⟨#[c]⟩ s.toks) { s with toks := s.toks + 1 } := λ h => h _ _ (.toks _) (by rw [Has]; exact ⟨_, rfl⟩)
  refine iteB (iteE e).2 (λ h0 e => ?_) λ h0 e => ?_
  · refine mapE (P := λ d => HandsP O s d Q → _) e (λ c ec h => ?_) h
    have hlt : k.toNat < x.cps.size := (Array.getElem?_eq_some_iff.mp ec).1
    refine getItem_str (c := c) (by simp; omega) ?_ (one h)
    rw [seqIndex_pos (n := x.length) h0 (by show k < (x.cps.size : Int); omega)]
    exact ec
  · refine mapE (P := λ d => HandsP O s d Q → _) (iteE e).2 (λ c ec h => ?_) h
    refine getItem_str (c := c) (by simp; omega) ?_ (one h)
    rw [seqIndex_neg (by omega) (iteE e).1]
    exact ec
theorem getItem_ok {a b d : D} {v u : Value} (e : dsub a b = some d) (ha : HasT O s.heap a v) (hb : HasT O s.heap b u) (h : HandsP O s d Q) :
    (∃ T id, s.TypeIs v T ∧ typeLookup (.type T) "__getitem__" = pure (some (.builtin id))) ∧ wpAny (model prog w) A (getItem v u) Q E s := by
  cases a with
  | lst l =>
    obtain ⟨p, vs, rfl, l1, q1⟩ := hasT_lst ha
    refine ⟨⟨_, _, l1.typeIs, slot_list_getitem.lookup⟩, atInt_ok (P := λ b => HasT O s.heap b u → _) e (λ k e hb => ?_) hb⟩
    obtain ⟨t', rfl⟩ := hasT_int hb
    exact at_list l1 q1 e h
  | tup l =>
    obtain ⟨p, vs, rfl, l1, q1⟩ := hasT_tup ha
    refine ⟨⟨_, _, IsTup.typeIs l1, slot_tuple_getitem.lookup⟩, atInt_ok (P := λ b => HasT O s.heap b u → _) e (λ k e hb => ?_) hb⟩
    obtain ⟨t', rfl⟩ := hasT_int hb
    exact at_tup l1 q1 e h
  | str x =>
    obtain ⟨t, rfl⟩ := hasT_str ha
    refine ⟨⟨"str", _, typeIs_str _ _ _, F.slot_str_getitem.lookup⟩, atInt_ok (P := λ b => HasT O s.heap b u → _) e (λ k e hb => ?_) hb⟩
    obtain ⟨t', rfl⟩ := hasT_int hb
    exact at_str e h
  | _ => exact nos e
theorem tail_ok {value slice : PySem.Expr} {o i : Value} {T id : String} (hs : ∀ a b p, slice ≠ .Slice a b none p) (hT : s.TypeIs o T) (hl : typeLookup (.type T) "__getitem__" = pure (some (.builtin id)))
    (h : wpAny (model prog w) A (getItem o i) Q E s) : wpAny (model prog w) A (subscriptTail value slice o i) Q E s := by
  unfold subscriptTail
  refine wpAny_bind ?_
  rw [getitemInPython_of_ne hT.not_modules]
  refine wpAny_bind (wpAny_specialOf hT hl ?_)
  have fin : wpAny (model prog w) A (subscripted slice false o i) (λ r s₃ => wpAny (model prog w) A (letTemporaryGo value o r >>= λ _ => pure r) Q E s₃) E s := by
    have e : subscripted slice false o i = operate [o, i] (getItem o i) := by
      cases slice with
      | Slice a b c p => cases c with
        | none => exact absurd rfl (hs _ _ _)
        | some c => rfl
      | _ => rfl
    rw [e]
    exact wpAny_operating (wpAny_mono h (λ r s₃ h₃ => wpAny_bind (wpAny_letTemporaryGo (wpAny_pure h₃))) λ _ _ x => x)
  first
    | exact wpAny_pure (wpAny_bind fin)
    | exact wpAny_bind (wpAny_pure (wpAny_bind fin))
    | exact wpAny_bind fin
theorem tail_slice_ok {value : PySem.Expr} {a b : Option PySem.Expr} {p : Pos} {o i : Value} {T id : String} (hT : s.TypeIs o T) (hl : typeLookup (.type T) "__getitem__" = pure (some (.builtin id)))
    (h : wpAny (model prog w) A (getItem o i) Q E s) : wpAny (model prog w) A (subscriptTail value (.Slice a b none p) o i) Q E s := by
  unfold subscriptTail
  refine wpAny_bind ?_
  rw [getitemInPython_of_ne hT.not_modules]
  refine wpAny_bind (wpAny_specialOf hT hl ?_)
  have fin : wpAny (model prog w) A (subscripted (.Slice a b none p) false o i) (λ r s₃ => wpAny (model prog w) A (letTemporaryGo value o r >>= λ _ => pure r) Q E s₃) E s := by
    show wpAny _ _ (operate [i, o] (getItem o i)) _ _ _
    exact wpAny_operating (wpAny_mono h (λ r s₃ h₃ => wpAny_bind (wpAny_letTemporaryGo (wpAny_pure h₃))) λ _ _ x => x)
  first
    | exact wpAny_pure (wpAny_bind fin)
    | exact wpAny_bind (wpAny_pure (wpAny_bind fin))
    | exact wpAny_bind fin
end
noncomputable def slA (lo : Option Int) (n : Nat) : Nat := match lo with | none => 0 | some i => min i.toNat n
noncomputable def slB (hi : Option Int) (n : Nat) : Nat := match hi with | none => n | some i => min i.toNat n
noncomputable def nonneg (x : Option Int) : Bool := match x with | none => true | some i => decide (0 ≤ i)
theorem clip_eq {i : Int} (n : Nat) (h : 0 ≤ i) : max 0 (min (if i < 0 then i + n else i) (n : Int)) = ((min i.toNat n : Nat) : Int) := by
  rw [if_neg (Int.not_lt.mpr h), Int.max_eq_right (Int.le_min.mpr ⟨h, Int.natCast_nonneg _⟩)]
  rcases Int.eq_ofNat_of_zero_le h with ⟨k, rfl⟩
  show min (k : Int) n = ((min k n : Nat) : Int)
  rcases Nat.le_total k n with q | q
  · rw [Nat.min_eq_left q, Int.min_eq_left (Int.ofNat_le.mpr q)]
  · rw [Nat.min_eq_right q, Int.min_eq_right (Int.ofNat_le.mpr q)]
theorem bounds_eq (lo hi : Option Int) (n : Nat) (h1 : nonneg lo = true) (h2 : nonneg hi = true) : sliceBounds lo hi none n = ((slA lo n : Int), (slB hi n : Int), 1) :=
  Prod.ext (match lo, h1 with | none, _ => rfl | some _, h1 => clip_eq n (of_decide_eq_true h1)) (Prod.ext (match hi, h2 with | none, _ => rfl | some _, h2 => clip_eq n (of_decide_eq_true h2)) rfl)
theorem slicePick_eq (items : Array Value) (lo hi : Option Int) (h1 : nonneg lo = true) (h2 : nonneg hi = true) :
    slicePick items lo hi none = ((items.toList.drop (slA lo items.size)).take (slB hi items.size - slA lo items.size)).toArray := by
  unfold slicePick
  rw [bounds_eq lo hi _ h1 h2]
  simp only [sliceRange_one, pick_run]
theorem strIdx_eq (lo hi : Option Int) (n : Nat) (h1 : nonneg lo = true) (h2 : nonneg hi = true) :
    Builtin.Str.strSliceIndices lo hi 1 n = (List.range (slB hi n - slA lo n)).map (slA lo n + ·) := by
  rw [← sliceRange_one]
  have e := bounds_eq lo hi n h1 h2
  have e3 := congrArg (λ p : Int × Int × Int => sliceRange p.1 p.2.1 1) e
  cases lo <;> cases hi <;> exact e3
noncomputable def subStr (x : Str) (lo hi : Option Int) : Str := ⟨((x.cps.toList.drop (slA lo x.length)).take (slB hi x.length - slA lo x.length)).toArray⟩
theorem slB_le (hi : Option Int) (n : Nat) : slB hi n ≤ n := by cases hi <;> simp [slB]; lia
theorem txtSlice_eq (x : Str) (lo hi : Option Int) (h1 : nonneg lo = true) (h2 : nonneg hi = true) : Txt.slice x lo hi = subStr x lo hi := by
  unfold Txt.slice subStr
  rw [strIdx_eq lo hi _ h1 h2]
  split
  · rename_i h
    simp only [beq_self_eq_true, Bool.true_and, List.length_map, List.length_range, beq_iff_eq] at h
    have hb := slB_le hi x.length
    have ha : slA lo x.length = 0 ∨ x.length = 0 := by lia
    have hlen : x.length = x.cps.toList.length := by simp [Str.length]
    have key : (x.cps.toList.drop (slA lo x.length)).take (slB hi x.length - slA lo x.length) = x.cps.toList := by
      rcases ha with ha | ha
      · rw [ha] at h ⊢
        rw [List.drop_zero, List.take_of_length_le (by lia)]
      · have : x.cps.toList = [] := List.eq_nil_of_length_eq_zero (by lia)
        rw [this]; simp
    rw [key]
  · rw [pick_run]
noncomputable def dslc (d : D) (lo hi : Option Int) : Option D :=
  match d with
  | .lst l => if nonneg lo && nonneg hi && decide (l.length ≤ 16777216) then some (.lst ((l.drop (slA lo l.length)).take (slB hi l.length - slA lo l.length))) else none
  | .str x => if nonneg lo && nonneg hi && decide (x.length ≤ 16777216) then some (.str (subStr x lo hi)) else none
  | _ => none
section
variable {prog : Program} {w : World} {A : Around} {E : Value → Shared → Prop} {s : Shared} {O : Addr → Prop} {Q : Value → Shared → Prop}
theorem slice_ok {d r : D} {lo hi : Option Int} {vl vu v : Value} (hO : ∀ a, O a → ∃ o, s.heap.get? a = some o) (e : dslc d lo hi = some r) (ha : HasT O s.heap d v) (pl : IsPart vl lo) (pu : IsPart vu hi) (h : Hands O s r Q) :
    let s₁ : Shared := { s with heap := s.heap.push { cls := .type "slice", data := .fields #[vl, vu, .none] } }
    (∃ T id, s₁.TypeIs v T ∧ typeLookup (.type T) "__getitem__" = pure (some (.builtin id))) ∧
      wpAny (model prog w) A (getItem v (.ref s.heap.objs.size)) Q E s₁ := by
  intro s₁
  have X : Ext s s₁ := .ofHeap (λ b o e => Heap.get?_push_of_some _ e) s.toks
  cases d <;> simp only [dslc, reduceCtorEq] at e
  · rename_i x
    obtain ⟨t, rfl⟩ := hasT_str ha
    split at e
    · rename_i q
      simp only [Bool.and_eq_true, decide_eq_true_eq] at q
      cases e
      refine ⟨⟨"str", _, typeIs_str _ _ _, F.slot_str_getitem.lookup⟩, ?_⟩
      have main : ∀ (l u : Option (Int × Tok)), l.map (·.1) = lo → u.map (·.1) = hi → vl = partValue l → vu = partValue u → wpAny (model prog w) A (getItem (.str x t) (.ref s.heap.objs.size)) Q E s₁ := by
        rintro l u rfl rfl rfl rfl
        refine wpAny_getItem_str_slice (l := l) (u := u) (st := none) ⟨_, Heap.get?_push_size _ rfl, rfl, rfl⟩ rfl ?_
        refine post_val_or_str ⟨?_, λ t' k => ?_⟩
        · have := Txt.slice_le x (l.map (·.1)) (u.map (·.1))
          rw [sizeLine_eq]
          exact Nat.le_trans this q.2
        · have e1 : (if ((none : Option (Int × Tok)).map (·.1)).getD 1 == 1 && (slicePicked x l u none).length == x.length then x else ⟨((slicePicked x l u none).filterMap (x.cps[·]?)).toArray⟩ : Str) = subStr x (l.map (·.1)) (u.map (·.1)) := by
            rw [← txtSlice_eq x _ _ q.1.1 q.1.2]; rfl
          refine h _ _ (X.trans (.toks k)) ?_ (λ _ c => by cases c)
          rw [Has]
          exact ⟨t', by rw [← e1]⟩
      cases pl with
      | none => cases pu with
        | none => exact main none none rfl rfl rfl rfl
        | int j tj => exact main none (some (j, tj)) rfl rfl rfl rfl
      | int i ti => cases pu with
        | none => exact main (some (i, ti)) none rfl rfl rfl rfl
        | int j tj => exact main (some (i, ti)) (some (j, tj)) rfl rfl rfl rfl
    · cases e
  · rename_i l
    obtain ⟨a, vs, rfl, l1, q1⟩ := hasT_lst ha
    split at e
    · rename_i q
      simp only [Bool.and_eq_true, decide_eq_true_eq] at q
      cases e
      have hl := hasL_length q1
      simp only [Array.length_toList] at hl
      refine ⟨⟨_, _, Heap.IsList.typeIs (s := s₁) (l1.push _), slot_list_getitem.lookup⟩, ?_⟩
      refine wpAny_getItem_list_slice (l1.push _) (Heap.IsSliceOf.new ..) pl pu .none (by simp) ?_ (by rw [hl, sizeLine_eq]; exact q.2)
      rw [slicePick_eq vs lo hi q.1.1 q.1.2, hl]
      have hO' : ∀ a, O a → ∃ o, s₁.heap.get? a = some o := λ a q => (hO a q).imp λ o e => X.heap a o e
      refine hands_list (s := s₁) (n := 0) hO' (X.hasL (hasL_take _ (hasL_drop _ q1))) (λ v s' Y hv hf => h v s' (X.trans Y) hv λ ds e => ?_) rfl
      obtain ⟨b, us, ev, nb, pb, rb⟩ := hf ds e
      refine ⟨b, us, ev, ?_, pb, rb⟩
      cases q : s.heap.get? b with
      | none => rfl
      | some o => rw [X.heap b o q] at nb; cases nb
    · cases e
end
inductive Bi where
  | len | ord | max | min | sum | bytes | int
noncomputable def fgt (x y : UInt64) : Bool := Float64.cmp x y == some Ordering.gt
noncomputable def flt (x y : UInt64) : Bool := Float64.cmp x y == some Ordering.lt
noncomputable def best3 (f : UInt64 → UInt64 → Bool) (a b c : UInt64) : UInt64 := if f b a then (if f c b then c else b) else (if f c a then c else a)
noncomputable def max3 (a b c : UInt64) : UInt64 := best3 fgt a b c
noncomputable def min3 (a b c : UInt64) : UInt64 := best3 flt a b c
noncomputable def truncF (x : UInt64) : Option Int := match Float64.decode x with
  | .fin sg m e => some (Float64.truncOf sg m e)
  | _ => none
noncomputable def arg1 {α : Type} (l : List D) (k : D → Option α) : Option α := List.casesOn (motive := λ _ => Option α) l none λ a r => List.casesOn (motive := λ _ => Option α) r (k a) λ _ _ => none
noncomputable def arg3 {α : Type} (l : List D) (k : D → D → D → Option α) : Option α := List.casesOn (motive := λ _ => Option α) l none λ a r => List.casesOn (motive := λ _ => Option α) r none λ b r => arg1 r (k a b)
theorem arg1_ok {α : Type} {P : List D → Prop} {l : List D} {k : D → Option α} {r : α} (h : arg1 l k = some r) (H : ∀ a, k a = some r → P [a]) : P l := by
  cases l with
  | nil => exact nos h
  | cons a l => cases l with
    | nil => exact H a h
    | cons => exact nos h
theorem arg3_ok {α : Type} {P : List D → Prop} {l : List D} {k : D → D → D → Option α} {r : α} (h : arg3 l k = some r) (H : ∀ a b c, k a b c = some r → P [a, b, c]) : P l := by
  cases l with
  | nil => exact nos h
  | cons a l => cases l with
    | nil => exact nos h
    | cons b l => exact arg1_ok (P := λ l => P (a :: b :: l)) h (H a b)
noncomputable def atFlt {α : Type} (b : D) (f : UInt64 → Option α) : Option α := match b with | .flt k => f k | _ => none
noncomputable def atStr {α : Type} (b : D) (f : Str → Option α) : Option α := match b with | .str k => f k | _ => none
noncomputable def atLst {α : Type} (b : D) (f : List D → Option α) : Option α := match b with | .lst k => f k | _ => none
theorem atFlt_ok {α : Type} {P : D → Prop} {b : D} {f : UInt64 → Option α} {r : α} (h : atFlt b f = some r) (H : ∀ k, f k = some r → P (.flt k)) : P b := by
  cases b with
  | flt k => exact H k h
  | _ => exact nos h
theorem atStr_ok {α : Type} {P : D → Prop} {b : D} {f : Str → Option α} {r : α} (h : atStr b f = some r) (H : ∀ k, f k = some r → P (.str k)) : P b := by
  cases b with
  | str k => exact H k h
  | _ => exact nos h
theorem atLst_ok {α : Type} {P : D → Prop} {b : D} {f : List D → Option α} {r : α} (h : atLst b f = some r) (H : ∀ k, f k = some r → P (.lst k)) : P b := by
  cases b with
  | lst k => exact H k h
  | _ => exact nos h
noncomputable def three (f : UInt64 → UInt64 → UInt64 → UInt64) (l : List D) : Option D := arg3 l λ a b c => atFlt a λ x => atFlt b λ y => atFlt c λ z => some (.flt (f x y z))
noncomputable def bmax : List D → Option D := three max3
noncomputable def bmin : List D → Option D := three min3
noncomputable def blen1 : D → Option D
  | .lst l => if decide (l.length ≤ 16777216) then some (.int l.length) else none
  | .str x => if decide (x.length ≤ 16777216) then some (.int x.length) else none
  | _ => none
noncomputable def blen (l : List D) : Option D := arg1 l blen1
noncomputable def bord (l : List D) : Option D := arg1 l λ a => atStr a λ x => if x.length == 1 then some (.int (x.cps.getD 0 0 : Nat)) else none
noncomputable def bsum (l : List D) : Option D := arg1 l λ a => atLst a λ l => (intsOf l).map λ is => .int is.sum
noncomputable def bbytes (l : List D) : Option D := arg1 l λ a => atLst a λ l => (intsOf l).bind λ is => if is.all (λ n => decide (0 ≤ n) && decide (n < 256)) && decide (is.length ≤ 16777216) then some (.bytes (PySem.byteArr is)) else none
noncomputable def bint (l : List D) : Option D := arg1 l λ a => atFlt a λ x => (truncF x).map .int
noncomputable def dbi : Bi → List D → Option D
  | .len => blen
  | .ord => bord
  | .max => bmax
  | .min => bmin
  | .sum => bsum
  | .bytes => bbytes
  | .int => bint
noncomputable def biVal : Bi → Value
  | .len => .builtin "len"
  | .ord => .builtin "ord"
  | .max => .builtin "max"
  | .min => .builtin "min"
  | .sum => .builtin "sum"
  | .bytes => .type "bytes"
  | .int => .type "int"
noncomputable def biName : Bi → Str
  | .len => "len"
  | .ord => "ord"
  | .max => "max"
  | .min => "min"
  | .sum => "sum"
  | .bytes => "bytes"
  | .int => "int"
noncomputable def HasTL (O : Addr → Prop) (h : Heap) : List D → List Value → Prop
  | [], vs => vs = []
  | d :: ds, vs => ∃ v r, vs = v :: r ∧ HasT O h d v ∧ HasTL O h ds r
theorem ints_are {O : Addr → Prop} {h : Heap} : ∀ {ds : List D} {vs : List Value} {is : List Int}, HasL O h ds vs → intsOf ds = some is → IntsAre vs is
  | [], vs, is, a, e => by rw [HasL] at a; subst a; cases e; exact .nil
  | d :: ds, vs, is, a, e => by
    rw [HasL] at a; obtain ⟨v, r, rfl, a, b⟩ := a
    cases d with
    | int i =>
      refine mapE (P := λ is => IntsAre (v :: r) is) e λ js e => ?_
      rw [Has] at a; obtain ⟨t, rfl⟩ := a
      exact .cons _ _ (ints_are b e)
    | _ => exact nos e
noncomputable def fItems (ps : Array (UInt64 × Tok)) : Array Value := ps.map λ p => .float p.1 p.2
noncomputable def fAt (ps : Array (UInt64 × Tok)) (i : Nat) : UInt64 := (ps[i]?.getD (0, 0)).1
theorem fItems_at {ps : Array (UInt64 × Tok)} {i : Nat} {v : Value} (h : (fItems ps)[i]? = some v) : ∃ t, v = .float (fAt ps i) t := by
  unfold fItems at h
  rw [Array.getElem?_map, Option.map_eq_some_iff] at h
  obtain ⟨p, hp, rfl⟩ := h
  exact ⟨p.2, by simp [fAt, hp]⟩
section
variable {prog : Program} {w : World} {A : Around} {E : Value → Shared → Prop} {s : Shared} {O : Addr → Prop} {Q : Value → Shared → Prop}
theorem best3_at {f : UInt64 → UInt64 → Bool} {a b c : UInt64} {t u x : Tok} : fAt #[(a, t), (b, u), (c, x)] (argBest (λ i j => f (fAt #[(a, t), (b, u), (c, x)] i) (fAt #[(a, t), (b, u), (c, x)] j)) 2) = best3 f a b c := by
  show fAt #[(a, t), (b, u), (c, x)] (if f c (fAt #[(a, t), (b, u), (c, x)] (if f b a = true then 1 else 0)) = true then 2 else (if f b a = true then 1 else 0)) = (if f b a = true then (if f c b = true then c else b) else (if f c a = true then c else a))
  cases f b a
  · show fAt #[(a, t), (b, u), (c, x)] (if f c a = true then 2 else 0) = (if f c a = true then c else a)
    cases f c a <;> rfl
  · show fAt #[(a, t), (b, u), (c, x)] (if f c b = true then 2 else 1) = (if f c b = true then c else b)
    cases f c b <;> rfl
theorem three_items {a b c : UInt64} {t u x : Tok} : fItems #[(a, t), (b, u), (c, x)] = #[.float a t, .float b u, .float c x] := by simp [fItems]
theorem three_size {a b c : UInt64} {t u x : Tok} : (fItems #[(a, t), (b, u), (c, x)]).size = 3 := congrArg Array.size three_items
theorem three_walk {op : CmpOp} {f : UInt64 → UInt64 → Bool} {a b c : UInt64} {t u x : Tok} (hh : A.handled = none) (hf : ∀ {i j : UInt64} {ti tj : Tok} {s' : Shared} {Q' : Value → Shared → Prop} {E' : Value → Shared → Prop}, Q' (.bool (f i j)) s' → wpAny (model prog w) A.in1 (richCompare op (.float i ti) (.float j tj)) Q' E' s')
    (h : Hands O s (.flt (best3 f a b c)) Q) {s₂ : Shared} (hs : s₂ = { s with heap := s.heap.push { cls := .type "tuple", data := .seq #[.float a t, .float b u, .float c x] } })
    (hT : s₂.heap.IsTuple s.heap.objs.size (fItems #[(a, t), (b, u), (c, x)])) {s₃ : Shared} (hs₃ : s₃ = { s₂ with heap := s₂.heap.push { cls := .type "tuple_iterator", data := .fields #[.ref s.heap.objs.size, .int 0 0] } }) :
    ∃ I fp wr n P St bt, Value.ref s₂.heap.objs.size = .ref I ∧ Walks prog w A.in1 I fp wr n P St ∧ St 0 s₃.heap ∧ (∀ b ∈ fp, b < s₃.heap.objs.size) ∧ 0 < n ∧ CmpOf prog w A.in1 op P bt ∧
      ∀ (v : Value) (h' : Heap) (tk : Nat), P (argBest bt (n - 1)) v → (∀ b o, ¬b ∈ wr → s₃.heap.get? b = some o → h'.get? b = some o) → Q v { s₃ with heap := h', toks := tk } := by
  subst hs hs₃
  have hsz : (s.heap.push { cls := .type "tuple", data := .seq #[.float a t, .float b u, .float c x] }).objs.size = s.heap.objs.size + 1 := Heap.size_push ..
  refine ⟨_, [_, s.heap.objs.size], [_], _, _, _, (λ i j => f (fAt #[(a, t), (b, u), (c, x)] i) (fAt #[(a, t), (b, u), (c, x)] j)), rfl, Walks.tuple (A := A.in1) hh _ s.heap.objs.size (by rw [hsz]; exact Nat.ne_of_lt (Nat.lt_succ_self _)) (fItems #[(a, t), (b, u), (c, x)]),
    ⟨⟨_, Heap.get?_push_size _ rfl, rfl, rfl⟩, hT.push _⟩, List.forall_mem_cons.mpr ⟨?_, List.forall_mem_singleton.mpr ?_⟩, three_size ▸ Nat.zero_lt_succ 2, λ i j vi vj s' Q' E' hi hj hQ => ?_, λ v h' tk hP hk => ?_⟩
  · show _ < ((s.heap.push _).push _).objs.size
    rw [hsz, Heap.size_push, hsz]; exact Nat.lt_succ_self _
  · show _ < ((s.heap.push _).push _).objs.size
    rw [Heap.size_push, hsz]; exact Nat.lt_succ_of_lt (Nat.lt_succ_self _)
  · obtain ⟨ti, rfl⟩ := fItems_at hi
    obtain ⟨tj, rfl⟩ := fItems_at hj
    exact hf (Q' := Q') hQ
  · obtain ⟨t', rfl⟩ := fItems_at hP
    refine h _ _ (.ofHeap (λ d o e => hk d o (λ hm => ?_) (Heap.get?_push_of_some _ (Heap.get?_push_of_some _ e))) tk) ?_ (λ _ e => nomatch e)
    · have e1 := List.mem_singleton.mp hm
      have := Heap.lt_size e; rw [e1, hsz] at this; exact Nat.lt_irrefl _ (Nat.lt_of_succ_lt this)
    · rw [Has]; exact ⟨t', by rw [three_size]; exact congrArg (λ y => Value.float y t') best3_at⟩
theorem three_tup {a b c : UInt64} {t u x : Tok} : (s.heap.push { cls := .type "tuple", data := .seq #[.float a t, .float b u, .float c x] }).IsTuple s.heap.objs.size (fItems #[(a, t), (b, u), (c, x)]) := ⟨_, Heap.get?_push_size _ rfl, rfl, 0, congrArg (λ l => Data.seq l) three_items.symm⟩
theorem max_cmp {i j : UInt64} {ti tj : Tok} {s' : Shared} {Q' : Value → Shared → Prop} {E' : Value → Shared → Prop} (h : Q' (.bool (fgt i j)) s') : wpAny (model prog w) A (richCompare .Gt (.float i ti) (.float j tj)) Q' E' s' := AutoFloatOps.gt_0 (Q := Q') h
theorem max_ok {a b c : UInt64} {t u x : Tok} (hh : A.handled = none) (h : Hands O s (.flt (max3 a b c)) Q) :
    wpAny (model prog w) A (call (.builtin "max") [.float a t, .float b u, .float c x]) Q E s :=
  call_max_three (wpAny_pyIter_tuple three_tup (three_walk (op := .Gt) (f := fgt) (a := a) (b := b) (c := c) (t := t) (u := u) (x := x) (s := s) (Q := Q) (A := A) hh max_cmp h rfl three_tup rfl))
theorem min_cmp {i j : UInt64} {ti tj : Tok} {s' : Shared} {Q' : Value → Shared → Prop} {E' : Value → Shared → Prop} (h : Q' (.bool (flt i j)) s') : wpAny (model prog w) A (richCompare .Lt (.float i ti) (.float j tj)) Q' E' s' := AutoFloatOps.lt_0 (Q := Q') h
theorem min_ok {a b c : UInt64} {t u x : Tok} (hh : A.handled = none) (h : Hands O s (.flt (min3 a b c)) Q) :
    wpAny (model prog w) A (call (.builtin "min") [.float a t, .float b u, .float c x]) Q E s :=
  call_min_three (wpAny_pyIter_tuple three_tup (three_walk (op := .Lt) (f := flt) (a := a) (b := b) (c := c) (t := t) (u := u) (x := x) (s := s) (Q := Q) (A := A) hh min_cmp h rfl three_tup rfl))
theorem hasTL_nil {O : Addr → Prop} {h : Heap} {vs} (x : HasTL O h [] vs) : vs = [] := x
theorem hasTL_one {O : Addr → Prop} {h : Heap} {d vs} (x : HasTL O h [d] vs) : ∃ v, vs = [v] ∧ HasT O h d v := by
  obtain ⟨v, r, rfl, h1, h2⟩ := x
  exact ⟨v, congrArg (v :: ·) h2, h1⟩
theorem hasTL_three {O : Addr → Prop} {h : Heap} {a b c : UInt64} {vs} (x : HasTL O h [.flt a, .flt b, .flt c] vs) : ∃ t u y, vs = [.float a t, .float b u, .float c y] := by
  obtain ⟨v, r, rfl, h1, v2, r2, rfl, h2, v3, r3, rfl, h3, h4⟩ := x
  obtain ⟨t, rfl⟩ := hasT_flt h1
  obtain ⟨u, rfl⟩ := hasT_flt h2
  obtain ⟨y, rfl⟩ := hasT_flt h3
  exact ⟨t, u, y, congrArg (λ r => Value.float a t :: .float b u :: .float c y :: r) h4⟩
theorem three_ok {f : UInt64 → UInt64 → UInt64 → UInt64} {P : List D → D → Prop} {l : List D} {d : D} (h : three f l = some d) (H : ∀ x y z, P [.flt x, .flt y, .flt z] (.flt (f x y z))) : P l d :=
  arg3_ok (P := λ l => P l d) h λ a b c h => atFlt_ok (P := λ a => P [a, b, c] d) h λ x h => atFlt_ok (P := λ b => P [.flt x, b, c] d) h λ y h => atFlt_ok (P := λ c => P [.flt x, .flt y, c] d) h λ z h => som h ▸ H x y z
theorem len_ok {d d' : D} {v : Value} (e : blen1 d = some d') (ha : HasT O s.heap d v) (h : Hands O s d' Q) : wpAny (model prog w) A (call (.builtin "len") [v]) Q E s := by
  cases d with
  | lst l =>
    obtain ⟨a, us, rfl, l, q⟩ := hasT_lst ha
    have c := iteE e
    cases c.2
    have hl := hasL_length q
    rw [Array.length_toList] at hl
    have c' := of_decide_eq_true c.1
    refine Calls.call_len_list l (by omega) ?_
    rw [hl]
    exact hands_int h
  | str x =>
    obtain ⟨t, rfl⟩ := hasT_str ha
    have c := iteE e
    cases c.2
    have c' := of_decide_eq_true c.1
    exact len_str (by omega) (hands_int h)
  | _ => exact nos e
theorem sum_ok {l : List D} {d : D} {v : Value} (hA : A.handled = none) (e : (intsOf l).map (λ is => D.int is.sum) = some d) (ha : HasT O s.heap (.lst l) v) (h : Hands O s d Q) : wpAny (model prog w) A (call (.builtin "sum") [v]) Q E s := by
  obtain ⟨a, us, rfl, l, q⟩ := hasT_lst ha
  refine mapE (P := λ d => Hands O s d Q → _) e (λ is ei h => ?_) h
  have hI := ints_are q ei
  have hall : AllInts us.toList.toArray := hI.allInts
  rw [Array.toArray_toList] at hall
  have hn : numsOf us.toList = is := hI.numsOf
  obtain ⟨xs, rfl⟩ := hall.items
  rw [nums_intItems] at hn
  refine PySem.sum_intListG hA l λ h' tk t' hk => ?_
  rw [preSum_eq, List.take_of_length_le (by simp), hn]
  exact h _ _ (.ofHeap hk tk) (by rw [Has]; exact ⟨t', rfl⟩) (λ _ e => nomatch e)
theorem bytes_ok {is : List Int} {l : List D} {d : D} {v : Value} (hA : A.handled = none) (ei : intsOf l = some is) (e : (if is.all (λ n => decide (0 ≤ n) && decide (n < 256)) && decide (is.length ≤ 16777216) then some (D.bytes (PySem.byteArr is)) else none) = some d) (ha : HasT O s.heap (.lst l) v) (h : Hands O s d Q) :
    wpAny (model prog w) A (call (.type "bytes") [v]) Q E s := by
  obtain ⟨a, us, rfl, l, q⟩ := hasT_lst ha
  have c := iteE e
  cases c.2
  have c1 := band c.1
  have hI := ints_are q ei
  exact PySem.call_bytes_ints (vs := us.toList) l hI (λ n hn => ⟨of_decide_eq_true (band (List.all_eq_true.mp c1.1 n hn)).1, of_decide_eq_true (band (List.all_eq_true.mp c1.1 n hn)).2⟩) (by rw [hI.length, sizeLine_eq]; exact of_decide_eq_true c1.2) hA λ h' t k hk =>
    h _ _ (.ofHeap hk k) (by rw [Has]; exact ⟨t, rfl⟩) (λ _ e => nomatch e)
theorem trunc_ok {x : UInt64} {d : D} {t : Tok} (e : (truncF x).map D.int = some d) (h : Hands O s d Q) : wpAny (model prog w) A (call (.type "int") [.float x t]) Q E s := by
  refine mapE (P := λ d => Hands O s d Q → _) e (λ i ei h => ?_) h
  unfold truncF at ei
  cases hd : Float64.decode x with
  | fin sg m ex => rw [hd] at ei; cases ei; exact call_int_float hd (hands_int h)
  | _ => rw [hd] at ei; exact nos ei
theorem bi_ok {n : Nat} (hA : AOk n A) {f : Bi} {ds : List D} {d : D} {vs : List Value} (e : dbi f ds = some d) (ha : HasTL O s.heap ds vs) (h : Hands O s d Q) :
    wpAny (model prog w) A (call (biVal f) vs) Q E s := by
  cases f with
  | len =>
    refine arg1_ok (P := λ ds => HasTL O s.heap ds vs → _) e (λ a e ha => ?_) ha
    obtain ⟨v, rfl, h1⟩ := hasTL_one ha
    exact len_ok e h1 h
  | ord =>
    refine arg1_ok (P := λ ds => HasTL O s.heap ds vs → _) e (λ a e ha => ?_) ha
    obtain ⟨v, rfl, h1⟩ := hasTL_one ha
    refine atStr_ok (P := λ a => HasT O s.heap a v → _) e (λ x e h1 => ?_) h1
    obtain ⟨t, rfl⟩ := hasT_str h1
    have c := iteE e
    cases c.2
    exact PyProof.Rows.ord_of_one (beq_iff_eq.mp c.1) (hands_int h)
  | max =>
    refine three_ok (P := λ ds d => HasTL O s.heap ds vs → Hands O s d Q → _) e (λ x y z ha h => ?_) ha h
    obtain ⟨t, u, y, rfl⟩ := hasTL_three ha
    exact max_ok hA.1 h
  | min =>
    refine three_ok (P := λ ds d => HasTL O s.heap ds vs → Hands O s d Q → _) e (λ x y z ha h => ?_) ha h
    obtain ⟨t, u, y, rfl⟩ := hasTL_three ha
    exact min_ok hA.1 h
  | sum =>
    refine arg1_ok (P := λ ds => HasTL O s.heap ds vs → _) e (λ a e ha => ?_) ha
    obtain ⟨v, rfl, h1⟩ := hasTL_one ha
    exact atLst_ok (P := λ a => HasT O s.heap a v → _) e (λ l e h1 => sum_ok hA.1 e h1 h) h1
  | bytes =>
    refine arg1_ok (P := λ ds => HasTL O s.heap ds vs → _) e (λ a e ha => ?_) ha
    obtain ⟨v, rfl, h1⟩ := hasTL_one ha
    exact atLst_ok (P := λ a => HasT O s.heap a v → _) e (λ l e h1 => bindE e λ is ei e => bytes_ok hA.1 ei e h1 h) h1
  | int =>
    refine arg1_ok (P := λ ds => HasTL O s.heap ds vs → _) e (λ a e ha => ?_) ha
    obtain ⟨v, rfl, h1⟩ := hasTL_one ha
    refine atFlt_ok (P := λ a => HasT O s.heap a v → _) e (λ x e h1 => ?_) h1
    obtain ⟨t, rfl⟩ := hasT_flt h1
    exact trunc_ok e h
end
inductive Tg where
  | one (i : Nat)
  | many (is : List Nat)
inductive PE where
  | var (i : Nat)
  | cI (i : Int) | cF (b : UInt64) | cS (s : Str) | cB (b : Bool) | cN
  | glob (x : Str)
  | bin (op : Operator) (l r : PE)
  | neg (e : PE)
  | sub (e i : PE)
  | slc (e lo hi : PE) | abs
  | tup (es : PE) | lst (es : PE) | nil | cons (e es : PE)
  | ite (c a b : PE)
  | cmp (op : CmpOp) (l r : PE) | chain (op1 op2 : CmpOp) (a b c : PE)
  | and_ (a b : PE) | or_ (a b : PE) | not_ (a : PE)
  | call (f : Str) (args : PE)
  | gen (f : Str) (args : PE)
  | bi (f : Bi) (args : PE)
  | rng (args : PE)
  | zip (a b : PE)
  | join (sep : Str) (e : PE)
  | splt (s : Str)
  | getD (e d : PE)
  | notTok (e : PE)
  | comp (elt : PE) (tg : Tg) (it cond : PE) (caps : List Nat)
  | comp2 (elt : PE) (tg1 : Tg) (it1 : PE) (tg2 : Tg) (it2 cond : PE) (caps : List Nat)
structure Cx where
  prog : Program
  w : World
  h0 : Heap
  mg : Str → Option Value
  mb : Str → Option Value
  fn : Str → List D → Option D
  gn : Str → List D → Option (List D)
  gd : Str → Option D
  tok : Str → Option Int
structure Rs where
  e : Option D
  t : Option D
  b : Option Bool
  l : Option (List D)
  lt : Option (List D)
  it : Option (List D)
noncomputable def dtruth : D → Option Bool
  | .int i => some (i != 0)
  | .bool b => some b
  | _ => none
noncomputable def diter : D → Option (List D)
  | .lst l => if decide (l.length ≤ 16777216) then some l else none
  | .tup l => if decide (l.length ≤ 16777216) then some l else none
  | _ => none
noncomputable def Rs.of (o : Option D) : Rs := ⟨o, o, o.bind dtruth, none, none, o.bind diter⟩
noncomputable def Rs.val (o : Option D) : Rs := ⟨o, o, none, none, none, none⟩
noncomputable def Rs.test (o : Option Bool) : Rs := ⟨none, none, o, none, none, none⟩
noncomputable def Rs.cmp (o : Option Bool) : Rs := ⟨o.map .bool, o.map .bool, o, none, none, none⟩
noncomputable def Rs.iter (o : Option (List D)) : Rs := ⟨none, none, none, none, none, o⟩
noncomputable def Rs.args (l lt : Option (List D)) : Rs := ⟨none, none, none, l, lt, none⟩
noncomputable def Rs.slot : Option Slot → Rs
  | some (.fro d) => .of (some d)
  | some (.own ds) => ⟨none, some (.lst ds), none, none, none, none⟩
  | _ => .of none
noncomputable def dpart : Option D → Option (Option Int)
  | some (.int i) => some (some i)
  | _ => none
noncomputable def flatD : D → Bool
  | .tup _ | .lst _ => false
  | _ => true
noncomputable def flatL (l : List D) : Bool := l.all flatD
noncomputable def needsTup : PE → Bool
  | .zip .. => true
  | _ => false
noncomputable def dneg : D → Option D
  | .int i => some (.int (-i))
  | _ => none
noncomputable def drange1 (n : Int) : Option (List D) := if smallI n && decide (n ≤ 16777216) then some ((List.range n.toNat).map λ (i : Nat) => .int (i : Int)) else none
noncomputable def drange2 (a b : Int) : Option (List D) := if smallI a && smallI b && decide (b - a ≤ 16777216) then some ((List.range (b - a).toNat).map λ (i : Nat) => .int (a + (i : Int))) else none
noncomputable def drange3 (a b c : Int) : Option (List D) := if smallI a && smallI b && c == -1 && decide (a - b ≤ 16777216) then some ((List.range (a - b).toNat).map λ (i : Nat) => .int (a - (i : Int))) else none
noncomputable def drange (l : List D) : Option (List D) := List.casesOn (motive := λ _ => Option (List D)) l none λ a r => List.casesOn (motive := λ _ => Option (List D)) r (atInt a drange1) λ b r =>
  List.casesOn (motive := λ _ => Option (List D)) r (atInt a λ a => atInt b (drange2 a)) λ c r => List.casesOn (motive := λ _ => Option (List D)) r (atInt a λ a => atInt b λ b => atInt c (drange3 a b)) λ _ _ => none
theorem drange_1 (a : Int) : drange [.int a] = drange1 a := rfl
theorem drange_2 (a b : Int) : drange [.int a, .int b] = drange2 a b := rfl
theorem drange_3 (a b c : Int) : drange [.int a, .int b, .int c] = drange3 a b c := rfl
theorem drange_ok {P : List D → Prop} {l xs : List D} (h : drange l = some xs) (h1 : ∀ a, drange1 a = some xs → P [.int a]) (h2 : ∀ a b, drange2 a b = some xs → P [.int a, .int b]) (h3 : ∀ a b c, drange3 a b c = some xs → P [.int a, .int b, .int c]) : P l := by
  cases l with
  | nil => exact nos h
  | cons a r => cases r with
    | nil => exact atInt_ok (P := λ a => P [a]) h h1
    | cons b r => cases r with
      | nil => exact atInt_ok (P := λ a => P [a, b]) h λ a h => atInt_ok (P := λ b => P [.int a, b]) h (h2 a)
      | cons c r => cases r with
        | nil => exact atInt_ok (P := λ a => P [a, b, c]) h λ a h => atInt_ok (P := λ b => P [.int a, b, c]) h λ b h => atInt_ok (P := λ c => P [.int a, .int b, c]) h (h3 a b)
        | cons => exact nos h
noncomputable def strsOf : List D → Option (List Str)
  | [] => some []
  | .str x :: ds => (strsOf ds).map (x :: ·)
  | _ => none
noncomputable def djoin (sep : Str) : D → Option D
  | .lst l => (strsOf l).bind λ ys => if decide ((ys.map (·.length)).sum + ys.length * sep.length ≤ 16777216) then some (.str (Txt.join sep ys)) else none
  | _ => none
noncomputable def dsplit (s : Str) : Option D := if decide (s.length ≤ sizeLine) && decide ((Builtin.Str.spaceWords s (s.length + 1)).length ≤ sizeLine) then some (.lst ((Txt.words s).map .str)) else none
noncomputable def dgetD (tok : Str → Option Int) : D → D → Option D
  | .str x, .int i => some (.int ((tok x).getD i))
  | _, _ => none
noncomputable def dnotTok (tok : Str → Option Int) : D → Option Bool
  | .str x => some (tok x).isNone
  | _ => none
noncomputable def setAll : List Nat → List D → List Slot → List Slot
  | i :: is, d :: ds, ρ => setAll is ds (ρ.set i (.fro d))
  | _, _, ρ => ρ
noncomputable def bindT : Tg → D → List Slot → Option (List Slot)
  | .one i, d, ρ => some (ρ.set i (.fro d))
  | .many is, .tup ds, ρ => if is.length = ds.length then some (setAll is ds ρ) else none
  | .many is, .lst ds, ρ => if is.length = ds.length then some (setAll is ds ρ) else none
  | _, _, _ => none
noncomputable def maskFrom (caps : List Nat) : Nat → List Slot → List Slot
  | _, [] => []
  | n, .fro d :: ρ => (if caps.contains n then .fro d else .undef) :: maskFrom caps (n + 1) ρ
  | n, _ :: ρ => .undef :: maskFrom caps (n + 1) ρ
noncomputable def mask (caps : List Nat) (ρ : List Slot) : List Slot := maskFrom caps 0 ρ
noncomputable def compGo (f : D → Option (List D)) : List D → Option (List D)
  | [] => some []
  | x :: xs => match f x, compGo f xs with
    | some a, some b => some (a ++ b)
    | _, _ => none
noncomputable def mkComp (z c : Bool) (o : Option (List D)) : Option D := o.bind λ r => if decide (r.length ≤ 16777216) && (!z || (c && flatL r)) then some (.lst r) else none
noncomputable def absent : PE → Bool
  | .abs => true
  | _ => false
noncomputable def part (p : PE) (r : Rs) : Option (Option Int) := if absent p then some none else dpart r.e
noncomputable def ev (C : Cx) : PE → List Slot → Rs
  | .var i, ρ => .slot ρ[i]?
  | .cI i, _ => .of (some (.int i))
  | .cF b, _ => .of (some (.flt b))
  | .cS s, _ => .of (some (.str s))
  | .cB b, _ => .of (some (.bool b))
  | .cN, _ => .of (some .none)
  | .glob x, _ => .of (C.gd x)
  | .bin op l r, ρ => .of ((ev C l ρ).t.bind λ a => (ev C r ρ).t.bind λ b => dbin op a b)
  | .neg e, ρ => .of ((ev C e ρ).t.bind dneg)
  | .sub e i, ρ => .of ((ev C e ρ).t.bind λ a => (ev C i ρ).t.bind λ b => dsub a b)
  | .slc e lo hi, ρ => .of ((ev C e ρ).t.bind λ a => (part lo (ev C lo ρ)).bind λ x => (part hi (ev C hi ρ)).bind λ y => dslc a x y)
  | .abs, _ => .of none
  | .tup es, ρ => .of ((ev C es ρ).l.bind λ l => if decide (l.length ≤ 16777216) then some (.tup l) else none)
  | .lst es, ρ => .of ((ev C es ρ).l.bind λ l => if decide (l.length ≤ 16777216) then some (.lst l) else none)
  | .nil, _ => .args (some []) (some [])
  | .cons e es, ρ => .args ((ev C e ρ).e.bind λ d => (ev C es ρ).l.map (d :: ·)) ((ev C e ρ).t.bind λ d => (ev C es ρ).lt.map (d :: ·))
  | .ite c a b, ρ => .val ((ev C c ρ).b.bind λ t => if t then (ev C a ρ).e else (ev C b ρ).e)
  | .cmp op l r, ρ => .cmp ((ev C l ρ).t.bind λ a => (ev C r ρ).t.bind λ b => dcmp op a b)
  | .chain o1 o2 a b c, ρ => .test ((ev C a ρ).t.bind λ x => (ev C b ρ).t.bind λ y => (dcmp o1 x y).bind λ t => if t then (ev C c ρ).t.bind λ z => dcmp o2 y z else some false)
  | .and_ a b, ρ => .test ((ev C a ρ).b.bind λ t => if t then (ev C b ρ).b else some false)
  | .or_ a b, ρ => .test ((ev C a ρ).b.bind λ t => if t then some true else (ev C b ρ).b)
  | .not_ a, ρ => .test ((ev C a ρ).b.map not)
  | .call f args, ρ => .of ((ev C args ρ).l.bind (C.fn f))
  | .gen f args, ρ => .iter ((ev C args ρ).l.bind (C.gn f))
  | .bi f args, ρ => .of ((ev C args ρ).lt.bind (dbi f))
  | .rng args, ρ => .iter ((ev C args ρ).lt.bind drange)
  | .zip a b, ρ => .iter ((ev C a ρ).e.bind λ x => (ev C b ρ).e.bind λ y => match x, y with
      | .lst x, .lst y => if flatL x && flatL y then some ((x.zip y).map λ p => .tup [p.1, p.2]) else none
      | _, _ => none)
  | .join sep e, ρ => .of ((ev C e ρ).t.bind (djoin sep))
  | .splt s, _ => .of (dsplit s)
  | .getD e d, ρ => .of ((ev C e ρ).t.bind λ a => (ev C d ρ).t.bind λ b => dgetD C.tok a b)
  | .notTok e, ρ => .test ((ev C e ρ).t.bind (dnotTok C.tok))
  | .comp elt tg it cond caps, ρ => .of (mkComp (needsTup it) (caps.isEmpty) ((ev C it ρ).it.bind λ xs => compGo (λ x => (bindT tg x (mask caps ρ)).bind λ ρ' => (ev C cond ρ').b.bind λ c => if c then (ev C elt ρ').e.map λ d => [d] else some []) xs))
  | .comp2 elt tg1 it1 tg2 it2 cond caps, ρ => .of (mkComp false false ((ev C it1 ρ).it.bind λ xs => compGo (λ x => (bindT tg1 x (mask caps ρ)).bind λ ρ1 => (ev C it2 ρ1).it.bind λ ys =>
      compGo (λ y => (bindT tg2 y ρ1).bind λ ρ' => (ev C cond ρ').b.bind λ c => if c then (ev C elt ρ').e.map λ d => [d] else some []) ys) xs))
noncomputable def isFresh : PE → Bool
  | .bin .. | .slc .. | .lst .. | .comp .. | .comp2 .. => true
  | _ => false
noncomputable def isGlob (sc : Scope) (x : Str) : Bool := sc.names.lookup x == some .globalImplicit && x != ("__debug__" : Str)
noncomputable def okVar (nm : List Str) (i : Nat) (x : Str) : Bool := nm[i]? == some x && x != ("__debug__" : Str) && x != ("__classdict__" : Str) && x != Str.empty
noncomputable def Tg.ids : Tg → List Nat
  | .one i => [i]
  | .many is => is
noncomputable def tgDisj (a b : Tg) : Bool := b.ids.all λ i => !a.ids.contains i
theorem dite_ok {c : Prop} [i : Decidable c] {f : c → Bool} {P : Prop} (h : dite c f (λ _ => false) = true) (H : ∀ hc, f hc = true → P) : P := by
  cases i with
  | isTrue hc => exact H hc h
  | isFalse => exact no_eq h
noncomputable def onNil {α : Type} (l : List α) (b : Bool) : Bool := List.casesOn (motive := λ _ => Bool) l b λ _ _ => false
noncomputable def onCons {α : Type} (l : List α) (k : α → List α → Bool) : Bool := List.casesOn (motive := λ _ => Bool) l false k
noncomputable def onOne {α : Type} (l : List α) (k : α → Bool) : Bool := onCons l λ a r => onNil r (k a)
noncomputable def onTwo {α : Type} (l : List α) (k : α → α → Bool) : Bool := onCons l λ a r => onOne r (k a)
noncomputable def onNone {α : Type} (o : Option α) (b : Bool) : Bool := Option.casesOn (motive := λ _ => Bool) o b λ _ => false
noncomputable def onSome {α : Type} (o : Option α) (k : α → Bool) : Bool := Option.casesOn (motive := λ _ => Bool) o false k
theorem onNil_ok {α : Type} {P : List α → Prop} {l : List α} {b : Bool} (h : onNil l b = true) (H : b = true → P []) : P l := by
  cases l with
  | nil => exact H h
  | cons => exact no_eq h
theorem onCons_ok {α : Type} {P : List α → Prop} {l : List α} {k : α → List α → Bool} (h : onCons l k = true) (H : ∀ a r, k a r = true → P (a :: r)) : P l := by
  cases l with
  | nil => exact no_eq h
  | cons a r => exact H a r h
theorem onOne_ok {α : Type} {P : List α → Prop} {l : List α} {k : α → Bool} (h : onOne l k = true) (H : ∀ a, k a = true → P [a]) : P l :=
  onCons_ok h λ a _ h => onNil_ok (P := λ r => P (a :: r)) h (H a)
theorem onTwo_ok {α : Type} {P : List α → Prop} {l : List α} {k : α → α → Bool} (h : onTwo l k = true) (H : ∀ a b, k a b = true → P [a, b]) : P l :=
  onCons_ok h λ a _ h => onOne_ok (P := λ r => P (a :: r)) h (H a)
theorem onNone_ok {α : Type} {P : Option α → Prop} {o : Option α} {b : Bool} (h : onNone o b = true) (H : b = true → P none) : P o := by
  cases o with
  | none => exact H h
  | some => exact no_eq h
theorem onSome_ok {α : Type} {P : Option α → Prop} {o : Option α} {k : α → Bool} (h : onSome o k = true) (H : ∀ a, k a = true → P (some a)) : P o := by
  cases o with
  | none => exact no_eq h
  | some a => exact H a h
theorem deq {α : Type} [DecidableEq α] {P : α → Prop} {a b : α} (h : decide (a = b) = true) (x : P b) : P a := by
  have h := of_decide_eq_true h
  subst h; exact x
theorem beqS {P : Str → Prop} {a b : Str} (h : (a == b) = true) (x : P b) : P a := by
  have h := eq_of_beq h
  subst h; exact x
noncomputable def onName (e : Expr) (k : Str → Bool) : Bool := dite (e.ctorIdx = 23) (λ h => Expr.Name.elim (motive_1 := λ _ => Bool) e h λ x p => k x) λ _ => false
theorem onName_ok {P : Expr → Prop} {e : Expr} {k : Str → Bool} (h : onName e k = true) (H : ∀ x p, k x = true → P (.Name x p)) : P e :=
  dite_ok h λ hc hk => Expr.Name.elim (motive_1 := λ e => ∀ hc, Expr.Name.elim (motive_1 := λ _ => Bool) e hc (λ x p => k x) = true → P e) e hc (λ x p _ hk => H x p hk) hc hk
noncomputable def onConst (e : Expr) (k : Const → Bool) : Bool := dite (e.ctorIdx = 19) (λ h => Expr.Constant.elim (motive_1 := λ _ => Bool) e h λ c i p => k c) λ _ => false
theorem onConst_ok {P : Expr → Prop} {e : Expr} {k : Const → Bool} (h : onConst e k = true) (H : ∀ c i p, k c = true → P (.Constant c i p)) : P e :=
  dite_ok h λ hc hk => Expr.Constant.elim (motive_1 := λ e => ∀ hc, Expr.Constant.elim (motive_1 := λ _ => Bool) e hc (λ c i p => k c) = true → P e) e hc (λ c i p _ hk => H c i p hk) hc hk
noncomputable def onBin (e : Expr) (k : Expr → Operator → Expr → Bool) : Bool := dite (e.ctorIdx = 2) (λ h => Expr.BinOp.elim (motive_1 := λ _ => Bool) e h λ l o r p => k l o r) λ _ => false
theorem onBin_ok {P : Expr → Prop} {e : Expr} {k : Expr → Operator → Expr → Bool} (h : onBin e k = true) (H : ∀ l o r p, k l o r = true → P (.BinOp l o r p)) : P e :=
  dite_ok h λ hc hk => Expr.BinOp.elim (motive_1 := λ e => ∀ hc, Expr.BinOp.elim (motive_1 := λ _ => Bool) e hc (λ l o r p => k l o r) = true → P e) e hc (λ l o r p _ hk => H l o r p hk) hc hk
noncomputable def onUn (e : Expr) (k : UnaryOp → Expr → Bool) : Bool := dite (e.ctorIdx = 3) (λ h => Expr.UnaryOp.elim (motive_1 := λ _ => Bool) e h λ o x p => k o x) λ _ => false
theorem onUn_ok {P : Expr → Prop} {e : Expr} {k : UnaryOp → Expr → Bool} (h : onUn e k = true) (H : ∀ o x p, k o x = true → P (.UnaryOp o x p)) : P e :=
  dite_ok h λ hc hk => Expr.UnaryOp.elim (motive_1 := λ e => ∀ hc, Expr.UnaryOp.elim (motive_1 := λ _ => Bool) e hc (λ o x p => k o x) = true → P e) e hc (λ o x p _ hk => H o x p hk) hc hk
noncomputable def onSub (e : Expr) (k : Expr → Expr → Bool) : Bool := dite (e.ctorIdx = 21) (λ h => Expr.Subscript.elim (motive_1 := λ _ => Bool) e h λ x i p => k x i) λ _ => false
theorem onSub_ok {P : Expr → Prop} {e : Expr} {k : Expr → Expr → Bool} (h : onSub e k = true) (H : ∀ x i p, k x i = true → P (.Subscript x i p)) : P e :=
  dite_ok h λ hc hk => Expr.Subscript.elim (motive_1 := λ e => ∀ hc, Expr.Subscript.elim (motive_1 := λ _ => Bool) e hc (λ x i p => k x i) = true → P e) e hc (λ x i p _ hk => H x i p hk) hc hk
noncomputable def onSlice (e : Expr) (k : Option Expr → Option Expr → Bool) : Bool := dite (e.ctorIdx = 26) (λ h => Expr.Slice.elim (motive_1 := λ _ => Bool) e h λ lo hi st p => onNone st (k lo hi)) λ _ => false
theorem onSlice_ok {P : Expr → Prop} {e : Expr} {k : Option Expr → Option Expr → Bool} (h : onSlice e k = true) (H : ∀ lo hi p, k lo hi = true → P (.Slice lo hi none p)) : P e :=
  dite_ok h λ hc hk => Expr.Slice.elim (motive_1 := λ e => ∀ hc, Expr.Slice.elim (motive_1 := λ _ => Bool) e hc (λ lo hi st p => onNone st (k lo hi)) = true → P e) e hc (λ lo hi st p _ hk => onNone_ok (P := λ st => P (.Slice lo hi st p)) hk (H lo hi p)) hc hk
noncomputable def onTup (e : Expr) (k : List Expr → Bool) : Bool := dite (e.ctorIdx = 25) (λ h => Expr.Tuple.elim (motive_1 := λ _ => Bool) e h λ xs i p => k xs) λ _ => false
theorem onTup_ok {P : Expr → Prop} {e : Expr} {k : List Expr → Bool} (h : onTup e k = true) (H : ∀ xs i p, k xs = true → P (.Tuple xs i p)) : P e :=
  dite_ok h λ hc hk => Expr.Tuple.elim (motive_1 := λ e => ∀ hc, Expr.Tuple.elim (motive_1 := λ _ => Bool) e hc (λ xs i p => k xs) = true → P e) e hc (λ xs i p _ hk => H xs i p hk) hc hk
noncomputable def onLst (e : Expr) (k : List Expr → Bool) : Bool := dite (e.ctorIdx = 24) (λ h => Expr.List.elim (motive_1 := λ _ => Bool) e h λ xs p => k xs) λ _ => false
theorem onLst_ok {P : Expr → Prop} {e : Expr} {k : List Expr → Bool} (h : onLst e k = true) (H : ∀ xs p, k xs = true → P (.List xs p)) : P e :=
  dite_ok h λ hc hk => Expr.List.elim (motive_1 := λ e => ∀ hc, Expr.List.elim (motive_1 := λ _ => Bool) e hc (λ xs p => k xs) = true → P e) e hc (λ xs p _ hk => H xs p hk) hc hk
noncomputable def onIte (e : Expr) (k : Expr → Expr → Expr → Bool) : Bool := dite (e.ctorIdx = 5) (λ h => Expr.IfExp.elim (motive_1 := λ _ => Bool) e h λ c a b p => k c a b) λ _ => false
theorem onIte_ok {P : Expr → Prop} {e : Expr} {k : Expr → Expr → Expr → Bool} (h : onIte e k = true) (H : ∀ c a b p, k c a b = true → P (.IfExp c a b p)) : P e :=
  dite_ok h λ hc hk => Expr.IfExp.elim (motive_1 := λ e => ∀ hc, Expr.IfExp.elim (motive_1 := λ _ => Bool) e hc (λ c a b p => k c a b) = true → P e) e hc (λ c a b p _ hk => H c a b p hk) hc hk
noncomputable def onCmp (e : Expr) (k : Expr → List CmpOp → List Expr → Bool) : Bool := dite (e.ctorIdx = 15) (λ h => Expr.Compare.elim (motive_1 := λ _ => Bool) e h λ l os rs p => k l os rs) λ _ => false
theorem onCmp_ok {P : Expr → Prop} {e : Expr} {k : Expr → List CmpOp → List Expr → Bool} (h : onCmp e k = true) (H : ∀ l os rs p, k l os rs = true → P (.Compare l os rs p)) : P e :=
  dite_ok h λ hc hk => Expr.Compare.elim (motive_1 := λ e => ∀ hc, Expr.Compare.elim (motive_1 := λ _ => Bool) e hc (λ l os rs p => k l os rs) = true → P e) e hc (λ l os rs p _ hk => H l os rs p hk) hc hk
noncomputable def onBool (e : Expr) (k : BoolOp → List Expr → Bool) : Bool := dite (e.ctorIdx = 0) (λ h => Expr.BoolOp.elim (motive_1 := λ _ => Bool) e h λ o xs p => k o xs) λ _ => false
theorem onBool_ok {P : Expr → Prop} {e : Expr} {k : BoolOp → List Expr → Bool} (h : onBool e k = true) (H : ∀ o xs p, k o xs = true → P (.BoolOp o xs p)) : P e :=
  dite_ok h λ hc hk => Expr.BoolOp.elim (motive_1 := λ e => ∀ hc, Expr.BoolOp.elim (motive_1 := λ _ => Bool) e hc (λ o xs p => k o xs) = true → P e) e hc (λ o xs p _ hk => H o xs p hk) hc hk
noncomputable def onCall (e : Expr) (k : Expr → List Expr → Pos → Bool) : Bool := dite (e.ctorIdx = 16) (λ h => Expr.Call.elim (motive_1 := λ _ => Bool) e h λ f xs kw p => onNil kw (k f xs p)) λ _ => false
theorem onCall_ok {P : Expr → Prop} {e : Expr} {k : Expr → List Expr → Pos → Bool} (h : onCall e k = true) (H : ∀ f xs p, k f xs p = true → P (.Call f xs [] p)) : P e :=
  dite_ok h λ hc hk => Expr.Call.elim (motive_1 := λ e => ∀ hc, Expr.Call.elim (motive_1 := λ _ => Bool) e hc (λ f xs kw p => onNil kw (k f xs p)) = true → P e) e hc (λ f xs kw p _ hk => onNil_ok (P := λ kw => P (.Call f xs kw p)) hk (H f xs p)) hc hk
noncomputable def onAttr (e : Expr) (k : Expr → Str → Pos → Bool) : Bool := dite (e.ctorIdx = 20) (λ h => Expr.Attribute.elim (motive_1 := λ _ => Bool) e h λ o x p => k o x p) λ _ => false
theorem onAttr_ok {P : Expr → Prop} {e : Expr} {k : Expr → Str → Pos → Bool} (h : onAttr e k = true) (H : ∀ o x p , k o x p = true → P (.Attribute o x p)) : P e :=
  dite_ok h λ hc hk => Expr.Attribute.elim (motive_1 := λ e => ∀ hc, Expr.Attribute.elim (motive_1 := λ _ => Bool) e hc (λ o x p => k o x p) = true → P e) e hc (λ o x p _ hk => H o x p  hk) hc hk
noncomputable def onComp (e : Expr) (k : Expr → List Comprehension → Scope → Bool) : Bool := dite (e.ctorIdx = 8) (λ h => Expr.ListComp.elim (motive_1 := λ _ => Bool) e h λ x gs cs p => k x gs cs) λ _ => false
theorem onComp_ok {P : Expr → Prop} {e : Expr} {k : Expr → List Comprehension → Scope → Bool} (h : onComp e k = true) (H : ∀ x gs cs p, k x gs cs = true → P (.ListComp x gs cs p)) : P e :=
  dite_ok h λ hc hk => Expr.ListComp.elim (motive_1 := λ e => ∀ hc, Expr.ListComp.elim (motive_1 := λ _ => Bool) e hc (λ x gs cs p => k x gs cs) = true → P e) e hc (λ x gs cs p _ hk => H x gs cs p hk) hc hk
noncomputable def tgGo (f : Nat → Expr → Bool) : List Nat → List Expr → Bool
  | [], es => onNil es true
  | i :: is, es => onCons es λ e r => f i e && tgGo f is r
noncomputable def okTg (nm : List Str) (sc : Scope) (i : Nat) (e : Expr) : Bool := onName e λ x => okVar nm i x && sc.names.lookup x == some .local
noncomputable def mTg (nm : List Str) (sc : Scope) : Tg → Expr → Bool
  | .one i => λ e => okTg nm sc i e
  | .many is => λ e => onTup e λ es => tgGo (okTg nm sc) is es
noncomputable def capsOk (nm : List Str) (cs : Scope) (caps : List Nat) : Bool := caps.all λ i => i != 0 && match nm[i]? with
  | some x => cs.names.lookup x == some .free
  | none => false
noncomputable def scopeOk (sc cs : Scope) : Bool := cs.kind == .function && cs.names.all λ p => match p.2 with
  | .local => cs.names.lookup p.1 == some .local
  | .free => sc.names.lookup p.1 == some .cell && cs.names.lookup p.1 == some .free
  | .globalImplicit => true
  | _ => false
noncomputable def isSlice : Expr → Bool | .Slice .. => true | _ => false
noncomputable def isTrueP : PE → Bool | .cB true => true | _ => false
noncomputable def partB (f : Expr → Bool) (p : PE) : Option Expr → Bool
  | none => absent p
  | some x => !absent p && f x
noncomputable def ifsB (f : Expr → Bool) (cond : PE) (ifs : List Expr) : Bool := match ifs with
  | [] => isTrueP cond
  | c :: r => r.isEmpty && f c
mutual
noncomputable def mt (nm : List Str) : PE → Scope → Expr → Bool
  | .var i => λ _ e => onName e λ x => okVar nm i x
  | .cI i => λ _ e => onConst e λ c => decide (c = .int i)
  | .cF b => λ _ e => onConst e λ c => decide (c = .float b)
  | .cS s => λ _ e => onConst e λ c => decide (c = .str s)
  | .cB b => λ _ e => onConst e λ c => decide (c = .bool b)
  | .cN => λ _ e => onConst e λ c => decide (c = .none)
  | .glob x => λ sc e => onName e λ y => y == x && isGlob sc x
  | .bin op l r => λ sc e => onBin e λ a o b => decide (o = op) && (mt nm l sc a && mt nm r sc b)
  | .neg p => λ sc e => onUn e λ o a => decide (o = .USub) && mt nm p sc a
  | .not_ p => λ sc e => onUn e λ o a => decide (o = .Not) && mt nm p sc a
  | .sub p i => λ sc e => onSub e λ a b => !isSlice b && (mt nm p sc a && mt nm i sc b)
  | .slc p lo hi => λ sc e => onSub e λ a b => onSlice b λ x y => mt nm p sc a && (partB (λ x => mt nm lo sc x) lo x && partB (λ x => mt nm hi sc x) hi y)
  | .tup es => λ sc e => onTup e λ xs => ml nm es sc xs
  | .lst es => λ sc e => onLst e λ xs => ml nm es sc xs
  | .ite c a b => λ sc e => onIte e λ x y z => mt nm c sc x && (mt nm a sc y && mt nm b sc z)
  | .cmp op l r => λ sc e => onCmp e λ x os rs => onOne os λ o => onOne rs λ y => decide (o = op) && (!behindInMarks op y && (mt nm l sc x && mt nm r sc y))
  | .chain o1 o2 a b c => λ sc e => onCmp e λ x os rs => onTwo os λ p q => onTwo rs λ y z => decide (p = o1) && (decide (q = o2) && (!behindInMarks o2 z && (mt nm a sc x && (mt nm b sc y && mt nm c sc z))))
  | .and_ a b => λ sc e => onBool e λ o xs => onTwo xs λ x y => decide (o = .And) && (mt nm a sc x && mt nm b sc y)
  | .or_ a b => λ sc e => onBool e λ o xs => onTwo xs λ x y => decide (o = .Or) && (mt nm a sc x && mt nm b sc y)
  | .call f args => λ sc e => onCall e λ h xs _ => onName h λ g => g == f && (isGlob sc f && (ml nm args sc xs && !xs.isEmpty))
  | .gen f args => λ sc e => onCall e λ h xs _ => onName h λ g => g == f && (isGlob sc f && (ml nm args sc xs && !xs.isEmpty))
  | .bi f args => λ sc e => onCall e λ h xs _ => onName h λ g => g == biName f && (isGlob sc (biName f) && (ml nm args sc xs && !xs.isEmpty))
  | .rng args => λ sc e => onCall e λ h xs _ => onName h λ g => g == ("range" : Str) && (isGlob sc "range" && (ml nm args sc xs && !xs.isEmpty))
  | .zip a b => λ sc e => onCall e λ h xs _ => onName h λ g => onTwo xs λ x y => g == ("zip" : Str) && (isGlob sc "zip" && (mt nm a sc x && mt nm b sc y))
  | .join sep p => λ sc e => onCall e λ h xs pos => onAttr h λ o x apos => onConst o λ c => onOne xs λ y => decide (c = .str sep) && (x == ("join" : Str) && (apos.endLine == pos.line && mt nm p sc y))
  | .splt s => λ _ e => onCall e λ h xs pos => onAttr h λ o x apos => onConst o λ c => onNil xs (decide (c = .str s) && (x == ("split" : Str) && apos.endLine == pos.line))
  | .getD p d => λ sc e => onCall e λ h xs pos => onAttr h λ o x apos => onName o λ g => onTwo xs λ y z => g == ("EXACT_TOKEN_TYPES" : Str) && (x == ("get" : Str) && (isGlob sc "EXACT_TOKEN_TYPES" && (apos.endLine == pos.line && (mt nm p sc y && mt nm d sc z))))
  | .notTok p => λ sc e => onCmp e λ x os rs => onOne os λ o => onOne rs λ y => onName y λ g => decide (o = .NotIn) && (g == ("EXACT_TOKEN_TYPES" : Str) && (isGlob sc "EXACT_TOKEN_TYPES" && mt nm p sc x))
  | .comp elt tg it cond caps => λ sc e => onComp e λ x gs cs => onOne gs λ g => decide (g.is_async = 0) && ((!needsTup it || onTup g.target λ _ => true) && (mt nm it sc g.iter && (mTg nm cs tg g.target && (scopeOk sc cs && (capsOk nm cs caps && (mt nm elt cs x && ifsB (λ c' => mt nm cond cs c') cond g.ifs))))))
  | .comp2 elt tg1 it1 tg2 it2 cond caps => λ sc e => onComp e λ x gs cs => onTwo gs λ g g' => decide (g.is_async = 0) && (decide (g'.is_async = 0) && (onNil g.ifs true && (tgDisj tg1 tg2 && (!needsTup it1 && (!needsTup it2 && (mt nm it1 sc g.iter && (mTg nm cs tg1 g.target && (mTg nm cs tg2 g'.target && (mt nm it2 cs g'.iter && (scopeOk sc cs && (capsOk nm cs caps && (mt nm elt cs x && ifsB (λ c' => mt nm cond cs c') cond g'.ifs))))))))))))
  | .cons _ _ => λ _ _ => false
  | .nil => λ _ _ => false
  | .abs => λ _ _ => false
noncomputable def ml (nm : List Str) : PE → Scope → List Expr → Bool
  | .nil => λ _ xs => onNil xs true
  | .cons e es => λ sc xs => onCons xs λ x r => mt nm e sc x && ml nm es sc r
  | _ => λ _ _ => false
end
inductive PS where
  | nil | seq (a b : PS) | frz (i : Nat)
  | asg (i : Nat) (e : PE) | asgO (i : Nat) (e : PE) | asgT (is : List Nat) (e : PE)
  | aug (i : Nat) (op : Operator) (e : PE) | augL (i : Nat) (e : PE)
  | app (i : Nat) (e : PE) | setI (i : Nat) (k e : PE) | augI (i : Nat) (op : Operator) (k e : PE)
  | ifs (c : PE) (a b : PS) | while_ (c : PE) (a : PS) | for_ (tg : Tg) (it : PE) (a : PS) | ret (e : PE)
inductive Fl where
  | next | brk | cont | ret (d : D)
noncomputable def setNat (l : List D) (k : Int) (d : D) : Option (List D) :=
  if smallI k then
    if 0 ≤ k then (if k.toNat < l.length then some (l.set k.toNat d) else none)
    else if -(l.length : Int) ≤ k then some (l.set (k + l.length).toNat d) else none
  else none
noncomputable def augI (op : Operator) (x y : Int) : Option Int :=
  match op with
  | .Add => some (x + y)
  | .Sub => some (x - y)
  | .FloorDiv => if smallI y && y != 0 then some (x.fdiv y) else none
  | _ => none
noncomputable def isVar : PE → Option Nat
  | .var j => some j
  | _ => none
noncomputable def ownAt (i j : Nat) (o : Option Slot) : Option (List D) := o.bind λ s => match s with
  | .own es => if j ≠ i then some es else none
  | _ => none
noncomputable def freshAt (b : Bool) (o : Option D) : Option (List D) := if b then o.bind λ d => match d with
  | .lst es => some es
  | _ => none else none
noncomputable def augSrc (C : Cx) (i : Nat) (e : PE) (ρ : List Slot) : Option (List D) := match isVar e with
  | some j => ownAt i j ρ[j]?
  | none => freshAt (isFresh e) (ev C e ρ).e
abbrev KT := Fl → List Slot → Prop
noncomputable def vcFor (body : List Slot → KT → Prop) (tg : Tg) : List D → List Slot → KT → Prop
  | [], ρ, K => K .next ρ
  | x :: xs, ρ, K => ∃ ρ', bindT tg x ρ = some ρ' ∧ body ρ' λ fl ρ'' => match fl with
      | .next => vcFor body tg xs ρ'' K
      | .cont => vcFor body tg xs ρ'' K
      | .brk => K .next ρ''
      | .ret d => K (.ret d) ρ''
noncomputable def vcWhile (test : List Slot → Option Bool) (body : List Slot → KT → Prop) : Nat → List Slot → KT → Prop
  | 0, _, _ => False
  | n + 1, ρ, K => ∃ b, test ρ = some b ∧ if b then body ρ λ fl ρ'' => match fl with
      | .next => vcWhile test body n ρ'' K
      | .cont => vcWhile test body n ρ'' K
      | .brk => K .next ρ''
      | .ret d => K (.ret d) ρ'' else K .next ρ
noncomputable def vc (C : Cx) : PS → List Slot → KT → Prop
  | .nil, ρ, K => K .next ρ
  | .seq a b, ρ, K => vc C a ρ λ fl ρ' => match fl with
      | .next => vc C b ρ' K
      | f => K f ρ'
  | .frz i, ρ, K => ∃ ds, ρ[i]? = some (.own ds) ∧ K .next (ρ.set i (.fro (.lst ds)))
  | .asg i e, ρ, K => ∃ d, (ev C e ρ).e = some d ∧ K .next (ρ.set i (.fro d))
  | .asgO i e, ρ, K => ∃ ds, (ev C e ρ).e = some (.lst ds) ∧ K .next (ρ.set i (.own ds))
  | .asgT is e, ρ, K => ∃ d ρ', (ev C e ρ).e = some d ∧ bindT (.many is) d ρ = some ρ' ∧ K .next ρ'
  | .aug i op e, ρ, K => ∃ o d r, ρ[i]? = some (.fro (.int o)) ∧ (ev C e ρ).e = some (.int d) ∧ augI op o d = some r ∧ K .next (ρ.set i (.fro (.int r)))
  | .augL i e, ρ, K => ∃ ds es, ρ[i]? = some (.own ds) ∧ augSrc C i e ρ = some es ∧ ds.length + es.length ≤ 16777216 ∧ K .next (ρ.set i (.own (ds ++ es)))
  | .app i e, ρ, K => ∃ ds d, ρ[i]? = some (.own ds) ∧ (ev C e ρ).e = some d ∧ ds.length ≤ 16777000 ∧ K .next (ρ.set i (.own (ds ++ [d])))
  | .setI i k e, ρ, K => ∃ ds n d ds', ρ[i]? = some (.own ds) ∧ (ev C e ρ).e = some d ∧ (ev C k ρ).e = some (.int n) ∧ setNat ds n d = some ds' ∧ K .next (ρ.set i (.own ds'))
  | .augI i op k e, ρ, K => ∃ ds n o d r ds', ρ[i]? = some (.own ds) ∧ (ev C k ρ).e = some (.int n) ∧ dsub (.lst ds) (.int n) = some (.int o) ∧ (ev C e ρ).e = some (.int d) ∧ augI op o d = some r ∧ setNat ds n (.int r) = some ds' ∧ K .next (ρ.set i (.own ds'))
  | .ifs c a b, ρ, K => ∃ t, (ev C c ρ).b = some t ∧ if t then vc C a ρ K else vc C b ρ K
  | .while_ c a, ρ, K => ∃ n, vcWhile (λ ρ => (ev C c ρ).b) (vc C a) n ρ K
  | .for_ tg it a, ρ, K => ∃ xs, (ev C it ρ).it = some xs ∧ vcFor (vc C a) tg xs ρ K
  | .ret e, ρ, K => ∃ d, (ev C e ρ).e = some d ∧ K (.ret d) ρ
noncomputable def isComp : Expr → Bool
  | .ListComp .. | .SetComp .. | .DictComp .. => true
  | _ => false
noncomputable def isTupE : Expr → Bool
  | .Tuple .. | .List .. => true
  | _ => false
noncomputable def stOk (sc : Scope) (x : Str) : Bool := sc.names.lookup x == some .local || sc.names.lookup x == some .cell
noncomputable def okTgS (nm : List Str) (sc : Scope) (i : Nat) (e : Expr) : Bool := onName e λ x => okVar nm i x && stOk sc x
noncomputable def mTgS (nm : List Str) (sc : Scope) : Tg → Expr → Bool
  | .one i => λ e => okTgS nm sc i e
  | .many is => λ e => onTup e λ es => tgGo (okTgS nm sc) is es
noncomputable def onAssign (e : Stmt) (k : Expr → Expr → Bool) : Bool := dite (e.ctorIdx = 5) (λ h => Stmt.Assign.elim (motive_2 := λ _ => Bool) e h λ ts v p => onOne ts λ t => k t v) λ _ => false
theorem onAssign_ok {P : Stmt → Prop} {e : Stmt} {k : Expr → Expr → Bool} (h : onAssign e k = true) (H : ∀ t v p, k t v = true → P (.Assign [t] v p)) : P e :=
  dite_ok h λ hc hk => Stmt.Assign.elim (motive_2 := λ e => ∀ hc, Stmt.Assign.elim (motive_2 := λ _ => Bool) e hc (λ ts v p => onOne ts λ t => k t v) = true → P e) e hc (λ ts v p _ hk => onOne_ok (P := λ ts => P (.Assign ts v p)) hk λ t hk => H t v p hk) hc hk
noncomputable def onAug (e : Stmt) (k : Expr → Operator → Expr → Bool) : Bool := dite (e.ctorIdx = 7) (λ h => Stmt.AugAssign.elim (motive_2 := λ _ => Bool) e h λ t o v p => k t o v) λ _ => false
theorem onAug_ok {P : Stmt → Prop} {e : Stmt} {k : Expr → Operator → Expr → Bool} (h : onAug e k = true) (H : ∀ t o v p, k t o v = true → P (.AugAssign t o v p)) : P e :=
  dite_ok h λ hc hk => Stmt.AugAssign.elim (motive_2 := λ e => ∀ hc, Stmt.AugAssign.elim (motive_2 := λ _ => Bool) e hc (λ t o v p => k t o v) = true → P e) e hc (λ t o v p _ hk => H t o v p hk) hc hk
noncomputable def onExprS (e : Stmt) (k : Expr → Bool) : Bool := dite (e.ctorIdx = 24) (λ h => Stmt.Expr.elim (motive_2 := λ _ => Bool) e h λ v p => k v) λ _ => false
theorem onExprS_ok {P : Stmt → Prop} {e : Stmt} {k : Expr → Bool} (h : onExprS e k = true) (H : ∀ v p, k v = true → P (.Expr v p)) : P e :=
  dite_ok h λ hc hk => Stmt.Expr.elim (motive_2 := λ e => ∀ hc, Stmt.Expr.elim (motive_2 := λ _ => Bool) e hc (λ v p => k v) = true → P e) e hc (λ v p _ hk => H v p hk) hc hk
noncomputable def onIf (e : Stmt) (k : Expr → List Stmt → List Stmt → Bool) : Bool := dite (e.ctorIdx = 12) (λ h => Stmt.If.elim (motive_2 := λ _ => Bool) e h λ c a b p => k c a b) λ _ => false
theorem onIf_ok {P : Stmt → Prop} {e : Stmt} {k : Expr → List Stmt → List Stmt → Bool} (h : onIf e k = true) (H : ∀ c a b p, k c a b = true → P (.If c a b p)) : P e :=
  dite_ok h λ hc hk => Stmt.If.elim (motive_2 := λ e => ∀ hc, Stmt.If.elim (motive_2 := λ _ => Bool) e hc (λ c a b p => k c a b) = true → P e) e hc (λ c a b p _ hk => H c a b p hk) hc hk
noncomputable def onWhile (e : Stmt) (k : Expr → List Stmt → Bool) : Bool := dite (e.ctorIdx = 11) (λ h => Stmt.While.elim (motive_2 := λ _ => Bool) e h λ c a l p => onNil l (k c a)) λ _ => false
theorem onWhile_ok {P : Stmt → Prop} {e : Stmt} {k : Expr → List Stmt → Bool} (h : onWhile e k = true) (H : ∀ c a p, k c a = true → P (.While c a [] p)) : P e :=
  dite_ok h λ hc hk => Stmt.While.elim (motive_2 := λ e => ∀ hc, Stmt.While.elim (motive_2 := λ _ => Bool) e hc (λ c a l p => onNil l (k c a)) = true → P e) e hc (λ c a l p _ hk => onNil_ok (P := λ l => P (.While c a l p)) hk (H c a p)) hc hk
noncomputable def onFor (e : Stmt) (k : Expr → Expr → List Stmt → Bool) : Bool := dite (e.ctorIdx = 9) (λ h => Stmt.For.elim (motive_2 := λ _ => Bool) e h λ t i a l p => onNil l (k t i a)) λ _ => false
theorem onFor_ok {P : Stmt → Prop} {e : Stmt} {k : Expr → Expr → List Stmt → Bool} (h : onFor e k = true) (H : ∀ t i a p, k t i a = true → P (.For t i a [] p)) : P e :=
  dite_ok h λ hc hk => Stmt.For.elim (motive_2 := λ e => ∀ hc, Stmt.For.elim (motive_2 := λ _ => Bool) e hc (λ t i a l p => onNil l (k t i a)) = true → P e) e hc (λ t i a l p _ hk => onNil_ok (P := λ l => P (.For t i a l p)) hk (H t i a p)) hc hk
noncomputable def onRet (e : Stmt) (k : Expr → Bool) : Bool := dite (e.ctorIdx = 3) (λ h => Stmt.Return.elim (motive_2 := λ _ => Bool) e h λ v p => onSome v k) λ _ => false
theorem onRet_ok {P : Stmt → Prop} {e : Stmt} {k : Expr → Bool} (h : onRet e k = true) (H : ∀ v p, k v = true → P (.Return (some v) p)) : P e :=
  dite_ok h λ hc hk => Stmt.Return.elim (motive_2 := λ e => ∀ hc, Stmt.Return.elim (motive_2 := λ _ => Bool) e hc (λ v p => onSome v k) = true → P e) e hc (λ v p _ hk => onSome_ok (P := λ v => P (.Return v p)) hk λ v hk => H v p hk) hc hk
noncomputable def frzB (a : PS) (x : Nat → Bool) (y : Bool) : Bool := match a with
  | .frz i => x i
  | _ => y
mutual
noncomputable def m1 (nm : List Str) (sc : Scope) : PS → Stmt → Bool
  | .asg i e => λ st => onAssign st λ t v => onName t λ x => okVar nm i x && (stOk sc x && (!isComp v && mt nm e sc v))
  | .asgO i e => λ st => onAssign st λ t v => onName t λ x => okVar nm i x && (stOk sc x && (isFresh e && mt nm e sc v))
  | .asgT is e => λ st => onAssign st λ t v => mTgS nm sc (.many is) t && (!isTupE v && mt nm e sc v)
  | .aug i op e => λ st => onAug st λ t o v => onName t λ x => decide (o = op) && (okVar nm i x && (stOk sc x && mt nm e sc v))
  | .augL i e => λ st => onAug st λ t o v => onName t λ x => decide (o = .Add) && (okVar nm i x && (stOk sc x && mt nm e sc v))
  | .app i e => λ st => onExprS st λ c => onCall c λ h xs pos => onAttr h λ o y apos => onName o λ x => onOne xs λ v => y == ("append" : Str) && (okVar nm i x && (apos.endLine == pos.line && mt nm e sc v))
  | .setI i k e => λ st => onAssign st λ t v => onSub t λ o j => onName o λ x => okVar nm i x && (!isSlice j && (!isTupE v && (mt nm k sc j && mt nm e sc v)))
  | .augI i op k e => λ st => onAug st λ t a v => onSub t λ o j => onName o λ x => decide (a = op) && (okVar nm i x && (!isSlice j && (mt nm k sc j && mt nm e sc v)))
  | .ifs c a b => λ st => onIf st λ x y z => mt nm c sc x && (ms nm sc a y && ms nm sc b z)
  | .while_ c a => λ st => onWhile st λ x y => mt nm c sc x && ms nm sc a y
  | .for_ tg it a => λ st => onFor st λ t i b => !needsTup it && (mTgS nm sc tg t && (mt nm it sc i && ms nm sc a b))
  | .ret e => λ st => onRet st λ v => mt nm e sc v
  | .nil => λ _ => false
  | .frz _ => λ _ => false
  | .seq _ _ => λ _ => false
noncomputable def ms (nm : List Str) (sc : Scope) : PS → List Stmt → Bool
  | .nil => λ ss => onNil ss true
  | .seq a rest => λ ss => frzB a (λ i => i != 0 && ms nm sc rest ss) (onCons ss λ s r => m1 nm sc a s && ms nm sc rest r)
  | _ => λ _ => false
end
theorem FreshL.back {O s s₁ s₂ v ds} (x : FreshL O s₁ s₂ v ds) (k : ∀ b o, s.heap.get? b = some o → s₁.heap.get? b = some o) : FreshL O s s₂ v ds := by
  obtain ⟨a, vs, e, n, l, r⟩ := x
  refine ⟨a, vs, e, ?_, l, r⟩
  cases q : s.heap.get? a with
  | none => rfl
  | some o => rw [k a o q] at n; cases n
theorem St.oofL {F O₀ ow ρ s} (S : St F O₀ ow ρ s) : ∀ a, Oof O₀ ow ρ a → ∃ us, s.heap.IsList a us := by
  rintro a (q | ⟨i, ds, e, rfl⟩)
  · obtain ⟨vs, o, ho, r⟩ := S.old a q
    exact ⟨vs, o, S.fr.keep _ _ ho, r⟩
  · obtain ⟨y, ny⟩ : ∃ y, F.names[i]? = some y := ⟨F.names[i]'(S.len ▸ (List.getElem?_eq_some_iff.mp e).1), List.getElem?_eq_getElem _⟩
    obtain ⟨_, us, l, _⟩ := S.at_own e ny
    exact ⟨us, PlainList.isL l⟩
theorem St.oof {F O₀ ow ρ s} (S : St F O₀ ow ρ s) : ∀ a, Oof O₀ ow ρ a → ∃ o, s.heap.get? a = some o := λ a q => by
  obtain ⟨us, o, ho, _⟩ := S.oofL a q; exact ⟨o, ho⟩
structure Nx (wr : Addr → Prop) (wg : Nat → Prop) (s s' : Shared) : Prop where
  heap : ∀ b o, ¬ wr b → s.heap.get? b = some o → s'.heap.get? b = some o
  os : s'.os = s.os
  bare : AllBare s.gens → AllBare s'.gens
  gens : ∀ (i : Nat) (g : GenState), ¬ wg i → s.gens[i]? = some g → s'.gens[i]? = some g
theorem Nx.refl {wr wg s} : Nx wr wg s s := ⟨λ _ _ _ e => e, rfl, id, λ _ _ _ e => e⟩
theorem flat_has {O O' : Addr → Prop} {h h' : Heap} {d : D} {v : Value} (f : flatD d = true) (x : Has O h d v) : Has O' h' d v := by
  cases d <;> simp only [flatD, Bool.false_eq_true] at f <;> simpa only [Has] using x
theorem flat_hasL {O O' : Addr → Prop} {h h' : Heap} : ∀ {ds : List D} {vs : List Value}, flatL ds = true → HasL O h ds vs → HasL O' h' ds vs
  | [], vs, _, x => by rw [HasL] at x ⊢; exact x
  | d :: ds, vs, f, x => by
    rw [HasL] at x; obtain ⟨v, r, rfl, a, b⟩ := x
    simp only [flatL, List.all_cons, Bool.and_eq_true] at f
    exact hasL_cons (flat_has f.1 a) (flat_hasL f.2 b)
noncomputable def Standing (h : Heap) (b : Addr) : Prop := ∃ o, h.get? b = some o ∧ ∀ v, o.data ≠ .cell v
theorem Standing.fields {h : Heap} {b o vs} (e : h.get? b = some o) (d : o.data = .fields vs) : Standing h b := ⟨o, e, (λ _ q => by rw [d] at q; cases q)⟩
theorem Standing.seq {h : Heap} {b o vs n} (e : h.get? b = some o) (d : o.data = .seq vs n) : Standing h b := ⟨o, e, (λ _ q => by rw [d] at q; cases q)⟩
theorem Standing.li {h : Heap} {a l : Addr} {i : Nat} (x : h.IsListIter a l i) : Standing h a := let ⟨_, e, _, d⟩ := x; .fields e d
theorem Standing.ti {h : Heap} {a l : Addr} {i : Nat} (x : h.IsTupleIter a l i) : Standing h a := let ⟨_, e, _, d⟩ := x; .fields e d
theorem Standing.list {h : Heap} {a vs} (x : h.IsList a vs) : Standing h a := let ⟨_, e, _, _, d⟩ := x; .seq e d
theorem Standing.tuple {h : Heap} {a vs} (x : h.IsTuple a vs) : Standing h a := let ⟨_, e, _, _, d⟩ := x; .seq e d
structure ItS (h0 : Heap) (prog : Program) (w : World) (A : Around) (O : Addr → Prop) (t : Expr) (nt : Bool) (s₀ s : Shared) (I : Addr) (xs : List D) (wr ro : Addr → Prop) (wg : Nat → Prop)
    (P : Nat → Value → Shared → Prop) (Inv : Nat → Shared → Prop) (Mid : Nat → Value → Shared → Prop) (src : List D) (svs : List Value) : Prop where
  fresh : ∀ b, wr b → s₀.heap.get? b = none ∧ ∃ o, s.heap.get? b = some o
  freshG : ∀ j, wg j → s₀.gens.size ≤ j
  read : ∀ b, ro b → (∃ us, s.heap.IsList b us ∧ ¬ O b) ∨ ∃ us, s.heap.IsTuple b us
  init : Inv 0 s
  srcs : HasL O s.heap src svs
  kind : ((∀ i s₁ b, Inv i s₁ → wr b → NoSeq s₁.heap b) ∧ (∀ i v s₁ b, Mid i v s₁ → wr b → NoSeq s₁.heap b)) ∨ (nt = true ∧ flatL src = true ∧ (∃ es k p, t = .Tuple es k p) ∧ ∀ x ∈ xs, ∃ l, x = .tup l ∧ flatL l = true)
  alive : ∀ b, wr b ∨ ro b → (∀ i s₁, Inv i s₁ → Standing s₁.heap b) ∧ ∀ i v s₁, Mid i v s₁ → Standing s₁.heap b
  stable : ∀ i s₁ s₂, Inv i s₁ → (∀ b o, wr b ∨ ro b → s₁.heap.get? b = some o → s₂.heap.get? b = some o) → (∀ (j : Nat) (g : GenState), s₁.gens[j]? = some g → s₂.gens[j]? = some g) → (∀ b o, h0.get? b = some o → s₂.heap.get? b = some o) → Inv i s₂
  next : ∀ i s₁ (Q : Option Value → Shared → Prop) (E : Value → Shared → Prop), i < xs.length → Inv i s₁ → (∀ v s₂, P i v s₂ → Mid (i + 1) v s₂ → Nx wr wg s₁ s₂ → Q (some v) s₂) → wpAny (model prog w) A (pyNext (.ref I)) Q E s₁
  letGo : ∀ i v s₁ (Q : Unit → Shared → Prop) (E : Value → Shared → Prop), P i v s₁ → Mid (i + 1) v s₁ → (∀ s₂, P i v s₂ → Inv (i + 1) s₂ → Nx wr wg s₁ s₂ → Q () s₂) → wpAny (model prog w) A (letOwnedTupleGo t (.ref I) v) Q E s₁
  done : ∀ s₁ (Q : Option Value → Shared → Prop) (E : Value → Shared → Prop), Inv xs.length s₁ → (∀ s₂, Nx wr wg s₁ s₂ → Q none s₂) → wpAny (model prog w) A (pyNext (.ref I)) Q E s₁
  self : ∀ i s₁ (Q : Value → Shared → Prop) (E : Value → Shared → Prop), Inv i s₁ → Q (.ref I) s₁ → wpAny (model prog w) A (pyIter (.ref I)) Q E s₁
  val : ∀ i v s₁ O', i < xs.length → P i v s₁ → HasL O' s₁.heap src svs → ∃ x, xs[i]? = some x ∧ Has O' s₁.heap x v
noncomputable def ItSOk (h0 : Heap) (prog : Program) (w : World) (A : Around) (O : Addr → Prop) (t : Expr) (nt : Bool) (s₀ s : Shared) (it : Value) (xs : List D) : Prop :=
  ∃ I wr ro wg P Inv Mid src svs, it = .ref I ∧ ItS h0 prog w A O t nt s₀ s I xs wr ro wg P Inv Mid src svs
noncomputable def iterObj (o : Obj) : Prop := (∃ vs, o.data = .fields vs) ∧ (o.cls = .type "enumerate" ∨ o.cls = .type "str_iterator" ∨ o.cls = .type "str_ascii_iterator")
noncomputable def Wx (s0 s : Shared) (W : Addr → Prop) (b : Addr) : Prop := W b ∨ (s0.heap.get? b = none ∧ ∃ o, s.heap.get? b = some o ∧ iterObj o)
theorem Nx.wx {wr wg s s' s0} (x : Nx wr wg s s') : Nx (Wx s0 s wr) wg s s' := ⟨λ b o n e => x.heap b o (λ w => n (.inl w)) e, x.os, x.bare, x.gens⟩
theorem Nx.wider {wr wr' : Addr → Prop} {wg s s'} (x : Nx wr wg s s') (h : ∀ b, wr b → wr' b) : Nx wr' wg s s' := ⟨λ b o n e => x.heap b o (λ w => n (h b w)) e, x.os, x.bare, x.gens⟩
structure ItI (h0 : Heap) (prog : Program) (w : World) (A : Around) (O : Addr → Prop) (t : Expr) (nt : Bool) (s₀ s : Shared) (I : Addr) (xs : List D) (wr ro : Addr → Prop) (wg : Nat → Prop)
    (P : Nat → Value → Shared → Prop) (Inv : (Addr → Prop) → Nat → Shared → Prop) (Mid : (Addr → Prop) → Nat → Value → Shared → Prop) (src : List D) (svs : List Value) : Prop where
  fresh : ∀ b, wr b → s₀.heap.get? b = none ∧ ∃ o, s.heap.get? b = some o
  freshG : ∀ j, wg j → s₀.gens.size ≤ j
  read : ∀ b, ro b → (∃ us, s.heap.IsList b us ∧ ¬ O b) ∨ ∃ us, s.heap.IsTuple b us
  init : Inv wr 0 s
  srcs : HasL O s.heap src svs
  kind : ((∀ W i s₁ b, Inv W i s₁ → W b → NoSeq s₁.heap b) ∧ (∀ W i v s₁ b, Mid W i v s₁ → W b → NoSeq s₁.heap b)) ∨ (nt = true ∧ flatL src = true ∧ (∃ es k p, t = .Tuple es k p) ∧ ∀ x ∈ xs, ∃ l, x = .tup l ∧ flatL l = true)
  alive : ∀ W b, W b ∨ ro b → (∀ i s₁, Inv W i s₁ → Standing s₁.heap b) ∧ ∀ i v s₁, Mid W i v s₁ → Standing s₁.heap b
  stable : ∀ W i s₁ s₂, Inv W i s₁ → (∀ b o, W b ∨ ro b → s₁.heap.get? b = some o → s₂.heap.get? b = some o) → (∀ (j : Nat) (g : GenState), s₁.gens[j]? = some g → s₂.gens[j]? = some g) → (∀ b o, h0.get? b = some o → s₂.heap.get? b = some o) → (∀ b o vs, s₁.heap.get? b = some o → o.data = .fields vs → s₂.heap.get? b = some o) → Inv W i s₂
  next : ∀ W i s₁ (Q : Option Value → Shared → Prop) (E : Value → Shared → Prop), i < xs.length → Inv W i s₁ → AllBare s₁.gens → (∀ W' v s₂, P i v s₂ → Mid W' (i + 1) v s₂ → Nx (Wx s₀ s₁ W) wg s₁ s₂ → (∀ b, W' b → W b ∨ s₁.heap.get? b = none) → Q (some v) s₂) → wpAny (model prog w) A (pyNext (.ref I)) Q E s₁
  letGo : ∀ W i v s₁ (Q : Unit → Shared → Prop) (E : Value → Shared → Prop), P i v s₁ → Mid W (i + 1) v s₁ → (∀ s₂, P i v s₂ → Inv W (i + 1) s₂ → Nx (Wx s₀ s₁ W) wg s₁ s₂ → Q () s₂) → wpAny (model prog w) A (letOwnedTupleGo t (.ref I) v) Q E s₁
  done : ∀ W s₁ (Q : Option Value → Shared → Prop) (E : Value → Shared → Prop), Inv W xs.length s₁ → AllBare s₁.gens → (∀ s₂, Nx (Wx s₀ s₁ W) wg s₁ s₂ → Q none s₂) → wpAny (model prog w) A (pyNext (.ref I)) Q E s₁
  self : ∀ W i s₁ (Q : Value → Shared → Prop) (E : Value → Shared → Prop), Inv W i s₁ → Q (.ref I) s₁ → wpAny (model prog w) A (pyIter (.ref I)) Q E s₁
  val : ∀ i v s₁ O', i < xs.length → P i v s₁ → HasL O' s₁.heap src svs → ∃ x, xs[i]? = some x ∧ Has O' s₁.heap x v
noncomputable def ItOk (h0 : Heap) (prog : Program) (w : World) (A : Around) (O : Addr → Prop) (t : Expr) (nt : Bool) (s₀ s : Shared) (it : Value) (xs : List D) : Prop :=
  ∃ I wr ro wg P Inv Mid src svs, it = .ref I ∧ ItI h0 prog w A O t nt s₀ s I xs wr ro wg P Inv Mid src svs
theorem none_back {s₀ s₁ : Shared} (X : Ext s₀ s₁) {b : Addr} (h : s₁.heap.get? b = none) : s₀.heap.get? b = none := by
  cases e : s₀.heap.get? b with
  | none => rfl
  | some o => rw [X.heap b o e] at h; cases h
theorem Wx.back {s₀ s₁ s : Shared} (X : Ext s₀ s₁) {W b} (h : Wx s₁ s W b) : Wx s₀ s W b := h.imp id λ q => ⟨none_back X q.1, q.2⟩
theorem ItI.back {h0 prog w A O t nt s₀ s₁ s I xs wr ro wg P Inv Mid src svs} (q : ItI h0 prog w A O t nt s₁ s I xs wr ro wg P Inv Mid src svs) (X : Ext s₀ s₁) : ItI h0 prog w A O t nt s₀ s I xs wr ro wg P Inv Mid src svs := by
  refine ⟨λ b hb => ⟨none_back X (q.fresh b hb).1, (q.fresh b hb).2⟩, λ j hj => ?_, q.read, q.init, q.srcs, q.kind, q.alive, q.stable,
    λ W i s' Q E hi hI hb hQ => q.next W i s' Q E hi hI hb λ W' v s₂ hP hM N hW => hQ W' v s₂ hP hM (N.wider λ b hb => hb.back X) hW,
    λ W i v s' Q E hP hM hQ => q.letGo W i v s' Q E hP hM λ s₂ hP hI N => hQ s₂ hP hI (N.wider λ b hb => hb.back X),
    λ W s' Q E hI hb hQ => q.done W s' Q E hI hb λ s₂ N => hQ s₂ (N.wider λ b hb => hb.back X), q.self, q.val⟩
  have h1 := q.freshG j hj
  cases Nat.lt_or_ge j s₀.gens.size with
  | inr h2 => exact h2
  | inl h2 =>
    have h3 := X.gens j (s₀.gens[j]) (by simp [h2])
    have h4 : j < s₁.gens.size := (Array.getElem?_eq_some_iff.mp h3).1
    lia
theorem ItOk.back {h0 prog w A O t nt s₀ s₁ s it xs} (q : ItOk h0 prog w A O t nt s₁ s it xs) (X : Ext s₀ s₁) : ItOk h0 prog w A O t nt s₀ s it xs := by
  obtain ⟨I, wr, ro, wg, P, Inv, Mid, src, svs, e, q⟩ := q
  exact ⟨I, wr, ro, wg, P, Inv, Mid, src, svs, e, q.back X⟩
theorem ItSOk.dyn {h0 prog w A O t nt s₀ s it xs} (h : ItSOk h0 prog w A O t nt s₀ s it xs) : ItOk h0 prog w A O t nt s₀ s it xs := by
  obtain ⟨I, wr, ro, wg, P, Inv, Mid, src, svs, e, q⟩ := h
  refine ⟨I, wr, ro, wg, P, λ W i s => W = wr ∧ Inv i s, λ W i v s => W = wr ∧ Mid i v s, src, svs, e, q.fresh, q.freshG, q.read, ⟨rfl, q.init⟩, q.srcs, q.kind.imp (λ y => ⟨?_, ?_⟩) id, ?_, ?_, ?_, ?_, ?_, ?_, q.val⟩
  · rintro W i s₁ b ⟨rfl, h⟩ hb; exact y.1 i s₁ b h hb
  · rintro W i v s₁ b ⟨rfl, h⟩ hb; exact y.2 i v s₁ b h hb
  · rintro W b hb
    exact ⟨by rintro i s₁ ⟨rfl, h⟩; exact (q.alive b hb).1 i s₁ h, by rintro i v s₁ ⟨rfl, h⟩; exact (q.alive b hb).2 i v s₁ h⟩
  · rintro W i s₁ s₂ ⟨rfl, h⟩ k g z _; exact ⟨rfl, q.stable i s₁ s₂ h k g z⟩
  · rintro W i s₁ Q E hi ⟨rfl, h⟩ _ hQ; exact q.next i s₁ Q E hi h λ v s₂ hP hM N => hQ W v s₂ hP ⟨rfl, hM⟩ N.wx λ b hb => .inl hb
  · rintro W i v s₁ Q E hP ⟨rfl, h⟩ hQ; exact q.letGo i v s₁ Q E hP h λ s₂ hP hI N => hQ s₂ hP ⟨rfl, hI⟩ N.wx
  · rintro W s₁ Q E ⟨rfl, h⟩ _ hQ; exact q.done s₁ Q E h λ s₂ N => hQ s₂ N.wx
  · rintro W i s₁ Q E ⟨rfl, h⟩ hQ; exact q.self i s₁ Q E h hQ
section
variable {prog : Program} {w : World} {A : Around} {E : Value → Shared → Prop} {s : Shared} {O : Addr → Prop}
theorem letGo_plain {t : Expr} {I : Addr} {v : Value} {cls : String} {o : Obj} {Q : Unit → Shared → Prop} (ho : s.heap.get? I = some o) (hc : o.cls = .type cls)
    (hn : (["enumerate", "zip", "dict_itemiterator", "dict_reverseitemiterator", "odict_iterator", "itertools.zip_longest", "itertools.pairwise"] : List String).contains cls = false) (h : Q () s) :
    wpAny (model prog w) A (letOwnedTupleGo t (.ref I) v) Q E s := by
  have key : ∀ a, wpAny (model prog w) A (do
      let o ← load I
      match o.cls, o.data with
      | .type n, .fields vs =>
        if (["enumerate", "zip", "dict_itemiterator", "dict_reverseitemiterator", "odict_iterator", "itertools.zip_longest", "itertools.pairwise"] : List String).contains n && vs[0]? == some (rawInt a) then
          rule "for.unpacks-the-owned-tuple"
          updateField I 0 .none
      | _, _ => pure () : Sem Unit) Q E s := by
    intro a
    refine wpAny_bind (wpAny_load ho ?_)
    rw [hc]
    cases o.data <;> first
      | exact wpAny_pure h
      | (simp only [hn, Bool.false_and, Bool.false_eq_true, if_false]; exact wpAny_pure h)
  cases t <;> first
    | exact wpAny_pure h
    | (cases v <;> first
        | exact wpAny_pure h
        | exact key _)
theorem getElem?_of_toList {vs : Array Value} {n : Nat} {v : Value} (h : vs[n]? = some v) : vs.toList[n]? = some v := by simpa using h
theorem hasL_get' {O : Addr → Prop} {h : Heap} : ∀ {ds : List D} {vs : List Value} (n : Nat) {v : Value}, HasL O h ds vs → vs[n]? = some v → ∃ d, ds[n]? = some d ∧ Has O h d v
  | [], vs, n, v, x, e => by rw [HasL] at x; subst x; simp at e
  | d :: ds, vs, 0, v, x, e => by
    rw [HasL] at x; obtain ⟨u, r, rfl, a, b⟩ := x
    simp at e; subst e; exact ⟨d, rfl, a⟩
  | d :: ds, vs, n + 1, v, x, e => by
    rw [HasL] at x; obtain ⟨u, r, rfl, a, b⟩ := x
    simpa using hasL_get' n b (by simpa using e)
theorem noSeq_fields {h : Heap} {a : Addr} {o : Obj} {fs : Array Value} (e : h.get? a = some o) (d : o.data = .fields fs) : NoSeq h a := by
  rintro o' vs n e' d'
  rw [e] at e'; cases e'; rw [d] at d'; cases d'
theorem noSeq_li {h : Heap} {a l : Addr} {i : Nat} (x : h.IsListIter a l i) : NoSeq h a := by
  obtain ⟨o, e, _, d⟩ := x; exact noSeq_fields e d
theorem noSeq_ti {h : Heap} {a l : Addr} {i : Nat} (x : h.IsTupleIter a l i) : NoSeq h a := by
  obtain ⟨o, e, _, d⟩ := x; exact noSeq_fields e d
theorem iter_list (hh : A.handled = none) {l : Addr} {vs : Array Value} {xs : List D} {Q : Value → Shared → Prop} (hl : s.heap.IsList l vs) (nO : ¬ O l) (hx : HasL O s.heap xs vs.toList)
    {t : Expr} {nt : Bool} {h0 : Heap} (h : ∀ it s', Ext s s' → ItOk h0 prog w A O t nt s s' it xs → Q it s') : wpAny (model prog w) A (pyIter (.ref l)) Q E s := by
  have hlen := hasL_length hx
  simp only [Array.length_toList] at hlen
  refine wpAny_pyIter_list hl (h _ _ (.ofHeap (λ b o e => Heap.get?_push_of_some _ e) s.toks) ?_)
  have hlt : l < s.heap.objs.size := by obtain ⟨o, ho, _⟩ := hl; exact Heap.lt_size ho
  have W := Walks.list (prog := prog) (w := w) (A := A) hh s.heap.objs.size l (Nat.ne_of_lt hlt) vs
  refine ItSOk.dyn ?_
  refine ⟨s.heap.objs.size, (· = s.heap.objs.size), (· = l), λ _ => False, λ i v _ => vs[i]? = some v, λ i s' => s'.heap.IsListIter s.heap.objs.size l i ∧ s'.heap.IsList l vs, λ i _ s' => s'.heap.IsListIter s.heap.objs.size l i ∧ s'.heap.IsList l vs, xs, vs.toList, rfl, ?_⟩
  refine ⟨?_, λ _ f => f.elim, ?_, ?_, ?_, .inl ⟨λ i s₁ b hI e => by subst e; exact noSeq_li hI.1, λ i v s₁ b hI e => by subst e; exact noSeq_li hI.1⟩, ?_, ?_, ?_, ?_, ?_, ?_, ?_⟩
  · rintro b rfl; exact ⟨get_none_of_ge (Nat.le_refl _), _, Heap.get?_push_size _ rfl⟩
  · rintro b rfl; exact .inl ⟨vs, hl.push _, nO⟩
  · exact ⟨⟨_, Heap.get?_push_size _ rfl, rfl, rfl⟩, hl.push _⟩
  · exact hasL_keep (T := λ _ => False) (seqKeep_ext λ b o e => Heap.get?_push_of_some _ e) (λ _ f => f.elim) xs _ hx
  · rintro b (rfl | rfl)
    · exact ⟨λ _ _ h => .li h.1, λ _ _ _ h => .li h.1⟩
    · exact ⟨λ _ _ h => .list h.2, λ _ _ _ h => .list h.2⟩
  · rintro i s₁ s₂ ⟨a, b⟩ k _ _
    exact ⟨a.at λ o e => k _ o (.inl rfl) e, b.at λ o e => k _ o (.inr rfl) e⟩
  · rintro i s₁ Q' E' hi ⟨a, b⟩ hQ
    refine wpAny_pyNext_list_item a b (x := vs[i]'(by lia)) (by simp) λ h' hit' hs' => ?_
    exact hQ _ _ (by simp) ⟨hit', b.extBut hs'.extBut (Nat.ne_of_lt hlt)⟩ ⟨λ c o n e => hs'.extBut c o n e, rfl, id, λ _ _ _ e => e⟩
  · rintro i v s₁ Q' E' hP hI hQ
    obtain ⟨o, ho, hc, _⟩ := hI.1
    exact letGo_plain ho hc (by decide) (hQ _ hP hI .refl)
  · rintro s₁ Q' E' ⟨a, b⟩ hQ
    exact wpAny_pyNext_list_end hh a b (by simp; lia) λ h' he' => hQ _ ⟨λ c o n e => he' c o n e, rfl, id, λ _ _ _ e => e⟩
  · rintro i s₁ Q' E' ⟨a, b⟩ hQ
    exact wpAny_pyIter_listiter a hQ
  · rintro i v s₁ O' hi hP hs
    exact hasL_get' i hs (getElem?_of_toList hP)
theorem iter_tuple (hh : A.handled = none) {l : Addr} {vs : Array Value} {xs : List D} {Q : Value → Shared → Prop} (hl : s.heap.IsTuple l vs) (hx : HasL O s.heap xs vs.toList)
    {t : Expr} {nt : Bool} {h0 : Heap} (h : ∀ it s', Ext s s' → ItOk h0 prog w A O t nt s s' it xs → Q it s') : wpAny (model prog w) A (pyIter (.ref l)) Q E s := by
  have hlen := hasL_length hx
  simp only [Array.length_toList] at hlen
  have hlt : l < s.heap.objs.size := by obtain ⟨o, ho, _⟩ := hl; exact Heap.lt_size ho
  have W := Walks.tuple (prog := prog) (w := w) (A := A) hh s.heap.objs.size l (Nat.ne_of_lt hlt) vs
  refine wpAny_pyIter_tuple hl (h _ _ (.ofHeap (λ b o e => Heap.get?_push_of_some _ e) s.toks) ?_)
  refine ItSOk.dyn ?_
  refine ⟨s.heap.objs.size, (· = s.heap.objs.size), (· = l), λ _ => False, λ i v _ => vs[i]? = some v, λ i s' => s'.heap.IsTupleIter s.heap.objs.size l i ∧ s'.heap.IsTuple l vs, λ i _ s' => s'.heap.IsTupleIter s.heap.objs.size l i ∧ s'.heap.IsTuple l vs, xs, vs.toList, rfl, ?_⟩
  have keep : ∀ {h h' : Heap} {wr : List Addr}, (∀ b o, b ∉ wr → h.get? b = some o → h'.get? b = some o) → ∀ b o, b ∉ wr → h.get? b = some o → h'.get? b = some o := λ k => k
  refine ⟨?_, λ _ f => f.elim, ?_, ?_, ?_, .inl ⟨λ i s₁ b hI e => by subst e; exact noSeq_ti hI.1, λ i v s₁ b hI e => by subst e; exact noSeq_ti hI.1⟩, ?_, ?_, ?_, ?_, ?_, ?_, ?_⟩
  · rintro b rfl; exact ⟨get_none_of_ge (Nat.le_refl _), _, Heap.get?_push_size _ rfl⟩
  · rintro b rfl; exact .inr ⟨vs, isTuple_ext (λ b o e => Heap.get?_push_of_some _ e) hl⟩
  · exact ⟨⟨_, Heap.get?_push_size _ rfl, rfl, rfl⟩, isTuple_ext (λ b o e => Heap.get?_push_of_some _ e) hl⟩
  · exact hasL_keep (T := λ _ => False) (seqKeep_ext λ b o e => Heap.get?_push_of_some _ e) (λ _ f => f.elim) xs _ hx
  · rintro b (rfl | rfl)
    · exact ⟨λ _ _ h => .ti h.1, λ _ _ _ h => .ti h.1⟩
    · exact ⟨λ _ _ h => .tuple h.2, λ _ _ _ h => .tuple h.2⟩
  · rintro i s₁ s₂ st k _ _
    exact W.frame i s₁.heap s₂.heap st λ b hb o e => k b o (by simpa using hb) e
  · rintro i s₁ Q' E' hi st hQ
    refine W.item i s₁ Q' E' (by lia) st λ v h' tk hP st' hk => hQ _ _ hP st' ⟨λ c o n e => hk c o (by simpa using n) e, rfl, id, λ _ _ _ e => e⟩
  · rintro i v s₁ Q' E' hP hI hQ
    obtain ⟨o, ho, hc, _⟩ := hI.1
    exact letGo_plain ho hc (by decide) (hQ _ hP hI .refl)
  · rintro s₁ Q' E' st hQ
    refine W.done s₁ Q' E' (by rw [← hlen] at st; exact st) λ h' tk hk => hQ _ ⟨λ c o n e => hk c o (by simpa using n) e, rfl, id, λ _ _ _ e => e⟩
  · rintro i s₁ Q' E' st hQ
    exact W.self i s₁ Q' E' st hQ
  · rintro i v s₁ O' hi hP hs
    exact hasL_get' i hs (getElem?_of_toList hP)
noncomputable def rangeD (a c : Int) (n : Nat) : List D := (List.range n).map λ (i : Nat) => .int (a + (i : Int) * c)
theorem iter_range (hh : A.handled = none) {r : Addr} {a b c : Int} {t u v : Tok} {n : Nat} {Q : Value → Shared → Prop} (hr : IsRange s.heap r a b c t u v) (hsmall : Builtin.Range.small a b c = true)
    (hn : (n : Int) = Builtin.Range.rangeSize a b c)
    {t : Expr} {nt : Bool} {h0 : Heap} (h : ∀ it s', Ext s s' → ItOk h0 prog w A O t nt s s' it (rangeD a c n) → Q it s') : wpAny (model prog w) A (pyIter (.ref r)) Q E s := by
  have W := Walks.range (prog := prog) (w := w) (A := A) hh s.heap.objs.size a c n
  have hlen : (rangeD a c n).length = n := by simp [rangeD]
  refine wpAny_pyIter_range hr hsmall (h _ _ (.ofHeap (λ b o e => Heap.get?_push_of_some _ e) _) ?_)
  refine ItSOk.dyn ?_
  refine ⟨s.heap.objs.size, (· = s.heap.objs.size), λ _ => False, λ _ => False, λ i v _ => ∃ t, v = .int (a + i * c) t, λ i s' => IsRangeIter s'.heap s.heap.objs.size (a + (i : Nat) * c) ((n : Int) - (i : Nat)) c, λ i _ s' => IsRangeIter s'.heap s.heap.objs.size (a + (i : Nat) * c) ((n : Int) - (i : Nat)) c, [], [], rfl, ?_⟩
  refine ⟨?_, λ _ f => f.elim, λ _ f => f.elim, ?_, hasL_nil, .inl ⟨λ i s₁ b hI e => by subst e; exact noSeq_fields hI rfl, λ i v s₁ b hI e => by subst e; exact noSeq_fields hI rfl⟩, ?_, ?_, ?_, ?_, ?_, ?_, ?_⟩
  · rintro b rfl; exact ⟨get_none_of_ge (Nat.le_refl _), _, Heap.get?_push_size _ rfl⟩
  · show (s.heap.push _).get? _ = some _
    rw [Heap.get?_push_size _ rfl, ← hn]
    simp
  · rintro b (rfl | f)
    · exact ⟨λ _ _ h => .fields h rfl, λ _ _ _ h => .fields h rfl⟩
    · exact f.elim
  · rintro i s₁ s₂ st k _ _
    exact W.frame i s₁.heap s₂.heap st λ b hb o e => k b o (by left; simpa using hb) e
  · rintro i s₁ Q' E' hi st hQ
    refine W.item i s₁ Q' E' (by lia) st λ v h' tk hP st' hk => hQ _ _ hP st' ⟨λ c o n e => hk c o (by simpa using n) e, rfl, id, λ _ _ _ e => e⟩
  · rintro i v s₁ Q' E' hP hI hQ
    exact letGo_plain (cls := "range_iterator") hI rfl (by decide) (hQ _ hP hI .refl)
  · rintro s₁ Q' E' st hQ
    refine W.done s₁ Q' E' (by rw [hlen] at st; exact st) λ h' tk hk => hQ _ ⟨λ c o n e => hk c o (by simpa using n) e, rfl, id, λ _ _ _ e => e⟩
  · rintro i s₁ Q' E' st hQ
    exact W.self i s₁ Q' E' st hQ
  · rintro i v s₁ O' hi ⟨t, rfl⟩ hs
    refine ⟨.int (a + i * c), ?_, by rw [Has]; exact ⟨t, rfl⟩⟩
    have : i < n := by lia
    simp [rangeD, this]
end
noncomputable def Keep0 (C : Cx) (h : Heap) : Prop := ∀ b o, C.h0.get? b = some o → h.get? b = some o
noncomputable def FnOk (C : Cx) (n : Nat) (f : Str) : Prop := ∃ a o fd, C.mg f = some (.ref a) ∧ C.h0.get? a = some o ∧ o.data = .func fd ∧
  ∀ A s (O : Addr → Prop) (Q : Value → Shared → Prop) (E : Value → Shared → Prop) ds d vs, AOk n A → Keep0 C s.heap → AllBare s.gens → (∀ a, O a → ∃ us, s.heap.IsList a us) → HasL O s.heap ds vs → C.fn f ds = some d →
    HandsP O s d Q → wpAny (model C.prog C.w) A (call (.ref a) vs) Q E s
noncomputable def GnOk (C : Cx) (n : Nat) (f : Str) : Prop := ∃ a o fd, C.mg f = some (.ref a) ∧ C.h0.get? a = some o ∧ o.data = .func fd ∧
  ∀ A s (O : Addr → Prop) (t : Expr) (nt : Bool) (Q : Value → Shared → Prop) (E : Value → Shared → Prop) ds xs vs, AOk n A → Keep0 C s.heap → AllBare s.gens → (∀ a, O a → ∃ us, s.heap.IsList a us) → HasL O s.heap ds vs → C.gn f ds = some xs →
    (∀ g s', Ext s s' → (∀ Q' E', (∀ it s'', Ext s s'' → ItOk C.h0 C.prog C.w A O t nt s s'' it xs → Q' it s'') → wpAny (model C.prog C.w) A (pyIter g) Q' E' s') → Q g s') → wpAny (model C.prog C.w) A (call (.ref a) vs) Q E s
structure CxOk (C : Cx) (n : Nat) : Prop where
  gf : GF C.mg C.mb C.h0
  gd : ∀ x d, C.gd x = some d → ∃ v, C.mg x = some v ∧ ∀ O h, Has O h d v
  bi : ∀ b, C.mg (biName b) = none
  rng : C.mg "range" = none
  zip : C.mg "zip" = none
  fn : ∀ f ds d, C.fn f ds = some d → FnOk C n f
  gn : ∀ f ds d, C.gn f ds = some d → GnOk C n f
  tok : ∃ d f, C.mg "EXACT_TOKEN_TYPES" = some (.ref d) ∧ (d == sysModules) = false ∧ C.h0.MapOf (strKind C.prog C.w) d f ∧ ∀ x, (∀ i, C.tok x = some i → ∃ t, f x = some (.int i t)) ∧ (C.tok x = none → f x = none)
structure FrameOk (C : Cx) (nm : List Str) (sc : Scope) (F : Frame) : Prop where
  zero : nm[0]? = some Str.empty
  names : F.names = nm
  glob : ∀ x, sc.names.lookup x = some .globalImplicit → F.env.kindOf x = some .globalImplicit
  cell : ∀ x, sc.names.lookup x = some .cell → F.cw = true ∧ F.env.kindOf x = some .cell
  keep0 : Keep0 C F.base
section
variable (C : Cx) (n : Nat) (F : Frame)
noncomputable def PeOk (p : PE) (e : Expr) : Prop := ∀ A s O₀ ow ρ d (Q : Value → Shared → Prop) (E : Value → Shared → Prop), AOk n A → St F O₀ ow ρ s → (ev C p ρ).e = some d →
  (∀ v s', Ext s s' → Has (Oof O₀ ow ρ) s'.heap d v → (isFresh p = true → ∀ ds, d = .lst ds → FreshL (Oof O₀ ow ρ) s s' v ds) → Q v s') → wpAny (model C.prog C.w) A (eval e F.env) Q E s
noncomputable def PtOk (p : PE) (e : Expr) : Prop := ∀ A s O₀ ow ρ d (Q : Value → Shared → Prop) (E : Value → Shared → Prop), AOk n A → St F O₀ ow ρ s → (ev C p ρ).t = some d →
  (∀ v s', Ext s s' → HasT (Oof O₀ ow ρ) s'.heap d v → Q v s') → wpAny (model C.prog C.w) A (eval e F.env) Q E s
noncomputable def PbOk (p : PE) (e : Expr) : Prop := ∀ A s O₀ ow ρ b (Q : Bool → Shared → Prop) (E : Value → Shared → Prop), AOk n A → St F O₀ ow ρ s → (ev C p ρ).b = some b →
  (∀ s', Ext s s' → Q b s') → wpAny (model C.prog C.w) A (isTrue e F.env (eval e F.env)) Q E s
noncomputable def PiOk (p : PE) (e : Expr) : Prop := ∀ A s O₀ ow ρ xs (t : Expr) (Q : Value → Shared → Prop) (E : Value → Shared → Prop), AOk n A → St F O₀ ow ρ s → (ev C p ρ).it = some xs → (needsTup p = true → ∃ es k q, t = .Tuple es k q) →
  (∀ it s', Ext s s' → ItOk C.h0 C.prog C.w A (Oof O₀ ow ρ) t (needsTup p) s s' it xs → Q it s') → wpAny (model C.prog C.w) A (eval e F.env) (λ x s₁ => wpAny (model C.prog C.w) A (pyIter x) Q E s₁) E s
structure EvOk (p : PE) (e : Expr) : Prop where
  pe : PeOk C n F p e
  pt : PtOk C n F p e
  pb : PbOk C n F p e
  pi : PiOk C n F p e
structure ArgOk (p : PE) (es : List Expr) : Prop where
  l : ∀ A s O₀ ow ρ ds pos (Q : List Value → Shared → Prop) (E : Value → Shared → Prop), AOk n A → St F O₀ ow ρ s → (ev C p ρ).l = some ds →
    (∀ vs s', Ext s s' → HasL (Oof O₀ ow ρ) s'.heap ds vs → Q vs s') → wpAny (model C.prog C.w) A (spliced (backTo pos (starEach es F.env))) Q E s
  lt : ∀ A s O₀ ow ρ ds pos (Q : List Value → Shared → Prop) (E : Value → Shared → Prop), AOk n A → St F O₀ ow ρ s → (ev C p ρ).lt = some ds →
    (∀ vs s', Ext s s' → HasTL (Oof O₀ ow ρ) s'.heap ds vs → Q vs s') → wpAny (model C.prog C.w) A (spliced (backTo pos (starEach es F.env))) Q E s
  first : ∀ e r, es = e :: r → starEach es F.env = (false, eval e F.env) :: starEach r F.env
  plain : ∀ pos, ((backTo pos (starEach es F.env)).any λ x => x.1) = false
end
theorem hasT_ext {O : Addr → Prop} {s s' : Shared} {d : D} {v : Value} (X : Ext s s') (h : HasT O s.heap d v) : HasT O s'.heap d v := by
  cases d with
  | none => exact X.has (O := O) (d := .none) h
  | bool b => exact X.has (O := O) (d := .bool b) h
  | int i => exact X.has (O := O) (d := .int i) h
  | flt i => exact X.has (O := O) (d := .flt i) h
  | str i => exact X.has (O := O) (d := .str i) h
  | bytes i => exact X.has (O := O) (d := .bytes i) h
  | tup i => exact X.has (O := O) (d := .tup i) h
  | lst l => obtain ⟨a, vs, e, l, q⟩ := hasT_lst h; exact ⟨a, vs, e, isList_ext X.heap l, X.hasL q⟩
section
variable {C : Cx} {n : Nat} {F : Frame}
theorem truth_ok {prog : Program} {w : World} {A : Around} {E : Value → Shared → Prop} {s : Shared} {O : Addr → Prop} {d : D} {v : Value} {b : Bool} {Q : Bool → Shared → Prop} (e : dtruth d = some b) (hv : Has O s.heap d v) (h : Q b s) : wpAny (model prog w) A (truthy v) Q E s := by
  cases d with
  | int i => cases e; rw [Has] at hv; obtain ⟨t, rfl⟩ := hv; exact PyProof.Rows.truthy_int h
  | bool b => cases e; rw [Has] at hv; subst hv; exact wpAny_truthy_bool h
  | _ => exact nos e
theorem diter_ok {A : Around} {E : Value → Shared → Prop} {s : Shared} {O : Addr → Prop} {d : D} {v : Value} {xs : List D} {t : Expr} {nt : Bool} {Q : Value → Shared → Prop} (hh : A.handled = none) (e : diter d = some xs) (hv : Has O s.heap d v)
    (h : ∀ it s', Ext s s' → ItOk C.h0 C.prog C.w A O t nt s s' it xs → Q it s') : wpAny (model C.prog C.w) A (pyIter v) Q E s := by
  cases d with
  | tup l =>
    cases (iteE e).2
    obtain ⟨a, vs, rfl, l, q⟩ := hasT_tup (HasT.of hv)
    exact iter_tuple hh l q h
  | lst l =>
    cases (iteE e).2
    rw [Has] at hv
    obtain ⟨a, vs, rfl, no, l, q⟩ := hv
    exact iter_list hh l no q h
  | _ => exact nos e
theorem EvOk.of {p : PE} {e : Expr} {o : List Slot → Option D} (hev : ∀ ρ, ev C p ρ = .of (o ρ)) (pe : PeOk C n F p e)
    (hd : ∀ whole, isTrue e F.env whole = (do let v ← whole; standAt e.pos; holding [v] (truthy v)) := by intro _; rfl) : EvOk C n F p e :=
  ⟨pe, λ A s O₀ ow ρ d Q E hA S he h => pe A s O₀ ow ρ d Q E hA S ((congrArg Rs.e (hev ρ)).trans ((congrArg Rs.t (hev ρ)).symm.trans he)) λ v s' X hv _ => h v s' X (.of hv),
   λ A s O₀ ow ρ b Q E hA S he h => bindE ((congrArg Rs.b (hev ρ)).symm.trans he) λ d e1 e2 => isTrue_plain (pe A s O₀ ow ρ d _ E hA S ((congrArg Rs.e (hev ρ)).trans e1) λ v s' X hv _ => truth_ok e2 hv (h s' X)) (hd _),
   λ A s O₀ ow ρ xs t Q E hA S he _ h => bindE ((congrArg Rs.it (hev ρ)).symm.trans he) λ d e1 e2 => pe A s O₀ ow ρ d _ E hA S ((congrArg Rs.e (hev ρ)).trans e1) λ v s₁ X hv _ => diter_ok hA.1 e2 hv λ it s' Y I => h it s' (X.trans Y) (I.back X)⟩
theorem EvOk.test {p : PE} {e : Expr} (hev : ∀ ρ, (ev C p ρ).e = none ∧ (ev C p ρ).t = none ∧ (ev C p ρ).it = none) (pb : PbOk C n F p e) : EvOk C n F p e :=
  ⟨λ A s O₀ ow ρ d Q E hA S he h => nos ((hev ρ).1.symm.trans he), λ A s O₀ ow ρ d Q E hA S he h => nos ((hev ρ).2.1.symm.trans he), pb, λ A s O₀ ow ρ xs t Q E hA S he _ h => nos ((hev ρ).2.2.symm.trans he)⟩
theorem EvOk.val {p : PE} {e : PySem.Expr} {o : List Slot → Option D} (hev : ∀ ρ, ev C p ρ = .val (o ρ)) (pe : PeOk C n F p e) : EvOk C n F p e :=
  ⟨pe, λ A s O₀ ow ρ d Q E hA S he h => pe A s O₀ ow ρ d Q E hA S ((congrArg Rs.e (hev ρ)).trans ((congrArg Rs.t (hev ρ)).symm.trans he)) λ v s' X hv _ => h v s' X (.of hv),
   λ A s O₀ ow ρ b Q E hA S he h => nos ((congrArg Rs.b (hev ρ)).symm.trans he), λ A s O₀ ow ρ xs t Q E hA S he _ h => nos ((congrArg Rs.it (hev ρ)).symm.trans he)⟩
theorem EvOk.iter {p : PE} {e : Expr} (hev : ∀ ρ, (ev C p ρ).e = none ∧ (ev C p ρ).t = none ∧ (ev C p ρ).b = none) (pi : PiOk C n F p e) : EvOk C n F p e :=
  ⟨λ A s O₀ ow ρ d Q E hA S he h => nos ((hev ρ).1.symm.trans he), λ A s O₀ ow ρ d Q E hA S he h => nos ((hev ρ).2.1.symm.trans he), λ A s O₀ ow ρ b Q E hA S he h => nos ((hev ρ).2.2.symm.trans he), pi⟩
theorem pe_const {p : PE} {e : Expr} {d : D} (hev : ∀ ρ, ev C p ρ = .of (some d)) (hl : ∀ ds, d ≠ .lst ds)
    (h : ∀ A s (Q : Value → Shared → Prop) E, (∀ v s', Ext s s' → (∀ O, Has O s'.heap d v) → Q v s') → wpAny (model C.prog C.w) A (eval e F.env) Q E s) : PeOk C n F p e := by
  intro A s O₀ ow ρ d' Q E hA S he hQ
  rw [hev] at he
  have : d' = d := (Option.some.inj he).symm
  subst this
  exact h A s Q E λ v s' X hv => hQ v s' X (hv _) λ _ ds e => absurd e (hl ds)
theorem noStar {nm sc} {env : Env} : ∀ {p : PE} {e : Expr}, mt nm p sc e = true → ∀ rest, starEach (e :: rest) env = (false, eval e env) :: starEach rest env := by
  intro p e h rest
  cases e <;> first
    | rfl
    | (cases p <;> exact no_eq h)
theorem ok_cI {i : Int} {k : Nat} {pos : Pos} : EvOk C n F (.cI i) (.Constant (.int i) k pos) :=
  .of (λ _ => rfl) (pe_const (λ _ => rfl) (λ _ e => by cases e) λ A s Q E h => wpAny_Constant_int (h _ _ (.toks _) λ O => by rw [Has]; exact ⟨_, rfl⟩))
theorem ok_cS {i : Str} {k : Nat} {pos : Pos} : EvOk C n F (.cS i) (.Constant (.str i) k pos) :=
  .of (λ _ => rfl) (pe_const (λ _ => rfl) (λ _ e => by cases e) λ A s Q E h => Constant_str (h _ _ (.toks _) λ O => by rw [Has]; exact ⟨_, rfl⟩))
theorem ok_cF {i : UInt64} {k : Nat} {pos : Pos} : EvOk C n F (.cF i) (.Constant (.float i) k pos) :=
  .of (λ _ => rfl) (pe_const (λ _ => rfl) (λ _ e => by cases e) λ A s Q E h => λ _ _ _ => h (.float i s.toks) { s with toks := s.toks + 1 } (.toks _) λ O => by rw [Has]; exact ⟨_, rfl⟩)
theorem ok_cB {i : Bool} {k : Nat} {pos : Pos} : EvOk C n F (.cB i) (.Constant (.bool i) k pos) :=
  .of (λ _ => rfl) (pe_const (λ _ => rfl) (λ _ e => by cases e) λ A s Q E h => λ _ _ _ => h (.bool i) s (.refl s) λ O => by rw [Has])
theorem ok_cN {k : Nat} {pos : Pos} : EvOk C n F .cN (.Constant .none k pos) :=
  .of (λ _ => rfl) (pe_const (λ _ => rfl) (λ _ e => by cases e) λ A s Q E h => λ _ _ _ => h .none s (.refl s) λ O => by rw [Has])
theorem wpAny_nameVar {M : Model} {A : Around} {E : Value → Shared → Prop} {s : Shared} {x : Str} {pos : Pos} {v : Value} {Q : Value → Shared → Prop} (hk : F.env.scope.kind = .function)
    (y : VarAt F.env s.heap x v) (h1 : (x == ("__debug__" : Str)) = false) (h2 : (x == ("__classdict__" : Str)) = false) (h : Q v s) : wpAny M A (eval (.Name x pos) F.env) Q E s :=
  wpAny_Name (wpAny_var hk y h2 h) h1
theorem slot_e {o : Option Slot} {d : D} (h : (Rs.slot o).e = some d) : o = some (.fro d) := by
  cases o with
  | none => exact nos h
  | some s => cases s with
    | fro d' => cases h; rfl
    | _ => exact nos h
theorem slot_t {o : Option Slot} {d : D} {P : Prop} (h : (Rs.slot o).t = some d) (h1 : o = some (.fro d) → P) (h2 : ∀ ds, o = some (.own ds) → d = .lst ds → P) : P := by
  cases o with
  | none => exact nos h
  | some s => cases s with
    | undef => exact nos h
    | fro d' => cases h; exact h1 rfl
    | own ds => cases h; exact h2 ds rfl rfl
theorem slot_b {o : Option Slot} {b : Bool} {P : Prop} (h : (Rs.slot o).b = some b) (h1 : ∀ d, o = some (.fro d) → dtruth d = some b → P) : P := by
  cases o with
  | none => exact nos h
  | some s => cases s with
    | fro d' => exact h1 _ rfl h
    | _ => exact nos h
theorem slot_it {o : Option Slot} {xs : List D} {P : Prop} (h : (Rs.slot o).it = some xs) (h1 : ∀ d, o = some (.fro d) → diter d = some xs → P) : P := by
  cases o with
  | none => exact nos h
  | some s => cases s with
    | fro d' => exact h1 _ rfl h
    | _ => exact nos h
theorem ok_var {nm : List Str} {i : Nat} {x : Str} {pos : Pos} (hn : F.names = nm) (ok : okVar nm i x = true) : EvOk C n F (.var i) (.Name x pos) := by
  subst hn
  have hx := eq_of_beq (band (band (band ok).1).1).1
  have nv : ∀ {A : Around} {E : Value → Shared → Prop} {s : Shared} {v : Value} {Q : Value → Shared → Prop}, F.env.scope.kind = .function → VarAt F.env s.heap x v → Q v s → wpAny (model C.prog C.w) A (eval (.Name x pos) F.env) Q E s :=
    λ hk y h => wpAny_nameVar hk y (bnot (band (band (band ok).1).1).2) (bnot (band (band ok).1).2) h
  refine ⟨λ A s O₀ ow ρ d Q E hA S he h => ?_, λ A s O₀ ow ρ d Q E hA S he h => slot_t he (λ q => ?_) λ ds q e => ?_, λ A s O₀ ow ρ b Q E hA S he h => slot_b he λ d q e => ?_, λ A s O₀ ow ρ xs t Q E hA S he _ h => slot_it he λ d q e => ?_⟩
  · obtain ⟨v, y, hv⟩ := S.at_fro (slot_e he) hx
    exact nv S.fr.kind y (h v s (.refl s) hv λ q => nomatch q)
  · obtain ⟨v, y, hv⟩ := S.at_fro q hx
    exact nv S.fr.kind y (h v s (.refl s) (.of hv))
  · subst e
    obtain ⟨y, vs, l, hv⟩ := S.at_own q hx
    exact nv S.fr.kind (y.resolve_right (bne_iff_ne.mp (band ok).2)) (h _ s (.refl s) ⟨_, vs, rfl, PlainList.isL l, hv⟩)
  · obtain ⟨v, y, hv⟩ := S.at_fro q hx
    exact isTrue_plain (nv S.fr.kind y (truth_ok e hv (h s (.refl s)))) rfl
  · obtain ⟨v, y, hv⟩ := S.at_fro q hx
    exact nv S.fr.kind y (diter_ok hA.1 e hv h)
end
section
variable {prog : Program} {w : World} {A : Around} {E : Value → Shared → Prop} {s : Shared} {O : Addr → Prop}
structure ZipSt (h : Heap) (n l1 l2 : Addr) (xs ys : Array Value) (i : Nat) (f0 : Value) : Prop where
  z : IsZip h (n + 4) (n + 2) (n + 3) f0
  ti : IsPair h (n + 2) (.ref n) (.ref (n + 1))
  to : ∃ a b, IsPair h (n + 3) a b
  i1 : h.IsListIter n l1 i
  i2 : h.IsListIter (n + 1) l2 i
  l1 : h.IsList l1 xs
  l2 : h.IsList l2 ys
noncomputable def zipWr (n : Nat) (b : Nat) : Prop := b = n ∨ b = n + 1 ∨ b = n + 2 ∨ b = n + 3 ∨ b = n + 4
theorem zipWr_out {n c : Nat} (h : ¬ zipWr n c) : c ≠ n + 4 ∧ c ≠ n + 3 ∧ c ≠ n ∧ c ≠ n + 1 :=
  ⟨λ e => h (.inr (.inr (.inr (.inr e)))), λ e => h (.inr (.inr (.inr (.inl e)))), λ e => h (.inl e), λ e => h (.inr (.inl e))⟩
theorem zipWr_le {n c : Nat} (h : zipWr n c) : n ≤ c := by unfold zipWr at h; lia
theorem zipWr_lt {n c : Nat} (h : zipWr n c) : c < n + 5 := by unfold zipWr at h; lia
noncomputable def zipRo (l1 l2 b : Addr) : Prop := b = l1 ∨ b = l2
theorem zip_apart {n l1 l2 : Nat} (g1 : l1 < n) (g2 : l2 < n) : ZipApart (n + 4) (n + 2) (n + 3) n (n + 1) l1 l2 := by constructor <;> (intro (q : @Eq Nat _ _); lia)
variable {n l1 l2 : Nat} {vs us : Array Value}
noncomputable def zipP (n : Nat) (vs us : Array Value) (i : Nat) (v : Value) (s : Shared) : Prop :=
  ∃ T x y, v = .ref T ∧ IsPair s.heap T x y ∧ n + 5 ≤ T ∧ vs[i]? = some x ∧ us[i]? = some y
noncomputable def zipI (n l1 l2 : Nat) (vs us : Array Value) (i : Nat) (s : Shared) : Prop := ZipSt s.heap n l1 l2 vs us i .none
noncomputable def zipM (n l1 l2 : Nat) (vs us : Array Value) (i : Nat) (v : Value) (s : Shared) : Prop := ∃ T, v = .ref T ∧ ZipSt s.heap n l1 l2 vs us i (rawInt T)
theorem ZipSt.standing {h : Heap} {i : Nat} {f : Value} (Z : ZipSt h n l1 l2 vs us i f) : ∀ b, zipWr n b ∨ zipRo l1 l2 b → Standing h b := by
  rintro b ((rfl | rfl | rfl | rfl | rfl) | rfl | rfl)
  · exact .li Z.i1
  · exact .li Z.i2
  · exact .seq Z.ti rfl
  · obtain ⟨_, _, e⟩ := Z.to; exact .seq e rfl
  · exact .fields Z.z rfl
  · exact .list Z.l1
  · exact .list Z.l2
theorem ZipSt.stable {h h' : Heap} {i : Nat} {f : Value} (Z : ZipSt h n l1 l2 vs us i f) (k : ∀ b o, zipWr n b ∨ zipRo l1 l2 b → h.get? b = some o → h'.get? b = some o) : ZipSt h' n l1 l2 vs us i f :=
  ⟨k _ _ (.inl (.inr (.inr (.inr (.inr rfl))))) Z.z, k _ _ (.inl (.inr (.inr (.inl rfl)))) Z.ti, Z.to.imp λ _ q => q.imp λ _ => k _ _ (.inl (.inr (.inr (.inr (.inl rfl))))),
    Z.i1.at λ o => k _ o (.inl (.inl rfl)), Z.i2.at λ o => k _ o (.inl (.inr (.inl rfl))),
    Z.l1.at λ o => k _ o (.inr (.inl rfl)), Z.l2.at λ o => k _ o (.inr (.inr rfl))⟩
theorem nx_heap {wr : Addr → Prop} {s : Shared} {h' : Heap} (k : ∀ c o, ¬ wr c → s.heap.get? c = some o → h'.get? c = some o) : Nx wr (λ _ => False) s { s with heap := h' } :=
  ⟨λ c o nc e => k c o nc e, rfl, id, λ _ _ _ e => e⟩
theorem zip_next (D : ZipApart (n + 4) (n + 2) (n + 3) n (n + 1) l1 l2) {i : Nat} {Q : Option Value → Shared → Prop} (hi : i < min vs.size us.size) (Z : zipI n l1 l2 vs us i s)
    (hQ : ∀ v s₂, zipP n vs us i v s₂ → zipM n l1 l2 vs us (i + 1) v s₂ → Nx (zipWr n) (λ _ => False) s s₂ → Q (some v) s₂) : wpAny (model prog w) A (pyNext (.ref (n + 4))) Q E s :=
  Z.to.elim λ _ q => q.elim λ _ hto =>
  have e1 := Array.getElem?_eq_getElem (Nat.lt_of_lt_of_le hi (Nat.min_le_left _ _))
  have e2 := Array.getElem?_eq_getElem (Nat.lt_of_lt_of_le hi (Nat.min_le_right _ _))
  wpAny_pyNext_zip_item D Z.z Z.ti hto Z.i1 Z.i2 Z.l1 Z.l2 e1 e2 λ _ z' to' i1' i2' pr _ kp =>
    hQ _ _ ⟨_, _, _, rfl, pr, Heap.lt_size Z.z, e1, e2⟩
      ⟨_, rfl, z', kp _ _ D.TIz D.TITO D.TIi1 D.TIi2 Z.ti, ⟨_, _, to'⟩, i1', i2', Z.l1.at λ o => kp _ o D.l1z D.l1TO D.l1i1 D.l1i2, Z.l2.at λ o => kp _ o D.l2z D.l2TO D.l2i1 D.l2i2⟩
      (nx_heap λ c o nc e => have q := zipWr_out nc; kp c o q.1 q.2.1 q.2.2.1 q.2.2.2 e)
theorem zip_letGo' (D : ZipApart (n + 4) (n + 2) (n + 3) n (n + 1) l1 l2) {es : List Expr} {k : Nat} {p : Pos} {i T : Nat} {Q : Unit → Shared → Prop} (hT : n + 5 ≤ T) (Z : ZipSt s.heap n l1 l2 vs us (i + 1) (rawInt T))
    (hQ : ∀ s₂, s₂.heap.get? T = s.heap.get? T → zipI n l1 l2 vs us (i + 1) s₂ → Nx (zipWr n) (λ _ => False) s s₂ → Q () s₂) : wpAny (model prog w) A (letOwnedTupleGo (.Tuple es k p) (.ref (n + 4)) (.ref T)) Q E s :=
  wpAny_letOwnedTupleGo_zip Z.z λ _ hz' same =>
    hQ _ (same.2 T (Nat.ne_of_gt hT))
      ⟨hz', (same.2 _ D.TIz).trans Z.ti, Z.to.imp λ _ q => q.imp λ _ hto => (same.2 _ D.TOz).trans hto, Z.i1.at λ _ => (same.2 _ D.i1z).trans, Z.i2.at λ _ => (same.2 _ D.i2z).trans,
        Z.l1.at λ _ => (same.2 _ D.l1z).trans, Z.l2.at λ _ => (same.2 _ D.l2z).trans⟩
      (nx_heap λ c _ nc => (same.2 c (zipWr_out nc).1).trans)
theorem ref_inj {a b : Addr} (h : Value.ref a = .ref b) : a = b := Value.ref.inj h
theorem zip_letGo (D : ZipApart (n + 4) (n + 2) (n + 3) n (n + 1) l1 l2) {es : List Expr} {k : Nat} {p : Pos} {i : Nat} {v : Value} {Q : Unit → Shared → Prop} (P : zipP n vs us i v s) (M : zipM n l1 l2 vs us (i + 1) v s)
    (hQ : ∀ s₂, zipP n vs us i v s₂ → zipI n l1 l2 vs us (i + 1) s₂ → Nx (zipWr n) (λ _ => False) s s₂ → Q () s₂) : wpAny (model prog w) A (letOwnedTupleGo (.Tuple es k p) (.ref (n + 4)) v) Q E s :=
  P.elim λ T P => M.elim λ _ M => P.elim λ x P => P.elim λ y P => P.1 ▸ zip_letGo' D P.2.2.1 (ref_inj (M.1.symm.trans P.1) ▸ M.2) λ s₂ e => hQ s₂ ⟨T, x, y, P.1, e.trans P.2.1, P.2.2⟩
theorem zip_done (hh : A.handled = none) (D : ZipApart (n + 4) (n + 2) (n + 3) n (n + 1) l1 l2) {Q : Option Value → Shared → Prop} (Z : zipI n l1 l2 vs us (min vs.size us.size) s)
    (hQ : ∀ s₂, Nx (zipWr n) (λ _ => False) s s₂ → Q none s₂) : wpAny (model prog w) A (pyNext (.ref (n + 4))) Q E s :=
  Z.to.elim λ _ q => q.elim λ _ hto => wpAny_pyNext_zip_end hh D Z.z Z.ti hto Z.i1 Z.i2 Z.l1 Z.l2
    ((Nat.le_total vs.size us.size).imp (λ q => Array.getElem?_eq_none (Nat.le_of_eq (Nat.min_eq_left q).symm)) λ q => Array.getElem?_eq_none (Nat.le_of_eq (Nat.min_eq_right q).symm))
    λ _ kp => hQ _ (nx_heap λ c o nc e => have q := zipWr_out nc; kp c o q.1 q.2.1 q.2.2.1 q.2.2.2 e)
noncomputable def zipD (xs ys : List D) : List D := (xs.zip ys).map λ p => .tup [p.1, p.2]
theorem flat_get {xs : List D} (f : flatL xs = true) {i : Nat} {d : D} (h : xs[i]? = some d) : flatD d = true := List.all_eq_true.mp f d (List.mem_of_getElem? h)
theorem has_pair {O : Addr → Prop} {h : Heap} {T : Addr} {x y : Value} {d e : D} (p : IsPair h T x y) (a : Has O h d x) (b : Has O h e y) : Has O h (.tup [d, e]) (.ref T) := by
  rw [Has]; exact ⟨_, _, rfl, ⟨_, p, rfl, _, rfl⟩, hasL_cons a (hasL_cons b hasL_nil)⟩
theorem zip_val {xs ys : List D} {O' : Addr → Prop} {i : Nat} {v : Value} (hx : HasL O s.heap xs vs.toList) (hy : HasL O s.heap ys us.toList) (fx : flatL xs = true) (fy : flatL ys = true) {s₁ : Shared}
    (P : zipP n vs us i v s₁) : ∃ x, (zipD xs ys)[i]? = some x ∧ Has O' s₁.heap x v :=
  P.elim λ _ P => P.elim λ _ P => P.elim λ _ P => (hasL_get' i hx (getElem?_of_toList P.2.2.2.1)).elim λ d1 q1 => (hasL_get' i hy (getElem?_of_toList P.2.2.2.2)).elim λ d2 q2 =>
  ⟨.tup [d1, d2], (List.getElem?_map ..).trans (congrArg _ ((List.getElem?_zip_eq_some (z := (d1, d2))).mpr ⟨q1.1, q2.1⟩)), P.1 ▸ has_pair P.2.1 (flat_has (flat_get fx q1.1) q1.2) (flat_has (flat_get fy q2.1) q2.2)⟩
theorem zip_flat {xs ys : List D} (fx : flatL xs = true) (fy : flatL ys = true) : ∀ x ∈ zipD xs ys, ∃ l, x = .tup l ∧ flatL l = true := λ x h =>
  (List.mem_map.mp h).elim λ p q =>
  have m := List.of_mem_zip (a := p.1) (b := p.2) q.1
  ⟨[p.1, p.2], q.2.symm, List.all_eq_true.mpr (List.forall_mem_cons.mpr ⟨List.all_eq_true.mp fx _ m.1, List.forall_mem_singleton.mpr (List.all_eq_true.mp fy _ m.2)⟩)⟩
theorem zip_fresh {h h' : Heap} (Z : ZipSt h' h.objs.size l1 l2 vs us 0 .none) (b : Addr) (q : zipWr h.objs.size b) : h.get? b = none ∧ ∃ o, h'.get? b = some o :=
  ⟨get_none_of_ge (zipWr_le q), (Z.standing b (.inl q)).imp λ _ e => e.1⟩
theorem zip_len {xs ys : List D} (hx : HasL O s.heap xs vs.toList) (hy : HasL O s.heap ys us.toList) : (zipD xs ys).length = min vs.size us.size := by
  rw [zipD, List.length_map, List.length_zip, ← hasL_length hx, ← hasL_length hy, Array.length_toList, Array.length_toList]
theorem zip_its (hh : A.handled = none) {s' : Shared} {xs ys : List D} (hl1 : s'.heap.IsList l1 vs) (nO1 : ¬ O l1) (hx : HasL O s'.heap xs vs.toList)
    (hl2 : s'.heap.IsList l2 us) (nO2 : ¬ O l2) (hy : HasL O s'.heap ys us.toList) (fx : flatL xs = true) (fy : flatL ys = true)
    {es : List Expr} {k : Nat} {p : Pos} {h0 : Heap} (g1 : l1 < s.heap.objs.size) (g2 : l2 < s.heap.objs.size) (Z : ZipSt s'.heap s.heap.objs.size l1 l2 vs us 0 .none) :
    ItS h0 prog w A O (.Tuple es k p) true s s' (s.heap.objs.size + 4) (zipD xs ys) (zipWr s.heap.objs.size) (zipRo l1 l2) (λ _ => False)
      (zipP s.heap.objs.size vs us) (zipI s.heap.objs.size l1 l2 vs us) (zipM s.heap.objs.size l1 l2 vs us) (xs ++ ys) (vs.toList ++ us.toList) where
  fresh := zip_fresh Z
  freshG := λ _ f => f.elim
  read := λ b q => .inl (q.elim (λ e => e ▸ ⟨vs, hl1, nO1⟩) λ e => e ▸ ⟨us, hl2, nO2⟩)
  init := Z
  srcs := hasL_append hx hy
  kind := .inr ⟨rfl, by unfold flatL at *; rw [List.all_append, fx, fy]; rfl, ⟨es, k, p, rfl⟩, zip_flat fx fy⟩
  alive := λ b hb => ⟨λ _ _ h => h.standing b hb, λ _ _ _ q => q.elim λ _ h => h.2.standing b hb⟩
  stable := λ _ _ _ Z kk _ _ => ZipSt.stable Z kk
  next := λ _ _ _ _ hi Z => zip_next (zip_apart g1 g2) (zip_len hx hy ▸ hi) Z
  letGo := λ _ _ _ _ _ => zip_letGo (zip_apart g1 g2)
  done := λ _ _ _ Z => zip_done hh (zip_apart g1 g2) (zip_len hx hy ▸ Z)
  self := λ _ _ _ _ Z hQ => wpAny_pyIter_zip Z.z hQ
  val := λ _ _ _ _ _ P _ => zip_val hx hy fx fy P
theorem iter_zip (hh : A.handled = none) {l1 l2 : Addr} {vs us : Array Value} {xs ys : List D} {Q : Value → Shared → Prop} (hl1 : s.heap.IsList l1 vs) (nO1 : ¬ O l1) (hx : HasL O s.heap xs vs.toList)
    (hl2 : s.heap.IsList l2 us) (nO2 : ¬ O l2) (hy : HasL O s.heap ys us.toList) (fx : flatL xs = true) (fy : flatL ys = true)
    {es : List Expr} {k : Nat} {p : Pos} {h0 : Heap} (h : ∀ it s', Ext s s' → ItOk h0 prog w A O (.Tuple es k p) true s s' it ((xs.zip ys).map λ p => .tup [p.1, p.2]) → Q it s') :
    wpAny (model prog w) A (call (.type "zip") [.ref l1, .ref l2]) (λ x s₁ => wpAny (model prog w) A (pyIter x) Q E s₁) E s :=
  call_zip_2 hl1 hl2 λ _ hz hti hto h1 h2 _ hk =>
    have X := Ext.ofHeap hk s.toks
    wpAny_pyIter_zip hz (h _ _ X (ItSOk.dyn ⟨_, _, _, _, _, _, _, _, _, rfl, zip_its hh (isList_ext hk hl1) nO1 (X.hasL hx) (isList_ext hk hl2) nO2 (X.hasL hy) fx fy
      (hl1.elim λ _ q => Heap.lt_size q.1) (hl2.elim λ _ q => Heap.lt_size q.1) ⟨hz, hti, ⟨_, _, hto⟩, h1, h2, isList_ext hk hl1, isList_ext hk hl2⟩⟩))
end
section
variable {C : Cx} {n : Nat} {F : Frame} {nm : List Str} {sc : Scope}
theorem FrameOk.keepS {F : Frame} (FO : FrameOk C nm sc F) {O₀ ow ρ s} (S : St F O₀ ow ρ s) : Keep0 C s.heap := λ b o e => S.fr.keep b o (FO.keep0 b o e)
theorem loadG (K : CxOk C n) (FO : FrameOk C nm sc F) {M : Model} {A : Around} {E : Value → Shared → Prop} {O₀ ow ρ s} (S : St F O₀ ow ρ s) {x : Str} {v : Value} {pos : Pos} {Q : Value → Shared → Prop}
    (hx : isGlob sc x = true) (hv : C.mg x = some v) (h : Q v s) : wpAny M A (eval (.Name x pos) F.env) Q E s := by
  unfold isGlob at hx
  simp only [Bool.and_eq_true, beq_iff_eq, bne_iff_ne, ne_eq] at hx
  refine Name_function_global S.fr.kind (FO.glob x hx.1) (loadGlobal_global (by rw [S.fr.globals]; exact K.gf.g.keeps (FO.keepS S)) hv h) (beq_eq_false_iff_ne.mpr hx.2)
theorem loadB (K : CxOk C n) (FO : FrameOk C nm sc F) {M : Model} {A : Around} {E : Value → Shared → Prop} {O₀ ow ρ s} (S : St F O₀ ow ρ s) {x : Str} {v : Value} {pos : Pos} {Q : Value → Shared → Prop}
    (hx : isGlob sc x = true) (hm : C.mg x = none) (hb : bootBuiltins x = some v) (hn : x ≠ "__name__") (h : Q v s) : wpAny M A (eval (.Name x pos) F.env) Q E s := by
  unfold isGlob at hx
  simp only [Bool.and_eq_true, beq_iff_eq, bne_iff_ne, ne_eq] at hx
  refine Name_function_global S.fr.kind (FO.glob x hx.1) (loadGlobal_builtin (by rw [S.fr.globals]; exact K.gf.g.keeps (FO.keepS S)) hm (by rw [S.fr.builtins]; exact K.gf.b.keeps (FO.keepS S)) ((K.gf.boot x hn).trans hb) h) (beq_eq_false_iff_ne.mpr hx.2)
theorem ok_glob (K : CxOk C n) (FO : FrameOk C nm sc F) {x : Str} {pos : Pos} (hx : isGlob sc x = true) : EvOk C n F (.glob x) (.Name x pos) :=
  .of (λ _ => rfl) λ A s O₀ ow ρ d Q E hA S he h => by
    obtain ⟨v, hv, hd⟩ := K.gd x d he
    exact loadG K FO S hx hv (h v s (.refl s) (hd _ _) λ q => by cases q)
theorem ok_bin {op : Operator} {l r : PE} {l' r' : PySem.Expr} {pos : Pos} (hl : PtOk C n F l l') (hr : PtOk C n F r r') : EvOk C n F (.bin op l r) (.BinOp l' op r' pos) :=
  .of (λ _ => rfl) λ A s O₀ ow ρ d Q E hA S he h => by
    obtain ⟨a, e1, he⟩ := Option.bind_eq_some_iff.mp (show (ev C l ρ).t.bind _ = some d from he)
    obtain ⟨b, e2, e3⟩ := Option.bind_eq_some_iff.mp he
    refine wpAny_BinOp (hl A s O₀ ow ρ a _ E hA S e1 λ va s₁ X₁ ha => hr A s₁ O₀ ow ρ b _ E hA (S.ext X₁) e2 λ vb s₂ X₂ hb => ?_)
    exact bin_ok hA.1 ((S.ext X₁).ext X₂).oof e3 (hasT_ext X₂ ha) hb λ v s' X hv hf => h v s' (X₁.trans (X₂.trans X)) hv λ _ ds q => (hf ds q).back (X₁.trans X₂).heap
theorem ok_neg {e : PE} {e' : PySem.Expr} {pos : Pos} (he : PtOk C n F e e') : EvOk C n F (.neg e) (.UnaryOp .USub e' pos) :=
  .of (λ _ => rfl) λ A s O₀ ow ρ d Q E hA S hd h => by
    obtain ⟨a, e1, e2⟩ := Option.bind_eq_some_iff.mp (show (ev C e ρ).t.bind _ = some d from hd)
    refine wpAny_UnaryOp (he A s O₀ ow ρ a _ E hA S e1 λ va s₁ X₁ ha => ?_)
    cases a <;> simp only [dneg, reduceCtorEq, Option.some.injEq] at e2
    subst e2
    obtain ⟨t, rfl⟩ := hasT_int ha
    exact PyProof.Rows.neg_int (h _ _ (X₁.trans (.toks _)) (by rw [Has]; exact ⟨_, rfl⟩) λ q => by cases q)
theorem ok_sub {e i : PE} {e' i' : PySem.Expr} {pos : Pos} (hs : (match i' with | .Slice .. => false | _ => true) = true) (he : PtOk C n F e e') (hi : PtOk C n F i i') : EvOk C n F (.sub e i) (.Subscript e' i' pos) :=
  .of (λ _ => rfl) λ A s O₀ ow ρ d Q E hA S hd h => by
    obtain ⟨a, e1, hd⟩ := Option.bind_eq_some_iff.mp (show (ev C e ρ).t.bind _ = some d from hd)
    obtain ⟨b, e2, e3⟩ := Option.bind_eq_some_iff.mp hd
    refine Subscript_ (he A s O₀ ow ρ a _ E hA S e1 λ va s₁ X₁ ha => hi A s₁ O₀ ow ρ b _ E hA (S.ext X₁) e2 λ vb s₂ X₂ hb => ?_)
    obtain ⟨⟨T, id, hT, hl⟩, hg⟩ := getItem_ok (prog := C.prog) (w := C.w) (A := A) (E := E) (Q := Q) e3 (hasT_ext X₂ ha) hb λ v s' X hv => h v s' (X₁.trans (X₂.trans X)) hv λ q => by cases q
    exact tail_ok (λ a b p q => by subst q; cases hs) hT hl hg
noncomputable def PartOk (C : Cx) (n : Nat) (F : Frame) (p : PE) (e : Option PySem.Expr) : Prop := ∀ A s O₀ ow ρ k (Q : Value → Shared → Prop) (E : Value → Shared → Prop), AOk n A → St F O₀ ow ρ s → part p (ev C p ρ) = some k →
  (∀ v s', Ext s s' → IsPart v k → Q v s') → wpAny (model C.prog C.w) A (evalPart e F.env) Q E s
theorem part_none {p : PE} (hp : absent p = true) : PartOk C n F p none := λ A s O₀ ow ρ k Q E hA S he h => by
  unfold part at he; rw [hp] at he; simp only [if_true, Option.some.injEq] at he; subst he
  exact wpAny_evalPart_none (h _ s (.refl s) .none)
theorem part_some {p : PE} {e : PySem.Expr} (hp : absent p = false) (he : PeOk C n F p e) : PartOk C n F p (some e) := λ A s O₀ ow ρ k Q E hA S hk h => by
  unfold part at hk; rw [hp] at hk; simp only [Bool.false_eq_true, if_false] at hk
  unfold dpart at hk
  split at hk
  · rename_i i q
    cases hk
    refine wpAny_evalPart_some (he A s O₀ ow ρ _ Q E hA S q λ v s' X hv _ => ?_)
    rw [Has] at hv; obtain ⟨t, rfl⟩ := hv
    exact h _ s' X (.int i t)
  · cases hk
theorem ok_slc {e lo hi : PE} {e' : PySem.Expr} {lo' hi' : Option PySem.Expr} {p pos : Pos} (he : PtOk C n F e e') (hlo : PartOk C n F lo lo') (hhi : PartOk C n F hi hi') :
    EvOk C n F (.slc e lo hi) (.Subscript e' (.Slice lo' hi' none p) pos) :=
  .of (λ _ => rfl) λ A s O₀ ow ρ d Q E hA S hd h => by
    obtain ⟨a, e1, hd⟩ := Option.bind_eq_some_iff.mp (show (ev C e ρ).t.bind _ = some d from hd)
    obtain ⟨x, e2, hd⟩ := Option.bind_eq_some_iff.mp hd
    obtain ⟨y, e3, e4⟩ := Option.bind_eq_some_iff.mp hd
    refine Subscript_ (he A s O₀ ow ρ a _ E hA S e1 λ va s₁ X₁ ha => wpAny_Slice (hlo A s₁ O₀ ow ρ x _ E hA (S.ext X₁) e2 λ vl s₂ X₂ pl => hhi A s₂ O₀ ow ρ y _ E hA ((S.ext X₁).ext X₂) e3 λ vu s₃ X₃ pu =>
      wpAny_evalPart_none ?_))
    have S3 := ((S.ext X₁).ext X₂).ext X₃
    obtain ⟨⟨T, id, hT, hl⟩, hg⟩ := slice_ok (prog := C.prog) (w := C.w) (A := A) (E := E) (Q := Q) S3.oof e4 (hasT_ext X₃ (hasT_ext X₂ ha)) pl pu λ v s' X hv hf =>
      h v s' (X₁.trans (X₂.trans (X₃.trans X))) hv λ _ ds q => (hf ds q).back (X₁.trans (X₂.trans X₃)).heap
    exact tail_slice_ok hT hl hg
theorem arg_nil : ArgOk C n F .nil [] := by
  refine ⟨λ A s O₀ ow ρ ds pos Q E hA S he h => ?_, λ A s O₀ ow ρ ds pos Q E hA S he h => ?_, (λ e r q => by cases q), λ _ => rfl⟩
  · have : ds = [] := (Option.some.inj he).symm
    subst this
    exact wpAny_items_nil (h [] s (.refl s) hasL_nil)
  · have : ds = [] := (Option.some.inj he).symm
    subst this
    exact wpAny_items_nil (h [] s (.refl s) rfl)
theorem arg_cons {p ps : PE} {e : PySem.Expr} {es : List PySem.Expr} (h1 : EvOk C n F p e) (h2 : ArgOk C n F ps es) (st : starEach (e :: es) F.env = (false, eval e F.env) :: starEach es F.env) : ArgOk C n F (.cons p ps) (e :: es) := by
  refine ⟨λ A s O₀ ow ρ ds pos Q E hA S he h => ?_, λ A s O₀ ow ρ ds pos Q E hA S he h => ?_, λ e' r q => ?_, λ pos => ?_⟩
  · obtain ⟨d, e1, he⟩ := Option.bind_eq_some_iff.mp (show (ev C p ρ).e.bind _ = some ds from he)
    obtain ⟨ds', e2, rfl⟩ := Option.map_eq_some_iff.mp he
    exact wpAny_items_cons (h1.pe A s O₀ ow ρ d _ E hA S e1 λ v s₁ X hv _ => h2.l A s₁ O₀ ow ρ ds' pos _ E hA (S.ext X) e2 λ vs s₂ Y hvs => h _ _ (X.trans Y) (hasL_cons (Y.has hv) hvs)) st
  · obtain ⟨d, e1, he⟩ := Option.bind_eq_some_iff.mp (show (ev C p ρ).t.bind _ = some ds from he)
    obtain ⟨ds', e2, rfl⟩ := Option.map_eq_some_iff.mp he
    exact wpAny_items_cons (h1.pt A s O₀ ow ρ d _ E hA S e1 λ v s₁ X hv => h2.lt A s₁ O₀ ow ρ ds' pos _ E hA (S.ext X) e2 λ vs s₂ Y hvs => h _ _ (X.trans Y) ⟨v, vs, rfl, hasT_ext Y hv, hvs⟩) st
  · cases q; exact st
  · rw [st]; exact h2.plain pos
theorem ok_tup {es : PE} {xs : List PySem.Expr} {k : Nat} {pos : Pos} (ha : ArgOk C n F es xs) : EvOk C n F (.tup es) (.Tuple xs k pos) :=
  .of (λ _ => rfl) λ A s O₀ ow ρ d Q E hA S hd h => by
    obtain ⟨l, e1, hd⟩ := Option.bind_eq_some_iff.mp (show (ev C es ρ).l.bind _ = some d from hd)
    split at hd
    · rename_i hl
      cases hd
      refine wpAny_Tuple (ha.l A s O₀ ow ρ l pos _ E hA S e1 λ vs s₁ X hvs => ⟨?_, ?_⟩)
      · rw [hasL_length hvs]; exact of_decide_eq_true hl
      · have Y : Ext s₁ { s₁ with heap := s₁.heap.push { cls := .type "tuple", data := .seq vs.toArray } } := .ofHeap (λ b o e => Heap.get?_push_of_some _ e) s₁.toks
        refine h _ _ (X.trans Y) ?_ λ q => by cases q
        rw [Has]
        exact ⟨_, vs.toArray, rfl, ⟨_, Heap.get?_push_size _ rfl, rfl, _, rfl⟩, Y.hasL hvs⟩
    · cases hd
theorem ok_lst {es : PE} {xs : List PySem.Expr} {pos : Pos} (ha : ArgOk C n F es xs) : EvOk C n F (.lst es) (.List xs pos) :=
  .of (λ _ => rfl) λ A s O₀ ow ρ d Q E hA S hd h => by
    obtain ⟨l, e1, hd⟩ := Option.bind_eq_some_iff.mp (show (ev C es ρ).l.bind _ = some d from hd)
    split at hd
    · rename_i hl
      cases hd
      refine wpAny_List (ha.l A s O₀ ow ρ l pos _ E hA S e1 λ vs s₁ X hvs => ⟨?_, ?_⟩)
      · rw [hasL_length hvs]; exact of_decide_eq_true hl
      · exact hands_list (Q := Q) (tk := s₁.toks) (n := 0) (S.ext X).oof hvs (λ v s' Y hv hf => h v s' (X.trans Y) hv λ _ ds q => (hf ds q).back X.heap) rfl
    · cases hd
theorem ok_ite {c a b : PE} {c' a' b' : PySem.Expr} {pos : Pos} (hc : PbOk C n F c c') (ha : PeOk C n F a a') (hb : PeOk C n F b b') : EvOk C n F (.ite c a b) (.IfExp c' a' b' pos) :=
  .val (λ _ => rfl) λ A s O₀ ow ρ d Q E hA S hd h => by
    obtain ⟨t, e1, hd⟩ := Option.bind_eq_some_iff.mp (show (ev C c ρ).b.bind _ = some d from hd)
    refine wpAny_IfExp (hc A s O₀ ow ρ t _ E hA S e1 λ s₁ X => ?_)
    cases t
    · exact hb A s₁ O₀ ow ρ d _ E hA (S.ext X) hd λ v s' Y hv _ => h v s' (X.trans Y) hv λ q => by cases q
    · exact ha A s₁ O₀ ow ρ d _ E hA (S.ext X) hd λ v s' Y hv _ => h v s' (X.trans Y) hv λ q => by cases q
theorem ok_cmp {op : CmpOp} {l r : PE} {l' r' : PySem.Expr} {pos : Pos} (hm : behindInMarks op r' = false) (hl : PtOk C n F l l') (hr : PtOk C n F r r') : EvOk C n F (.cmp op l r) (.Compare l' [op] [r'] pos) := by
  have key : ∀ A s O₀ ow ρ c (Q : Value → Shared → Prop) (E : Value → Shared → Prop), AOk n A → St F O₀ ow ρ s → (ev C (.cmp op l r) ρ).b = some c → (∀ s', Ext s s' → Q (.bool c) s') →
      wpAny (model C.prog C.w) A (eval l' F.env) (λ a s₁ => wpAny (model C.prog C.w) A (eval r' F.env) (λ b s₂ => wpAny (model C.prog C.w) A (compareOp op a b) Q E s₂) E s₁) E s := by
    intro A s O₀ ow ρ c Q E hA S he h
    obtain ⟨a, e1, he⟩ := Option.bind_eq_some_iff.mp (show (ev C l ρ).t.bind _ = some c from he)
    obtain ⟨b, e2, e3⟩ := Option.bind_eq_some_iff.mp he
    exact hl A s O₀ ow ρ a _ E hA S e1 λ va s₁ X₁ ha => hr A s₁ O₀ ow ρ b _ E hA (S.ext X₁) e2 λ vb s₂ X₂ hb => cmp_ok hA e3 (hasT_ext X₂ ha) hb (h s₂ (X₁.trans X₂))
  have un : ∀ ρ d, (ev C (.cmp op l r) ρ).e = some d → ∃ c, d = .bool c ∧ (ev C (.cmp op l r) ρ).b = some c := by
    intro ρ d he
    obtain ⟨c, e, rfl⟩ := Option.map_eq_some_iff.mp (show Option.map D.bool _ = some d from he)
    exact ⟨c, rfl, e⟩
  refine ⟨λ A s O₀ ow ρ d Q E hA S he h => ?_, λ A s O₀ ow ρ d Q E hA S he h => ?_, λ A s O₀ ow ρ b Q E hA S he h => ?_, λ A s O₀ ow ρ xs t Q E hA S he _ h => by cases he⟩
  · obtain ⟨c, rfl, e⟩ := un ρ d he
    exact wpAny_Compare1 (key A s O₀ ow ρ c _ E hA S e λ s' X => h _ s' X (by rw [Has]) λ q => by cases q) hm
  · obtain ⟨c, rfl, e⟩ := un ρ d he
    exact wpAny_Compare1 (key A s O₀ ow ρ c _ E hA S e λ s' X => h _ s' X (.of (by rw [Has]))) hm
  · exact wpAny_isTrue_Compare1 (key A s O₀ ow ρ b _ E hA S he λ s' X => wpAny_truthy_bool (h s' X)) hm
theorem ok_chain {o1 o2 : CmpOp} {a b c : PE} {a' b' c' : PySem.Expr} {pos : Pos} (hm : behindInMarks o2 c' = false) (ha : PtOk C n F a a') (hb : PtOk C n F b b') (hc : PtOk C n F c c') :
    EvOk C n F (.chain o1 o2 a b c) (.Compare a' [o1, o2] [b', c'] pos) :=
  .test (λ _ => ⟨rfl, rfl, rfl⟩) λ A s O₀ ow ρ t Q E hA S he h => by
    obtain ⟨x, e1, he⟩ := Option.bind_eq_some_iff.mp (show (ev C a ρ).t.bind _ = some t from he)
    obtain ⟨y, e2, he⟩ := Option.bind_eq_some_iff.mp he
    obtain ⟨t1, e3, he⟩ := Option.bind_eq_some_iff.mp he
    refine isTrue_chain (ha A s O₀ ow ρ x _ E hA S e1 λ va s₁ X₁ hva => test_link (hb A s₁ O₀ ow ρ y _ E hA (S.ext X₁) e2 λ vb s₂ X₂ hvb => cmp_ok hA e3 (hasT_ext X₂ hva) hvb (wpAny_truthy_bool ?_))) (by simpa [lastMarks] using hm)
    cases t1
    · cases he; exact h s₂ (X₁.trans X₂)
    · obtain ⟨z, e4, e5⟩ := Option.bind_eq_some_iff.mp (show (ev C c ρ).t.bind _ = some t from he)
      exact test_last (hc A s₂ O₀ ow ρ z _ E hA ((S.ext X₁).ext X₂) e4 λ vc s₃ X₃ hvc => cmp_ok hA e5 (hasT_ext X₃ hvb) hvc (wpAny_truthy_bool (h s₃ (X₁.trans (X₂.trans X₃)))))
theorem ok_and {a b : PE} {a' b' : PySem.Expr} {pos : Pos} (ha : PbOk C n F a a') (hb : PbOk C n F b b') : EvOk C n F (.and_ a b) (.BoolOp .And [a', b'] pos) :=
  .test (λ _ => ⟨rfl, rfl, rfl⟩) λ A s O₀ ow ρ t Q E hA S he h => by
    obtain ⟨x, e1, he⟩ := Option.bind_eq_some_iff.mp (show (ev C a ρ).b.bind _ = some t from he)
    refine wpAny_isTrue_BoolOp (wpAny_allTrue_And_cons (ha A s O₀ ow ρ x _ E hA S e1 λ s₁ X₁ => ?_))
    cases x
    · cases he; exact h s₁ X₁
    · refine wpAny_allTrue_And_cons (hb A s₁ O₀ ow ρ t _ E hA (S.ext X₁) he λ s₂ X₂ => ?_)
      cases t
      · exact h s₂ (X₁.trans X₂)
      · exact wpAny_allTrue_And_nil (h s₂ (X₁.trans X₂))
theorem ok_or {a b : PE} {a' b' : PySem.Expr} {pos : Pos} (ha : PbOk C n F a a') (hb : PbOk C n F b b') : EvOk C n F (.or_ a b) (.BoolOp .Or [a', b'] pos) :=
  .test (λ _ => ⟨rfl, rfl, rfl⟩) λ A s O₀ ow ρ t Q E hA S he h => by
    obtain ⟨x, e1, he⟩ := Option.bind_eq_some_iff.mp (show (ev C a ρ).b.bind _ = some t from he)
    refine wpAny_isTrue_BoolOp (wpAny_allTrue_Or_cons (ha A s O₀ ow ρ x _ E hA S e1 λ s₁ X₁ => ?_))
    cases x
    · refine wpAny_allTrue_Or_cons (hb A s₁ O₀ ow ρ t _ E hA (S.ext X₁) he λ s₂ X₂ => ?_)
      cases t
      · exact wpAny_allTrue_Or_nil (h s₂ (X₁.trans X₂))
      · exact h s₂ (X₁.trans X₂)
    · cases he; exact h s₁ X₁
theorem ok_not {a : PE} {a' : PySem.Expr} {pos : Pos} (ha : PbOk C n F a a') : EvOk C n F (.not_ a) (.UnaryOp .Not a' pos) :=
  .test (λ _ => ⟨rfl, rfl, rfl⟩) λ A s O₀ ow ρ t Q E hA S he h => by
    obtain ⟨x, e1, rfl⟩ := Option.map_eq_some_iff.mp (show (ev C a ρ).b.map not = some t from he)
    exact wpAny_isTrue_Not (ha A s O₀ ow ρ x _ E hA S e1 λ s₁ X₁ => h s₁ X₁)
end
section
variable {C : Cx} {n : Nat} {F : Frame} {nm : List Str} {sc : Scope}
theorem ok_call (K : CxOk C n) (FO : FrameOk C nm sc F) {f : Str} {args : PE} {xs : List PySem.Expr} {p pos : Pos} (hg : isGlob sc f = true) (ha : ArgOk C n F args xs) (hne : xs ≠ []) :
    EvOk C n F (.call f args) (.Call (.Name f p) xs [] pos) :=
  .of (λ _ => rfl) λ A s O₀ ow ρ d Q E hA S hd h => by
    obtain ⟨l, e1, e2⟩ := Option.bind_eq_some_iff.mp (show (ev C args ρ).l.bind _ = some d from hd)
    obtain ⟨a, o, fd, hm, ho, hdat, hcall⟩ := K.fn f l d e2
    obtain ⟨e, r, rfl⟩ := List.exists_cons_of_ne_nil hne
    refine wpAny_Call_NameR (loadG K FO S hg hm (callWith_def hdat (ha.l A s O₀ ow ρ l pos _ E hA S e1 λ vs s₁ X hvs => ⟨X.heap _ _ (FO.keepS S _ _ ho), ?_⟩) (ha.first e r rfl)))
    exact hcall A s₁ (Oof O₀ ow ρ) Q E l d vs hA (λ b o e => X.heap _ _ (FO.keepS S _ _ e)) (S.ext X).bare (S.ext X).oofL hvs e2 λ v s' Y hv => h v s' (X.trans Y) hv λ q => by cases q
theorem ok_gen (K : CxOk C n) (FO : FrameOk C nm sc F) {f : Str} {args : PE} {xs : List PySem.Expr} {p pos : Pos} (hg : isGlob sc f = true) (ha : ArgOk C n F args xs) (hne : xs ≠ []) :
    EvOk C n F (.gen f args) (.Call (.Name f p) xs [] pos) :=
  .iter (λ _ => ⟨rfl, rfl, rfl⟩) λ A s O₀ ow ρ d t Q E hA S hd _ h => by
    obtain ⟨l, e1, e2⟩ := Option.bind_eq_some_iff.mp (show (ev C args ρ).l.bind _ = some d from hd)
    obtain ⟨a, o, fd, hm, ho, hdat, hcall⟩ := K.gn f l d e2
    obtain ⟨e, r, rfl⟩ := List.exists_cons_of_ne_nil hne
    refine wpAny_Call_NameR (loadG K FO S hg hm (callWith_def hdat (ha.l A s O₀ ow ρ l pos _ E hA S e1 λ vs s₁ X hvs => ⟨X.heap _ _ (FO.keepS S _ _ ho), ?_⟩) (ha.first e r rfl)))
    exact hcall A s₁ (Oof O₀ ow ρ) t _ _ E l d vs hA (λ b o e => X.heap _ _ (FO.keepS S _ _ e)) (S.ext X).bare (S.ext X).oofL hvs e2 λ g s' Y k => k Q E λ it s'' Z I => h it s'' (X.trans Z) (I.back X)
theorem bi_boot (b : Bi) : bootBuiltins (biName b) = some (biVal b) ∧ biName b ≠ "__name__" := by
  cases b
  · exact ⟨by decide +kernel, by decide +kernel⟩
  · exact ⟨by decide +kernel, by decide +kernel⟩
  · exact ⟨by decide +kernel, by decide +kernel⟩
  · exact ⟨by decide +kernel, by decide +kernel⟩
  · exact ⟨by decide +kernel, by decide +kernel⟩
  · exact ⟨by decide +kernel, by decide +kernel⟩
  · exact ⟨by decide +kernel, by decide +kernel⟩
theorem ArgOk.tail {p : PE} {e : PySem.Expr} {r : List PySem.Expr} {pos : Pos} (ha : ArgOk C n F p (e :: r)) : ((backTo pos (starEach r F.env)).any λ x => x.1) = false := by
  have := ha.plain pos
  rw [ha.first e r rfl] at this
  exact this
theorem ok_bi (K : CxOk C n) (FO : FrameOk C nm sc F) {f : Bi} {args : PE} {xs : List PySem.Expr} {p pos : Pos} (hg : isGlob sc (biName f) = true) (ha : ArgOk C n F args xs) (hne : xs ≠ []) :
    EvOk C n F (.bi f args) (.Call (.Name (biName f) p) xs [] pos) :=
  .of (λ _ => rfl) λ A s O₀ ow ρ d Q E hA S hd h => by
    obtain ⟨l, e1, e2⟩ := Option.bind_eq_some_iff.mp (show (ev C args ρ).lt.bind _ = some d from hd)
    obtain ⟨e, r, rfl⟩ := List.exists_cons_of_ne_nil hne
    refine wpAny_Call_NameR (loadB K FO S hg (K.bi f) (bi_boot f).1 (bi_boot f).2 ?_)
    have key : wpAny (model C.prog C.w) A (spliced (backTo pos (starEach (e :: r) F.env))) (λ vs s₁ => wpAny (model C.prog C.w) A (call (biVal f) vs) Q E s₁) E s :=
      ha.lt A s O₀ ow ρ l pos _ E hA S e1 λ vs s₁ X hvs => bi_ok hA e2 hvs λ v s' Y hv _ => h v s' (X.trans Y) hv λ q => by cases q
    have pl := ha.tail (pos := pos)
    cases f
    · exact PyProof.Rows.callWith_builtin1 key (ha.first e r rfl) pl
    · exact PyProof.Rows.callWith_builtin1 key (ha.first e r rfl) pl
    · exact PyProof.Rows.callWith_builtin1 key (ha.first e r rfl) pl
    · exact PyProof.Rows.callWith_builtin1 key (ha.first e r rfl) pl
    · exact PyProof.Rows.callWith_builtin1 key (ha.first e r rfl) pl
    · exact PyProof.Rows.callWith_type1 key (ha.first e r rfl) pl
    · exact PyProof.Rows.callWith_type1 key (ha.first e r rfl) pl
theorem rs_one (a b : Int) : ((b - a).toNat : Int) = Builtin.Range.rangeSize a b 1 := by
  rw [rangeSize_one]
  by_cases q : a < b
  · rw [if_pos q]; exact Int.toNat_of_nonneg (Int.le_of_lt (Int.sub_pos_of_lt q))
  · rw [if_neg q, Int.toNat_of_nonpos (Int.sub_nonpos_of_le (Int.not_lt.mp q))]; rfl
theorem rs_neg (a b : Int) : ((a - b).toNat : Int) = Builtin.Range.rangeSize a b (-1) := rs_one b a
theorem fits {i : Int} (h : -(2 ^ 62) < i ∧ i < 2 ^ 62) : Builtin.Range.rangeFitsLong i = true := by
  unfold Builtin.Range.rangeFitsLong; rw [decide_eq_true (Int.le_trans (by decide) (Int.le_of_lt h.1)), decide_eq_true (Int.lt_trans h.2 (by decide))]; rfl
theorem fits_sub {a b : Int} (h1 : a < 2 ^ 62) (h2 : -(2 ^ 62) < b) : Builtin.Range.rangeFitsLong ((a - b).toNat : Int) = true := by
  unfold Builtin.Range.rangeFitsLong; rw [decide_eq_true (Int.le_trans (by decide) (Int.natCast_nonneg _)), decide_eq_true (by omega)]; rfl
theorem small_neg {a b : Int} (h1 : -(2 ^ 62) < a ∧ a < 2 ^ 62) (h2 : -(2 ^ 62) < b ∧ b < 2 ^ 62) : Builtin.Range.small a b (-1) = true := by
  unfold Builtin.Range.small
  rw [fits h1, fits h2, ← rs_neg, fits_sub h1.2 h2.1, if_neg (by decide), show b + (-1 + 1) = b from Int.add_zero b, fits h2, Bool.or_true]; rfl
theorem rng_it (hh : A.handled = none) {s : Shared} {O : Addr → Prop} {d : List D} {t : PySem.Expr} {Q : Value → Shared → Prop} {E : Value → Shared → Prop} (h : ∀ it s', Ext s s' → ItOk C.h0 C.prog C.w A O t false s s' it d → Q it s')
    {tk : Nat} {a b c : Int} {t1 t2 t3 : Tok} {m : Nat} (hs : Builtin.Range.small a b c = true) (hm : (m : Int) = Builtin.Range.rangeSize a b c) (hd : rangeD a c m = d) :
    wpAny (model C.prog C.w) A (pyIter (.ref s.heap.objs.size)) Q E { s with heap := s.heap.push { cls := .type "range", data := .fields #[.int a t1, .int b t2, .int c t3] }, toks := tk } := by
  subst hd
  have Y : Ext s { s with heap := s.heap.push { cls := .type "range", data := .fields #[.int a t1, .int b t2, .int c t3] }, toks := tk } := .ofHeap (λ b o e => Heap.get?_push_of_some _ e) tk
  exact iter_range (O := O) hh (Heap.get?_push_size _ rfl) hs hm λ it s' Z I => h it s' (Y.trans Z) (I.back Y)
theorem hasTL1 {O : Addr → Prop} {h : Heap} {a : Int} {vs : List Value} (x : HasTL O h [.int a] vs) : ∃ t, vs = [.int a t] :=
  x.elim λ _ x => x.elim λ _ x => (hasT_int x.2.1).elim λ t e => ⟨t, x.1.trans (by rw [e, hasTL_nil x.2.2])⟩
theorem hasTL2 {O : Addr → Prop} {h : Heap} {a : Int} {d : D} {l : List D} {vs : List Value} (x : HasTL O h (.int a :: d :: l) vs) : ∃ t vs', vs = .int a t :: vs' ∧ HasTL O h (d :: l) vs' :=
  x.elim λ _ x => x.elim λ r x => (hasT_int x.2.1).elim λ t e => ⟨t, r, e ▸ x.1, x.2.2⟩
section
variable {s : Shared} {O : Addr → Prop} {d : List D} {t : PySem.Expr} {Q : Value → Shared → Prop} {E : Value → Shared → Prop} {a b : Int} {t1 t2 t3 : Tok}
theorem rng_1 (hh : A.handled = none) (h : ∀ it s', Ext s s' → ItOk C.h0 C.prog C.w A O t false s s' it d → Q it s') (e : drange1 a = some d) :
    wpAny (model C.prog C.w) A (call (.type "range") [.int a t1]) (λ x s₁ => wpAny (model C.prog C.w) A (pyIter x) Q E s₁) E s :=
  have q := iteE e
  have h1 := smallI_iff.mp (band q.1).1
  call_range_1 (rng_it hh h (m := a.toNat) (small_one (by decide) (by decide) (Int.le_of_lt h1.1) h1.2) ((congrArg (λ (x : Int) => (x.toNat : Int)) (Int.sub_zero a)).symm.trans (rs_one 0 a)) (by rw [← som q.2]; simp [rangeD]))
theorem rng_2 (hh : A.handled = none) (h : ∀ it s', Ext s s' → ItOk C.h0 C.prog C.w A O t false s s' it d → Q it s') (e : drange2 a b = some d) :
    wpAny (model C.prog C.w) A (call (.type "range") [.int a t1, .int b t2]) (λ x s₁ => wpAny (model C.prog C.w) A (pyIter x) Q E s₁) E s :=
  have q := iteE e
  have h1 := smallI_iff.mp (band (band q.1).1).1
  have h2 := smallI_iff.mp (band (band q.1).1).2
  call_range_2 (rng_it hh h (small_one (Int.le_of_lt h1.1) h1.2 (Int.le_of_lt h2.1) h2.2) (rs_one a b) (by rw [← som q.2]; simp [rangeD]))
theorem rng_3 (hh : A.handled = none) (h : ∀ it s', Ext s s' → ItOk C.h0 C.prog C.w A O t false s s' it d → Q it s') {c : Int} (e : drange3 a b c = some d) :
    wpAny (model C.prog C.w) A (call (.type "range") [.int a t1, .int b t2, .int c t3]) (λ x s₁ => wpAny (model C.prog C.w) A (pyIter x) Q E s₁) E s := by
  have q := iteE e
  have hm := band (band q.1).1
  cases eq_of_beq hm.2
  have h0 := band hm.1
  exact PySem.call_range_3 (by decide) (rng_it hh h (small_neg (smallI_iff.mp h0.1) (smallI_iff.mp h0.2)) (rs_neg a b) (by rw [← som q.2]; exact List.map_congr_left λ k _ => congrArg D.int (congrArg (a + ·) (Int.mul_neg_one k)))) (.inl (PyProof.noPylong_small (by decide)))
theorem rng_call (hh : A.handled = none) {l : List D} {vs : List Value} (e : drange l = some d) (hvs : HasTL O s.heap l vs)
    (h : ∀ it s', Ext s s' → ItOk C.h0 C.prog C.w A O t false s s' it d → Q it s') :
    wpAny (model C.prog C.w) A (call (.type "range") vs) (λ x s₁ => wpAny (model C.prog C.w) A (pyIter x) Q E s₁) E s :=
  drange_ok (P := λ l => HasTL O s.heap l vs → _) e (λ a e q => (hasTL1 q).elim λ _ r => r ▸ rng_1 hh h e)
    (λ a b e q => (hasTL2 q).elim λ _ q => q.elim λ _ q => (hasTL1 q.2).elim λ _ r => q.1 ▸ r ▸ rng_2 hh h e)
    (λ a b c e q => (hasTL2 q).elim λ _ q => q.elim λ _ q => (hasTL2 q.2).elim λ _ p => p.elim λ _ p => (hasTL1 p.2).elim λ _ r => q.1 ▸ p.1 ▸ r ▸ rng_3 hh h e) hvs
end
theorem ok_rng (K : CxOk C n) (FO : FrameOk C nm sc F) {args : PE} {xs : List PySem.Expr} {p pos : Pos} (hg : isGlob sc "range" = true) (ha : ArgOk C n F args xs) (hne : xs ≠ []) :
    EvOk C n F (.rng args) (.Call (.Name "range" p) xs [] pos) :=
  .iter (λ _ => ⟨rfl, rfl, rfl⟩) λ A s O₀ ow ρ d t Q E hA S hd _ h => bindE (show (ev C args ρ).lt.bind _ = some d from hd) λ l e1 e2 => by
    obtain ⟨e, r, rfl⟩ := List.exists_cons_of_ne_nil hne
    refine wpAny_Call_NameR (loadB K FO S hg K.rng (v := .type "range") (by decide +kernel) (by decide +kernel) ?_)
    exact PyProof.Rows.callWith_type1 (ha.lt A s O₀ ow ρ l pos _ E hA S e1 λ vs s₁ X hvs => rng_call hA.1 e2 hvs λ it s' Z I => h it s' (X.trans Z) (I.back X)) (ha.first e r rfl) ha.tail
theorem ok_zip (K : CxOk C n) (FO : FrameOk C nm sc F) {a b : PE} {a' b' : PySem.Expr} {p pos : Pos} (hg : isGlob sc "zip" = true) (ha : PeOk C n F a a') (hb : PeOk C n F b b')
    (sa : ∀ r, starEach (a' :: r) F.env = (false, eval a' F.env) :: starEach r F.env) (sb : ∀ r, starEach (b' :: r) F.env = (false, eval b' F.env) :: starEach r F.env) :
    EvOk C n F (.zip a b) (.Call (.Name "zip" p) [a', b'] [] pos) :=
  .iter (λ _ => ⟨rfl, rfl, rfl⟩) λ A s O₀ ow ρ d t Q E hA S hd ht h => by
    obtain ⟨es, k, q, rfl⟩ := ht rfl
    obtain ⟨x, e1, hd⟩ := Option.bind_eq_some_iff.mp (show (ev C a ρ).e.bind _ = some d from hd)
    obtain ⟨y, e2, hd⟩ := Option.bind_eq_some_iff.mp hd
    refine wpAny_Call_NameR (loadB K FO S hg K.zip (v := .type "zip") (by decide +kernel) (by decide +kernel) ?_)
    refine PyProof.Rows.callWith_type1 (wpAny_items_cons (ha A s O₀ ow ρ x _ E hA S e1 λ v s₁ X hv _ => wpAny_items_cons (hb A s₁ O₀ ow ρ y _ E hA (S.ext X) e2 λ u s₂ Y hu _ => wpAny_items_nil ?_) (sb _)) (sa _)) (sa _) (by rw [sb]; rfl)
    split at hd
    · split at hd
      · rename_i hf
        cases hd
        simp only [Bool.and_eq_true] at hf
        have hv' := Y.has hv
        rw [Has] at hv' hu
        obtain ⟨l1, vs, rfl, n1, i1, q1⟩ := hv'
        obtain ⟨l2, us, rfl, n2, i2, q2⟩ := hu
        exact iter_zip hA.1 i1 n1 q1 i2 n2 q2 hf.1 hf.2 λ it s' Z I => h it s' (X.trans (Y.trans Z)) (I.back (X.trans Y))
      · cases hd
    · cases hd
theorem strsOf_are {O : Addr → Prop} {h : Heap} : ∀ {ds : List D} {vs : List Value} {ys : List Str}, HasL O h ds vs → strsOf ds = some ys → StrsAre vs ys
  | [], vs, ys, x, e => by
    rw [HasL] at x; subst x; cases e; exact .nil
  | d :: ds, vs, ys, x, e => by
    rw [HasL] at x; obtain ⟨v, r, rfl, a, b⟩ := x
    cases d <;> simp only [strsOf, reduceCtorEq] at e
    obtain ⟨ys', e', rfl⟩ := Option.map_eq_some_iff.mp e
    rw [Has] at a; obtain ⟨t, rfl⟩ := a
    exact .cons _ _ (strsOf_are b e')
theorem ok_join {sep : Str} {k : Nat} {e : PE} {e' : PySem.Expr} {p apos pos : Pos} (hl : (apos.endLine == pos.line) = true) (he : PtOk C n F e e') (st : ∀ r, starEach (e' :: r) F.env = (false, eval e' F.env) :: starEach r F.env) :
    EvOk C n F (.join sep e) (.Call (.Attribute (.Constant (.str sep) k p) "join" apos) [e'] [] pos) :=
  .of (λ _ => rfl) λ A s O₀ ow ρ d Q E hA S hd h => by
    obtain ⟨a, e1, e2⟩ := Option.bind_eq_some_iff.mp (show (ev C e ρ).t.bind _ = some d from hd)
    refine wpAny_Call_method1_late rfl hl (by rw [st]; rfl) (wpAny_Constant_str ?_)
    refine ⟨"str", "str.join", PySem.F.plainAttrs_str, PySem.F.slot_str_join, PySem.F.type_str_join, typeIs_str _ _ _, (λ _ e => nomatch e), callWith_builtin rfl (evalArgs_plain (spliced_cons (he A _ O₀ ow ρ a _ E hA (S.ext (.toks _)) e1 λ v s₁ X hv => spliced_nil ?_)))⟩
    cases a <;> simp only [djoin, reduceCtorEq] at e2
    obtain ⟨ys, e3, e4⟩ := Option.bind_eq_some_iff.mp e2
    split at e4
    · rename_i hz
      cases e4
      obtain ⟨l, vs, rfl, i1, q1⟩ := hasT_lst hv
      exact join_list i1 (strsOf_are q1 e3) (of_decide_eq_true hz) λ t' k => h _ _ ((Ext.toks _).trans (X.trans (.toks k))) (by rw [Has]; exact ⟨t', rfl⟩) λ q => by cases q
    · cases e4
theorem hasL_strs {O : Addr → Prop} {h : Heap} : ∀ l : List (Str × Tok), HasL O h (l.map λ p => D.str p.1) (strValues l)
  | [] => hasL_nil
  | (x, t) :: l => hasL_cons (by rw [Has]; exact ⟨t, rfl⟩) (hasL_strs l)
theorem ok_splt {x : Str} {k : Nat} {p apos pos : Pos} (hl : (apos.endLine == pos.line) = true) :
    EvOk C n F (.splt x) (.Call (.Attribute (.Constant (.str x) k p) "split" apos) [] [] pos) :=
  .of (λ _ => rfl) λ A s O₀ ow ρ d Q E hA S hd h => by
    have hd' : dsplit x = some d := hd
    unfold dsplit at hd'
    split at hd'
    · rename_i hz
      cases hd'
      simp only [Bool.and_eq_true, decide_eq_true_eq] at hz
      refine wpAny_Call_method_lateS rfl rfl hl (wpAny_Constant_str ?_)
      have S1 := S.ext (.toks (s.toks + 1))
      have fin : ∀ (l : List (Str × Tok)) k, l.map (·.1) = Txt.words x → Q (.ref s.heap.objs.size) { s with heap := s.heap.push { cls := .type "list", data := .seq (strValues l).toArray }, toks := k } := by
        intro l k el
        refine hands_list (O := Oof O₀ ow ρ) (ds := (Txt.words x).map .str) (Q := Q) (n := 0) S.oof ?_ (λ v s' X hv _ => h v s' X hv λ q => by cases q) rfl
        rw [← el, List.map_map]; exact hasL_strs l
      refine ⟨"str", _, PySem.F.plainAttrs_str, PySem.F.slot_str_split, PySem.F.type_str_split, typeIs_str _ _ _, (λ _ e => nomatch e),
        method0_meets PySem.F.slot_str_split PySem.F.entry_str_split (typeIs_str _ _ _) (PySem.F.args_str_split_1 _) (meets_str_split_space x s.toks hz.1 hz.2) ?_⟩
      cases hw : Builtin.Str.spaceWords x (x.length + 1) == [(0, x.length)]
      · simp only [Bool.false_eq_true, if_false]
        rw [strsFrom_eq]
        exact fin (numbered (s.toks + 1) (PySem.wordsOf x)) _ ((numbered_texts _ _).trans (if_neg (ne_true_of_eq_false hw)).symm)
      · simp only [if_true]
        exact fin [(x, s.toks)] _ (if_pos hw).symm
    · cases hd'
theorem mapOf_keep {prog : Program} {w : World} {h h' : Heap} {a : Addr} {f : Str → Option Value} (hm : h.MapOf (strKind prog w) a f) (k : ∀ b o, h.get? b = some o → h'.get? b = some o) : h'.MapOf (strKind prog w) a f :=
  let ⟨o, es, ep, ho, r⟩ := hm; ⟨o, es, ep, k _ _ ho, r⟩
theorem ok_notTok (K : CxOk C n) (FO : FrameOk C nm sc F) {e : PE} {e' : PySem.Expr} {p pos : Pos} (hg : isGlob sc "EXACT_TOKEN_TYPES" = true) (he : PtOk C n F e e') (hm : behindInMarks .NotIn (.Name "EXACT_TOKEN_TYPES" p) = false := by rfl) :
    EvOk C n F (.notTok e) (.Compare e' [.NotIn] [.Name "EXACT_TOKEN_TYPES" p] pos) :=
  .test (λ _ => ⟨rfl, rfl, rfl⟩) λ A s O₀ ow ρ t Q E hA S hd h => by
    obtain ⟨a, e1, e2⟩ := Option.bind_eq_some_iff.mp (show (ev C e ρ).t.bind _ = some t from hd)
    obtain ⟨dd, D, hm1, lo, T, look⟩ := K.tok
    refine wpAny_isTrue_Compare1 (he A s O₀ ow ρ a _ E hA S e1 λ v s₁ X hv => loadG K FO (S.ext X) hg hm1 ?_) hm
    cases a <;> simp only [dnotTok, reduceCtorEq, Option.some.injEq] at e2
    obtain ⟨t', rfl⟩ := hasT_str hv
    refine wpAny_notIn_of (strKind_is C.prog C.w _ _) lo (mapOf_keep T (FO.keepS (S.ext X))) (wpAny_truthy_bool ?_)
    subst e2
    rename_i x
    have : (!(D x).isSome) = (C.tok x).isNone := by
      cases q : C.tok x with
      | none => rw [(look x).2 q]; rfl
      | some i => obtain ⟨t, e⟩ := (look x).1 i q; rw [e]; rfl
    rw [this]
    exact h _ (X.trans (.toks _))
theorem ok_getD (K : CxOk C n) (FO : FrameOk C nm sc F) {e f : PE} {e' f' : PySem.Expr} {p apos pos : Pos} (hl : (apos.endLine == pos.line) = true) (hg : isGlob sc "EXACT_TOKEN_TYPES" = true) (he : PtOk C n F e e') (hf : PtOk C n F f f')
    (se : ∀ r, starEach (e' :: r) F.env = (false, eval e' F.env) :: starEach r F.env) (sf : ∀ r, starEach (f' :: r) F.env = (false, eval f' F.env) :: starEach r F.env) :
    EvOk C n F (.getD e f) (.Call (.Attribute (.Name "EXACT_TOKEN_TYPES" p) "get" apos) [e', f'] [] pos) :=
  .of (λ _ => rfl) λ A s O₀ ow ρ d Q E hA S hd h => by
    obtain ⟨a, e1, hd⟩ := Option.bind_eq_some_iff.mp (show (ev C e ρ).t.bind _ = some d from hd)
    obtain ⟨b, e2, e3⟩ := Option.bind_eq_some_iff.mp hd
    obtain ⟨dd, D, hm1, lo, T, look⟩ := K.tok
    refine wpAny_Call_method2_late rfl hl (by rw [se, sf]; rfl) (loadG K FO S hg hm1 ?_)
    have T1 := mapOf_keep T (FO.keepS S)
    refine ⟨"dict", "dict.get", PySem.F.plainAttrs_dict, PySem.F.slot_dict_get, PySem.F.type_dict_get, T1.typeIs, T1.noDict, callWith_builtin rfl (evalArgs_plain (spliced_cons (he A s O₀ ow ρ a _ E hA S e1 λ v s₁ X hv => spliced_cons (hf A s₁ O₀ ow ρ b _ E hA (S.ext X) e2 λ u s₂ Y hu => spliced_nil ?_))))⟩
    unfold dgetD at e3
    split at e3
    · cases e3
      obtain ⟨t1, rfl⟩ := hasT_str hv
      obtain ⟨t2, rfl⟩ := hasT_int hu
      rename_i x i _
      have T2 := mapOf_keep T (FO.keepS ((S.ext X).ext Y))
      refine call_meetsIn PySem.F.slot_dict_get T2.typeIs PySem.F.entry_dict_get (PySem.F.args_dict_get_3 _ _ _) (meets_dict_get_default (strKind C.prog C.w) dd (strKind_is C.prog C.w x _) lo _) ⟨_, T2, ?_⟩
      refine h _ _ (X.trans (Y.trans (.toks _))) ?_ λ q => by cases q
      rw [Has]
      cases q : C.tok x with
      | none => rw [(look x).2 q]; exact ⟨_, rfl⟩
      | some j => obtain ⟨t, e⟩ := (look x).1 j q; rw [e]; exact ⟨t, rfl⟩
    · cases e3
end
theorem St.not_cell {F O₀ ow ρ s} (S : St F O₀ ow ρ s) {b o} (e : s.heap.get? b = some o) (h2 : ∀ v, o.data ≠ .cell v) : ¬ OwnCell F b := by
  rintro ⟨hw, x, hk, hc⟩
  obtain ⟨c, v, hc', ⟨o', ho', hd'⟩, _⟩ := S.fr.cell hw x hk
  rw [hc] at hc'; cases hc'
  rw [e] at ho'; cases ho'; exact h2 _ hd'
structure Away (F : Frame) (O₀ : Addr → Prop) (ow : Nat → Addr) (ρ : List Slot) (s : Shared) (b : Addr) : Prop where
  own : ¬ Oof O₀ ow ρ b
  loc : b ≠ F.env.locals
  here : Standing s.heap b
theorem Away.step {F O₀ ow ρ s ow' ρ' s' b} (x : Away F O₀ ow ρ s b) (S : St F O₀ ow ρ s) (r : StepR F O₀ ow ρ s ow' ρ' s') : Away F O₀ ow' ρ' s' b ∧ ∀ o, s.heap.get? b = some o → s'.heap.get? b = some o := by
  obtain ⟨o, ho, p2⟩ := x.here
  have n2 := S.not_cell ho p2
  have e := r.rest b o ho x.loc n2 x.own
  refine ⟨⟨λ q => ?_, x.loc, o, e, p2⟩, λ o' h => by rw [ho] at h; cases h; exact e⟩
  rcases r.own b q with q | q
  · exact x.own q
  · rw [ho] at q; cases q
noncomputable def flatSlot : Slot → Bool
  | .undef => true
  | .fro d => flatD d
  | .own ds => flatL ds
theorem St.nx {F O₀ ow ρ s s' wr wg} (S : St F O₀ ow ρ s) (N : Nx wr wg s s') (hb : ∀ b, wr b → F.base.get? b = none) (aw : ∀ b, wr b → Away F O₀ ow ρ s b) (k : (∀ b, wr b → NoSeq s.heap b) ∨ (∀ (i : Nat) sl, ρ[i]? = some sl → flatSlot sl = true)) : St F O₀ ow ρ s' := by
  have kNs : ∀ {m}, s.heap.Ns F.env.locals m → s'.heap.Ns F.env.locals m := by
    rintro m ⟨o, es, ep, ho, hd, r⟩
    exact ⟨o, es, ep, N.heap _ _ (λ q => (aw _ q).loc rfl) ho, hd, r⟩
  have kCell : ∀ {c v}, s.heap.IsCell c v → s'.heap.IsCell c v := by
    rintro a m ⟨o, ho, hd⟩
    refine ⟨o, N.heap _ _ (λ q => ?_) ho, hd⟩
    obtain ⟨o', ho', p2⟩ := (aw _ q).here
    rw [ho] at ho'; cases ho'; exact p2 _ hd
  have notOwn : ∀ {i ds}, ρ[i]? = some (.own ds) → ¬ wr (ow i) := λ {i ds} e q => (aw _ q).own (.inr ⟨i, ds, e, rfl⟩)
  have kVar : ∀ {x v}, VarAt F.env s.heap x v → VarAt F.env s'.heap x v := by
    rintro x v (⟨k, m, hm, e⟩ | ⟨k, c, hc, hv⟩)
    · exact .inl ⟨k, m, kNs hm, e⟩
    · exact .inr ⟨k, c, hc, kCell hv⟩
  have kk : (∀ b, wr b → NoSeq s.heap b) → SeqKeep (λ _ => False) s.heap s'.heap := by
    intro q
    constructor
    · rintro a vs _ ⟨o, ho, hc, n, hd⟩
      exact ⟨o, N.heap _ _ (λ w => q a w _ _ _ ho hd) ho, hc, n, hd⟩
    · rintro a vs ⟨o, ho, hc, n, hd⟩
      exact ⟨o, N.heap _ _ (λ w => q a w _ _ _ ho hd) ho, hc, n, hd⟩
  refine ⟨⟨S.fr.kind, S.fr.globals, S.fr.builtins, S.fr.ns.imp λ _ q => kNs q, S.fr.fresh, λ w y q => ?_, S.fr.apart, λ b o q => N.heap b o (λ w => ?_) (S.fr.keep b o q)⟩, λ j sl y e ny => ?_, S.inj, S.new, S.len, S.nodup, N.bare S.bare, S.old⟩
  · obtain ⟨c, v, a, b, d⟩ := S.fr.cell w y q
    exact ⟨c, v, a, kCell b, d⟩
  · rw [hb b w] at q; cases q
  · have q := S.slots j sl y e ny
    cases sl with
    | undef => trivial
    | fro d =>
      obtain ⟨u, p, r⟩ := q
      refine ⟨u, kVar p, ?_⟩
      rcases k with k | k
      · exact has_keep (kk k) (λ _ f => f.elim) d u r
      · exact flat_has (k j _ e) r
    | own es =>
      obtain ⟨p, us, ⟨n, l⟩, r⟩ := q
      refine ⟨p.imp kVar id, us, ⟨n, N.heap _ _ (notOwn e) l⟩, ?_⟩
      rcases k with k | k
      · exact hasL_keep (kk k) (λ _ f => f.elim) es _ r
      · exact flat_hasL (k j _ e) r
structure Lp (wr ro : Addr → Prop) (src : List D) (svs : List Value) (s0 : Shared) (ow0 : Nat → Addr) (ρ0 : List Slot) (F : Frame) (O₀ : Addr → Prop) (ow : Nat → Addr) (ρ : List Slot) (s : Shared) : Prop where
  st : St F O₀ ow ρ s
  step : StepR F O₀ ow0 ρ0 s0 ow ρ s
  away : ∀ b, wr b ∨ ro b → Away F O₀ ow ρ s b
  new : ∀ b, wr b → s0.heap.get? b = none
  bas : ∀ b, wr b → F.base.get? b = none
  b0 : ∀ b o, F.base.get? b = some o → s0.heap.get? b = some o
  src : HasL (Oof O₀ ow ρ) s.heap src svs
theorem StepR.hasL {F O₀ ow ρ s ow' ρ' s'} (r : StepR F O₀ ow ρ s ow' ρ' s') (S : St F O₀ ow ρ s) {ds vs} (x : HasL (Oof O₀ ow ρ) s.heap ds vs) : HasL (Oof O₀ ow' ρ') s'.heap ds vs := by
  have h1 : HasL (λ a => Oof O₀ ow ρ a ∨ Oof O₀ ow' ρ' a) s.heap ds vs := hasL_sub (λ a q => q.elim .inl (r.own a)) ds vs x
  have h2 := hasL_keep (r.seq S) (λ _ q => .inl q) ds vs h1
  exact hasL_sub (λ a q => .inl (.inr q)) ds vs h2
theorem Lp.step' {wr ro src svs s0 ow0 ρ0 F O₀ ow ρ s ow' ρ' s'} (L : Lp wr ro src svs s0 ow0 ρ0 F O₀ ow ρ s) (S : St F O₀ ow' ρ' s') (r : StepR F O₀ ow ρ s ow' ρ' s') : Lp wr ro src svs s0 ow0 ρ0 F O₀ ow' ρ' s' :=
  ⟨S, L.step.trans r, λ b hb => ((L.away b hb).step L.st r).1, L.new, L.bas, L.b0, r.hasL L.st L.src⟩
theorem Lp.ext {wr ro src svs s0 ow0 ρ0 F O₀ ow ρ s s'} (L : Lp wr ro src svs s0 ow0 ρ0 F O₀ ow ρ s) (X : Ext s s') : Lp wr ro src svs s0 ow0 ρ0 F O₀ ow ρ s' := L.step' (L.st.ext X) (.ofExt X)
theorem Lp.nxR {wr ro wg src svs s0 ow0 ρ0 F O₀ ow ρ s s'} (L : Lp wr ro src svs s0 ow0 ρ0 F O₀ ow ρ s) (N : Nx (Wx s0 s wr) wg s s') (hg : ∀ j, wg j → s0.gens.size ≤ j) : StepR F O₀ ow0 ρ0 s0 ow ρ s' := by
  refine ⟨λ b o e n1 n2 n3 => N.heap b o (λ w => ?_) (L.step.rest b o e n1 n2 n3), L.step.own, λ b e => ?_, λ i g e => N.gens i g (λ w => ?_) (L.step.gens i g e), N.os.trans L.step.os⟩
  · rcases w with w | w
    · rw [L.new b w] at e; cases e
    · rw [w.1] at e; cases e
  · by_cases w : Wx s0 s wr b
    · exact w.elim (L.new b) λ q => q.1
    · refine L.step.live b ?_
      cases q : s.heap.get? b with
      | none => rfl
      | some o => have := N.heap b o w q; rw [e] at this; cases this
  · have h1 := hg i w
    have h2 : i < s0.gens.size := (Array.getElem?_eq_some_iff.mp e).1
    exact absurd h2 (Nat.not_lt.mpr h1)
theorem Lp.wx {wr ro src svs s0 ow0 ρ0 F O₀ ow ρ s} (L : Lp wr ro src svs s0 ow0 ρ0 F O₀ ow ρ s) : (∀ b, Wx s0 s wr b → F.base.get? b = none) ∧ (∀ b, Wx s0 s wr b → Away F O₀ ow ρ s b) ∧ ((∀ b, wr b → NoSeq s.heap b) → ∀ b, Wx s0 s wr b → NoSeq s.heap b) := by
  refine ⟨λ b hb => ?_, λ b hb => ?_, λ h b hb => ?_⟩
  · rcases hb with hb | hb
    · exact L.bas b hb
    · cases e : F.base.get? b with
      | none => rfl
      | some o => have := L.b0 b o e; rw [hb.1] at this; cases this
  · rcases hb with hb | ⟨hn, o, e, ⟨vs, d⟩, _⟩
    · exact L.away b (.inl hb)
    · refine ⟨λ q => ?_, ?_, .fields e d⟩
      · obtain ⟨us, o', e', _, n, d'⟩ := L.st.oofL b q
        rw [e] at e'; cases e'; rw [d] at d'; cases d'
      · rintro rfl
        obtain ⟨m, o', es, ep, e', d', _⟩ := L.st.fr.ns
        rw [e] at e'; cases e'; rw [d] at d'; cases d'
  · rcases hb with hb | ⟨hn, o, e, ⟨vs, d⟩, _⟩
    · exact h b hb
    · exact noSeq_fields e d
theorem Lp.nx {wr wr' ro wg src svs s0 ow0 ρ0 F O₀ ow ρ s s'} (L : Lp wr ro src svs s0 ow0 ρ0 F O₀ ow ρ s) (N : Nx (Wx s0 s wr) wg s s') (hg : ∀ j, wg j → s0.gens.size ≤ j) (hW : ∀ b, wr' b → wr b ∨ s.heap.get? b = none)
    (al : ∀ b, wr' b ∨ ro b → Standing s'.heap b) (k : (∀ b, wr b → NoSeq s.heap b) ∨ (flatL src = true ∧ ∀ (i : Nat) sl, ρ[i]? = some sl → flatSlot sl = true)) : Lp wr' ro src svs s0 ow0 ρ0 F O₀ ow ρ s' := by
  have bare : ∀ b, wr' b ∨ ro b → ¬ Oof O₀ ow ρ b ∧ b ≠ F.env.locals := by
    intro b hb
    have old : ∀ b, wr b ∨ ro b → ¬ Oof O₀ ow ρ b ∧ b ≠ F.env.locals := λ b hb => ⟨(L.away b hb).own, (L.away b hb).loc⟩
    rcases hb with hb | hb
    · rcases hW b hb with q | q
      · exact old b (.inl q)
      · refine ⟨λ o => ?_, ?_⟩
        · obtain ⟨o', e⟩ := L.st.oof b o; rw [q] at e; cases e
        · rintro rfl
          obtain ⟨m, o, es, ep, ho, _⟩ := L.st.fr.ns
          rw [q] at ho; cases ho
    · exact old b (.inr hb)
  refine ⟨L.st.nx N L.wx.1 L.wx.2.1 (k.imp L.wx.2.2 (·.2)), L.nxR N hg, λ b q => ⟨(bare b q).1, (bare b q).2, al b q⟩, λ b hb => ?_, λ b hb => ?_, L.b0, ?_⟩
  · exact (hW b hb).elim (L.new b) (L.step.live b)
  · rcases hW b hb with q | q
    · exact L.bas b q
    · cases e : F.base.get? b with
      | none => rfl
      | some o => have := L.st.fr.keep b o e; rw [q] at this; cases this
  rcases k with k | ⟨k, _⟩
  · have k := L.wx.2.2 k
    refine hasL_keep (T := λ _ => False) ⟨?_, ?_⟩ (λ _ f => f.elim) src svs L.src
    · rintro a vs _ ⟨o, ho, hc, n, hd⟩
      exact ⟨o, N.heap _ _ (λ w => k a w _ _ _ ho hd) ho, hc, n, hd⟩
    · rintro a vs ⟨o, ho, hc, n, hd⟩
      exact ⟨o, N.heap _ _ (λ w => k a w _ _ _ ho hd) ho, hc, n, hd⟩
  · exact flat_hasL k L.src
section
variable {prog : Program} {w : World} {A : Around} {E : Value → Shared → Prop} {nm : List Str}
theorem draw_li {it t : Addr} {items : Array Value} (hne : t ≠ it) : ∀ (n i : Nat) (s : Shared) (Q : List Value → Shared → Prop), s.heap.IsListIter it t i → s.heap.IsList t items → i + n ≤ items.size →
    (∀ h', h'.IsListIter it t (i + n) → Heap.SameBut it s.heap h' → Q ((items.toList.drop i).take n) { s with heap := h' }) → wpAny (model prog w) A (draw (.ref it) n) Q E s
  | 0, i, s, Q, hit, _, _, hQ => by
    show wpAny _ _ (pure []) Q E s
    exact wpAny_pure (by simpa using hQ s.heap hit (Heap.SameBut.refl ..))
  | n + 1, i, s, Q, hit, ht, hle, hQ => by
    have hlt : i < items.size := by lia
    show wpAny _ _ (pyNext (.ref it) >>= _) Q E s
    refine wpAny_bind (wpAny_pyNext_list_item hit ht (x := items[i]) (by simp [hlt]) λ h₁ hit₁ hs₁ => ?_)
    refine wpAny_bind (wpAny_holding (draw_li hne n (i + 1) _ _ hit₁ (ht.extBut hs₁.extBut hne) (by lia) λ h₂ hit₂ hs₂ => wpAny_pure ?_))
    have hd : items.toList.drop i = items[i] :: items.toList.drop (i + 1) := by simp [List.drop_eq_getElem_cons, hlt]
    have := hQ h₂ (by rw [show i + (n + 1) = i + 1 + n by lia]; exact hit₂) (hs₁.trans hs₂)
    rw [hd, List.take_succ_cons] at this
    exact this
theorem unpackItems_li {s : Shared} {t : Addr} {items : Array Value} {Q : List Value → Shared → Prop} (hh : A.handled = none) (ht : s.heap.IsList t items)
    (hQ : ∀ h', Heap.ExtBut s.heap.objs.size s.heap h' → Q items.toList { s with heap := h' }) : wpAny (model prog w) A (unpackItems (.ref t) items.size none) Q E s := by
  have hlt : t ≠ s.heap.objs.size := by obtain ⟨o, ho, _⟩ := ht; exact Nat.ne_of_lt (Heap.lt_size ho)
  unfold unpackItems
  refine wpAny_bind ?_
  unfold notIterableAtAll
  refine wpAny_bind (wpAny_specialOf ht.typeIs PySem.F.slot_list_iter.lookup ?_)
  refine wpAny_pure ?_
  simp only [Bool.false_eq_true, if_false]
  refine wpAny_bind (wpAny_holding (wpAny_pyIter_list ht ?_))
  refine wpAny_bind (wpAny_holding (draw_li hlt items.size 0 _ _ ⟨_, Heap.get?_push_size _ rfl, rfl, rfl⟩ (ht.push _) (by lia) λ h₁ hit₁ hs₁ => ?_))
  have hall : List.take items.size (List.drop 0 items.toList) = items.toList := by
    rw [List.drop_zero]; exact List.take_of_length_le (by simp)
  rw [hall]
  rw [if_neg (by simp)]
  have ht₁ : h₁.IsList t items := (ht.push _).extBut hs₁.extBut hlt
  refine wpAny_bind (wpAny_holding (wpAny_pyNext_list_end hh hit₁ ht₁ (by simp) λ h₂ he₂ => ?_))
  simp only [Option.isSome_none, Bool.false_eq_true, if_false]
  refine wpAny_pure (hQ h₂ λ b o hb e => he₂ b o hb (hs₁.extBut b o hb (Heap.get?_push_of_some _ e)))
theorem Ext.ofExtBut {s : Shared} {h' : Heap} (k : Heap.ExtBut s.heap.objs.size s.heap h') : Ext s { s with heap := h' } :=
  ⟨λ b o e => k b o (Nat.ne_of_lt (Heap.lt_size e)) e, rfl, id, λ _ _ e => e⟩
inductive TgsOk (F : Frame) : List Nat → List PySem.Expr → Prop
  | nil : TgsOk F [] []
  | cons {i : Nat} {x : Str} {p : Pos} {is es} : F.names[i]? = some x → Writable F x → TgsOk F is es → TgsOk F (i :: is) (.Name x p :: es)
inductive TgOk (F : Frame) : Tg → PySem.Expr → Prop
  | one {i : Nat} {x : Str} {p : Pos} : F.names[i]? = some x → Writable F x → TgOk F (.one i) (.Name x p)
  | many {is es k p} : TgsOk F is es → TgOk F (.many is) (.Tuple es k p)
theorem store_ok {F O₀ ow ρ} {s : Shared} {i : Nat} {x : Str} {p : Pos} {d : D} {v : Value} {Q : Unit → Shared → Prop} (S : St F O₀ ow ρ s) (n : F.names[i]? = some x) (wr : Writable F x) (hv : Has (Oof O₀ ow ρ) s.heap d v)
    (h : ∀ s', St F O₀ ow (ρ.set i (.fro d)) s' → StepR F O₀ ow ρ s ow (ρ.set i (.fro d)) s' → Q () s') : wpAny (model prog w) A (assign (.Name x p) F.env v) Q E s :=
  wpAny_assign_Name (wpAny_store S.fr wr λ h' t b W => let ⟨a, b⟩ := S.put_fro n W hv; h _ a b)
theorem tgs_ok {F O₀ ow} {is : List Nat} {es : List PySem.Expr} (T : TgsOk F is es) : ∀ (ds : List D) (vs : List Value) (ρ : List Slot) (s : Shared) (Q : Unit → Shared → Prop), is.length = ds.length → St F O₀ ow ρ s → HasL (Oof O₀ ow ρ) s.heap ds vs →
    (∀ s', St F O₀ ow (setAll is ds ρ) s' → StepR F O₀ ow ρ s ow (setAll is ds ρ) s' → Q () s') → wpAny (model prog w) A (assignInOrder ((assignEach es F.env).map (·.2)) vs) Q E s := by
  induction T with
  | nil =>
    intro ds vs ρ s Q hl S hv h
    cases ds with
    | nil => exact wpAny_pure (h s S .refl)
    | cons => cases hl
  | @cons i x p is es n wr r ih =>
    intro ds vs ρ s Q hl S hv h
    cases ds with
    | nil => cases hl
    | cons d ds =>
      rw [HasL] at hv
      obtain ⟨v, us, rfl, hd, hr⟩ := hv
      show wpAny _ _ (do holding us (assign (.Name x p) F.env v); assignInOrder ((assignEach es F.env).map (·.2)) us) Q E s
      refine wpAny_bind (wpAny_holding (store_ok S n wr hd λ s' S' R => ?_))
      exact ih ds us _ s' Q (Nat.succ.inj hl) S' (R.hasL S hr) λ s'' S'' R' => h s'' S'' (R.trans R')
theorem tgs_each {F : Frame} {is : List Nat} {es : List PySem.Expr} {env : Env} (T : TgsOk F is es) : (assignEach es env).length = is.length ∧ (assignEach es env).findIdx? (·.1) = none := by
  induction T with
  | nil => exact ⟨rfl, rfl⟩
  | @cons i x p is es n wr r ih =>
    have e : assignEach (.Name x p :: es) env = (false, assign (.Name x p) env) :: assignEach es env := rfl
    rw [e]
    refine ⟨by simp [ih.1], ?_⟩
    rw [List.findIdx?_cons]
    simp [ih.2]
theorem target_ok {F O₀ ow ρ ρ'} {s : Shared} {tg : Tg} {t : PySem.Expr} {d : D} {v : Value} {Q : Unit → Shared → Prop} (hh : A.handled = none) (T : TgOk F tg t) (S : St F O₀ ow ρ s) (hv : Has (Oof O₀ ow ρ) s.heap d v) (e : bindT tg d ρ = some ρ')
    (h : ∀ s', St F O₀ ow ρ' s' → StepR F O₀ ow ρ s ow ρ' s' → Q () s') : wpAny (model prog w) A (assign t F.env v) Q E s := by
  cases T with
  | one n wr => cases e; exact store_ok S n wr hv h
  | @many is es k p T =>
    have hT := tgs_each (env := F.env) T
    rw [arm_assign_Tuple]
    refine wpAny_bind (wpAny_standAt ?_)
    unfold bindT at e
    split at e
    · rename_i q; cases q
    · rename_i is' ds q; cases q
      split at e
      · rename_i hl; cases e
        rw [Has] at hv
        obtain ⟨a, vs, rfl, i1, q1⟩ := hv
        have hsz := hasL_length q1
        simp only [Array.length_toList] at hsz
        refine wpAny_unpack_tuple hh i1 (by rw [hT.1, hl, hsz]) hT.2 λ h' k => ?_
        have X := Ext.ofExtBut k
        exact tgs_ok T ds _ _ _ Q hl (S.ext X) (X.hasL q1) λ s' S' R => h s' S' ((StepR.ofExt X).trans R)
      · cases e
    · rename_i is' ds q; cases q
      split at e
      · rename_i hl; cases e
        rw [Has] at hv
        obtain ⟨a, vs, rfl, _, i1, q1⟩ := hv
        have hsz := hasL_length q1
        simp only [Array.length_toList] at hsz
        unfold unpack
        rw [hT.2, show (assignEach es F.env).length = vs.size by rw [hT.1, hl, hsz]]
        refine wpAny_bind (wpAny_holding (unpackItems_li hh i1 λ h' k => ?_))
        have X := Ext.ofExtBut k
        exact tgs_ok T ds _ _ _ Q hl (S.ext X) (X.hasL q1) λ s' S' R => h s' S' ((StepR.ofExt X).trans R)
      · cases e
    · cases e
end
noncomputable def OLe {α : Type} (a b : Option α) : Prop := ∀ x, a = some x → b = some x
theorem OLe.refl {α : Type} (a : Option α) : OLe a a := λ _ e => e
theorem OLe.none {α : Type} (a : Option α) : OLe Option.none a := λ _ e => by cases e
theorem OLe.bind {α β : Type} {a b : Option α} {f g : α → Option β} (h : OLe a b) (k : ∀ x, OLe (f x) (g x)) : OLe (a.bind f) (b.bind g) := by
  intro y e
  obtain ⟨x, e1, e2⟩ := Option.bind_eq_some_iff.mp e
  rw [h x e1]; exact k x y e2
theorem OLe.map {α β : Type} {a b : Option α} {f : α → β} (h : OLe a b) : OLe (a.map f) (b.map f) := by
  intro y e
  obtain ⟨x, e1, rfl⟩ := Option.map_eq_some_iff.mp e
  rw [h x e1]; rfl
structure RLe (p q : Rs) : Prop where
  e : OLe p.e q.e
  t : OLe p.t q.t
  b : OLe p.b q.b
  l : OLe p.l q.l
  lt : OLe p.lt q.lt
  it : OLe p.it q.it
theorem RLe.refl (a : Rs) : RLe a a := ⟨.refl _, .refl _, .refl _, .refl _, .refl _, .refl _⟩
theorem RLe.of {a b : Option D} (h : OLe a b) : RLe (.of a) (.of b) := ⟨h, h, h.bind λ _ => .refl _, .refl _, .refl _, h.bind λ _ => .refl _⟩
theorem RLe.val {a b : Option D} (h : OLe a b) : RLe (.val a) (.val b) := ⟨h, h, .refl _, .refl _, .refl _, .refl _⟩
theorem RLe.test {a b : Option Bool} (h : OLe a b) : RLe (.test a) (.test b) := ⟨.refl _, .refl _, h, .refl _, .refl _, .refl _⟩
theorem RLe.cmp {a b : Option Bool} (h : OLe a b) : RLe (.cmp a) (.cmp b) := ⟨h.map, h.map, h, .refl _, .refl _, .refl _⟩
theorem RLe.iter {a b : Option (List D)} (h : OLe a b) : RLe (.iter a) (.iter b) := ⟨.refl _, .refl _, .refl _, .refl _, .refl _, h⟩
theorem RLe.args {a b c d : Option (List D)} (h : OLe a b) (k : OLe c d) : RLe (.args a c) (.args b d) := ⟨.refl _, .refl _, .refl _, h, k, .refl _⟩
theorem RLe.bot (b : Rs) : RLe (.of none) b := ⟨.none _, .none _, .none _, .none _, .none _, .none _⟩
structure Le (ρ ρ' : List Slot) : Prop where
  len : ρ.length = ρ'.length
  at_ : ∀ (i : Nat) sl, ρ[i]? = some sl → sl ≠ .undef → ρ'[i]? = some sl
theorem Le.refl (ρ : List Slot) : Le ρ ρ := ⟨rfl, λ _ _ e _ => e⟩
theorem Le.trans {a b c : List Slot} (x : Le a b) (y : Le b c) : Le a c := ⟨x.len.trans y.len, λ i sl e n => y.at_ i sl (x.at_ i sl e n) n⟩
theorem Le.set {ρ ρ' : List Slot} (h : Le ρ ρ') (i : Nat) (sl : Slot) : Le (ρ.set i sl) (ρ'.set i sl) := by
  refine ⟨by simp [h.len], λ j s e n => ?_⟩
  by_cases hij : i = j
  · subst hij
    rw [List.getElem?_set] at e ⊢
    simp only [if_true, h.len] at e ⊢
    exact e
  · rw [List.getElem?_set_ne hij] at e ⊢
    exact h.at_ j s e n
theorem Le.up {ρ ρ' : List Slot} (h : Le ρ ρ') {i : Nat} (sl : Slot) (u : ∀ s, ρ[i]? = some s → s = .undef) : Le ρ (ρ'.set i sl) := by
  refine ⟨by simp [h.len], λ j s e n => ?_⟩
  by_cases hij : i = j
  · subst hij; exact absurd (u s e) n
  · rw [List.getElem?_set_ne hij]; exact h.at_ j s e n
theorem Le.setAll {is : List Nat} : ∀ {ds : List D} {ρ ρ' : List Slot}, Le ρ ρ' → Le (setAll is ds ρ) (setAll is ds ρ') := by
  induction is with
  | nil => intro ds ρ ρ' h; exact h
  | cons i is ih =>
    intro ds ρ ρ' h
    cases ds with
    | nil => exact h
    | cons d ds => exact ih (h.set i _)
theorem bindT_mono {tg : Tg} {d : D} {ρ ρ' ρ1 : List Slot} (h : Le ρ ρ') (e : bindT tg d ρ = some ρ1) : ∃ ρ1', bindT tg d ρ' = some ρ1' ∧ Le ρ1 ρ1' := by
  unfold bindT at e ⊢
  split at e
  · cases e; exact ⟨_, rfl, h.set _ _⟩
  · split at e
    · rename_i hl; cases e; exact ⟨_, if_pos hl, h.setAll⟩
    · cases e
  · split at e
    · rename_i hl; cases e; exact ⟨_, if_pos hl, h.setAll⟩
    · cases e
  · cases e
theorem maskFrom_length {caps : List Nat} : ∀ {ρ : List Slot} {n : Nat}, (maskFrom caps n ρ).length = ρ.length
  | [], _ => rfl
  | .fro d :: ρ, n => by simp [maskFrom, maskFrom_length]
  | .own d :: ρ, n => by simp [maskFrom, maskFrom_length]
  | .undef :: ρ, n => by simp [maskFrom, maskFrom_length]
theorem maskFrom_get {caps : List Nat} : ∀ {ρ : List Slot} {n i : Nat} {sl : Slot}, (maskFrom caps n ρ)[i]? = some sl → sl = .undef ∨ (∃ d, sl = .fro d ∧ ρ[i]? = some (.fro d) ∧ caps.contains (n + i) = true)
  | [], n, i, sl, e => by simp [maskFrom] at e
  | s :: ρ, n, 0, sl, e => by
    cases s with
    | undef => simp only [maskFrom, List.getElem?_cons_zero, Option.some.injEq] at e; exact .inl e.symm
    | own ds => simp only [maskFrom, List.getElem?_cons_zero, Option.some.injEq] at e; exact .inl e.symm
    | fro d =>
      simp only [maskFrom, List.getElem?_cons_zero, Option.some.injEq] at e
      split at e
      · rename_i hc; exact .inr ⟨d, e.symm, rfl, hc⟩
      · exact .inl e.symm
  | s :: ρ, n, i + 1, sl, e => by
    have e' : (maskFrom caps (n + 1) ρ)[i]? = some sl := by
      cases s <;> simpa only [maskFrom, List.getElem?_cons_succ] using e
    rcases maskFrom_get e' with h | ⟨d, h1, h2, h3⟩
    · exact .inl h
    · refine .inr ⟨d, h1, by simpa using h2, ?_⟩
      rwa [show n + (i + 1) = n + 1 + i by lia]
theorem maskFrom_at {caps : List Nat} : ∀ {ρ : List Slot} {n i : Nat} {d : D}, ρ[i]? = some (.fro d) → caps.contains (n + i) = true → (maskFrom caps n ρ)[i]? = some (.fro d)
  | [], n, i, sl, e, _ => by simp at e
  | s :: ρ, n, 0, d, e, hc => by
    simp only [List.getElem?_cons_zero, Option.some.injEq] at e; subst e
    simp only [maskFrom, List.getElem?_cons_zero, Nat.add_zero] at hc ⊢
    rw [if_pos hc]
  | s :: ρ, n, i + 1, d, e, hc => by
    have h := maskFrom_at (ρ := ρ) (n := n + 1) (i := i) (d := d) (by simpa using e) (by rwa [show n + 1 + i = n + (i + 1) by lia])
    cases s <;> simpa only [maskFrom, List.getElem?_cons_succ] using h
theorem mask_length {caps ρ} : (mask caps ρ).length = ρ.length := maskFrom_length
theorem mask_get {caps ρ} {i : Nat} {sl} (e : (mask caps ρ)[i]? = some sl) : sl = .undef ∨ (∃ d, sl = .fro d ∧ ρ[i]? = some (.fro d) ∧ caps.contains i = true) := by
  have := maskFrom_get e; rwa [Nat.zero_add] at this
theorem Le.mask {ρ ρ' : List Slot} (h : Le ρ ρ') (caps : List Nat) : Le (mask caps ρ) (mask caps ρ') := by
  refine ⟨by rw [mask_length, mask_length, h.len], λ i sl e n => ?_⟩
  rcases mask_get e with q | ⟨d, rfl, q, hc⟩
  · exact absurd q n
  · exact maskFrom_at (h.at_ i _ q n) (by rwa [Nat.zero_add])
theorem OLe.compGo {f g : D → Option (List D)} (h : ∀ x, OLe (f x) (g x)) : ∀ xs, OLe (compGo f xs) (compGo g xs)
  | [] => .refl _
  | x :: xs => by
    intro r e
    simp only [Mine.compGo] at e ⊢
    split at e
    · rename_i a b e1 e2
      rw [h x a e1, OLe.compGo h xs b e2]; exact e
    · cases e
theorem OLe.dpart {a b : Option D} (h : OLe a b) : OLe (dpart a) (dpart b) := by
  intro x e
  unfold Mine.dpart at e
  split at e
  · rw [h _ rfl]; exact e
  · cases e
theorem OLe.part {p : PE} {a b : Rs} (h : RLe a b) : OLe (part p a) (part p b) := by
  unfold Mine.part
  split
  · exact .refl _
  · exact h.e.dpart
theorem OLe.ite {α : Type} {a b c d : Option α} {t : Bool} (h : OLe a b) (k : OLe c d) : OLe (if t then a else c) (if t then b else d) := by cases t <;> assumption
theorem ev_mono (C : Cx) : ∀ (p : PE) {ρ ρ' : List Slot}, Le ρ ρ' → RLe (ev C p ρ) (ev C p ρ') := by
  intro p
  induction p with
  | var i =>
    intro ρ ρ' h
    show RLe (Rs.slot ρ[i]?) (Rs.slot ρ'[i]?)
    cases e : ρ[i]? with
    | none => exact .bot _
    | some sl =>
      cases sl with
      | undef => exact .bot _
      | fro d => rw [h.at_ i _ e (λ q => nomatch q)]; exact .refl _
      | own d => rw [h.at_ i _ e (λ q => nomatch q)]; exact .refl _
  | cI | cF | cS | cB | cN | glob | abs | splt => intro ρ ρ' h; exact .refl _
  | nil => intro ρ ρ' h; exact .refl _
  | bin op l r h1 h2 => intro ρ ρ' h; exact .of ((h1 h).t.bind λ _ => (h2 h).t.bind λ _ => .refl _)
  | neg e h1 => intro ρ ρ' h; exact .of ((h1 h).t.bind λ _ => .refl _)
  | sub l r h1 h2 => intro ρ ρ' h; exact .of ((h1 h).t.bind λ _ => (h2 h).t.bind λ _ => .refl _)
  | slc e lo hi h1 h2 h3 => intro ρ ρ' h; exact .of ((h1 h).t.bind λ _ => (OLe.part (h2 h)).bind λ _ => (OLe.part (h3 h)).bind λ _ => .refl _)
  | tup es h1 => intro ρ ρ' h; exact .of ((h1 h).l.bind λ _ => .refl _)
  | lst es h1 => intro ρ ρ' h; exact .of ((h1 h).l.bind λ _ => .refl _)
  | cons e es h1 h2 => intro ρ ρ' h; exact .args ((h1 h).e.bind λ _ => (h2 h).l.map) ((h1 h).t.bind λ _ => (h2 h).lt.map)
  | ite c a b h1 h2 h3 => intro ρ ρ' h; exact .val ((h1 h).b.bind λ _ => .ite (h2 h).e (h3 h).e)
  | cmp op l r h1 h2 => intro ρ ρ' h; exact .cmp ((h1 h).t.bind λ _ => (h2 h).t.bind λ _ => .refl _)
  | chain o1 o2 a b c h1 h2 h3 => intro ρ ρ' h; exact .test ((h1 h).t.bind λ _ => (h2 h).t.bind λ _ => (OLe.refl _).bind λ _ => .ite ((h3 h).t.bind λ _ => .refl _) (.refl _))
  | and_ a b h1 h2 => intro ρ ρ' h; exact .test ((h1 h).b.bind λ _ => .ite (h2 h).b (.refl _))
  | or_ a b h1 h2 => intro ρ ρ' h; exact .test ((h1 h).b.bind λ _ => .ite (.refl _) (h2 h).b)
  | not_ a h1 => intro ρ ρ' h; exact .test (h1 h).b.map
  | call f args h1 => intro ρ ρ' h; exact .of ((h1 h).l.bind λ _ => .refl _)
  | gen f args h1 => intro ρ ρ' h; exact .iter ((h1 h).l.bind λ _ => .refl _)
  | bi f args h1 => intro ρ ρ' h; exact .of ((h1 h).lt.bind λ _ => .refl _)
  | rng args h1 => intro ρ ρ' h; exact .iter ((h1 h).lt.bind λ _ => .refl _)
  | zip a b h1 h2 => intro ρ ρ' h; exact .iter ((h1 h).e.bind λ _ => (h2 h).e.bind λ _ => .refl _)
  | join sep e h1 => intro ρ ρ' h; exact .of ((h1 h).t.bind λ _ => .refl _)
  | getD a b h1 h2 => intro ρ ρ' h; exact .of ((h1 h).t.bind λ _ => (h2 h).t.bind λ _ => .refl _)
  | notTok e h1 => intro ρ ρ' h; exact .test ((h1 h).t.bind λ _ => .refl _)
  | comp elt tg it cond caps h1 h2 h3 =>
    intro ρ ρ' h
    refine .of (OLe.bind (OLe.bind (h2 h).it λ xs => OLe.compGo (λ x => ?_) xs) λ _ => .refl _)
    intro r e
    obtain ⟨ρ1, e1, e2⟩ := Option.bind_eq_some_iff.mp e
    obtain ⟨ρ1', e1', hle⟩ := bindT_mono (h.mask caps) e1
    rw [e1']
    exact ((h3 hle).b.bind λ _ => OLe.ite (h1 hle).e.map (.refl _)) r e2
  | comp2 elt tg1 it1 tg2 it2 cond caps h1 h2 h3 h4 =>
    intro ρ ρ' h
    refine .of (OLe.bind (OLe.bind (h2 h).it λ xs => OLe.compGo (λ x => ?_) xs) λ _ => .refl _)
    intro r e
    obtain ⟨ρ1, e1, e2⟩ := Option.bind_eq_some_iff.mp e
    obtain ⟨ρ1', e1', hle⟩ := bindT_mono (h.mask caps) e1
    rw [e1']
    refine ((h3 hle).it.bind λ ys => OLe.compGo (λ y => ?_) ys) r e2
    intro r2 e3
    obtain ⟨ρ2, f1, f2⟩ := Option.bind_eq_some_iff.mp e3
    obtain ⟨ρ2', f1', hle2⟩ := bindT_mono hle f1
    rw [f1']
    exact ((h4 hle2).b.bind λ _ => OLe.ite (h1 hle2).e.map (.refl _)) r2 f2
section
variable {prog : Program} {w : World} {A : Around} {E : Value → Shared → Prop}
theorem flat_set {ρ : List Slot} {i : Nat} {sl : Slot} (h : ∀ (i : Nat) sl, ρ[i]? = some sl → flatSlot sl = true) (hs : flatSlot sl = true) : ∀ (j : Nat) s, (ρ.set i sl)[j]? = some s → flatSlot s = true := by
  intro j s e
  rcases getElem?_set_cases e with ⟨_, rfl⟩ | ⟨_, e⟩
  · exact hs
  · exact h j s e
theorem flat_setAll {is : List Nat} : ∀ {ds : List D} {ρ : List Slot}, (∀ (i : Nat) sl, ρ[i]? = some sl → flatSlot sl = true) → flatL ds = true → ∀ (j : Nat) s, (setAll is ds ρ)[j]? = some s → flatSlot s = true := by
  induction is with
  | nil => intro ds ρ h _; exact h
  | cons i is ih =>
    intro ds ρ h hf
    cases ds with
    | nil => exact h
    | cons d ds =>
      simp only [flatL, List.all_cons, Bool.and_eq_true] at hf
      exact ih (flat_set h hf.1) hf.2
noncomputable def KindOk (Inv : (Addr → Prop) → Nat → Shared → Prop) (Mid : (Addr → Prop) → Nat → Value → Shared → Prop) (src : List D) (t : PySem.Expr) (xs : List D) (ρ : List Slot) : Prop :=
  ((∀ W i s₁ b, Inv W i s₁ → W b → NoSeq s₁.heap b) ∧ (∀ W i v s₁ b, Mid W i v s₁ → W b → NoSeq s₁.heap b)) ∨ (flatL src = true ∧ (∃ es k p, t = .Tuple es k p) ∧ (∀ x ∈ xs, ∃ l, x = .tup l ∧ flatL l = true) ∧ ∀ (i : Nat) sl, ρ[i]? = some sl → flatSlot sl = true)
theorem turn_ok {O : Addr → Prop} {t : PySem.Expr} {nt : Bool} {h0 : Heap} {s0 sI s : Shared} {I : Addr} {xs : List D} {wr ro : Addr → Prop} {wg : Nat → Prop} {P : Nat → Value → Shared → Prop} {Inv : (Addr → Prop) → Nat → Shared → Prop} {Mid : (Addr → Prop) → Nat → Value → Shared → Prop} {src : List D} {svs : List Value}
    {ow0 ρ0 F O₀ ow ρ ρ' tg x} {k : Nat} {Q : Unit → Shared → Prop} {Qn : Shared → Prop}
    (hh : A.handled = none) (q : ItI h0 prog w A O t nt s0 sI I xs wr ro wg P Inv Mid src svs) (T : TgOk F tg t) (hk0 : ∀ b o, h0.get? b = some o → F.base.get? b = some o) {W : Addr → Prop} (L : Lp W ro src svs s0 ow0 ρ0 F O₀ ow ρ s) (hi : Inv W k s) (kd : KindOk Inv Mid src t xs ρ)
    (hx : xs[k]? = some x) (e : bindT tg x ρ = some ρ') (h : ∀ W' s', Lp W' ro src svs s0 ow0 ρ0 F O₀ ow ρ' s' → Inv W' (k + 1) s' → KindOk Inv Mid src t xs ρ' → Q () s') :
    wpAny (model prog w) A (pyNext (.ref I)) (λ r s₁ => match r with | none => Qn s₁ | some v => wpAny (model prog w) A (letOwnedTupleGo t (.ref I) v) (λ _ s₂ => wpAny (model prog w) A (assign t F.env v) Q E s₂) E s₁) E s := by
  have hk : k < xs.length := (List.getElem?_eq_some_iff.mp hx).1
  have kd' : ∀ {W i s₁}, Inv W i s₁ → (∀ b, W b → NoSeq s₁.heap b) ∨ (flatL src = true ∧ ∀ (i : Nat) sl, ρ[i]? = some sl → flatSlot sl = true) := λ hI => kd.imp (λ y b hb => y.1 _ _ _ b hI hb) λ y => ⟨y.1, y.2.2.2⟩
  have kdm : ∀ {W i v s₁}, Mid W i v s₁ → (∀ b, W b → NoSeq s₁.heap b) ∨ (flatL src = true ∧ ∀ (i : Nat) sl, ρ[i]? = some sl → flatSlot sl = true) := λ hI => kd.imp (λ y b hb => y.2 _ _ _ _ b hI hb) λ y => ⟨y.1, y.2.2.2⟩
  refine q.next W k s _ _ hk hi L.st.bare λ W' v s₁ hP hM N hW => ?_
  have L1 := L.nx N q.freshG hW (λ b hb => (q.alive W' b hb).2 _ _ _ hM) (kd' hi)
  refine q.letGo W' k v s₁ _ _ hP hM λ s₂ hP₂ hI₂ N₂ => ?_
  have L2 := L1.nx (wr' := W') N₂ q.freshG (λ b hb => .inl hb) (λ b hb => (q.alive W' b hb).1 _ _ hI₂) (kdm hM)
  obtain ⟨x', hx', hv⟩ := q.val k v s₂ (Oof O₀ ow ρ) hk hP₂ L2.src
  rw [hx] at hx'; cases hx'
  refine target_ok hh T L2.st hv e λ s' S' R => h W' s' (L2.step' S' R) ?_ ?_
  · exact q.stable W' (k + 1) s₂ s' hI₂ (λ b o hb e => ((L2.away b hb).step L2.st R).2 o e) R.gens (λ b o e => S'.fr.keep b o (hk0 b o e)) λ b o vs e d => R.fields L2.st e d
  · rcases kd with y | ⟨y1, ⟨es, kk, p, rfl⟩, y2, y3⟩
    · exact .inl y
    · refine .inr ⟨y1, ⟨es, kk, p, rfl⟩, y2, ?_⟩
      obtain ⟨l, rfl, fl⟩ := y2 x (List.mem_of_getElem? hx)
      cases T with
      | many T =>
        simp only [bindT] at e
        split at e
        · cases e; exact flat_setAll y3 fl
        · cases e
theorem turn_step {α : Type} {kf : Option Value → Sem α} {rest : Sem α} {O : Addr → Prop} {t : PySem.Expr} {nt : Bool} {h0 : Heap} {s0 sI s : Shared} {I : Addr} {xs : List D} {wr ro : Addr → Prop} {wg : Nat → Prop} {P : Nat → Value → Shared → Prop} {Inv : (Addr → Prop) → Nat → Shared → Prop} {Mid : (Addr → Prop) → Nat → Value → Shared → Prop} {src : List D} {svs : List Value}
    {ow0 ρ0 F O₀ ow ρ ρ' tg x} {k : Nat} {Q : α → Shared → Prop} (hkf : ∀ v, kf (some v) = (do letOwnedTupleGo t (.ref I) v; assign t F.env v; rest))
    (hh : A.handled = none) (q : ItI h0 prog w A O t nt s0 sI I xs wr ro wg P Inv Mid src svs) (T : TgOk F tg t) (hk0 : ∀ b o, h0.get? b = some o → F.base.get? b = some o) {W : Addr → Prop} (L : Lp W ro src svs s0 ow0 ρ0 F O₀ ow ρ s) (hi : Inv W k s) (kd : KindOk Inv Mid src t xs ρ)
    (hx : xs[k]? = some x) (e : bindT tg x ρ = some ρ') (h : ∀ W' s', Lp W' ro src svs s0 ow0 ρ0 F O₀ ow ρ' s' → Inv W' (k + 1) s' → KindOk Inv Mid src t xs ρ' → wpAny (model prog w) A rest Q E s') :
    wpAny (model prog w) A (pyNext (.ref I)) (λ r s₁ => wpAny (model prog w) A (kf r) Q E s₁) E s := by
  refine wpAny_mono (turn_ok (Qn := λ _ => False) (Q := λ _ s' => wpAny (model prog w) A rest Q E s') hh q T hk0 L hi kd hx e h) (λ r s₁ h₁ => ?_) λ _ _ h' => h'
  cases r with
  | none => exact h₁.elim
  | some v =>
    rw [hkf]
    exact wpAny_bind (wpAny_mono h₁ (λ _ s₂ h₂ => wpAny_bind h₂) λ _ _ h' => h')
theorem turn_end {O : Addr → Prop} {t : PySem.Expr} {nt : Bool} {h0 : Heap} {s0 sI s : Shared} {I : Addr} {xs : List D} {wr ro : Addr → Prop} {wg : Nat → Prop} {P : Nat → Value → Shared → Prop} {Inv : (Addr → Prop) → Nat → Shared → Prop} {Mid : (Addr → Prop) → Nat → Value → Shared → Prop} {src : List D} {svs : List Value}
    {ow0 ρ0 F O₀ ow ρ} {Q : Option Value → Shared → Prop}
    (q : ItI h0 prog w A O t nt s0 sI I xs wr ro wg P Inv Mid src svs) {W : Addr → Prop} (L : Lp W ro src svs s0 ow0 ρ0 F O₀ ow ρ s) (hi : Inv W xs.length s) (kd : KindOk Inv Mid src t xs ρ)
    (h : ∀ s', St F O₀ ow ρ s' → StepR F O₀ ow0 ρ0 s0 ow ρ s' → Q none s') : wpAny (model prog w) A (pyNext (.ref I)) Q E s := by
  have kd' : (∀ b, W b → NoSeq s.heap b) ∨ (flatL src = true ∧ ∀ (i : Nat) sl, ρ[i]? = some sl → flatSlot sl = true) := kd.imp (λ y b hb => y.1 _ _ _ b hi hb) λ y => ⟨y.1, y.2.2.2⟩
  refine q.done W s _ _ hi L.st.bare λ s' N => ?_
  exact h s' (L.st.nx N L.wx.1 L.wx.2.1 (kd'.imp L.wx.2.2 (·.2))) (L.nxR N q.freshG)
end
theorem setAll_get {is : List Nat} : ∀ {ds : List D} {ρ : List Slot} {j : Nat}, j ∉ is → (setAll is ds ρ)[j]? = ρ[j]? := by
  induction is with
  | nil => intro ds ρ j _; rfl
  | cons i is ih =>
    intro ds ρ j h
    cases ds with
    | nil => rfl
    | cons d ds =>
      simp only [List.mem_cons, not_or] at h
      show (setAll is ds (ρ.set i (.fro d)))[j]? = _
      rw [ih h.2, List.getElem?_set_ne (Ne.symm h.1)]
theorem bindT_get {tg : Tg} {d : D} {ρ ρ' : List Slot} {j : Nat} (e : bindT tg d ρ = some ρ') (h : j ∉ tg.ids) : ρ'[j]? = ρ[j]? := by
  unfold bindT at e
  split at e
  · cases e; exact List.getElem?_set_ne (by simp [Tg.ids] at h; exact Ne.symm h)
  · split at e
    · cases e; exact setAll_get h
    · cases e
  · split at e
    · cases e; exact setAll_get h
    · cases e
  · cases e
theorem bindT_length {tg : Tg} {d : D} {ρ ρ' : List Slot} (e : bindT tg d ρ = some ρ') : ρ'.length = ρ.length := by
  have key : ∀ (is : List Nat) (ds : List D) (ρ : List Slot), (setAll is ds ρ).length = ρ.length := by
    intro is
    induction is with
    | nil => intro ds ρ; rfl
    | cons i is ih =>
      intro ds ρ
      cases ds with
      | nil => rfl
      | cons d ds => show (setAll is ds (ρ.set i (.fro d))).length = _; rw [ih, List.length_set]
  unfold bindT at e
  split at e
  · cases e; simp
  · split at e
    · cases e; exact key _ _ _
    · cases e
  · split at e
    · cases e; exact key _ _ _
    · cases e
  · cases e
theorem bindT_le {tg : Tg} {d : D} {ρ ρ' : List Slot} (e : bindT tg d ρ = some ρ') (u : ∀ i ∈ tg.ids, ∀ s, ρ[i]? = some s → s = .undef) : Le ρ ρ' := by
  refine ⟨(bindT_length e).symm, λ j s q n => ?_⟩
  by_cases h : j ∈ tg.ids
  · exact absurd (u j h s q) n
  · rw [bindT_get e h]; exact q
section
variable {C : Cx} {n : Nat} {A : Around}
noncomputable def eltF (C : Cx) (tg : Tg) (elt cond : PE) (ρm : List Slot) (x : D) : Option (List D) := (bindT tg x ρm).bind λ ρ' => (ev C cond ρ').b.bind λ c => if c then (ev C elt ρ').e.map λ d => [d] else some []
noncomputable def testsOf (ifs : List PySem.Expr) (env : Env) : Sem Bool := forIn ifs true λ c r => if r = true then do let ok ← isTrue c env (eval c env); pure (ForInStep.yield ok) else pure (ForInStep.yield r)
noncomputable def TestOk (C : Cx) (n : Nat) (F : Frame) (p : PE) (ifs : List PySem.Expr) : Prop := ∀ A s O₀ ow ρ b (Q : Bool → Shared → Prop) (E : Value → Shared → Prop), AOk n A → St F O₀ ow ρ s → (ev C p ρ).b = some b →
  (∀ s', Ext s s' → Q b s') → wpAny (model C.prog C.w) A (testsOf ifs F.env) Q E s
theorem test_nil {F : Frame} : TestOk C n F (.cB true) [] := λ A s O₀ ow ρ b Q E hA S he h => by
  have : b = true := (Option.some.inj (show some true = some b from he)).symm
  subst this
  exact wpAny_tests_nil (h s (.refl s))
theorem test_one {F : Frame} {p : PE} {c : PySem.Expr} (hp : PbOk C n F p c) : TestOk C n F p [c] := λ A s O₀ ow ρ b Q E hA S he h => wpAny_tests_one (hp A s O₀ ow ρ b Q E hA S he h)
theorem turn_last1 (elt target iter : PySem.Expr) (ifs : List PySem.Expr) (scope : Scope) (pos : Pos) (it acc : Value) (env : Env) :
    compTurn (.ListComp elt [⟨target, iter, ifs, 0⟩] scope pos) 0 it acc env = (do
      standAt iter.pos
      match ← pyNext it with
      | none => pure (.done .next)
      | some v =>
        letOwnedTupleGo target it v
        assign target env v
        let ok ← testsOf ifs env
        if ok then
          (do let _ ← call (.builtin "list.append") [acc, ← eval elt env])
        again (.compLoop (.ListComp elt [⟨target, iter, ifs, 0⟩] scope pos) 0 it acc env)) := by rfl
theorem turn_last2 (elt target iter target1 iter1 : PySem.Expr) (ifs : List PySem.Expr) (scope : Scope) (pos : Pos) (it acc : Value) (env : Env) :
    compTurn (.ListComp elt [⟨target1, iter1, [], 0⟩, ⟨target, iter, ifs, 0⟩] scope pos) 1 it acc env = (do
      standAt iter.pos
      match ← pyNext it with
      | none => pure (.done .next)
      | some v =>
        letOwnedTupleGo target it v
        assign target env v
        let ok ← testsOf ifs env
        if ok then
          (do let _ ← call (.builtin "list.append") [acc, ← eval elt env])
        again (.compLoop (.ListComp elt [⟨target1, iter1, [], 0⟩, ⟨target, iter, ifs, 0⟩] scope pos) 1 it acc env)) := by rfl
theorem flatL_app (a b : List D) : flatL (a ++ b) = (flatL a && flatL b) := List.all_append
theorem compGo_ok {f : D → Option (List D)} {x : D} {xs : List D} {r : List D} {P : Prop} (h : compGo f (x :: xs) = some r) (H : ∀ a b, f x = some a → compGo f xs = some b → a ++ b = r → P) : P := by
  have h : (match f x, compGo f xs with | some a, some b => some (a ++ b) | _, _ => none) = some r := h
  cases e1 : f x with
  | none => rw [e1] at h; exact nos h
  | some a => cases e2 : compGo f xs with
    | none => rw [e1, e2] at h; exact nos h
    | some b => rw [e1, e2] at h; exact H a b e1 e2 (som h)
theorem compGo_at {f : D → Option (List D)} {xs : List D} {r : List D} {P : Prop} {m k : Nat} (hm : m + 1 + k = xs.length) (h : compGo f (xs.drop k) = some r) (H : ∀ x a b, xs[k]? = some x → f x = some a → compGo f (xs.drop (k + 1)) = some b → a ++ b = r → P) : P := by
  have hk : k < xs.length := by omega
  rw [List.drop_eq_getElem_cons hk] at h
  exact compGo_ok h λ a b => H _ a b (List.getElem?_eq_getElem hk)
theorem comp_turn {α : Type} {kf : Option Value → Sem α} {rest : Sem α} {G : Frame} {elt' t : PySem.Expr} {ifs : List PySem.Expr} {I : Addr} {ow : Nat → Addr}
    (hkf : ∀ v, kf (some v) = (do
      letOwnedTupleGo t (.ref I) v
      assign t G.env v
      let ok ← testsOf ifs G.env
      if ok then
        (do let _ ← call (.builtin "list.append") [.ref (ow 0), ← eval elt' G.env])
      rest))
    {elt cond : PE} {tg : Tg} (he : PeOk C n G elt elt') (hc : TestOk C n G cond ifs) (T : TgOk G tg t) (hA : AOk n A)
    {O : Addr → Prop} {nt : Bool} {s0 sI : Shared} {xs : List D} {wr ro : Addr → Prop} {wg : Nat → Prop} {P : Nat → Value → Shared → Prop} {Inv : (Addr → Prop) → Nat → Shared → Prop} {Mid : (Addr → Prop) → Nat → Value → Shared → Prop} {src : List D} {svs : List Value}
    (q : ItI C.h0 C.prog C.w A O t nt s0 sI I xs wr ro wg P Inv Mid src svs) (hk0 : Keep0 C G.base) {ρm : List Slot} (hu : ∀ i ∈ tg.ids, ∀ s, ρm[i]? = some s → s = .undef) (h0 : ∀ s, ρm[0]? = some s → s = .undef) (hz : 0 ∉ tg.ids)
    {k : Nat} {x : D} {a ds : List D} (hx : xs[k]? = some x) (e1 : eltF C tg elt cond ρm x = some a) (hsz : ds.length + a.length ≤ 16777216)
    (hfr : ((∀ W i s₁ b, Inv W i s₁ → W b → NoSeq s₁.heap b) ∧ (∀ W i v s₁ b, Mid W i v s₁ → W b → NoSeq s₁.heap b)) ∨ flatL (ds ++ a) = true)
    {O₁ : Addr → Prop} {ow0 : Nat → Addr} {ρ0 ρ : List Slot} {s : Shared} {W : Addr → Prop} {Q : α → Shared → Prop} {E : Value → Shared → Prop} (L : Lp W ro src svs s0 ow0 ρ0 G O₁ ow ρ s) (hi : Inv W k s) (kd : KindOk Inv Mid src t xs ρ) (hle : Le ρm ρ) (hacc : ρ[0]? = some (.own ds))
    (done : ∀ W' ρ' s', Lp W' ro src svs s0 ow0 ρ0 G O₁ ow ρ' s' → Inv W' (k + 1) s' → KindOk Inv Mid src t xs ρ' → Le ρm ρ' → ρ'[0]? = some (.own (ds ++ a)) → wpAny (model C.prog C.w) A rest Q E s') :
    wpAny (model C.prog C.w) A (pyNext (.ref I)) (λ r s₁ => wpAny (model C.prog C.w) A (kf r) Q E s₁) E s := by
  refine bindE e1 λ ρ1 f1 f2 => bindE f2 λ c f3 f4 => ?_
  obtain ⟨ρ1', g1, hle1⟩ := bindT_mono hle f1
  have hle2 : Le ρm ρ1' := (bindT_le f1 hu).trans hle1
  refine turn_step hkf hA.1 q T hk0 L hi kd hx g1 λ W' s₁ L1 hi1 kd1 => ?_
  refine wpAny_bind (hc A s₁ O₁ ow ρ1' c _ _ hA L1.st ((ev_mono C cond hle1).b c f3) λ s₂ X => ?_)
  have L2 := L1.ext X
  have hi2 := q.stable W' (k + 1) s₁ s₂ hi1 (λ b o _ e => X.heap b o e) X.gens (λ b o e => L2.st.fr.keep b o (hk0 b o e)) λ b o _ e _ => X.heap b o e
  have acc1 : ρ1'[0]? = some (.own ds) := (bindT_get g1 hz).trans hacc
  cases c with
  | false =>
    cases f4
    exact done W' ρ1' s₂ L2 hi2 kd1 hle2 (acc1.trans (congrArg (λ l => some (Slot.own l)) (List.append_nil ds).symm))
  | true =>
    obtain ⟨d, f5, rfl⟩ := Option.map_eq_some_iff.mp (show Option.map (λ d => [d]) (ev C elt ρ1).e = some a from f4)
    refine wpAny_bind (wpAny_bind (he A s₂ O₁ ow ρ1' d _ _ hA L2.st ((ev_mono C elt hle1).e d f5) λ v s₃ X₃ hv _ => ?_))
    have L3 := L2.ext X₃
    have hi3 := q.stable W' (k + 1) s₂ s₃ hi2 (λ b o _ e => X₃.heap b o e) X₃.gens (λ b o e => L3.st.fr.keep b o (hk0 b o e)) λ b o _ e _ => X₃.heap b o e
    have ny := List.getElem?_eq_getElem (L3.st.len ▸ (List.getElem?_eq_some_iff.mp acc1).1)
    obtain ⟨_, vs, hpl, hvs⟩ := L3.st.at_own acc1 ny
    have hlen := hasL_length hvs
    rw [Array.length_toList] at hlen
    refine wpAny_bind (wpAny_list_append_plain hpl (λ h' hp hs => wpAny_pure ?_) (by show vs.size ≤ 16777216; rw [List.length_singleton] at hsz; omega))
    have hvs' : HasL (Oof O₁ ow ρ1') s₃.heap (ds ++ [d]) (vs.push v).toList := by
      rw [Array.toList_push]; exact hasL_append hvs (hasL_cons hv hasL_nil)
    obtain ⟨S4, R4⟩ := L3.st.upd (t := s₃.toks) acc1 hs hp hvs'
    refine done W' (ρ1'.set 0 (.own (ds ++ [d]))) _ (L3.step' S4 R4) ?_ ?_ (hle2.up _ h0) (List.getElem?_set_self (List.getElem?_eq_some_iff.mp acc1).1)
    · exact q.stable W' (k + 1) s₃ _ hi3 (λ b o hb e => ((L3.away b hb).step L3.st R4).2 o e) R4.gens (λ b o e => S4.fr.keep b o (hk0 b o e)) λ b o _ e d => R4.fields L3.st e d
    · rcases kd1 with y | ⟨y1, y2, y3, y4⟩
      · exact .inl y
      · exact hfr.imp id λ y => ⟨y1, y2, y3, flat_set y4 y⟩
theorem comp_last {R : Result → Shared → Prop} {G : Frame} {gens : List Comprehension} {cs : Scope} {pos : Pos} {elt' t it' : PySem.Expr} {ifs : List PySem.Expr} {dp : Nat}
    (heq : ∀ it acc env, compTurn (.ListComp elt' gens cs pos) dp it acc env = (do
      standAt it'.pos
      match ← pyNext it with
      | none => pure (.done .next)
      | some v =>
        letOwnedTupleGo t it v
        assign t env v
        let ok ← testsOf ifs env
        if ok then
          (do let _ ← call (.builtin "list.append") [acc, ← eval elt' env])
        again (.compLoop (.ListComp elt' gens cs pos) dp it acc env)))
    {elt cond : PE} {tg : Tg} (he : PeOk C n G elt elt') (hc : TestOk C n G cond ifs) (T : TgOk G tg t) (hA : AOk n A)
    {O : Addr → Prop} {nt : Bool} {s0 sI : Shared} {I : Addr} {xs : List D} {wr ro : Addr → Prop} {wg : Nat → Prop} {P : Nat → Value → Shared → Prop} {Inv : (Addr → Prop) → Nat → Shared → Prop} {Mid : (Addr → Prop) → Nat → Value → Shared → Prop} {src : List D} {svs : List Value}
    (q : ItI C.h0 C.prog C.w A O t nt s0 sI I xs wr ro wg P Inv Mid src svs) (hk0 : Keep0 C G.base) {ρm : List Slot} (hu : ∀ i ∈ tg.ids, ∀ s, ρm[i]? = some s → s = .undef) (h0 : ∀ s, ρm[0]? = some s → s = .undef) (hz : 0 ∉ tg.ids)
    {r ds : List D} (hgo : compGo (eltF C tg elt cond ρm) xs = some r) (hsz : ds.length + r.length ≤ 16777216)
    (hfr : ((∀ W i s₁ b, Inv W i s₁ → W b → NoSeq s₁.heap b) ∧ (∀ W i v s₁ b, Mid W i v s₁ → W b → NoSeq s₁.heap b)) ∨ flatL (ds ++ r) = true)
    {O₁ : Addr → Prop} {ow0 ow : Nat → Addr} {ρ0 ρ : List Slot} {s : Shared} {W₀ : Addr → Prop} (L : Lp W₀ ro src svs s0 ow0 ρ0 G O₁ ow ρ s) (hi : Inv W₀ 0 s) (kd : KindOk Inv Mid src t xs ρ) (hle : Le ρm ρ) (hacc : ρ[0]? = some (.own ds))
    (fin : ∀ s' ρ', St G O₁ ow ρ' s' → StepR G O₁ ow0 ρ0 s0 ow ρ' s' → Le ρm ρ' → ρ'[0]? = some (.own (ds ++ r)) → R (.ok .next) s') :
    codeAny (model C.prog C.w) A (.compLoop (.ListComp elt' gens cs pos) dp (.ref I) (.ref (ow 0)) G.env) R s := by
  refine codeAny_loop rfl (λ m s => ∃ W k ρ ds' r', m + k = xs.length ∧ Lp W ro src svs s0 ow0 ρ0 G O₁ ow ρ s ∧ Inv W k s ∧ KindOk Inv Mid src t xs ρ ∧ Le ρm ρ ∧ ρ[0]? = some (.own ds') ∧
    compGo (eltF C tg elt cond ρm) (xs.drop k) = some r' ∧ ds' ++ r' = ds ++ r) (λ m s hI => ?_) xs.length ⟨W₀, 0, ρ, ds, r, rfl, L, hi, kd, hle, hacc, hgo, rfl⟩
  obtain ⟨W, k, ρ, ds', r', hm, L, hi, kd, hle, hacc, hgo, heqr⟩ := hI
  show wpAny _ A ((compTurn (.ListComp elt' gens cs pos) dp (.ref I) (.ref (ow 0)) G.env).onRaise (λ x => do noteFrame x G.env; theTreesLotGoes x)) _ _ s
  refine wpAny_noted ?_
  rw [heq]
  refine wpAny_bind (wpAny_standAt (wpAny_bind ?_))
  cases m with
  | zero =>
    have hk : k = xs.length := (Nat.zero_add k).symm.trans hm
    subst hk
    rw [List.drop_length] at hgo
    cases hgo
    rw [List.append_nil] at heqr
    exact turn_end q L hi kd λ s' S' R' => wpAny_pure (fin s' ρ S' R' hle (hacc.trans (congrArg (λ l => some (Slot.own l)) heqr)))
  | succ m =>
    refine compGo_at hm hgo λ x a b hx e1 e2 er => ?_
    have hlen : ds'.length + (a.length + b.length) = ds.length + r.length := by rw [← List.length_append, ← List.length_append, ← List.length_append, er, heqr]
    refine comp_turn (rest := again (.compLoop (.ListComp elt' gens cs pos) dp (.ref I) (.ref (ow 0)) G.env)) (λ _ => rfl) he hc T hA q hk0 hu h0 hz hx e1 (by omega) (hfr.imp id λ y => ?_) L hi kd hle hacc λ W' ρ' s' L' hi' kd' hle' hacc' =>
      wpAny_pure ⟨rfl, m, Nat.lt_succ_self m, W', k + 1, ρ', ds' ++ a, b, by omega, L', hi', kd', hle', hacc', e2, by rw [List.append_assoc, er, heqr]⟩
    rw [← heqr, ← er, ← List.append_assoc, flatL_app] at y
    exact (band y).1
end
section
variable {C : Cx} {n : Nat} {A : Around}
theorem Lp.start {h0 prog w O₀ ow ρ F nt} {t : PySem.Expr} {s s' : Shared} {I : Addr} {xs : List D} {wr ro : Addr → Prop} {wg : Nat → Prop} {P : Nat → Value → Shared → Prop} {Inv : (Addr → Prop) → Nat → Shared → Prop} {Mid : (Addr → Prop) → Nat → Value → Shared → Prop} {src : List D} {svs : List Value}
    (S : St F O₀ ow ρ s) (X : Ext s s') (q : ItI h0 prog w A (Oof O₀ ow ρ) t nt s s' I xs wr ro wg P Inv Mid src svs) : Lp wr ro src svs s ow ρ F O₀ ow ρ s' := by
  refine ⟨S.ext X, .ofExt X, λ b hb => ⟨λ o => ?_, ?_, (q.alive _ b hb).1 _ _ q.init⟩, λ b hb => (q.fresh b hb).1, λ b hb => ?_, S.fr.keep, q.srcs⟩
  rotate_left
  · rintro rfl
    obtain ⟨m, o, es, ep, ho, hd, _⟩ := S.fr.ns
    rcases hb with hb | hb
    · rw [(q.fresh _ hb).1] at ho; cases ho
    · have ho' := X.heap _ _ ho
      rcases q.read _ hb with ⟨us, ⟨o1, e1, _, _, d1⟩, _⟩ | ⟨us, o1, e1, _, _, d1⟩
      · rw [ho'] at e1; cases e1; rw [hd] at d1; cases d1
      · rw [ho'] at e1; cases e1; rw [hd] at d1; cases d1
  · cases e : F.base.get? b with
    | none => rfl
    | some o => have := S.fr.keep b o e; rw [(q.fresh b hb).1] at this; cases this
  rcases hb with hb | hb
  · obtain ⟨o', e⟩ := S.oof b o
    rw [(q.fresh b hb).1] at e; cases e
  · rcases q.read b hb with ⟨us, _, no⟩ | ⟨us, o1, e1, c1, _⟩
    · exact no o
    · obtain ⟨vs, o2, e2, c2, _⟩ := (S.ext X).oofL b o
      rw [e1] at e2; cases e2; rw [c1] at c2; exact absurd (Value.type.inj c2) (by decide)
theorem noSet {nm : List Str} {sc : Scope} {p : PE} {e : PySem.Expr} (h : mt nm p sc e = true) (env : Env) (x : Value) : foldedSetIterable e env x = pure x := by
  cases e <;> first
    | rfl
    | (cases p <;> exact no_eq h)
theorem compStart_at {elt : PySem.Expr} {gens : List Comprehension} {scope pos it acc env} {R : Result → Shared → Prop} {s : Shared} {dp : Nat} {g : Comprehension} (hg : gens[dp]? = some g) (ha : g.is_async = 0)
    (h0 : codeAny (model C.prog C.w) A (.compLoop (.ListComp elt gens scope pos) dp it acc env) R s)
    (h : wpAny (model C.prog C.w) A (pyIter it) (λ it' s' => codeAny (model C.prog C.w) A (.compLoop (.ListComp elt gens scope pos) dp it' acc env) R s') (notedBy (model C.prog C.w) A env λ x s' => R (.error x) s') s) :
    codeAny (model C.prog C.w) A (.compStart (.ListComp elt gens scope pos) dp it acc env) R s := by
  refine codeAny_of_tree ?_
  show wpAny _ _ ((compStart (.ListComp elt gens scope pos) dp it acc env).onRaise (λ x => do noteFrame x env; standAt theWindowsPlace)) _ _ s
  refine wpAny_notedAt ?_
  unfold compStart
  have e1 : (clausesOf (.ListComp elt gens scope pos))[dp]? = some g := hg
  rw [e1]
  simp only [Option.elim, ha]
  show wpAny _ _ (ask >>= _) _ _ s
  refine wpAny_bind (wpAny_askSetting (wpAny_ite ?_))
  split
  · first
      | exact wpAny_bind (wpAny_pure (wpAny_pure (And.intro rfl h0)))
      | exact wpAny_pure (And.intro rfl h0)
  · first
      | exact wpAny_bind (wpAny_rule (wpAny_bind (wpAny_standAt (wpAny_bind (wpAny_mono h (λ it' s' h' => wpAny_pure (And.intro rfl h')) λ _ _ x => x)))))
theorem turn_first (elt target iter target1 iter1 : PySem.Expr) (ifs : List PySem.Expr) (scope : Scope) (pos : Pos) (it acc : Value) (env : Env) :
    compTurn (.ListComp elt [⟨target1, iter1, [], 0⟩, ⟨target, iter, ifs, 0⟩] scope pos) 0 it acc env = (do
      standAt iter1.pos
      match ← pyNext it with
      | none => pure (.done .next)
      | some v =>
        letOwnedTupleGo target1 it v
        assign target1 env v
        let ok ← testsOf [] env
        if ok then
          let x ← eval iter env
          standAt iter.pos
          let x ← foldedSetIterable iter env x
          let _ ← runOwn (.compStart (.ListComp elt [⟨target1, iter1, [], 0⟩, ⟨target, iter, ifs, 0⟩] scope pos) 1 (← holding [x] (pyIter x)) acc env) env
        again (.compLoop (.ListComp elt [⟨target1, iter1, [], 0⟩, ⟨target, iter, ifs, 0⟩] scope pos) 0 it acc env)) := by rfl
noncomputable def firstF (C : Cx) (tg1 : Tg) (it2 : PE) (tg : Tg) (elt cond : PE) (ρm : List Slot) (x : D) : Option (List D) := (bindT tg1 x ρm).bind λ ρ1 => (ev C it2 ρ1).it.bind λ ys => compGo (eltF C tg elt cond ρ1) ys
theorem disj_not {a b : Tg} (h : tgDisj a b = true) {i : Nat} (hi : i ∈ b.ids) : i ∉ a.ids := λ q => nomatch (bnot (List.all_eq_true.mp h i hi)).symm.trans (List.contains_iff_mem.mpr q)
theorem first_turn {α : Type} {kf : Option Value → Sem α} {rest : Sem α} {G : Frame} {cs : Scope} {pos : Pos} {elt' t1 it1' t it' : PySem.Expr} {ifs : List PySem.Expr} {I : Addr} {ow : Nat → Addr}
    (hkf : ∀ v, kf (some v) = (do
      letOwnedTupleGo t1 (.ref I) v
      assign t1 G.env v
      let ok ← testsOf [] G.env
      if ok then
        let x ← eval it' G.env
        standAt it'.pos
        let x ← foldedSetIterable it' G.env x
        let _ ← runOwn (.compStart (.ListComp elt' [⟨t1, it1', [], 0⟩, ⟨t, it', ifs, 0⟩] cs pos) 1 (← holding [x] (pyIter x)) (.ref (ow 0)) G.env) G.env
      rest))
    {elt cond it2 : PE} {tg1 tg : Tg} (he : PeOk C n G elt elt') (hc : TestOk C n G cond ifs) (hi2 : PiOk C n G it2 it') (nz2 : needsTup it2 = false) (hset : ∀ env x, foldedSetIterable it' env x = pure x) (T1 : TgOk G tg1 t1) (T : TgOk G tg t) (hA : AOk n A)
    {O : Addr → Prop} {nt : Bool} {s0 sI : Shared} {xs : List D} {wr ro : Addr → Prop} {wg : Nat → Prop} {P : Nat → Value → Shared → Prop} {Inv : (Addr → Prop) → Nat → Shared → Prop} {Mid : (Addr → Prop) → Nat → Value → Shared → Prop} {src : List D} {svs : List Value}
    (q : ItI C.h0 C.prog C.w A O t1 nt s0 sI I xs wr ro wg P Inv Mid src svs) (hk0 : Keep0 C G.base) {ρm : List Slot} (hu1 : ∀ i ∈ tg1.ids, ∀ s, ρm[i]? = some s → s = .undef) (hu : ∀ i ∈ tg.ids, ∀ s, ρm[i]? = some s → s = .undef) (hdj : tgDisj tg1 tg = true)
    (h0 : ∀ s, ρm[0]? = some s → s = .undef) (hz1 : 0 ∉ tg1.ids) (hz : 0 ∉ tg.ids)
    {k : Nat} {x : D} {a ds : List D} (hx : xs[k]? = some x) (e1 : firstF C tg1 it2 tg elt cond ρm x = some a) (hsz : ds.length + a.length ≤ 16777216)
    (quiet : ((∀ W i s₁ b, Inv W i s₁ → W b → NoSeq s₁.heap b) ∧ (∀ W i v s₁ b, Mid W i v s₁ → W b → NoSeq s₁.heap b)))
    {O₁ : Addr → Prop} {ow0 : Nat → Addr} {ρ0 ρ : List Slot} {s : Shared} {W : Addr → Prop} {Q : α → Shared → Prop} {E : Value → Shared → Prop} (L : Lp W ro src svs s0 ow0 ρ0 G O₁ ow ρ s) (hi : Inv W k s) (hle : Le ρm ρ) (hacc : ρ[0]? = some (.own ds))
    (done : ∀ W' ρ' s', Lp W' ro src svs s0 ow0 ρ0 G O₁ ow ρ' s' → Inv W' (k + 1) s' → Le ρm ρ' → ρ'[0]? = some (.own (ds ++ a)) → wpAny (model C.prog C.w) A rest Q E s') :
    wpAny (model C.prog C.w) A (pyNext (.ref I)) (λ r s₁ => wpAny (model C.prog C.w) A (kf r) Q E s₁) E s := by
  refine bindE e1 λ ρ1 f1 f2 => bindE f2 λ ys f3 f4 => ?_
  obtain ⟨ρ1', g1, hle1⟩ := bindT_mono hle f1
  refine turn_step hkf hA.1 q T1 hk0 L hi (.inl quiet) hx g1 λ W' s₁ L1 hi1 _ => ?_
  have acc1 : ρ1'[0]? = some (.own ds) := (bindT_get g1 hz1).trans hacc
  refine wpAny_bind (wpAny_tests_nil ?_)
  refine wpAny_bind (wpAny_mono (hi2 A s₁ O₁ ow ρ1' ys t _ _ hA L1.st ((ev_mono C it2 hle1).it ys f3) (λ q => nomatch nz2.symm.trans q) λ it s₂ X I2 => ?_)
    (λ x s₂ h₂ => wpAny_bind (wpAny_standAt (wpAny_bind (wpAny_of_eq (hset _ x) (wpAny_bind (wpAny_holding h₂)))))) λ _ _ h' => h')
  refine wpAny_bind (wpAny_runOwn ?_ (by intro x; cases x))
  obtain ⟨I', wr2, ro2, wg2, P2, Inv2, Mid2, src2, svs2, rfl, q2⟩ := I2
  have L2 := Lp.start L1.st X q2
  have qk : ((∀ W i s₁ b, Inv2 W i s₁ → W b → NoSeq s₁.heap b) ∧ (∀ W i v s₁ b, Mid2 W i v s₁ → W b → NoSeq s₁.heap b)) := q2.kind.resolve_right λ y => nomatch nz2.symm.trans y.1
  have loop : ∀ R' : Result → Shared → Prop, (∀ s₃ ρ3, St G O₁ ow ρ3 s₃ → StepR G O₁ ow ρ1' s₁ ow ρ3 s₃ → Le ρ1 ρ3 → ρ3[0]? = some (.own (ds ++ a)) → R' (.ok .next) s₃) →
      codeAny (model C.prog C.w) A (.compLoop (.ListComp elt' [⟨t1, it1', [], 0⟩, ⟨t, it', ifs, 0⟩] cs pos) 1 (.ref I') (.ref (ow 0)) G.env) R' s₂ := λ R' hR =>
    comp_last (turn_last2 _ _ _ _ _ _ _ _) he hc T hA q2 hk0 (λ i hi s e => hu i hi s ((bindT_get f1 (disj_not hdj hi)).symm.trans e)) (λ s e => h0 s ((bindT_get f1 hz1).symm.trans e)) hz f4 hsz (.inl qk) L2 q2.init (.inl qk) hle1 acc1 (R := R') hR
  have fin2 : ∀ s₃ ρ3, St G O₁ ow ρ3 s₃ → StepR G O₁ ow ρ1' s₁ ow ρ3 s₃ → Le ρ1 ρ3 → ρ3[0]? = some (.own (ds ++ a)) → wpAny (model C.prog C.w) A rest Q E s₃ := λ s₃ ρ3 S3 R3 hle3 acc3 =>
    done W' ρ3 s₃ (L1.step' S3 R3) (q.stable W' (k + 1) s₁ s₃ hi1 (λ b o hb e => ((L1.away b hb).step L1.st R3).2 o e) R3.gens (λ b o e => S3.fr.keep b o (hk0 b o e)) (λ b o _ e d => R3.fields L1.st e d)) ((bindT_le f1 hu1).trans hle3) acc3
  exact compStart_at (g := ⟨t, it', ifs, 0⟩) rfl rfl (loop _ λ s₃ ρ3 S3 R3 hle3 acc3 => fin2 s₃ ρ3 S3 R3 hle3 acc3) (q2.self _ 0 s₂ _ _ q2.init (loop _ λ s₃ ρ3 S3 R3 hle3 acc3 => fin2 s₃ ρ3 S3 R3 hle3 acc3))
theorem comp_first {R : Result → Shared → Prop} {G : Frame} {cs : Scope} {pos : Pos} {elt' t1 it1' t it' : PySem.Expr} {ifs : List PySem.Expr}
    {elt cond it2 : PE} {tg1 tg : Tg} (he : PeOk C n G elt elt') (hc : TestOk C n G cond ifs) (hi2 : PiOk C n G it2 it') (nz2 : needsTup it2 = false) (hset : ∀ env x, foldedSetIterable it' env x = pure x) (T1 : TgOk G tg1 t1) (T : TgOk G tg t) (hA : AOk n A)
    {O : Addr → Prop} {nt : Bool} {s0 sI : Shared} {I : Addr} {xs : List D} {wr ro : Addr → Prop} {wg : Nat → Prop} {P : Nat → Value → Shared → Prop} {Inv : (Addr → Prop) → Nat → Shared → Prop} {Mid : (Addr → Prop) → Nat → Value → Shared → Prop} {src : List D} {svs : List Value}
    (q : ItI C.h0 C.prog C.w A O t1 nt s0 sI I xs wr ro wg P Inv Mid src svs) (hk0 : Keep0 C G.base) {ρm : List Slot} (hu1 : ∀ i ∈ tg1.ids, ∀ s, ρm[i]? = some s → s = .undef) (hu : ∀ i ∈ tg.ids, ∀ s, ρm[i]? = some s → s = .undef) (hdj : tgDisj tg1 tg = true)
    (h0 : ∀ s, ρm[0]? = some s → s = .undef) (hz1 : 0 ∉ tg1.ids) (hz : 0 ∉ tg.ids)
    {r ds : List D} (hgo : compGo (firstF C tg1 it2 tg elt cond ρm) xs = some r) (hsz : ds.length + r.length ≤ 16777216)
    (quiet : ((∀ W i s₁ b, Inv W i s₁ → W b → NoSeq s₁.heap b) ∧ (∀ W i v s₁ b, Mid W i v s₁ → W b → NoSeq s₁.heap b)))
    {O₁ : Addr → Prop} {ow0 ow : Nat → Addr} {ρ0 ρ : List Slot} {s : Shared} {W₀ : Addr → Prop} (L : Lp W₀ ro src svs s0 ow0 ρ0 G O₁ ow ρ s) (hi : Inv W₀ 0 s) (hle : Le ρm ρ) (hacc : ρ[0]? = some (.own ds))
    (fin : ∀ s' ρ', St G O₁ ow ρ' s' → StepR G O₁ ow0 ρ0 s0 ow ρ' s' → Le ρm ρ' → ρ'[0]? = some (.own (ds ++ r)) → R (.ok .next) s') :
    codeAny (model C.prog C.w) A (.compLoop (.ListComp elt' [⟨t1, it1', [], 0⟩, ⟨t, it', ifs, 0⟩] cs pos) 0 (.ref I) (.ref (ow 0)) G.env) R s := by
  refine codeAny_loop rfl (λ m s => ∃ W k ρ ds' r', m + k = xs.length ∧ Lp W ro src svs s0 ow0 ρ0 G O₁ ow ρ s ∧ Inv W k s ∧ Le ρm ρ ∧ ρ[0]? = some (.own ds') ∧
    compGo (firstF C tg1 it2 tg elt cond ρm) (xs.drop k) = some r' ∧ ds' ++ r' = ds ++ r) (λ m s hI => ?_) xs.length ⟨W₀, 0, ρ, ds, r, rfl, L, hi, hle, hacc, hgo, rfl⟩
  obtain ⟨W, k, ρ, ds', r', hm, L, hi, hle, hacc, hgo, heqr⟩ := hI
  show wpAny _ A ((compTurn (.ListComp elt' [⟨t1, it1', [], 0⟩, ⟨t, it', ifs, 0⟩] cs pos) 0 (.ref I) (.ref (ow 0)) G.env).onRaise (λ x => do noteFrame x G.env; theTreesLotGoes x)) _ _ s
  refine wpAny_noted ?_
  rw [turn_first]
  refine wpAny_bind (wpAny_standAt (wpAny_bind ?_))
  cases m with
  | zero =>
    have hk : k = xs.length := (Nat.zero_add k).symm.trans hm
    subst hk
    rw [List.drop_length] at hgo
    cases hgo
    rw [List.append_nil] at heqr
    exact turn_end q L hi (.inl quiet) λ s' S' R' => wpAny_pure (fin s' ρ S' R' hle (hacc.trans (congrArg (λ l => some (Slot.own l)) heqr)))
  | succ m =>
    refine compGo_at hm hgo λ x a b hx e1 e2 er => ?_
    have hlen : ds'.length + (a.length + b.length) = ds.length + r.length := by rw [← List.length_append, ← List.length_append, ← List.length_append, er, heqr]
    exact first_turn (rest := again (.compLoop (.ListComp elt' [⟨t1, it1', [], 0⟩, ⟨t, it', ifs, 0⟩] cs pos) 0 (.ref I) (.ref (ow 0)) G.env)) (λ _ => rfl) he hc hi2 nz2 hset T1 T hA q hk0 hu1 hu hdj h0 hz1 hz hx e1 (by omega) quiet L hi hle hacc λ W' ρ' s' L' hi' hle' hacc' =>
      wpAny_pure ⟨rfl, m, Nat.lt_succ_self m, W', k + 1, ρ', ds' ++ a, b, by omega, L', hi', hle', hacc', e2, by rw [List.append_assoc, er, heqr]⟩
end
theorem mem_of_lookup {names : List (Str × NameKind)} {x : Str} {k : NameKind} (h : names.lookup x = some k) : (x, k) ∈ names := by
  induction names with
  | nil => cases h
  | cons p r ih =>
    obtain ⟨n, k'⟩ := p
    rw [List.lookup_cons] at h
    split at h
    · rename_i hx; cases h; rw [eq_of_beq hx]; exact List.mem_cons_self
    · exact List.mem_cons_of_mem _ (ih h)
theorem lookup_relabel_free {env : Env} (hk : env.scope.kind = .function) : ∀ {names : List (Str × NameKind)} {x : Str}, names.lookup x = some .free → env.kindOf x = some .cell →
    (names.map λ (n, k) => if (k == NameKind.free && env.scope.kind == .function && env.kindOf n == some .cell) then (n, NameKind.cell) else (n, k)).lookup x = some .cell
  | [], _, h, _ => by simp at h
  | (n, k) :: r, x, h, hc => by
    have ih := @lookup_relabel_free env hk r x
    show List.lookup x ((if (k == NameKind.free && env.scope.kind == .function && env.kindOf n == some .cell) = true then (n, NameKind.cell) else (n, k)) :: _) = _
    cases hx : x == n with
    | true =>
      simp only [List.lookup_cons, hx] at h
      cases h
      rw [if_pos (by rw [← eq_of_beq hx, hc, hk]; rfl)]
      simp [List.lookup_cons, hx]
    | false =>
      simp only [List.lookup_cons, hx] at h
      by_cases hc' : (k == NameKind.free && env.scope.kind == .function && env.kindOf n == some .cell) = true
      · rw [if_pos hc']; simp only [List.lookup_cons, hx]; exact ih h hc
      · rw [if_neg hc']; simp only [List.lookup_cons, hx]; exact ih h hc
theorem lookup_relabel_glob {env : Env} : ∀ {names : List (Str × NameKind)} {x : Str}, names.lookup x = some .globalImplicit →
    (names.map λ (n, k) => if (k == NameKind.free && env.scope.kind == .function && env.kindOf n == some .cell) then (n, NameKind.cell) else (n, k)).lookup x = some .globalImplicit
  | [], _, h => by simp at h
  | (n, k) :: r, x, h => by
    have ih := @lookup_relabel_glob env r x
    show List.lookup x ((if (k == NameKind.free && env.scope.kind == .function && env.kindOf n == some .cell) = true then (n, NameKind.cell) else (n, k)) :: _) = _
    cases hx : x == n with
    | true =>
      simp only [List.lookup_cons, hx] at h
      cases h
      simp [List.lookup_cons, hx]
    | false =>
      simp only [List.lookup_cons, hx] at h
      by_cases hc : (k == NameKind.free && env.scope.kind == .function && env.kindOf n == some .cell) = true
      · rw [if_pos hc]; simp only [List.lookup_cons, hx]; exact ih h
      · rw [if_neg hc]; simp only [List.lookup_cons, hx]; exact ih h
theorem closure_go {env : Env} {f : (Str × NameKind) → List (Str × Addr) → Sem (ForInStep (List (Str × Addr)))} (hf : ∀ p cs, p.2 ≠ .free → f p cs = pure (.yield cs)) (hg : ∀ p cs c, p.2 = .free → env.cells.lookup p.1 = some c → f p cs = pure (.yield ((p.1, c) :: cs))) :
    ∀ (names : List (Str × NameKind)) (cl0 : List (Str × Addr)), (∀ p ∈ names, p.2 = .free → ∃ c, env.cells.lookup p.1 = some c) → (∀ x c, cl0.lookup x = some c → env.cells.lookup x = some c) →
      ∃ cl, forIn names cl0 f = pure cl ∧ (∀ x c, cl.lookup x = some c → env.cells.lookup x = some c) ∧ ∀ x, ((x, .free) ∈ names ∨ (cl0.lookup x).isSome = true) → (cl.lookup x).isSome = true
  | [], cl0, _, h => ⟨cl0, by simp, h, λ x q => q.elim (λ q => by cases q) id⟩
  | p :: names, cl0, hp, h => by
    by_cases hk : p.2 = .free
    · obtain ⟨c, hc⟩ := hp p List.mem_cons_self hk
      obtain ⟨cl, e, h1, h2⟩ := closure_go hf hg names ((p.1, c) :: cl0) (λ p hp' => hp p (List.mem_cons_of_mem _ hp')) (λ x c' e => by
        rw [List.lookup_cons] at e
        split at e
        · rename_i hx; cases e; rw [eq_of_beq hx]; exact hc
        · exact h x c' e)
      refine ⟨cl, ?_, h1, λ x q => h2 x ?_⟩
      · rw [List.forIn_cons, hg p cl0 c hk hc]; exact e
      · rcases q with q | q
        · rcases List.mem_cons.mp q with rfl | q
          · right; simp [List.lookup_cons]
          · exact .inl q
        · right; rw [List.lookup_cons]; split
          · rfl
          · exact q
    · obtain ⟨cl, e, h1, h2⟩ := closure_go hf hg names cl0 (λ p hp' => hp p (List.mem_cons_of_mem _ hp')) h
      refine ⟨cl, ?_, h1, λ x q => h2 x ?_⟩
      · rw [List.forIn_cons, hf p cl0 hk]; exact e
      · rcases q with q | q
        · rcases List.mem_cons.mp q with rfl | q
          · exact absurd rfl hk
          · exact .inl q
        · exact .inr q
theorem closure_ok {env : Env} {cs : Scope} (hp : ∀ p ∈ cs.names, p.2 = .free → ∃ c, env.cells.lookup p.1 = some c) :
    ∃ cl, closureFor cs env = pure cl ∧ ∀ x c, (x, .free) ∈ cs.names → env.cells.lookup x = some c → cl.lookup x = some c := by
  simp only [closureFor]
  obtain ⟨cl, e, h1, h2⟩ := closure_go (env := env) (f := λ x cs => match x with
    | (name, kind) => if (kind == NameKind.free) = true then do
        let __do_lift ← cellOf env name
        pure (ForInStep.yield ((name, __do_lift) :: cs)) else pure (ForInStep.yield cs)) (λ p cs hk => by
      obtain ⟨n, k⟩ := p
      have : (k == NameKind.free) = false := by simpa using hk
      simp only [this, Bool.false_eq_true, if_false]) (λ p cs c hk hc => by
      obtain ⟨n, k⟩ := p
      dsimp only at hk hc
      subst hk
      simp only [beq_self_eq_true, if_true]
      show (cellOf env n >>= λ a => _) = _
      unfold cellOf
      rw [hc]
      rfl) cs.names [] hp (λ x c e => by cases e)
  refine ⟨cl, ?_, λ x c hm hc => ?_⟩
  · first
      | exact e
      | (rw [e]; rfl)
      | (rw [e])
  · obtain ⟨c', hc'⟩ := Option.isSome_iff_exists.mp (h2 x (.inl hm))
    rw [hc', ← h1 x c' hc', hc]
theorem scopeOk_cell {sc cs : Scope} (h : scopeOk sc cs = true) : cs.kind = .function ∧ (∀ y ∈ cs.names, y.2 ≠ .cell) ∧ (∀ y ∈ cs.names, y.2 = .local → cs.names.lookup y.1 = some .local) ∧
    (∀ y ∈ cs.names, y.2 = .free → sc.names.lookup y.1 = some .cell) := by
  unfold scopeOk at h
  simp only [Bool.and_eq_true, beq_iff_eq, List.all_eq_true] at h
  obtain ⟨h1, h2⟩ := h
  refine ⟨h1, λ y hy e => ?_, λ y hy e => ?_, λ y hy e => ?_⟩
  · have := h2 y hy; rw [e] at this; cases this
  · have := h2 y hy; rw [e] at this; exact eq_of_beq this
  · have := h2 y hy; rw [e] at this
    simp only [Bool.and_eq_true, beq_iff_eq] at this
    exact this.1
section
variable {C : Cx} {n : Nat} {A : Around}
theorem comp_core {F : Frame} {nm : List Str} {sc cs : Scope} {O₀ : Addr → Prop} {ow : Nat → Addr} {ρ : List Slot} {s s₂ : Shared} (FO : FrameOk C nm sc F) (S : St F O₀ ow ρ s) (X : Ext s s₂) (hsc : scopeOk sc cs = true) {caps : List Nat} (hcp : capsOk nm cs caps = true)
    {t : PySem.Expr} {nt : Bool} {I : Addr} {xs : List D} {wr ro : Addr → Prop} {wg : Nat → Prop} {P : Nat → Value → Shared → Prop} {Inv : (Addr → Prop) → Nat → Shared → Prop} {Mid : (Addr → Prop) → Nat → Value → Shared → Prop} {src : List D} {svs : List Value}
    (q : ItI C.h0 C.prog C.w A (Oof O₀ ow ρ) t nt s s₂ I xs wr ro wg P Inv Mid src svs)
    {elt' : PySem.Expr} {g : Comprehension} {gs : List Comprehension} {pos : Pos} (ha : g.is_async = 0) {cl : List (Str × Addr)} (hcl : ∀ x c, (x, .free) ∈ cs.names → F.env.cells.lookup x = some c → cl.lookup x = some c)
    {RR : Value → Addr → Result → Shared → Prop} {E : Value → Shared → Prop} {r : List D}
    (loop : ∀ (D Ca : Addr) (G : Frame) (s₄ : Shared), G.env = compEnvC cs cl Ca F.env → FrameOk C nm cs G → (∀ x, cs.names.lookup x = some .local → Writable G x) → Lp wr ro src svs s (λ _ => D) [] G (Oof O₀ ow ρ) (λ _ => D) ((mask caps ρ).set 0 (.own [])) s₄ → Inv wr 0 s₄ → 0 < ρ.length →
      ∀ R' : Result → Shared → Prop, (∀ s' ρ', St G (Oof O₀ ow ρ) (λ _ => D) ρ' s' → StepR G (Oof O₀ ow ρ) (λ _ => D) [] s (λ _ => D) ρ' s' → ρ'[0]? = some (.own r) → R' (.ok .next) s') →
        codeAny (model C.prog C.w) A (.compLoop (.ListComp elt' (g :: gs) cs pos) 0 (.ref I) (.ref D) G.env) R' s₄)
    (fin : ∀ (D Ca : Addr) m s' (vs : Array Value), s.heap.get? D = none → s.heap.get? Ca = none → D ≠ Ca → Ext s s' → s'.heap.Ns Ca m → s'.heap.PlainList D vs → HasL (λ b => Oof O₀ ow ρ b ∨ b = D) s'.heap r vs.toList → RR (.ref D) Ca (.ok .next) s') :
    wpAny (model C.prog C.w) A (newList []) (λ acc s₃ => wpAny (model C.prog C.w) A (newFunctionEnv cs F.env.globals cl [] F.env.qual none .none (some F.env)) (λ cenv s₄ =>
      codeAny (model C.prog C.w) A (.compStart (.ListComp elt' (g :: gs) cs pos) 0 (.ref I) acc { cenv with scope := relabel cs F.env }) (RR acc cenv.locals) s₄) E s₃) E s₂ := by
  obtain ⟨hkind, hcell, hnames, hfree⟩ := scopeOk_cell hsc
  refine wpAny_newObj_type (wpAny_newFunctionEnv hcell (by intro y hy; simp at hy) (λ h₁ hns₁ hsb₁ => ?_) hkind)
  dsimp only at hns₁ hsb₁ ⊢
  generalize hH2 : s₂.heap.push { cls := .type "list", dict := none, data := .seq ([] : List Value).toArray } = H2 at hns₁ hsb₁ ⊢
  have hC : H2.objs.size = s₂.heap.objs.size + 1 := by rw [← hH2, Heap.size_push]
  have hDC : s₂.heap.objs.size ≠ H2.objs.size := by rw [hC]; exact Nat.ne_of_lt (Nat.lt_succ_self _)
  have old : ∀ b o, s₂.heap.get? b = some o → h₁.get? b = some o := λ b o e => hsb₁.extBut b o (by rw [hC]; exact Nat.ne_of_lt (Nat.lt_succ_of_lt (Heap.lt_size e))) (Heap.get?_push_of_some _ (hH2 ▸ Heap.get?_push_of_some _ e))
  have hacc : h₁.PlainList s₂.heap.objs.size #[] := ⟨_, hsb₁.extBut _ _ hDC (Heap.get?_push_of_some _ (hH2 ▸ Heap.get?_push_size _ rfl))⟩
  have hD2 : s₂.heap.get? s₂.heap.objs.size = none := get_none_of_ge (Nat.le_refl _)
  have hC2 : s₂.heap.get? H2.objs.size = none := get_none_of_ge (by rw [hC]; exact Nat.le_succ _)
  have back : ∀ {a}, s₂.heap.get? a = none → s.heap.get? a = none := by
    intro a e
    cases q' : s.heap.get? a with
    | none => rfl
    | some o => rw [X.heap a o q'] at e; cases e
  have hD := back hD2
  have hCa := back hC2
  generalize hs4 : ({ s₂ with heap := h₁, toks := s₂.toks + ([] : List (Str × Value)).length } : Shared) = s₄
  have h4h : s₄.heap = h₁ := by rw [← hs4]
  have h4g : s₄.gens = s₂.gens := by rw [← hs4]
  have h4o : s₄.os = s₂.os := by rw [← hs4]
  have old4 : ∀ b o, s.heap.get? b = some o → s₄.heap.get? b = some o := λ b o e => by rw [h4h]; exact old b o (X.heap b o e)
  generalize hDd : s₂.heap.objs.size = Dd at *
  generalize hCc : H2.objs.size = Ca at *
  have hρ0 : ∀ {i : Nat} {ds : List D}, ((mask caps ρ).set 0 (.own []))[i]? = some (Slot.own ds) → i = 0 := by
    intro i ds e
    rcases getElem?_set_cases e with ⟨h, _⟩ | ⟨_, e⟩
    · exact h
    · rcases mask_get e with h | ⟨d, h, _⟩ <;> cases h
  have own0 : ∀ a, Oof (Oof O₀ ow ρ) (λ _ => Dd) ((mask caps ρ).set 0 (.own [])) a → Oof O₀ ow ρ a ∨ a = Dd := by
    rintro a (q' | ⟨i, ds, e, q'⟩)
    · exact .inl q'
    · exact .inr q'.symm
  let G : Frame := ⟨compEnvC cs cl Ca F.env, s.heap, F.names, false⟩
  have FOG : FrameOk C nm cs G := ⟨FO.zero, FO.names, λ x hx => lookup_relabel_glob hx, λ x hx => absurd rfl (hcell _ (mem_of_lookup hx)), FO.keepS S⟩
  have hwr : ∀ x, cs.names.lookup x = some .local → Writable G x := λ x hx => ⟨.inl (lookup_relabel_local hx)⟩
  have SG : St G (Oof O₀ ow ρ) (λ _ => Dd) ((mask caps ρ).set 0 (.own [])) s₄ := by
    refine ⟨⟨hkind, S.fr.globals, S.fr.builtins, ⟨_, by rw [h4h]; exact hns₁⟩, hCa, λ w => (by cases w), λ w => (by cases w), old4⟩, λ i sl x e nx => ?_, λ i j ds es e e' _ => (hρ0 e).trans (hρ0 e').symm, λ i ds e => ⟨λ o => ?_, hD⟩, by rw [List.length_set, mask_length]; exact S.len, S.nodup, ?_, S.oofL⟩
    · rcases getElem?_set_cases e with ⟨rfl, rfl⟩ | ⟨ne, e⟩
      · have nx' : F.names[0]? = some x := nx
        rw [FO.names, FO.zero] at nx'
        exact ⟨.inr (Option.some.inj nx').symm, #[], by rw [h4h]; exact hacc, hasL_nil⟩
      · rcases mask_get e with rfl | ⟨d, rfl, e1, hci⟩
        · trivial
        · obtain ⟨v, hv, hd⟩ := S.at_fro e1 nx
          unfold capsOk at hcp
          have h1 := List.all_eq_true.mp hcp i (List.contains_iff_mem.mp hci)
          have nx' : nm[i]? = some x := by rw [← FO.names]; exact nx
          rw [nx'] at h1
          simp only [Bool.and_eq_true, beq_iff_eq] at h1
          have hmem := mem_of_lookup h1.2
          obtain ⟨_, hkc⟩ := FO.cell x (hfree _ hmem rfl)
          refine ⟨v, ?_, has_keep (T := λ _ => False) (seqKeep_ext old4) (λ _ f => f.elim) d v (has_sub (λ a q' => (own0 a q').imp id λ e => by rw [e]; exact hD) d v hd)⟩
          rcases hv with ⟨k, _⟩ | ⟨_, c, hc, hcv⟩
          · rw [hkc] at k; cases k
          · exact .inr ⟨.inl (lookup_relabel_free S.fr.kind h1.2 hkc), c, hcl x c hmem hc, hcv.keeps old4⟩
    · obtain ⟨o', e'⟩ := S.oof _ o
      rw [hD] at e'; cases e'
    · rw [h4g]; exact X.bare S.bare
  have LS := Lp.start S X q
  have LG : Lp wr ro src svs s (λ _ => Dd) [] G (Oof O₀ ow ρ) (λ _ => Dd) ((mask caps ρ).set 0 (.own [])) s₄ := by
    refine ⟨SG, ⟨λ b o e _ _ _ => old4 b o e, λ a q' => (own0 a q').imp .inl λ e => by rw [e]; exact hD, λ b e => ?_, λ i g e => by rw [h4g]; exact X.gens i g e, h4o.trans X.os⟩, λ b hb => ⟨λ o => ?_, ?_, ?_⟩, λ b hb => (q.fresh b hb).1, λ b hb => (q.fresh b hb).1, λ _ _ e => e, ?_⟩
    · cases q' : s.heap.get? b with
      | none => rfl
      | some o => rw [old4 b o q'] at e; cases e
    · rcases own0 b o with o | rfl
      · exact (LS.away b hb).own o
      · obtain ⟨o', e', _⟩ := (LS.away b hb).here
        rw [hD2] at e'; cases e'
    · intro hbc
      have hbc' : b = Ca := hbc
      obtain ⟨o', e', _⟩ := (LS.away b hb).here
      rw [hbc', hC2] at e'; cases e'
    · obtain ⟨o', e', p⟩ := (LS.away b hb).here
      exact ⟨o', by rw [h4h]; exact old b o' e', p⟩
    · have := hasL_sub (O' := Oof (Oof O₀ ow ρ) (λ _ => Dd) ((mask caps ρ).set 0 (.own []))) (λ a q' => (own0 a q').imp id λ e => by rw [e]; exact hD2) src svs q.srcs
      rw [h4h]
      exact hasL_keep (T := λ _ => False) (seqKeep_ext old) (λ _ f => f.elim) src svs this
  have hi : Inv wr 0 s₄ := q.stable wr 0 s₂ s₄ q.init (λ b o _ e => by rw [h4h]; exact old b o e) (λ j g e => by rw [h4g]; exact e) (λ b o e => old4 b o (FO.keepS S b o e)) (λ b o _ e _ => by rw [h4h]; exact old b o e)
  have h0len : 0 < ρ.length := by rw [S.len, FO.names]; exact (List.getElem?_eq_some_iff.mp FO.zero).1
  have fin' : ∀ s' ρ', St G (Oof O₀ ow ρ) (λ _ => Dd) ρ' s' → StepR G (Oof O₀ ow ρ) (λ _ => Dd) [] s (λ _ => Dd) ρ' s' → ρ'[0]? = some (.own r) → RR (.ref Dd) Ca (.ok .next) s' := by
    intro s' ρ' S' R' a'
    obtain ⟨m, hm⟩ := S'.fr.ns
    obtain ⟨_, vs, hpl, hvs⟩ := S'.at_own a' (x := Str.empty) (by show F.names[0]? = _; rw [FO.names, FO.zero])
    refine fin Dd Ca m s' vs hD hCa hDC ⟨S'.fr.keep, R'.os, λ _ => S'.bare, R'.gens⟩ hm hpl (hasL_sub (λ a q' => .inl ?_) r _ hvs)
    rcases q' with q' | rfl
    · exact .inl q'
    · exact .inr ⟨0, r, a', rfl⟩
  have lp := loop Dd Ca G s₄ rfl FOG hwr LG hi h0len
  exact compStart_at (g := g) rfl ha (lp _ fin') (q.self _ 0 s₄ _ _ hi (lp _ fin'))
end
theorem okVar_iff {nm : List Str} {i : Nat} {x : Str} (h : okVar nm i x = true) : nm[i]? = some x ∧ x ≠ Str.empty :=
  ⟨eq_of_beq (band (band (band h).1).1).1, bne_iff_ne.mp (band h).2⟩
theorem tgGo_mem {f : Nat → Expr → Bool} {P : Nat → Prop} (hf : ∀ i e, f i e = true → P i) : ∀ (is : List Nat) (es : List Expr), tgGo f is es = true → ∀ i ∈ is, P i
  | [], _, _ => λ _ hi => nomatch hi
  | j :: is, _, h => onCons_ok (P := λ _ => ∀ i ∈ j :: is, P i) h λ e r h => List.forall_mem_cons.mpr ⟨hf j e (band h).1, tgGo_mem hf is r (band h).2⟩
theorem tgGo_ok {f : Nat → Expr → Bool} {G : Frame} (hf : ∀ i e is es, f i e = true → TgsOk G is es → TgsOk G (i :: is) (e :: es)) : ∀ (is : List Nat) (es : List Expr), tgGo f is es = true → TgsOk G is es
  | [], _, h => onNil_ok (P := λ es => TgsOk G [] es) h λ _ => .nil
  | i :: is, _, h => onCons_ok (P := λ es => TgsOk G (i :: is) es) h λ e r h => hf i e is r (band h).1 (tgGo_ok hf is r (band h).2)
theorem okTg_id {nm : List Str} {cs : Scope} (i : Nat) (e : Expr) (h : okTg nm cs i e = true) : ∃ x, nm[i]? = some x ∧ x ≠ Str.empty ∧ cs.names.lookup x = some .local :=
  onName_ok (P := λ _ => ∃ x, nm[i]? = some x ∧ x ≠ Str.empty ∧ cs.names.lookup x = some .local) h λ x _ h => ⟨x, (okVar_iff (band h).1).1, (okVar_iff (band h).1).2, eq_of_beq (band h).2⟩
theorem mTg_ids {nm : List Str} {cs : Scope} {tg : Tg} {t : PySem.Expr} (h : mTg nm cs tg t = true) : ∀ i ∈ tg.ids, ∃ x, nm[i]? = some x ∧ x ≠ Str.empty ∧ cs.names.lookup x = some .local := by
  cases tg with
  | one i => exact List.forall_mem_singleton.mpr (okTg_id i t h)
  | many is => exact onTup_ok (P := λ _ => ∀ i ∈ is, ∃ x, nm[i]? = some x ∧ x ≠ Str.empty ∧ cs.names.lookup x = some .local) h λ es _ _ h => tgGo_mem okTg_id is es h
theorem mTg_ok {nm : List Str} {cs : Scope} {tg : Tg} {t : PySem.Expr} {G : Frame} (h : mTg nm cs tg t = true) (hn : G.names = nm) (hw : ∀ x, cs.names.lookup x = some .local → Writable G x) : TgOk G tg t := by
  subst hn
  cases tg with
  | one i => exact onName_ok (P := λ t => TgOk G (.one i) t) h λ x _ h => .one (okVar_iff (band h).1).1 (hw _ (eq_of_beq (band h).2))
  | many is => exact onTup_ok (P := λ t => TgOk G (.many is) t) h λ es _ _ h => .many (tgGo_ok (λ i e is es h T => onName_ok (P := λ e => TgsOk G (i :: is) (e :: es)) h λ x _ h => .cons (okVar_iff (band h).1).1 (hw _ (eq_of_beq (band h).2)) T) is es h)
section
variable {C : Cx} {n : Nat}
theorem mask_undef {nm : List Str} {cs : Scope} {caps : List Nat} {ρ : List Slot} {is : List Nat} (hcp : capsOk nm cs caps = true) (h : ∀ i ∈ is, ∃ x, nm[i]? = some x ∧ x ≠ Str.empty ∧ cs.names.lookup x = some .local) : ∀ i ∈ is, ∀ s, (mask caps ρ)[i]? = some s → s = .undef := by
  intro i hi s e
  rcases mask_get e with h' | ⟨d, rfl, _, hc⟩
  · exact h'
  · obtain ⟨x, e1, _, e2⟩ := h i hi
    unfold capsOk at hcp
    have h1 := List.all_eq_true.mp hcp i (List.contains_iff_mem.mp hc)
    rw [e1] at h1
    simp only [Bool.and_eq_true, beq_iff_eq] at h1
    rw [e2] at h1; cases h1.2
theorem mask_undef0 {nm : List Str} {cs : Scope} {caps : List Nat} {ρ : List Slot} (hcp : capsOk nm cs caps = true) : ∀ s, (mask caps ρ)[0]? = some s → s = .undef := by
  intro s e
  rcases mask_get e with h' | ⟨d, rfl, _, hc⟩
  · exact h'
  · unfold capsOk at hcp
    have h1 := List.all_eq_true.mp hcp 0 (List.contains_iff_mem.mp hc)
    simp at h1
theorem ids_no0 {nm : List Str} {cs : Scope} {is : List Nat} (z : nm[0]? = some Str.empty) (h : ∀ i ∈ is, ∃ x, nm[i]? = some x ∧ x ≠ Str.empty ∧ cs.names.lookup x = some .local) : 0 ∉ is := by
  intro hi
  obtain ⟨x, e1, ne, _⟩ := h 0 hi
  rw [z] at e1; exact ne (Option.some.inj e1).symm
theorem comp_run {A : Around} {F : Frame} {nm : List Str} {sc cs : Scope} (FO : FrameOk C nm sc F) {elt' : PySem.Expr} {g : Comprehension} {gs : List Comprehension} {pos : Pos} {it : PE} {caps : List Nat}
    (ha : g.is_async = 0) (hit : PiOk C n F it g.iter) (hset : ∀ env x, foldedSetIterable g.iter env x = pure x) (hsc : scopeOk sc cs = true) (hcp : capsOk nm cs caps = true) (hnt : needsTup it = true → ∃ es k q, g.target = .Tuple es k q)
    (hA : AOk n A) {O₀ : Addr → Prop} {ow : Nat → Addr} {ρ : List Slot} {s : Shared} (S : St F O₀ ow ρ s) {xs r : List D} (hxs : (ev C it ρ).it = some xs) {use : Option (Value → Sem Unit)} {Q : Value → Shared → Prop} {E : Value → Shared → Prop}
    (loop : ∀ {I : Addr} {wr ro : Addr → Prop} {wg : Nat → Prop} {P : Nat → Value → Shared → Prop} {Inv : (Addr → Prop) → Nat → Shared → Prop} {Mid : (Addr → Prop) → Nat → Value → Shared → Prop} {src : List D} {svs : List Value} {s₂ : Shared},
      ItI C.h0 C.prog C.w A (Oof O₀ ow ρ) g.target (needsTup it) s s₂ I xs wr ro wg P Inv Mid src svs → ∀ (D Ca : Addr) (G : Frame) (s₄ : Shared) (cl : List (Str × Addr)), G.env = compEnvC cs cl Ca F.env → FrameOk C nm cs G → (∀ x, cs.names.lookup x = some .local → Writable G x) → Lp wr ro src svs s (λ _ => D) [] G (Oof O₀ ow ρ) (λ _ => D) ((mask caps ρ).set 0 (.own [])) s₄ → Inv wr 0 s₄ → 0 < ρ.length →
      ∀ R' : Result → Shared → Prop, (∀ s' ρ', St G (Oof O₀ ow ρ) (λ _ => D) ρ' s' → StepR G (Oof O₀ ow ρ) (λ _ => D) [] s (λ _ => D) ρ' s' → ρ'[0]? = some (.own r) → R' (.ok .next) s') →
        codeAny (model C.prog C.w) A (.compLoop (.ListComp elt' (g :: gs) cs pos) 0 (.ref I) (.ref D) G.env) R' s₄)
    (fin : ∀ (D Ca : Addr) m s' (vs : Array Value), s.heap.get? D = none → s.heap.get? Ca = none → D ≠ Ca → Ext s s' → s'.heap.Ns Ca m → s'.heap.PlainList D vs → HasL (λ b => Oof O₀ ow ρ b ∨ b = D) s'.heap r vs.toList → compPost (model C.prog C.w) A E use Q (.ref D) Ca (.ok .next) s') :
    wpAny (model C.prog C.w) A (comprehension (.ListComp elt' (g :: gs) cs pos) cs F.env (firstIterPos (g :: gs) pos) (newList []) false (eval g.iter F.env) use) Q E s := by
  obtain ⟨hkind, hcell, hnames, hfree⟩ := scopeOk_cell hsc
  obtain ⟨cl, hclos, hcl⟩ := closure_ok (env := F.env) (cs := cs) λ p hp hk => by
    obtain ⟨hw, hkc⟩ := FO.cell _ (hfree p hp hk)
    obtain ⟨c, v, hc, _⟩ := S.fr.cell hw _ hkc
    exact ⟨c, hc⟩
  refine wpAny_comprehension_free (g := g) (gs := gs) rfl (hset _) hclos hkind hnames ?_
  refine hit A s O₀ ow ρ xs g.target _ E hA S hxs hnt λ itv s₂ X I2 => ?_
  obtain ⟨I, wr, ro, wg, P, Inv, Mid, src, svs, rfl, q⟩ := I2
  exact comp_core FO S X hsc hcp q ha hcl (RR := λ acc C' => compPost (model C.prog C.w) A E use Q acc C') (λ D Ca G s₄ hG => loop q D Ca G s₄ cl hG) fin
theorem ifs_ok {G : Frame} {nm : List Str} {cs : Scope} {cond : PE} {ifs : List PySem.Expr} (h : ifsB (λ c' => mt nm cond cs c') cond ifs = true)
    (hc : ∀ c', mt nm cond cs c' = true → EvOk C n G cond c') : TestOk C n G cond ifs := by
  cases ifs with
  | nil =>
    cases cond <;> first | exact no_eq h | skip
    rename_i b
    cases b with
    | true => exact test_nil
    | false => exact no_eq h
  | cons c r =>
    obtain ⟨h1, h2⟩ := band h
    cases r with
    | nil => exact test_one (hc _ h2).pb
    | cons => exact no_eq h1
theorem comp_loop1 {A : Around} {F : Frame} {nm : List Str} {cs : Scope} {elt it cond : PE} {tg : Tg} {caps : List Nat} {elt' it' tg' : PySem.Expr} {ifs : List PySem.Expr} {pos : Pos} (hA : AOk n A)
    (z : nm[0]? = some Str.empty) (hcp : capsOk nm cs caps = true) (htg : mTg nm cs tg tg' = true) (he : ∀ G, FrameOk C nm cs G → PeOk C n G elt elt') (hc : ∀ G, FrameOk C nm cs G → TestOk C n G cond ifs)
    {O₀ : Addr → Prop} {ow : Nat → Addr} {ρ : List Slot} {s : Shared} {xs r : List D} (hgo : compGo (eltF C tg elt cond (mask caps ρ)) xs = some r) (hsz : r.length ≤ 16777216) (hfl : needsTup it = true → caps = [] ∧ flatL r = true) :
    ∀ {I : Addr} {wr ro : Addr → Prop} {wg : Nat → Prop} {P : Nat → Value → Shared → Prop} {Inv : (Addr → Prop) → Nat → Shared → Prop} {Mid : (Addr → Prop) → Nat → Value → Shared → Prop} {src : List D} {svs : List Value} {s₂ : Shared},
      ItI C.h0 C.prog C.w A (Oof O₀ ow ρ) tg' (needsTup it) s s₂ I xs wr ro wg P Inv Mid src svs → ∀ (D Ca : Addr) (G : Frame) (s₄ : Shared) (cl : List (Str × Addr)), G.env = compEnvC cs cl Ca F.env → FrameOk C nm cs G → (∀ x, cs.names.lookup x = some .local → Writable G x) → Lp wr ro src svs s (λ _ => D) [] G (Oof O₀ ow ρ) (λ _ => D) ((mask caps ρ).set 0 (.own [])) s₄ → Inv wr 0 s₄ → 0 < ρ.length →
      ∀ R' : Result → Shared → Prop, (∀ s' ρ', St G (Oof O₀ ow ρ) (λ _ => D) ρ' s' → StepR G (Oof O₀ ow ρ) (λ _ => D) [] s (λ _ => D) ρ' s' → ρ'[0]? = some (.own r) → R' (.ok .next) s') →
        codeAny (model C.prog C.w) A (.compLoop (.ListComp elt' [⟨tg', it', ifs, 0⟩] cs pos) 0 (.ref I) (.ref D) G.env) R' s₄ := by
  intro I wr ro wg P Inv Mid src svs s₂ q D Ca G s₄ cl hG FOG hw L hi hlen R' fin
  have hids := mTg_ids htg
  have hun := mask_undef (ρ := ρ) hcp hids
  have hz := ids_no0 z hids
  have h0 := mask_undef0 (ρ := ρ) hcp
  have hfr : ((∀ W i s₁ b, Inv W i s₁ → W b → NoSeq s₁.heap b) ∧ (∀ W i v s₁ b, Mid W i v s₁ → W b → NoSeq s₁.heap b)) ∨ flatL ([] ++ r) = true := by
    rcases q.kind with y | y
    · exact .inl y
    · exact .inr (by simpa using (hfl y.1).2)
  have kd : KindOk Inv Mid src tg' xs ((mask caps ρ).set 0 (.own [])) := by
    rcases q.kind with y | ⟨y1, y2, y3, y4⟩
    · exact .inl y
    · refine .inr ⟨y2, y3, y4, flat_set (λ i sl e => ?_) rfl⟩
      rcases mask_get e with rfl | ⟨d, rfl, _, hc⟩
      · rfl
      · rw [(hfl y1).1] at hc; cases hc
  exact comp_last (ow := λ _ => D) (turn_last1 _ _ _ _ _ _) (he G FOG) (hc G FOG) (mTg_ok htg FOG.names hw) hA q FOG.keep0 hun h0 hz hgo (ds := []) (by simpa using hsz) hfr L hi kd ((Le.refl _).up _ h0)
    (by have : 0 < (mask caps ρ).length := by rw [mask_length]; exact hlen
        simp [this]) λ s' ρ' S' R _ a => fin s' ρ' S' R (by simpa using a)
theorem comp_loop2 {A : Around} {F : Frame} {nm : List Str} {cs : Scope} {elt it1 it2 cond : PE} {tg1 tg : Tg} {caps : List Nat} {elt' it1' it' tg1' tg' : PySem.Expr} {ifs : List PySem.Expr} {pos : Pos} (hA : AOk n A)
    (z : nm[0]? = some Str.empty) (hcp : capsOk nm cs caps = true) (htg1 : mTg nm cs tg1 tg1' = true) (htg : mTg nm cs tg tg' = true) (hdj : tgDisj tg1 tg = true) (nz1 : needsTup it1 = false) (nz2 : needsTup it2 = false)
    (he : ∀ G, FrameOk C nm cs G → PeOk C n G elt elt') (hc : ∀ G, FrameOk C nm cs G → TestOk C n G cond ifs) (hi2 : ∀ G, FrameOk C nm cs G → PiOk C n G it2 it') (hset : ∀ env x, foldedSetIterable it' env x = pure x)
    {O₀ : Addr → Prop} {ow : Nat → Addr} {ρ : List Slot} {s : Shared} {xs r : List D}
    (hgo : compGo (λ x => (bindT tg1 x (mask caps ρ)).bind λ ρ1 => (ev C it2 ρ1).it.bind λ ys => compGo (eltF C tg elt cond ρ1) ys) xs = some r) (hsz : r.length ≤ 16777216) :
    ∀ {I : Addr} {wr ro : Addr → Prop} {wg : Nat → Prop} {P : Nat → Value → Shared → Prop} {Inv : (Addr → Prop) → Nat → Shared → Prop} {Mid : (Addr → Prop) → Nat → Value → Shared → Prop} {src : List D} {svs : List Value} {s₂ : Shared},
      ItI C.h0 C.prog C.w A (Oof O₀ ow ρ) tg1' (needsTup it1) s s₂ I xs wr ro wg P Inv Mid src svs → ∀ (D Ca : Addr) (G : Frame) (s₄ : Shared) (cl : List (Str × Addr)), G.env = compEnvC cs cl Ca F.env → FrameOk C nm cs G → (∀ x, cs.names.lookup x = some .local → Writable G x) → Lp wr ro src svs s (λ _ => D) [] G (Oof O₀ ow ρ) (λ _ => D) ((mask caps ρ).set 0 (.own [])) s₄ → Inv wr 0 s₄ → 0 < ρ.length →
      ∀ R' : Result → Shared → Prop, (∀ s' ρ', St G (Oof O₀ ow ρ) (λ _ => D) ρ' s' → StepR G (Oof O₀ ow ρ) (λ _ => D) [] s (λ _ => D) ρ' s' → ρ'[0]? = some (.own r) → R' (.ok .next) s') →
        codeAny (model C.prog C.w) A (.compLoop (.ListComp elt' [⟨tg1', it1', [], 0⟩, ⟨tg', it', ifs, 0⟩] cs pos) 0 (.ref I) (.ref D) G.env) R' s₄ := by
  intro I wr ro wg P Inv Mid src svs s₂ q D Ca G s₄ cl hG FOG hw L hi hlen R' fin
  have hids1 := mTg_ids htg1
  have hids := mTg_ids htg
  have h0 := mask_undef0 (ρ := ρ) hcp
  have qk : ((∀ W i s₁ b, Inv W i s₁ → W b → NoSeq s₁.heap b) ∧ (∀ W i v s₁ b, Mid W i v s₁ → W b → NoSeq s₁.heap b)) := by
    rcases q.kind with y | y
    · exact y
    · rw [nz1] at y; cases y.1
  exact comp_first (ow := λ _ => D) (he G FOG) (hc G FOG) (hi2 G FOG) nz2 hset (mTg_ok htg1 FOG.names hw) (mTg_ok htg FOG.names hw) hA q FOG.keep0 (mask_undef hcp hids1) (mask_undef hcp hids) hdj h0 (ids_no0 z hids1) (ids_no0 z hids) hgo (ds := []) (by simpa using hsz) qk L hi ((Le.refl _).up _ h0)
    (by have : 0 < (mask caps ρ).length := by rw [mask_length]; exact hlen
        simp [this]) λ s' ρ' S' R _ a => fin s' ρ' S' R (by simpa using a)
theorem mkComp_some {z c : Bool} {o : Option (List D)} {d : D} (h : mkComp z c o = some d) : ∃ r, o = some r ∧ d = .lst r ∧ r.length ≤ 16777216 ∧ (z = true → c = true ∧ flatL r = true) := by
  unfold mkComp at h
  obtain ⟨r, e1, e2⟩ := Option.bind_eq_some_iff.mp h
  split at e2
  · rename_i hc
    cases e2
    simp only [Bool.and_eq_true, decide_eq_true_eq, Bool.or_eq_true, Bool.not_eq_true'] at hc
    exact ⟨r, e1, rfl, hc.1, λ hz => hc.2.elim (λ q => by rw [hz] at q; cases q) id⟩
  · cases e2
theorem comp_fin {A : Around} {F : Frame} {O₀ : Addr → Prop} {ow : Nat → Addr} {ρ : List Slot} {s : Shared} (S : St F O₀ ow ρ s) {r : List D} {Q : Value → Shared → Prop} {E : Value → Shared → Prop}
    (h : ∀ v s', Ext s s' → Has (Oof O₀ ow ρ) s'.heap (.lst r) v → FreshL (Oof O₀ ow ρ) s s' v r → Q v s') :
    ∀ (D Ca : Addr) m s' (vs : Array Value), s.heap.get? D = none → s.heap.get? Ca = none → D ≠ Ca → Ext s s' → s'.heap.Ns Ca m → s'.heap.PlainList D vs → HasL (λ b => Oof O₀ ow ρ b ∨ b = D) s'.heap r vs.toList → compPost (model C.prog C.w) A E none Q (.ref D) Ca (.ok .next) s' := by
  intro D Ca m s' vs hD hCa hDC X hns hpl hvs
  refine ⟨m, hns, λ h' hs => ?_⟩
  have Y : Ext s { s' with heap := h' } := ⟨λ b o e => (hs.2 b (by rintro rfl; rw [hCa] at e; cases e)).trans (X.heap b o e), X.os, X.bare, X.gens⟩
  have Fr : FreshL (Oof O₀ ow ρ) s { s' with heap := h' } (.ref D) r := by
    refine ⟨D, vs, rfl, hD, ?_, hasL_keep (T := λ _ => False) (seqKeep_sameBut hs (Ns.noSeq hns)) (λ _ f => f.elim) r _ hvs⟩
    obtain ⟨k, e⟩ := hpl
    exact ⟨k, (hs.2 D hDC).trans e⟩
  exact h _ _ Y (Fr.has S.oof) Fr
theorem part_ok {F : Frame} {f : PySem.Expr → Bool} {p : PE} {o : Option PySem.Expr} (h : partB f p o = true) (hp : ∀ x, f x = true → PeOk C n F p x) : PartOk C n F p o := by
  cases o with
  | none => exact part_none h
  | some x => exact part_some (bnot (band h).1) (hp x (band h).2)
abbrev MainP (C : Cx) (n : Nat) (nm : List Str) (p : PE) : Prop := (∀ {sc : Scope} {F : Frame} {e : PySem.Expr}, FrameOk C nm sc F → mt nm p sc e = true → EvOk C n F p e) ∧ (∀ {sc : Scope} {F : Frame} {es : List PySem.Expr}, FrameOk C nm sc F → ml nm p sc es = true → ArgOk C n F p es)
section
variable {nm : List Str}
theorem m_cons {p ps : PE} (i1 : MainP C n nm p) (i2 : MainP C n nm ps) : MainP C n nm (.cons p ps) :=
  ⟨λ _ h => no_eq h, λ FO h => onCons_ok (P := λ es => ArgOk C n _ (.cons p ps) es) h λ x r h => arg_cons (i1.1 FO (band h).1) (i2.2 FO (band h).2) (noStar (band h).1 r)⟩
theorem m_nil : MainP C n nm .nil := ⟨λ _ h => no_eq h, λ _ h => onNil_ok (P := λ es => ArgOk C n _ .nil es) h λ _ => arg_nil⟩
theorem m_var {i : Nat} : MainP C n nm (.var i) :=
  ⟨λ FO h => onName_ok (P := λ e => EvOk C n _ (.var i) e) h λ x p h => ok_var FO.names h, λ _ h => no_eq h⟩
theorem m_const {p : PE} {c : Const} (hm : ∀ sc e, mt nm p sc e = onConst e λ c' => decide (c' = c)) (hl : ∀ sc es, ml nm p sc es = false) (hk : ∀ {F : Frame} k pos, EvOk C n F p (.Constant c k pos)) : MainP C n nm p :=
  ⟨λ _ h => onConst_ok (P := λ e => EvOk C n _ p e) ((hm _ _).symm.trans h) λ c' k pos h => deq (P := λ c => EvOk C n _ p (.Constant c k pos)) h (hk k pos), λ _ h => no_eq ((hl _ _).symm.trans h)⟩
theorem m_glob (K : CxOk C n) {x : Str} : MainP C n nm (.glob x) :=
  ⟨λ FO h => onName_ok (P := λ e => EvOk C n _ (.glob x) e) h λ y p h => beqS (P := λ y => EvOk C n _ (.glob x) (.Name y p)) (band h).1 (ok_glob K FO (band h).2), λ _ h => no_eq h⟩
theorem m_bin {op : Operator} {l r : PE} (i1 : MainP C n nm l) (i2 : MainP C n nm r) : MainP C n nm (.bin op l r) :=
  ⟨λ FO h => onBin_ok (P := λ e => EvOk C n _ (.bin op l r) e) h λ a o b p h => deq (P := λ o => EvOk C n _ (.bin op l r) (.BinOp a o b p)) (band h).1 (ok_bin (i1.1 FO (band (band h).2).1).pt (i2.1 FO (band (band h).2).2).pt), λ _ h => no_eq h⟩
theorem m_neg {a : PE} (i1 : MainP C n nm a) : MainP C n nm (.neg a) :=
  ⟨λ FO h => onUn_ok (P := λ e => EvOk C n _ (.neg a) e) h λ o x p h => deq (P := λ o => EvOk C n _ (.neg a) (.UnaryOp o x p)) (band h).1 (ok_neg (i1.1 FO (band h).2).pt), λ _ h => no_eq h⟩
theorem m_not {a : PE} (i1 : MainP C n nm a) : MainP C n nm (.not_ a) :=
  ⟨λ FO h => onUn_ok (P := λ e => EvOk C n _ (.not_ a) e) h λ o x p h => deq (P := λ o => EvOk C n _ (.not_ a) (.UnaryOp o x p)) (band h).1 (ok_not (i1.1 FO (band h).2).pb), λ _ h => no_eq h⟩
theorem noSlice {i : PySem.Expr} : (!isSlice i) = true → (match i with | .Slice .. => false | _ => true) = true := by
  cases i <;> first | exact λ _ => rfl | exact no_eq
theorem m_sub {a i : PE} (i1 : MainP C n nm a) (i2 : MainP C n nm i) : MainP C n nm (.sub a i) :=
  ⟨λ FO h => onSub_ok (P := λ e => EvOk C n _ (.sub a i) e) h λ x y p h => ok_sub (noSlice (band h).1) (i1.1 FO (band (band h).2).1).pt (i2.1 FO (band (band h).2).2).pt, λ _ h => no_eq h⟩
theorem m_slc {a lo hi : PE} (i1 : MainP C n nm a) (i2 : MainP C n nm lo) (i3 : MainP C n nm hi) : MainP C n nm (.slc a lo hi) :=
  ⟨λ FO h => onSub_ok (P := λ e => EvOk C n _ (.slc a lo hi) e) h λ x y p h => onSlice_ok (P := λ y => EvOk C n _ (.slc a lo hi) (.Subscript x y p)) h λ _ _ _ h =>
    ok_slc (i1.1 FO (band h).1).pt (part_ok (band (band h).2).1 λ x hx => (i2.1 FO hx).pe) (part_ok (band (band h).2).2 λ x hx => (i3.1 FO hx).pe), λ _ h => no_eq h⟩
theorem m_tup {a : PE} (i1 : MainP C n nm a) : MainP C n nm (.tup a) :=
  ⟨λ FO h => onTup_ok (P := λ e => EvOk C n _ (.tup a) e) h λ xs k p h => ok_tup (i1.2 FO h), λ _ h => no_eq h⟩
theorem m_lst {a : PE} (i1 : MainP C n nm a) : MainP C n nm (.lst a) :=
  ⟨λ FO h => onLst_ok (P := λ e => EvOk C n _ (.lst a) e) h λ xs p h => ok_lst (i1.2 FO h), λ _ h => no_eq h⟩
theorem m_ite {c a b : PE} (i1 : MainP C n nm c) (i2 : MainP C n nm a) (i3 : MainP C n nm b) : MainP C n nm (.ite c a b) :=
  ⟨λ FO h => onIte_ok (P := λ e => EvOk C n _ (.ite c a b) e) h λ x y z p h => ok_ite (i1.1 FO (band h).1).pb (i2.1 FO (band (band h).2).1).pe (i3.1 FO (band (band h).2).2).pe, λ _ h => no_eq h⟩
theorem m_cmp {op : CmpOp} {l r : PE} (i1 : MainP C n nm l) (i2 : MainP C n nm r) : MainP C n nm (.cmp op l r) :=
  ⟨λ FO h => onCmp_ok (P := λ e => EvOk C n _ (.cmp op l r) e) h λ x os rs p h => onOne_ok (P := λ os => EvOk C n _ (.cmp op l r) (.Compare x os rs p)) h λ o h => onOne_ok (P := λ rs => EvOk C n _ (.cmp op l r) (.Compare x [o] rs p)) h λ y h =>
    deq (P := λ o => EvOk C n _ (.cmp op l r) (.Compare x [o] [y] p)) (band h).1 (ok_cmp (bnot (band (band h).2).1) (i1.1 FO (band (band (band h).2).2).1).pt (i2.1 FO (band (band (band h).2).2).2).pt), λ _ h => no_eq h⟩
theorem m_chain {o1 o2 : CmpOp} {a b c : PE} (i1 : MainP C n nm a) (i2 : MainP C n nm b) (i3 : MainP C n nm c) : MainP C n nm (.chain o1 o2 a b c) :=
  ⟨λ FO h => onCmp_ok (P := λ e => EvOk C n _ (.chain o1 o2 a b c) e) h λ x os rs p h => onTwo_ok (P := λ os => EvOk C n _ (.chain o1 o2 a b c) (.Compare x os rs p)) h λ q r h => onTwo_ok (P := λ rs => EvOk C n _ (.chain o1 o2 a b c) (.Compare x [q, r] rs p)) h λ y z h =>
    deq (P := λ q => EvOk C n _ (.chain o1 o2 a b c) (.Compare x [q, r] [y, z] p)) (band h).1 (deq (P := λ r => EvOk C n _ (.chain o1 o2 a b c) (.Compare x [o1, r] [y, z] p)) (band (band h).2).1
      (ok_chain (bnot (band (band (band h).2).2).1) (i1.1 FO (band (band (band (band h).2).2).2).1).pt (i2.1 FO (band (band (band (band (band h).2).2).2).2).1).pt (i3.1 FO (band (band (band (band (band h).2).2).2).2).2).pt)), λ _ h => no_eq h⟩
theorem m_and {a b : PE} (i1 : MainP C n nm a) (i2 : MainP C n nm b) : MainP C n nm (.and_ a b) :=
  ⟨λ FO h => onBool_ok (P := λ e => EvOk C n _ (.and_ a b) e) h λ o xs p h => onTwo_ok (P := λ xs => EvOk C n _ (.and_ a b) (.BoolOp o xs p)) h λ x y h => deq (P := λ o => EvOk C n _ (.and_ a b) (.BoolOp o [x, y] p)) (band h).1 (ok_and (i1.1 FO (band (band h).2).1).pb (i2.1 FO (band (band h).2).2).pb), λ _ h => no_eq h⟩
theorem m_or {a b : PE} (i1 : MainP C n nm a) (i2 : MainP C n nm b) : MainP C n nm (.or_ a b) :=
  ⟨λ FO h => onBool_ok (P := λ e => EvOk C n _ (.or_ a b) e) h λ o xs p h => onTwo_ok (P := λ xs => EvOk C n _ (.or_ a b) (.BoolOp o xs p)) h λ x y h => deq (P := λ o => EvOk C n _ (.or_ a b) (.BoolOp o [x, y] p)) (band h).1 (ok_or (i1.1 FO (band (band h).2).1).pb (i2.1 FO (band (band h).2).2).pb), λ _ h => no_eq h⟩
theorem some_args {xs : List PySem.Expr} (h : (!xs.isEmpty) = true) : xs ≠ [] := by rintro rfl; exact no_eq h
theorem onFn_ok {P : PySem.Expr → Prop} {e : PySem.Expr} {f : Str} {k : List PySem.Expr → Bool} (h : (onCall e λ h xs _ => onName h λ g => g == f && k xs) = true) (H : ∀ xs p pos, k xs = true → P (.Call (.Name f p) xs [] pos)) : P e :=
  onCall_ok h λ h xs pos hk => onName_ok (P := λ h => P (.Call h xs [] pos)) hk λ g p hk => beqS (P := λ g => P (.Call (.Name g p) xs [] pos)) (band hk).1 (H xs p pos (band hk).2)
theorem m_call (K : CxOk C n) {f : Str} {a : PE} (i1 : MainP C n nm a) : MainP C n nm (.call f a) :=
  ⟨λ FO h => onFn_ok (P := λ e => EvOk C n _ (.call f a) e) h λ xs p pos h => ok_call K FO (band h).1 (i1.2 FO (band (band h).2).1) (some_args (band (band h).2).2), λ _ h => no_eq h⟩
theorem m_gen (K : CxOk C n) {f : Str} {a : PE} (i1 : MainP C n nm a) : MainP C n nm (.gen f a) :=
  ⟨λ FO h => onFn_ok (P := λ e => EvOk C n _ (.gen f a) e) h λ xs p pos h => ok_gen K FO (band h).1 (i1.2 FO (band (band h).2).1) (some_args (band (band h).2).2), λ _ h => no_eq h⟩
theorem m_bi (K : CxOk C n) {f : Bi} {a : PE} (i1 : MainP C n nm a) : MainP C n nm (.bi f a) :=
  ⟨λ FO h => onFn_ok (P := λ e => EvOk C n _ (.bi f a) e) h λ xs p pos h => ok_bi K FO (band h).1 (i1.2 FO (band (band h).2).1) (some_args (band (band h).2).2), λ _ h => no_eq h⟩
theorem m_rng (K : CxOk C n) {a : PE} (i1 : MainP C n nm a) : MainP C n nm (.rng a) :=
  ⟨λ FO h => onFn_ok (P := λ e => EvOk C n _ (.rng a) e) h λ xs p pos h => ok_rng K FO (band h).1 (i1.2 FO (band (band h).2).1) (some_args (band (band h).2).2), λ _ h => no_eq h⟩
theorem m_zip (K : CxOk C n) {a b : PE} (i1 : MainP C n nm a) (i2 : MainP C n nm b) : MainP C n nm (.zip a b) :=
  ⟨λ FO h => onCall_ok (P := λ e => EvOk C n _ (.zip a b) e) h λ f xs pos h => onName_ok (P := λ f => EvOk C n _ (.zip a b) (.Call f xs [] pos)) h λ g p h => onTwo_ok (P := λ xs => EvOk C n _ (.zip a b) (.Call (.Name g p) xs [] pos)) h λ x y h =>
    beqS (P := λ g => EvOk C n _ (.zip a b) (.Call (.Name g p) [x, y] [] pos)) (band h).1 (ok_zip K FO (band (band h).2).1 (i1.1 FO (band (band (band h).2).2).1).pe (i2.1 FO (band (band (band h).2).2).2).pe (noStar (band (band (band h).2).2).1) (noStar (band (band (band h).2).2).2)), λ _ h => no_eq h⟩
theorem onMeth_ok {P : PySem.Expr → Prop} {e : PySem.Expr} {k : PySem.Expr → Str → Pos → List PySem.Expr → Pos → Bool} (h : (onCall e λ h xs pos => onAttr h λ o x apos => k o x apos xs pos) = true) (H : ∀ o x apos xs pos, k o x apos xs pos = true → P (.Call (.Attribute o x apos) xs [] pos)) : P e :=
  onCall_ok h λ h xs pos hk => onAttr_ok (P := λ h => P (.Call h xs [] pos)) hk λ o x apos hk => H o x apos xs pos hk
theorem m_join {sep : Str} {a : PE} (i1 : MainP C n nm a) : MainP C n nm (.join sep a) :=
  ⟨λ FO h => onMeth_ok (P := λ e => EvOk C n _ (.join sep a) e) h λ o x apos xs pos h => onConst_ok (P := λ o => EvOk C n _ (.join sep a) (.Call (.Attribute o x apos) xs [] pos)) h λ c k p h => onOne_ok (P := λ xs => EvOk C n _ (.join sep a) (.Call (.Attribute (.Constant c k p) x apos) xs [] pos)) h λ y h =>
    deq (P := λ c => EvOk C n _ (.join sep a) (.Call (.Attribute (.Constant c k p) x apos) [y] [] pos)) (band h).1 (beqS (P := λ x => EvOk C n _ (.join sep a) (.Call (.Attribute (.Constant (.str sep) k p) x apos) [y] [] pos)) (band (band h).2).1
      (ok_join (band (band (band h).2).2).1 (i1.1 FO (band (band (band h).2).2).2).pt (noStar (band (band (band h).2).2).2))), λ _ h => no_eq h⟩
theorem m_splt {s : Str} : MainP C n nm (.splt s) :=
  ⟨λ FO h => onMeth_ok (P := λ e => EvOk C n _ (.splt s) e) h λ o x apos xs pos h => onConst_ok (P := λ o => EvOk C n _ (.splt s) (.Call (.Attribute o x apos) xs [] pos)) h λ c k p h => onNil_ok (P := λ xs => EvOk C n _ (.splt s) (.Call (.Attribute (.Constant c k p) x apos) xs [] pos)) h λ h =>
    deq (P := λ c => EvOk C n _ (.splt s) (.Call (.Attribute (.Constant c k p) x apos) [] [] pos)) (band h).1 (beqS (P := λ x => EvOk C n _ (.splt s) (.Call (.Attribute (.Constant (.str s) k p) x apos) [] [] pos)) (band (band h).2).1 (ok_splt (band (band h).2).2)), λ _ h => no_eq h⟩
theorem m_getD (K : CxOk C n) {a b : PE} (i1 : MainP C n nm a) (i2 : MainP C n nm b) : MainP C n nm (.getD a b) :=
  ⟨λ FO h => onMeth_ok (P := λ e => EvOk C n _ (.getD a b) e) h λ o x apos xs pos h => onName_ok (P := λ o => EvOk C n _ (.getD a b) (.Call (.Attribute o x apos) xs [] pos)) h λ g p h => onTwo_ok (P := λ xs => EvOk C n _ (.getD a b) (.Call (.Attribute (.Name g p) x apos) xs [] pos)) h λ y z h =>
    beqS (P := λ g => EvOk C n _ (.getD a b) (.Call (.Attribute (.Name g p) x apos) [y, z] [] pos)) (band h).1 (beqS (P := λ x => EvOk C n _ (.getD a b) (.Call (.Attribute (.Name "EXACT_TOKEN_TYPES" p) x apos) [y, z] [] pos)) (band (band h).2).1
      (ok_getD K FO (band (band (band (band h).2).2).2).1 (band (band (band h).2).2).1 (i1.1 FO (band (band (band (band (band h).2).2).2).2).1).pt (i2.1 FO (band (band (band (band (band h).2).2).2).2).2).pt (noStar (band (band (band (band (band h).2).2).2).2).1) (noStar (band (band (band (band (band h).2).2).2).2).2))), λ _ h => no_eq h⟩
theorem m_notTok (K : CxOk C n) {a : PE} (i1 : MainP C n nm a) : MainP C n nm (.notTok a) :=
  ⟨λ FO h => onCmp_ok (P := λ e => EvOk C n _ (.notTok a) e) h λ x os rs pos h => onOne_ok (P := λ os => EvOk C n _ (.notTok a) (.Compare x os rs pos)) h λ o h => onOne_ok (P := λ rs => EvOk C n _ (.notTok a) (.Compare x [o] rs pos)) h λ y h => onName_ok (P := λ y => EvOk C n _ (.notTok a) (.Compare x [o] [y] pos)) h λ g p h =>
    deq (P := λ o => EvOk C n _ (.notTok a) (.Compare x [o] [.Name g p] pos)) (band h).1 (beqS (P := λ g => EvOk C n _ (.notTok a) (.Compare x [.NotIn] [.Name g p] pos)) (band (band h).2).1 (ok_notTok K FO (band (band (band h).2).2).1 (i1.1 FO (band (band (band h).2).2).2).pt)), λ _ h => no_eq h⟩
structure CompM (nm : List Str) (sc : Scope) (elt : PE) (tg : Tg) (it cond : PE) (caps : List Nat) (elt' it' tg' : PySem.Expr) (ifs : List PySem.Expr) (cs : Scope) : Prop where
  zip : needsTup it = true → ∃ es k q, tg' = .Tuple es k q
  it : mt nm it sc it' = true
  tg : mTg nm cs tg tg' = true
  sc : scopeOk sc cs = true
  caps : capsOk nm cs caps = true
  elt : mt nm elt cs elt' = true
  ifs : ifsB (λ c' => mt nm cond cs c') cond ifs = true
theorem zip_of {b : Bool} {e : PySem.Expr} (h : (!b || onTup e λ _ => true) = true) (hb : b = true) : ∃ es k q, e = .Tuple es k q := by
  subst hb
  exact onTup_ok (P := λ e => ∃ es k q, e = .Tuple es k q) h λ es k q _ => ⟨es, k, q, rfl⟩
theorem compM {P : PySem.Expr → Prop} {sc : Scope} {elt it cond : PE} {tg : Tg} {caps : List Nat} {e : PySem.Expr} (h : mt nm (.comp elt tg it cond caps) sc e = true)
    (H : ∀ elt' it' tg' ifs cs pos, CompM nm sc elt tg it cond caps elt' it' tg' ifs cs → P (.ListComp elt' [⟨tg', it', ifs, 0⟩] cs pos)) : P e :=
  onComp_ok (P := P) h λ elt' gs cs pos h => onOne_ok (P := λ gs => P (.ListComp elt' gs cs pos)) h λ g h => by
    obtain ⟨tg', it', ifs, a⟩ := g
    refine deq (P := λ a => P (.ListComp elt' [⟨tg', it', ifs, a⟩] cs pos)) (band h).1 ?_
    have h1 := band (band h).2
    have h2 := band h1.2
    have h3 := band h2.2
    have h4 := band h3.2
    have h5 := band h4.2
    have h6 := band h5.2
    exact H elt' it' tg' ifs cs pos ⟨zip_of h1.1, h2.1, h3.1, h4.1, h5.1, h6.1, h6.2⟩
structure CompM2 (nm : List Str) (sc : Scope) (elt : PE) (tg1 : Tg) (it1 : PE) (tg : Tg) (it cond : PE) (caps : List Nat) (elt' it1' tg1' it' tg' : PySem.Expr) (ifs : List PySem.Expr) (cs : Scope) : Prop where
  disj : tgDisj tg1 tg = true
  n1 : needsTup it1 = false
  n2 : needsTup it = false
  it1 : mt nm it1 sc it1' = true
  tg1 : mTg nm cs tg1 tg1' = true
  tg : mTg nm cs tg tg' = true
  it : mt nm it cs it' = true
  sc : scopeOk sc cs = true
  caps : capsOk nm cs caps = true
  elt : mt nm elt cs elt' = true
  ifs : ifsB (λ c' => mt nm cond cs c') cond ifs = true
theorem compM2 {P : PySem.Expr → Prop} {sc : Scope} {elt it1 it cond : PE} {tg1 tg : Tg} {caps : List Nat} {e : PySem.Expr} (h : mt nm (.comp2 elt tg1 it1 tg it cond caps) sc e = true)
    (H : ∀ elt' it1' tg1' it' tg' ifs cs pos, CompM2 nm sc elt tg1 it1 tg it cond caps elt' it1' tg1' it' tg' ifs cs → P (.ListComp elt' [⟨tg1', it1', [], 0⟩, ⟨tg', it', ifs, 0⟩] cs pos)) : P e :=
  onComp_ok (P := P) h λ elt' gs cs pos h => onTwo_ok (P := λ gs => P (.ListComp elt' gs cs pos)) h λ g g' h => by
    obtain ⟨tg1', it1', ifs1, a1⟩ := g
    obtain ⟨tg', it', ifs, a⟩ := g'
    refine deq (P := λ a1 => P (.ListComp elt' [⟨tg1', it1', ifs1, a1⟩, ⟨tg', it', ifs, a⟩] cs pos)) (band h).1 ?_
    refine deq (P := λ a => P (.ListComp elt' [⟨tg1', it1', ifs1, 0⟩, ⟨tg', it', ifs, a⟩] cs pos)) (band (band h).2).1 ?_
    have h0 := band (band (band h).2).2
    refine onNil_ok (P := λ l => P (.ListComp elt' [⟨tg1', it1', l, 0⟩, ⟨tg', it', ifs, 0⟩] cs pos)) h0.1 λ _ => ?_
    have h1 := band h0.2
    have h2 := band h1.2
    have h3 := band h2.2
    have h4 := band h3.2
    have h5 := band h4.2
    have h6 := band h5.2
    have h7 := band h6.2
    have h8 := band h7.2
    have h9 := band h8.2
    have h10 := band h9.2
    exact H elt' it1' tg1' it' tg' ifs cs pos ⟨h1.1, bnot h2.1, bnot h3.1, h4.1, h5.1, h6.1, h7.1, h8.1, h9.1, h10.1, h10.2⟩
theorem m_comp {elt it cond : PE} {tg : Tg} {caps : List Nat} (i1 : MainP C n nm elt) (i2 : MainP C n nm it) (i3 : MainP C n nm cond) : MainP C n nm (.comp elt tg it cond caps) := by
  refine ⟨λ FO h => compM (P := λ e => EvOk C n _ (.comp elt tg it cond caps) e) h λ elt' it' tg' ifs cs pos M => ?_, λ _ h => no_eq h⟩
  refine .of (λ _ => rfl) λ A s O₀ ow ρ d Q E hA S hd hQ => ?_
  obtain ⟨r, e1, rfl, hr, hz⟩ := mkComp_some (show mkComp (needsTup it) caps.isEmpty ((ev C it ρ).it.bind λ xs => compGo (eltF C tg elt cond (mask caps ρ)) xs) = some d from hd)
  obtain ⟨xs, e2, e3⟩ := Option.bind_eq_some_iff.mp e1
  rw [eval_ListComp]
  exact comp_run (g := ⟨tg', it', ifs, 0⟩) (gs := []) FO rfl (i2.1 FO M.it).pi (noSet M.it) M.sc M.caps M.zip hA S e2 (use := none) (comp_loop1 hA FO.zero M.caps M.tg (λ G FG => (i1.1 FG M.elt).pe) (λ G FG => ifs_ok M.ifs λ c' hc' => i3.1 FG hc') e3 hr (λ q => ⟨List.isEmpty_iff.mp (hz q).1, (hz q).2⟩)) (comp_fin S λ v s' X hv hf => hQ v s' X hv λ _ ds q => by cases q; exact hf)
theorem m_comp2 {elt it1 it cond : PE} {tg1 tg : Tg} {caps : List Nat} (i1 : MainP C n nm elt) (i2 : MainP C n nm it1) (i3 : MainP C n nm it) (i4 : MainP C n nm cond) : MainP C n nm (.comp2 elt tg1 it1 tg it cond caps) := by
  refine ⟨λ FO h => compM2 (P := λ e => EvOk C n _ (.comp2 elt tg1 it1 tg it cond caps) e) h λ elt' it1' tg1' it' tg' ifs cs pos M => ?_, λ _ h => no_eq h⟩
  refine .of (λ _ => rfl) λ A s O₀ ow ρ d Q E hA S hd hQ => ?_
  obtain ⟨r, e1, rfl, hr, hz⟩ := mkComp_some (show mkComp false false ((ev C it1 ρ).it.bind λ xs => compGo (λ x => (bindT tg1 x (mask caps ρ)).bind λ ρ1 => (ev C it ρ1).it.bind λ ys => compGo (eltF C tg elt cond ρ1) ys) xs) = some d from hd)
  obtain ⟨xs, e2, e3⟩ := Option.bind_eq_some_iff.mp e1
  rw [eval_ListComp]
  exact comp_run (g := ⟨tg1', it1', [], 0⟩) (gs := [⟨tg', it', ifs, 0⟩]) FO rfl (i2.1 FO M.it1).pi (noSet M.it1) M.sc M.caps (λ q => by rw [M.n1] at q; cases q) hA S e2 (use := none) (comp_loop2 hA FO.zero M.caps M.tg1 M.tg M.disj M.n1 M.n2 (λ G FG => (i1.1 FG M.elt).pe) (λ G FG => ifs_ok M.ifs λ c' hc' => i4.1 FG hc') (λ G FG => (i3.1 FG M.it).pi) (noSet M.it) e3 hr) (comp_fin S λ v s' X hv hf => hQ v s' X hv λ _ ds q => by cases q; exact hf)
end
theorem main (K : CxOk C n) {nm : List Str} (p : PE) : MainP C n nm p := by
  induction p with
  | nil => exact m_nil
  | cons p ps i1 i2 => exact m_cons i1 i2
  | var i => exact m_var
  | cI i => exact m_const (λ _ _ => rfl) (λ _ _ => rfl) λ _ _ => ok_cI
  | cF i => exact m_const (λ _ _ => rfl) (λ _ _ => rfl) λ _ _ => ok_cF
  | cS i => exact m_const (λ _ _ => rfl) (λ _ _ => rfl) λ _ _ => ok_cS
  | cB i => exact m_const (λ _ _ => rfl) (λ _ _ => rfl) λ _ _ => ok_cB
  | cN => exact m_const (λ _ _ => rfl) (λ _ _ => rfl) λ _ _ => ok_cN
  | glob x => exact m_glob K
  | bin op l r i1 i2 => exact m_bin i1 i2
  | neg a i1 => exact m_neg i1
  | not_ a i1 => exact m_not i1
  | sub a i i1 i2 => exact m_sub i1 i2
  | slc a lo hi i1 i2 i3 => exact m_slc i1 i2 i3
  | abs => exact ⟨λ _ h => no_eq h, λ _ h => no_eq h⟩
  | tup es i1 => exact m_tup i1
  | lst es i1 => exact m_lst i1
  | ite c a b i1 i2 i3 => exact m_ite i1 i2 i3
  | cmp op l r i1 i2 => exact m_cmp i1 i2
  | chain o1 o2 a b c i1 i2 i3 => exact m_chain i1 i2 i3
  | and_ a b i1 i2 => exact m_and i1 i2
  | or_ a b i1 i2 => exact m_or i1 i2
  | call f args i1 => exact m_call K i1
  | gen f args i1 => exact m_gen K i1
  | bi f args i1 => exact m_bi K i1
  | rng args i1 => exact m_rng K i1
  | zip a b i1 i2 => exact m_zip K i1 i2
  | join sep a i1 => exact m_join i1
  | splt x => exact m_splt
  | getD a b i1 i2 => exact m_getD K i1 i2
  | notTok a i1 => exact m_notTok K i1
  | comp elt tg it cond caps i1 i2 i3 => exact m_comp i1 i2 i3
  | comp2 elt tg1 it1 tg2 it2 cond caps i1 i2 i3 i4 => exact m_comp2 i1 i2 i3 i4
end
theorem mapSeq_plain (f : Array Value → Array Value) (items : Array Value) (n : Nat) : ∃ n', Obj.mapSeq f ({ cls := .type "list", data := .seq items n } : Obj) = { cls := .type "list", data := .seq (f items) n' } := ⟨_, rfl⟩
section
variable {prog : Program} {w : World} {A : Around} {E : Value → Shared → Prop} {s : Shared}
theorem set_pos {l : Addr} {items : Array Value} {k : Int} {t : Tok} {v : Value} {Q : Unit → Shared → Prop} (hl : s.heap.PlainList l items)
    (h0 : 0 ≤ k) (hfit : k < 2 ^ 63) (hn : k < items.size)
    (hQ : ∀ h', h'.PlainList l (items.setIfInBounds k.toNat v) → Heap.SameBut l s.heap h' → Q () { s with heap := h' }) :
    wpAny (model prog w) A (setItem (.ref l) (.int k t) v) Q E s := by
  obtain ⟨ne, ho⟩ := id hl
  have hT : s.TypeIs (.ref l) "list" := ⟨_, ho, rfl⟩
  unfold setItem
  try with_reducible refine wpAny_holding ?_
  first | refine wpAny_bind (wpAny_pure ?_) | skip
  refine wpAny_bind (wpAny_sequenceKey hT (by decide) ?_)
  refine wpAny_bind (wpAny_callSpecial?_slot (name := Str.ofString "__setitem__") hT slot_list_setitem
    (wpAny_call_entry slot_list_setitem hT entry_list_setitem ?_ (args_list_setitem _ _ _)))
  show wpAny _ _ (Builtin.List.listSubscript? (.int k t) >>= _) _ _ s
  refine wpAny_bind (wpAny_listSubscript_int (fitsIndex_of h0 hfit) ?_)
  clear hfit
  obtain ⟨j, rfl⟩ := Int.eq_ofNat_of_zero_le h0
  have hj : j < items.size := by lia
  have hx' : items[j]? = some items[j] := Array.getElem?_eq_getElem hj
  show wpAny _ _ ((seqItemAt l j >>= λ r => pure (r.map (j, ·))) >>= _) _ _ s
  refine wpAny_bind (wpAny_bind (wpAny_seqItemAt ho rfl (wpAny_pure ?_)))
  rw [hx']
  show wpAny _ _ (setSeqItemAt l j v >>= _) _ _ s
  obtain ⟨n', hm⟩ := mapSeq_plain (·.setIfInBounds j v) items ne
  have hfin : (s.heap.update l (Obj.mapSeq (·.setIfInBounds j v))).PlainList l (items.setIfInBounds j v) := by
    refine ⟨n', ?_⟩
    rw [Heap.get?_update_self _ ho (by rw [hm]; rfl), hm]
  refine wpAny_bind (wpAny_setSeqItemAt ho rfl ?_)
  first
    | exact wpAny_bind (wpAny_pure (wpAny_pure ⟨.none, rfl, wpAny_pure (hQ _ hfin (Heap.SameBut.update ..))⟩))
    | exact wpAny_pure ⟨.none, rfl, wpAny_pure (hQ _ hfin (Heap.SameBut.update ..))⟩
theorem set_neg {l : Addr} {items : Array Value} {k : Int} {t : Tok} {v : Value} {Q : Unit → Shared → Prop} (hl : s.heap.PlainList l items)
    (h0 : k < 0) (h1 : -(items.size : Int) ≤ k) (hfit : -(2 ^ 63) ≤ k)
    (hQ : ∀ h', h'.PlainList l (items.setIfInBounds (k + items.size).toNat v) → Heap.SameBut l s.heap h' → Q () { s with heap := h' }) :
    wpAny (model prog w) A (setItem (.ref l) (.int k t) v) Q E s := by
  obtain ⟨ne, ho⟩ := id hl
  have hT : s.TypeIs (.ref l) "list" := ⟨_, ho, rfl⟩
  unfold setItem
  try with_reducible refine wpAny_holding ?_
  first | refine wpAny_bind (wpAny_pure ?_) | skip
  refine wpAny_bind (wpAny_sequenceKey hT (by decide) ?_)
  refine wpAny_bind (wpAny_callSpecial?_slot (name := Str.ofString "__setitem__") hT slot_list_setitem
    (wpAny_call_entry slot_list_setitem hT entry_list_setitem ?_ (args_list_setitem _ _ _)))
  show wpAny _ _ (Builtin.List.listSubscript? (.int k t) >>= _) _ _ s
  refine wpAny_bind (wpAny_listSubscript_int (fitsIndex_neg h0 hfit) ?_)
  clear hfit
  have hidx := seqIndex_neg h0 h1
  have hj : (k + items.size).toNat < items.size := by lia
  have hx' : items[(k + items.size).toNat]? = some items[(k + items.size).toNat] := Array.getElem?_eq_getElem hj
  generalize (k + (items.size : Int)).toNat = p at *
  obtain ⟨j, rfl⟩ : ∃ j : Nat, k = Int.negSucc j := by
    cases k with
    | ofNat n => exact absurd h0 (Int.not_lt.mpr (Int.ofNat_nonneg n))
    | negSucc n => exact ⟨n, rfl⟩
  show wpAny _ _ ((Builtin.List.listItems (.ref l) >>= λ xs => pure ((seqIndex? (Int.negSucc j) xs.size).bind λ i => xs[i]?.map (i, ·))) >>= _) _ _ s
  refine wpAny_bind (wpAny_bind ?_)
  show wpAny _ _ (seqItems? (.ref l) >>= _) _ _ s
  refine wpAny_bind (wpAny_seqItems ho rfl (wpAny_pure (wpAny_pure ?_)))
  rw [hidx]
  simp only [Option.bind_some, hx', Option.map_some]
  show wpAny _ _ (setSeqItemAt l p v >>= _) _ _ s
  obtain ⟨n', hm⟩ := mapSeq_plain (·.setIfInBounds p v) items ne
  have hfin : (s.heap.update l (Obj.mapSeq (·.setIfInBounds p v))).PlainList l (items.setIfInBounds p v) := by
    refine ⟨n', ?_⟩
    rw [Heap.get?_update_self _ ho (by rw [hm]; rfl), hm]
  refine wpAny_bind (wpAny_setSeqItemAt ho rfl ?_)
  first
    | exact wpAny_bind (wpAny_pure (wpAny_pure ⟨.none, rfl, wpAny_pure (hQ _ hfin (Heap.SameBut.update ..))⟩))
    | exact wpAny_pure ⟨.none, rfl, wpAny_pure (hQ _ hfin (Heap.SameBut.update ..))⟩
theorem seq_list_iadd : seqSlot? (.type "list") (dunderI "add") = pure (some (.builtin "list.__iadd__")) := PySem.seqSlot_of PySem.F.slot_list_iadd.lookup (by decide +kernel)
theorem noFillI_list : fillsInplaceSlot (.type "list") "add" (Operator.Add == .Add) = pure false := by
  unfold fillsInplaceSlot
  show (typeLookup (.type "list") (dunderI "add") >>= λ fi => pure (fi.isSome && !isSeqSlot fi)) = pure false
  rw [PySem.F.slot_list_iadd.lookup]
  kernel_rfl
theorem iadd_list {l b : Addr} {items items2 : Array Value} {Q : Value → Shared → Prop} (hl : s.heap.PlainList l items) (hb : s.heap.PlainList b items2) (hsz : items.size + items2.size ≤ 16777216)
    (hQ : ∀ h', h'.PlainList l (items ++ items2) → Heap.SameBut l s.heap h' → Q (.ref l) { s with heap := h' }) :
    wpAny (model prog w) A (inplaceOp .Add (.ref l) (.ref b)) Q E s := by
  obtain ⟨n, ho⟩ := hl
  obtain ⟨n2, hb⟩ := hb
  have hT : s.TypeIs (.ref l) "list" := ⟨_, ho, rfl⟩
  have hTb : s.TypeIs (.ref b) "list" := ⟨_, hb, rfl⟩
  unfold inplaceOp
  refine wpAny_holding ?_
  refine wpAny_bind (wpAny_typeOf hT (wpAny_bind (wpAny_of_eq noFillI_list ?_)))
  show wpAny _ A (if false = true then _ else _) Q E s
  rw [if_neg Bool.false_ne_true]
  refine wpAny_bind (binaryOp1_none (nm := "add") hT hTb noFill_list_add ?_)
  refine wpAny_bind (wpAny_of_eq seq_list_iadd ?_)
  refine wpAny_bind (wpAny_rule ?_)
  obtain ⟨n', hm⟩ := mapSeq_plain (λ x => x ++ items2) items n
  have h1 : ¬(!items.isEmpty && Builtin.List.listTooLong (items.size + items2.size)) = true := by
    have : Builtin.List.listTooLong (items.size + items2.size) = false := by
      unfold Builtin.List.listTooLong sizeLine; simp; omega
    rw [this]; simp
  refine call_meets PySem.F.slot_list_iadd hT PySem.F.entry_list_iadd (PySem.F.args_list_iadd_2 _ _) (AutoSeq1.list___iadd___list_list_0 l items n b items2 n2 h1 (by show items.size ≤ 16777216; lia) (by show items.size + items2.size ≤ 16777216 + 1; lia)) ⟨ho, hb, ?_⟩
  refine hQ _ ⟨n', ?_⟩ (Heap.SameBut.update ..)
  rw [Heap.get?_update_self _ ho (by rw [hm]; rfl), hm]
end
theorem mTgS_ok {nm : List Str} {sc : Scope} {tg : Tg} {t : PySem.Expr} {G : Frame} (h : mTgS nm sc tg t = true) (hn : G.names = nm) (hw : ∀ x, stOk sc x = true → Writable G x) : TgOk G tg t := by
  subst hn
  cases tg with
  | one i => exact onName_ok (P := λ t => TgOk G (.one i) t) h λ x _ h => .one (okVar_iff (band h).1).1 (hw _ (band h).2)
  | many is => exact onTup_ok (P := λ t => TgOk G (.many is) t) h λ es _ _ h => .many (tgGo_ok (λ i e is es h T => onName_ok (P := λ e => TgsOk G (i :: is) (e :: es)) h λ x _ h => .cons (okVar_iff (band h).1).1 (hw _ (band h).2) T) is es h)
theorem St.put_same {F O₀ ow ρ s h' t b} (S : St F O₀ ow ρ s) {i : Nat} {x : Str} {ds : List D} (n : F.names[i]? = some x) (e : ρ[i]? = some (.own ds)) (W : Stored F x (.ref (ow i)) s.heap h' b) :
    St F O₀ ow ρ { s with heap := h', toks := t } ∧ StepR F O₀ ow ρ s ow ρ { s with heap := h', toks := t } := by
  refine ⟨⟨W.fr, λ j sl y e' ny => ?_, S.inj, S.new, S.len, S.nodup, S.bare, S.old⟩, stepR_sameBut W.same W.mine W.now λ a q => .inl q⟩
  by_cases hji : j = i
  · subst hji
    rw [e] at e'; cases e'
    obtain rfl : y = x := by rw [n] at ny; exact (Option.some.inj ny).symm
    obtain ⟨_, vs, ⟨k, l⟩, r⟩ := S.at_own e n
    refine ⟨.inl W.here, vs, ⟨k, (W.same.2 _ ?_).trans l⟩, hasL_keep (T := λ _ => False) (seqKeep_sameBut W.same W.noSeq) (λ _ f => f.elim) ds _ r⟩
    intro q; exact W.noSeq _ _ _ (q ▸ l) rfl
  · have ne' : y ≠ x := λ q => hji (S.nodup j i x (q ▸ ny) n)
    exact SlotAt.stored W ne' (λ _ _ e => e) (λ _ q => .inl q) (S.slots j sl y e' ny)
theorem St.other {F O₀ ow ρ s h' a m} (S : St F O₀ ow ρ s) (hs : Heap.SameBut a s.heap h') (hn : s.heap.Ns a m) (hl : a ≠ F.env.locals) (hb : F.base.get? a = none) : St F O₀ ow ρ { s with heap := h' } := by
  have kk : SeqKeep (λ _ => False) s.heap h' := seqKeep_sameBut hs (Ns.noSeq hn)
  have kCell : ∀ {c v}, s.heap.IsCell c v → h'.IsCell c v := λ x => x.sameBut hs (cell_ne_ns hn x)
  have kVar : ∀ {x v}, VarAt F.env s.heap x v → VarAt F.env h' x v := by
    rintro x v (⟨k, m, hm, e⟩ | ⟨k, c, hc, hv⟩)
    · exact .inl ⟨k, m, hm.sameBut hs (Ne.symm hl), e⟩
    · exact .inr ⟨k, c, hc, kCell hv⟩
  refine ⟨⟨S.fr.kind, S.fr.globals, S.fr.builtins, S.fr.ns.imp λ _ q => q.sameBut hs (Ne.symm hl), S.fr.fresh, λ w y q => ?_, S.fr.apart, λ b o q => (hs.2 b ?_).trans (S.fr.keep b o q)⟩, λ j sl y e ny => ?_, S.inj, S.new, S.len, S.nodup, S.bare, S.old⟩
  · obtain ⟨c, v, a, b, d⟩ := S.fr.cell w y q
    exact ⟨c, v, a, kCell b, d⟩
  · rintro rfl; rw [hb] at q; cases q
  · have q := S.slots j sl y e ny
    cases sl with
    | undef => trivial
    | fro d => obtain ⟨u, p, r⟩ := q; exact ⟨u, kVar p, has_keep kk (λ _ f => f.elim) d u r⟩
    | own es =>
      obtain ⟨p, us, ⟨k, l⟩, r⟩ := q
      refine ⟨p.imp kVar id, us, ⟨k, (hs.2 _ ?_).trans l⟩, hasL_keep kk (λ _ f => f.elim) es _ r⟩
      intro q'; exact Ns.noSeq hn _ _ _ (q' ▸ l) rfl
theorem StepR.other {F O₀ ow ρ s ow' ρ' s1 h' a} (r : StepR F O₀ ow ρ s ow' ρ' s1) (hs : Heap.SameBut a s1.heap h') (ha : s.heap.get? a = none) : StepR F O₀ ow ρ s ow' ρ' { s1 with heap := h' } := by
  refine ⟨λ b o e n1 n2 n3 => (hs.2 b (by rintro rfl; rw [ha] at e; cases e)).trans (r.rest b o e n1 n2 n3), r.own, λ b e => ?_, r.gens, r.os⟩
  by_cases hb : b = a
  · rw [hb]; exact ha
  · exact r.live b (by rw [← hs.2 b hb]; exact e)
theorem swaps_plain {v : PySem.Expr} {t : Option PySem.Expr} {l : Nat} {env : Env} (h : isComp v = false) : swapsWith v t l env = pure false := by
  cases v <;> first | rfl | cases h
inductive FlOk (F : Frame) (O₀ : Addr → Prop) (ow : Nat → Addr) (ρ : List Slot) (s : Shared) : Flow → Fl → Prop
  | next : FlOk F O₀ ow ρ s .next .next
  | ret {v : Value} {d : D} : Has (Oof O₀ ow ρ) s.heap d v → FlOk F O₀ ow ρ s (.ret v) (.ret d)
section
variable (C : Cx) (n : Nat) (F : Frame)
noncomputable def S1 (a : PS) (st : Stmt) : Prop := ∀ A s O₀ ow ρ (K : KT) (Q : Flow → Shared → Prop) (E : Value → Shared → Prop), AOk n A → St F O₀ ow ρ s → vc C a ρ K →
  (∀ f fl ow' ρ' s', FlOk F O₀ ow' ρ' s' f fl → St F O₀ ow' ρ' s' → StepR F O₀ ow ρ s ow' ρ' s' → K fl ρ' → Q f s') → wpAny (model C.prog C.w) A (exec st F.env) Q E s
noncomputable def SS (a : PS) (ss : List Stmt) : Prop := ∀ A s O₀ ow ρ (K : KT) (Q : Flow → Shared → Prop) (E : Value → Shared → Prop), AOk n A → St F O₀ ow ρ s → vc C a ρ K →
  (∀ f fl ow' ρ' s', FlOk F O₀ ow' ρ' s' f fl → St F O₀ ow' ρ' s' → StepR F O₀ ow ρ s ow' ρ' s' → K fl ρ' → Q f s') → wpAny (model C.prog C.w) A (execs ss F.env) Q E s
end
section
variable {C : Cx} {n : Nat} {F : Frame} {nm : List Str} {sc : Scope}
theorem s_asg (FO : FrameOk C nm sc F) (hw : ∀ x, stOk sc x = true → Writable F x) {i : Nat} {e : PE} {x : Str} {p pos : Pos} {v : PySem.Expr} (ho : okVar nm i x = true) (hs : stOk sc x = true) (hc : isComp v = false) (he : PeOk C n F e v) :
    S1 C n F (.asg i e) (.Assign [.Name x p] v pos) := λ A s O₀ ow ρ K Q E hA S hv hQ => by
  obtain ⟨d, e1, hK⟩ := hv
  refine wpAny_Assign_Name (he A s O₀ ow ρ d _ E hA S e1 λ u s' X hu _ => wpAny_store (S.ext X).fr (hw x hs) λ h' t b W => ?_) (swaps_plain hc)
  obtain ⟨S2, R2⟩ := (S.ext X).put_fro (t := t) (by rw [FO.names]; exact (okVar_iff ho).1) W hu
  exact hQ .next .next ow _ _ .next S2 ((StepR.ofExt X).trans R2) hK
theorem s_asgO (FO : FrameOk C nm sc F) (hw : ∀ x, stOk sc x = true → Writable F x) {i : Nat} {e : PE} {x : Str} {p pos : Pos} {v : PySem.Expr} (ho : okVar nm i x = true) (hs : stOk sc x = true) (hf : isFresh e = true)
    (hc : swapsWith v (some (.Name x p)) pos.line F.env = pure false) (he : PeOk C n F e v) :
    S1 C n F (.asgO i e) (.Assign [.Name x p] v pos) := λ A s O₀ ow ρ K Q E hA S hv hQ => by
  obtain ⟨ds, e1, hK⟩ := hv
  refine wpAny_Assign_Name (he A s O₀ ow ρ _ _ E hA S e1 λ u s' X hu hfr => ?_) hc
  obtain ⟨a, vs, rfl, ha, hl, hd⟩ := hfr hf ds rfl
  refine wpAny_store (S.ext X).fr (hw x hs) λ h' t b W => ?_
  obtain ⟨S2, R2⟩ := S.put_own (t := t) X (by rw [FO.names]; exact (okVar_iff ho).1) W ha hl hd
  exact hQ .next .next _ _ _ .next S2 R2 hK
theorem use_fin (FO : FrameOk C nm sc F) {A : Around} (hw : ∀ x, stOk sc x = true → Writable F x) {i : Nat} {x : Str} {p : Pos} (ho : okVar nm i x = true) (hs : stOk sc x = true) {O₀ : Addr → Prop} {ow : Nat → Addr} {ρ : List Slot} {s : Shared} (S : St F O₀ ow ρ s) {r : List D} {Q : Value → Shared → Prop} {E : Value → Shared → Prop}
    (h : ∀ ow' s', St F O₀ ow' (ρ.set i (.own r)) s' → StepR F O₀ ow ρ s ow' (ρ.set i (.own r)) s' → Q .none s') :
    ∀ (D Ca : Addr) m s' (vs : Array Value), s.heap.get? D = none → s.heap.get? Ca = none → D ≠ Ca → Ext s s' → s'.heap.Ns Ca m → s'.heap.PlainList D vs → HasL (λ b => Oof O₀ ow ρ b ∨ b = D) s'.heap r vs.toList →
      compPost (model C.prog C.w) A E (some (assign (.Name x p) F.env)) Q (.ref D) Ca (.ok .next) s' := by
  intro D Ca m s' vs hD hCa hDC X hns hpl hvs
  have nx : F.names[i]? = some x := by rw [FO.names]; exact (okVar_iff ho).1
  have hl : Ca ≠ F.env.locals := by
    rintro rfl
    obtain ⟨m', o, _, _, e, _⟩ := S.fr.ns
    rw [hCa] at e; cases e
  have hb : F.base.get? Ca = none := by
    cases e : F.base.get? Ca with
    | none => rfl
    | some o => have := S.fr.keep Ca o e; rw [hCa] at this; cases this
  show wpAny _ A (assign (.Name x p) F.env (.ref D)) _ _ _
  refine wpAny_assign_Name (wpAny_store (S.ext X).fr (hw x hs) λ h' t b W => ?_)
  obtain ⟨S2, R2⟩ := S.put_own (t := t) X nx W hD hpl hvs
  have hcb : Ca ≠ b := by
    rintro rfl
    rcases W.mine with q | ⟨hw', y, hk, hc⟩
    · exact hl q
    · obtain ⟨c, v, hc', ⟨o, e, _⟩, _⟩ := S.fr.cell hw' y hk
      rw [hc] at hc'; cases hc'
      rw [hCa] at e; cases e
  have hns' : h'.Ns Ca m := hns.sameBut W.same hcb
  exact ⟨m, hns', λ h'' hs'' => h _ _ (S2.other hs'' hns' hl hb) (R2.other hs'' hCa)⟩
theorem s_asgT (FO : FrameOk C nm sc F) (hw : ∀ x, stOk sc x = true → Writable F x) {is : List Nat} {e : PE} {es : List PySem.Expr} {k : Nat} {p pos : Pos} {v : PySem.Expr} (ho : mTgS nm sc (.many is) (.Tuple es k p) = true) (hv : isTupE v = false) (he : PeOk C n F e v) :
    S1 C n F (.asgT is e) (.Assign [.Tuple es k p] v pos) := λ A s O₀ ow ρ K Q E hA S hvc hQ => by
  obtain ⟨d, ρ', e1, e2, hK⟩ := hvc
  refine wpAny_Assign_stores (he A s O₀ ow ρ d _ E hA S e1 λ u s' X hu _ => ?_) (by cases v <;> rfl) (by cases v <;> first | rfl | cases hv)
  show wpAny _ A (assign (.Tuple es k p) F.env u) _ _ _
  exact target_ok hA.1 (mTgS_ok ho FO.names hw) (S.ext X) hu e2 λ s2 S2 R2 => hQ .next .next ow _ _ .next S2 ((StepR.ofExt X).trans R2) hK
theorem noPyl {x y : Int} (h : smallI y = true) : Builtin.divisionGoesByPylong x y = false := by
  refine PyProof.noPylong_of_log2 ?_
  have := smallI_iff.mp h
  by_cases h0 : y.natAbs = 0
  · rw [h0]; decide +kernel
  · have : y.natAbs.log2 < 62 := (Nat.log2_lt h0).mpr (by omega)
    lia
theorem aug_int {A : Around} {s : Shared} {E : Value → Shared → Prop} {op : Operator} {x y r : Int} {t u : Tok} {Q : Value → Shared → Prop} (e : augI op x y = some r) (h : Q (.int r s.toks) { s with toks := s.toks + 1 }) :
    wpAny (model C.prog C.w) A (inplaceOp op (.int x t) (.int y u)) Q E s := by
  cases op <;> simp only [augI, reduceCtorEq, Option.some.injEq] at e
  · subst e; exact PyProof.Rows.iadd_int h
  · subst e; exact PyProof.Rows.isub_int h
  · split at e
    · rename_i q
      cases e
      simp only [Bool.and_eq_true, bne_iff_ne, ne_eq] at q
      have := smallI_iff.mp q.1
      exact PyProof.Rows.ifloordiv_int q.2 h (.inl (noPyl q.1))
    · cases e
theorem okVar_class {nm : List Str} {i : Nat} {x : Str} (h : okVar nm i x = true) : (x == ("__classdict__" : Str)) = false ∧ (x == ("__debug__" : Str)) = false := by
  exact ⟨bnot (band (band h).1).2, bnot (band (band (band h).1).1).2⟩
theorem s_aug (FO : FrameOk C nm sc F) (hw : ∀ x, stOk sc x = true → Writable F x) {i : Nat} {op : Operator} {e : PE} {x : Str} {p pos : Pos} {v : PySem.Expr} (ho : okVar nm i x = true) (hs : stOk sc x = true) (he : PeOk C n F e v) :
    S1 C n F (.aug i op e) (.AugAssign (.Name x p) op v pos) := λ A s O₀ ow ρ K Q E hA S hvc hQ => by
  obtain ⟨o, d, r, e1, e2, e3, hK⟩ := hvc
  have nx : F.names[i]? = some x := by rw [FO.names]; exact (okVar_iff ho).1
  obtain ⟨w, hvar, hw'⟩ := S.at_fro e1 nx
  rw [Has] at hw'; obtain ⟨t1, rfl⟩ := hw'
  refine wpAny_AugAssign_Name (wpAny_var S.fr.kind hvar (okVar_class ho).1 (he A s O₀ ow ρ _ _ E hA S e2 λ u s' X hu _ => ?_))
  rw [Has] at hu; obtain ⟨t2, rfl⟩ := hu
  refine aug_int e3 (wpAny_store ((S.ext X).ext (.toks (s'.toks + 1))).fr (hw x hs) λ h' t b W => ?_)
  obtain ⟨S2, R2⟩ := ((S.ext X).ext (.toks (s'.toks + 1))).put_fro (t := t) (d := .int r) nx W (by rw [Has]; exact ⟨_, rfl⟩)
  exact hQ .next .next ow _ _ .next S2 ((StepR.ofExt (X.trans (.toks _))).trans R2) hK
theorem s_app (FO : FrameOk C nm sc F) {i : Nat} {e : PE} {x : Str} {p apos pos pos2 : Pos} {v : PySem.Expr} (ho : okVar nm i x = true) (hl : (apos.endLine == pos.line) = true) (he : PeOk C n F e v) (st : ∀ r, starEach (v :: r) F.env = (false, eval v F.env) :: starEach r F.env) :
    S1 C n F (.app i e) (.Expr (.Call (.Attribute (.Name x p) "append" apos) [v] [] pos) pos2) := λ A s O₀ ow ρ K Q E hA S hvc hQ => by
  obtain ⟨ds, d, e1, e2, hsz, hK⟩ := hvc
  have nx : F.names[i]? = some x := by rw [FO.names]; exact (okVar_iff ho).1
  obtain ⟨hvar, vs, hpl, hvs⟩ := S.at_own e1 nx
  have ht : backTo pos (starEach [v] F.env) = [(false, eval v F.env)] := by rw [st]; rfl
  refine wpAny_Expr_any (wpAny_Call_append rfl (by rw [ht]; rfl) hl ht (wpAny_nameVar S.fr.kind (hvar.resolve_right (okVar_iff ho).2) (okVar_class ho).2 (okVar_class ho).1 ?_)) (by unfold interactive; rw [S.fr.kind]; rfl) rfl
  obtain ⟨k0, hp0⟩ := id hpl
  refine ⟨ow i, vs, rfl, ⟨_, k0, hp0, rfl, rfl, rfl⟩, he A s O₀ ow ρ d _ E hA S e2 λ u s' X hu _ => ?_⟩
  obtain ⟨_, vs', hpl', hvs'⟩ := (S.ext X).at_own e1 nx
  have hlen := hasL_length hvs'
  simp only [Array.length_toList] at hlen
  refine wpAny_list_append_plain hpl' (λ h' hp hsm => ?_) (by show vs'.size ≤ 16777216; lia)
  obtain ⟨S4, R4⟩ := (S.ext X).upd (t := s'.toks) (ds' := ds ++ [d]) e1 hsm hp (by rw [Array.toList_push]; exact hasL_append hvs' (hasL_cons hu hasL_nil))
  exact hQ .next .next ow _ _ .next S4 ((StepR.ofExt X).trans R4) hK
theorem set_ok {A : Around} {s : Shared} {E : Value → Shared → Prop} {O₀ ow ρ} (S : St F O₀ ow ρ s) {i : Nat} {x : Str} (nx : F.names[i]? = some x) {ds ds' : List D} {k : Int} {t : Tok} {d : D} {u : Value} {Q : Unit → Shared → Prop}
    (e : ρ[i]? = some (.own ds)) (hs : setNat ds k d = some ds') (hu : Has (Oof O₀ ow ρ) s.heap d u) (h : ∀ s', St F O₀ ow (ρ.set i (.own ds')) s' → StepR F O₀ ow ρ s ow (ρ.set i (.own ds')) s' → Q () s') :
    wpAny (model C.prog C.w) A (setItem (.ref (ow i)) (.int k t) u) Q E s := by
  obtain ⟨_, vs, hpl, hvs⟩ := S.at_own e nx
  have hlen := hasL_length hvs
  simp only [Array.length_toList] at hlen
  unfold setNat at hs
  split at hs
  · rename_i sm
    have sm := smallI_iff.mp sm
    split at hs
    · split at hs
      · cases hs
        refine set_pos hpl (by assumption) (by lia) (by lia) λ h' hp hsm => ?_
        obtain ⟨S4, R4⟩ := S.upd (t := s.toks) (ds' := ds.set k.toNat d) e hsm hp (by rw [Array.toList_setIfInBounds]; exact hasL_set _ hvs hu)
        exact h _ S4 R4
      · cases hs
    · split at hs
      · cases hs
        refine set_neg hpl (by lia) (by lia) (by lia) λ h' hp hsm => ?_
        rw [hlen] at hp
        obtain ⟨S4, R4⟩ := S.upd (t := s.toks) (ds' := ds.set (k + ds.length).toNat d) e hsm hp (by rw [Array.toList_setIfInBounds]; exact hasL_set _ hvs hu)
        exact h _ S4 R4
      · cases hs
  · cases hs
theorem s_setI (FO : FrameOk C nm sc F) {i : Nat} {k e : PE} {x : Str} {p p2 pos : Pos} {v k' : PySem.Expr} (ho : okVar nm i x = true) (he : PeOk C n F e v) (hk : PeOk C n F k k') :
    S1 C n F (.setI i k e) (.Assign [.Subscript (.Name x p) k' p2] v pos) := λ A s O₀ ow ρ K Q E hA S hvc hQ => by
  obtain ⟨ds, m, d, ds', e1, e2, e3, e4, hK⟩ := hvc
  have nx : F.names[i]? = some x := by rw [FO.names]; exact (okVar_iff ho).1
  refine wpAny_Assign_Subscript (he A s O₀ ow ρ d _ E hA S e2 λ u s₁ X hu _ => ?_) (by cases v <;> rfl)
  obtain ⟨hvar, _⟩ := (S.ext X).at_own e1 nx
  refine wpAny_nameVar S.fr.kind (hvar.resolve_right (okVar_iff ho).2) (okVar_class ho).2 (okVar_class ho).1 (hk A s₁ O₀ ow ρ _ _ E hA (S.ext X) e3 λ kv s₂ Y hkv _ => ?_)
  rw [Has] at hkv; obtain ⟨t, rfl⟩ := hkv
  exact set_ok ((S.ext X).ext Y) nx e1 e4 (Y.has hu) λ s' S4 R4 => hQ .next .next ow _ _ .next S4 ((StepR.ofExt (X.trans Y)).trans R4) hK
theorem s_augI (FO : FrameOk C nm sc F) {i : Nat} {op : Operator} {k e : PE} {x : Str} {p p2 pos : Pos} {v k' : PySem.Expr} (ho : okVar nm i x = true) (hns : (match k' with | .Slice .. => false | _ => true) = true) (he : PeOk C n F e v) (hk : PeOk C n F k k') :
    S1 C n F (.augI i op k e) (.AugAssign (.Subscript (.Name x p) k' p2) op v pos) := λ A s O₀ ow ρ K Q E hA S hvc hQ => by
  obtain ⟨ds, m, o, d, r, ds', e1, e2, e3, e4, e5, e6, hK⟩ := hvc
  have nx : F.names[i]? = some x := by rw [FO.names]; exact (okVar_iff ho).1
  obtain ⟨hvar, _⟩ := S.at_own e1 nx
  refine wpAny_AugAssign_SubscriptAny (wpAny_nameVar S.fr.kind (hvar.resolve_right (okVar_iff ho).2) (okVar_class ho).2 (okVar_class ho).1 (hk A s O₀ ow ρ _ _ E hA S e2 λ kv s₁ X hkv _ => ?_)) (by cases k' <;> first | (intros; rfl) | cases hns)
  rw [Has] at hkv; obtain ⟨t, rfl⟩ := hkv
  obtain ⟨_, vs, hpl, hvs⟩ := (S.ext X).at_own e1 nx
  refine (getItem_ok (prog := C.prog) (w := C.w) (O := Oof O₀ ow ρ) e3 (show HasT _ _ (.lst ds) _ from ⟨_, vs, rfl, PlainList.isL hpl, hvs⟩) (show HasT _ _ (.int m) _ from HasT.of (by rw [Has]; exact ⟨t, rfl⟩)) λ ov s₂ X2 hov => ?_).2
  rw [Has] at hov; obtain ⟨t2, rfl⟩ := hov
  refine he A s₂ O₀ ow ρ _ _ E hA ((S.ext X).ext X2) e4 λ u s₃ X3 hu _ => ?_
  rw [Has] at hu; obtain ⟨t3, rfl⟩ := hu
  refine aug_int e5 ?_
  exact set_ok ((((S.ext X).ext X2).ext X3).ext (.toks (s₃.toks + 1))) nx e1 e6 (by rw [Has]; exact ⟨_, rfl⟩) λ s' S4 R4 => hQ .next .next ow _ _ .next S4 ((StepR.ofExt (X.trans (X2.trans (X3.trans (.toks _))))).trans R4) hK
theorem isVar_ok {e : PE} {j : Nat} (h : isVar e = some j) : e = .var j := by
  cases e with
  | var i => cases h; rfl
  | _ => exact nos h
theorem augSrc_ok {P : Prop} {C : Cx} {i : Nat} {e : PE} {ρ : List Slot} {es : List D} (h : augSrc C i e ρ = some es) (h1 : ∀ j, e = .var j → ρ[j]? = some (.own es) → P) (h2 : isFresh e = true → (ev C e ρ).e = some (.lst es) → P) : P := by
  unfold augSrc at h
  cases q : isVar e with
  | some j =>
    rw [q] at h
    refine bindE h λ s q' h => h1 j (isVar_ok q) (q'.trans ?_)
    cases s with
    | own es' => cases (iteE h).2; rfl
    | _ => exact nos h
  | none =>
    rw [q] at h
    refine bindE (iteE h).2 λ d q' h' => h2 (iteE h).1 (q'.trans ?_)
    cases d with
    | lst es' => cases h'; rfl
    | _ => exact nos h'
theorem s_augL (FO : FrameOk C nm sc F) (hw : ∀ x, stOk sc x = true → Writable F x) {i : Nat} {e : PE} {x : Str} {p pos : Pos} {v : PySem.Expr} (ho : okVar nm i x = true) (hs : stOk sc x = true) (hm : mt nm e sc v = true) (he : PeOk C n F e v) :
    S1 C n F (.augL i e) (.AugAssign (.Name x p) .Add v pos) := λ A s O₀ ow ρ K Q E hA S hvc hQ => by
  obtain ⟨ds, es, e1, e2, hsz, hK⟩ := hvc
  have nx : F.names[i]? = some x := by rw [FO.names]; exact (okVar_iff ho).1
  refine wpAny_AugAssign_Name (wpAny_var S.fr.kind ((S.at_own e1 nx).1.resolve_right (okVar_iff ho).2) (okVar_class ho).1 ?_)
  have fin : ∀ (b : Addr) (us : Array Value) s₁, Ext s s₁ → s₁.heap.PlainList b us → HasL (Oof O₀ ow ρ) s₁.heap es us.toList → wpAny (model C.prog C.w) A (inplaceOp .Add (.ref (ow i)) (.ref b)) (λ r s₃ => wpAny (model C.prog C.w) A (storeName F.env x r) (λ _ => Q .next) E s₃) E s₁ := by
    intro b us s₁ X hb hus
    obtain ⟨_, vs, hpl, hvs⟩ := (S.ext X).at_own e1 nx
    have h1 := hasL_length hvs
    have h2 := hasL_length hus
    simp only [Array.length_toList] at h1 h2
    refine iadd_list hpl hb (by lia) λ h' hp hsm => ?_
    obtain ⟨S4, R4⟩ := (S.ext X).upd (t := s₁.toks) (ds' := ds ++ es) e1 hsm hp (by rw [Array.toList_append]; exact hasL_append hvs hus)
    refine wpAny_store S4.fr (hw x hs) λ h'' t b' W => ?_
    obtain ⟨S5, R5⟩ := S4.put_same (t := t) (ds := ds ++ es) nx (List.getElem?_set_self (List.getElem?_eq_some_iff.mp e1).1) W
    exact hQ .next .next ow _ _ .next S5 ((StepR.ofExt X).trans (R4.trans R5)) hK
  refine augSrc_ok e2 (λ j ej q => ?_) λ hf ee => he A s O₀ ow ρ _ _ E hA S ee λ u s₁ X hu hfr => ?_
  · subst ej
    refine onName_ok (P := λ v => wpAny (model C.prog C.w) A (eval v F.env) _ E s) hm λ y py hm => ?_
    obtain ⟨hvj, us, hpj, huj⟩ := S.at_own q (show F.names[j]? = some y by rw [FO.names]; exact (okVar_iff hm).1)
    exact wpAny_nameVar S.fr.kind (hvj.resolve_right (okVar_iff hm).2) (okVar_class hm).2 (okVar_class hm).1 (fin _ us s (.refl s) hpj huj)
  · obtain ⟨a, us, rfl, _, hl, hd⟩ := hfr hf _ rfl
    exact fin a us s₁ X hl (hasL_sub (λ a q => .inl (.inl q)) _ _ hd)
theorem s_ret {e : PE} {v : PySem.Expr} {pos : Pos} (he : PeOk C n F e v) : S1 C n F (.ret e) (.Return (some v) pos) := λ A s O₀ ow ρ K Q E hA S hvc hQ => by
  obtain ⟨d, e1, hK⟩ := hvc
  exact wpAny_Return_some (he A s O₀ ow ρ d _ E hA S e1 λ u s' X hu _ => hQ (.ret u) (.ret d) ow ρ s' (.ret hu) (S.ext X) (.ofExt X) hK)
theorem s_if {c : PE} {a b : PS} {c' : PySem.Expr} {a' b' : List Stmt} {pos : Pos} (hc : PbOk C n F c c') (ha : SS C n F a a') (hb : SS C n F b b') : S1 C n F (.ifs c a b) (.If c' a' b' pos) := λ A s O₀ ow ρ K Q E hA S hvc hQ => by
  obtain ⟨t, e1, hK⟩ := hvc
  refine wpAny_If (hc A s O₀ ow ρ t _ E hA S e1 λ s₁ X => ?_)
  cases t
  · exact hb A s₁ O₀ ow ρ K Q E hA (S.ext X) hK λ f fl ow' ρ' s' h1 h2 h3 h4 => hQ f fl ow' ρ' s' h1 h2 ((StepR.ofExt X).trans h3) h4
  · exact ha A s₁ O₀ ow ρ K Q E hA (S.ext X) hK λ f fl ow' ρ' s' h1 h2 h3 h4 => hQ f fl ow' ρ' s' h1 h2 ((StepR.ofExt X).trans h3) h4
theorem s_while {c : PE} {a : PS} {c' : PySem.Expr} {a' : List Stmt} {pos : Pos} (hc : PbOk C n F c c') (ha : SS C n F a a') : S1 C n F (.while_ c a) (.While c' a' [] pos) := λ A s O₀ ow ρ K Q E hA S hvc hQ => by
  obtain ⟨m, hvc⟩ := hvc
  refine wpAny_While (codeAny_whileLoop (λ m s₁ => ∃ ow₁ ρ₁, St F O₀ ow₁ ρ₁ s₁ ∧ StepR F O₀ ow ρ s ow₁ ρ₁ s₁ ∧ vcWhile (λ ρ => (ev C c ρ).b) (vc C a) m ρ₁ K) (λ m s₁ hI => ?_) m ⟨ow, ρ, S, .refl, hvc⟩)
  obtain ⟨ow₁, ρ₁, S₁, R₁, hv⟩ := hI
  cases m with
  | zero => exact hv.elim
  | succ m =>
    obtain ⟨b, e1, hv⟩ := hv
    refine hc A s₁ O₀ ow₁ ρ₁ b _ _ hA S₁ e1 λ s₂ X => ?_
    cases b
    · exact wpAny_execs_nil (hQ .next .next ow₁ ρ₁ s₂ .next (S₁.ext X) (R₁.trans (.ofExt X)) hv)
    · refine ha A s₂ O₀ ow₁ ρ₁ _ _ _ hA (S₁.ext X) hv λ f fl ow' ρ' s' h1 h2 h3 h4 => ?_
      cases h1 with
      | next => exact ⟨m, Nat.lt_succ_self m, ow', ρ', h2, R₁.trans ((StepR.ofExt X).trans h3), h4⟩
      | ret hd => exact hQ _ _ ow' ρ' s' (.ret hd) h2 (R₁.trans ((StepR.ofExt X).trans h3)) h4
theorem s_for (FO : FrameOk C nm sc F) {tg : Tg} {it : PE} {a : PS} {t' it' : PySem.Expr} {a' : List Stmt} {pos : Pos} (T : TgOk F tg t') (nz : needsTup it = false) (hset : ∀ env x, foldedSetIterable it' env x = pure x) (hi : PiOk C n F it it') (ha : SS C n F a a') :
    S1 C n F (.for_ tg it a) (.For t' it' a' [] pos) := λ A s O₀ ow ρ K Q E hA S hvc hQ => by
  obtain ⟨xs, e1, hvc⟩ := hvc
  refine wpAny_For (hi A s O₀ ow ρ xs t' _ E hA S e1 (λ q => by rw [nz] at q; cases q) λ itv s₂ X I2 => ?_) (hset _)
  obtain ⟨I, wr, ro, wg, P, Inv, Mid, src, svs, rfl, q⟩ := I2
  have qk : ((∀ W i s₁ b, Inv W i s₁ → W b → NoSeq s₁.heap b) ∧ (∀ W i v s₁ b, Mid W i v s₁ → W b → NoSeq s₁.heap b)) := by
    rcases q.kind with y | y
    · exact y
    · rw [nz] at y; cases y.1
  refine codeAny_forLoop_any (λ m s₁ => ∃ W k ow₁ ρ₁, m + k = xs.length ∧ Lp W ro src svs s ow ρ F O₀ ow₁ ρ₁ s₁ ∧ Inv W k s₁ ∧ vcFor (vc C a) tg (xs.drop k) ρ₁ K) (λ m s₁ hI => ?_) xs.length ⟨wr, 0, ow, ρ, rfl, Lp.start S X q, q.init, hvc⟩
  obtain ⟨W, k, ow₁, ρ₁, hm, L, hi1, hv⟩ := hI
  cases m with
  | zero =>
    have hk : k = xs.length := by lia
    subst hk
    rw [List.drop_length] at hv
    exact turn_end q L hi1 (.inl qk) λ s' S' R' => wpAny_execs_nil (hQ .next .next ow₁ ρ₁ s' .next S' R' hv)
  | succ m =>
    have hk : k < xs.length := by lia
    have hdrop : xs.drop k = xs[k] :: xs.drop (k + 1) := List.drop_eq_getElem_cons hk
    rw [hdrop] at hv
    obtain ⟨ρ2, e2, hv⟩ := hv
    refine turn_ok hA.1 q T FO.keep0 L hi1 (.inl qk) (List.getElem?_eq_getElem hk) e2 λ W' s₂ L2 hi2 _ => ?_
    refine ha A s₂ O₀ ow₁ ρ2 _ _ _ hA L2.st hv λ f fl ow' ρ' s' h1 h2 h3 h4 => ?_
    cases h1 with
    | next => exact ⟨m, Nat.lt_succ_self m, W', k + 1, ow', ρ', by lia, L2.step' h2 h3, q.stable W' (k + 1) s₂ s' hi2 (λ b o hb e => ((L2.away b hb).step L2.st h3).2 o e) h3.gens (λ b o e => h2.fr.keep b o (FO.keep0 b o e)) (λ b o _ e d => h3.fields L2.st e d), h4⟩
    | ret hd => exact hQ _ _ ow' ρ' s' (.ret hd) h2 (L2.step.trans h3) h4
end
section
variable {C : Cx} {n : Nat} {F : Frame} {nm : List Str} {sc : Scope}
theorem ss_nil : SS C n F .nil [] := λ A s O₀ ow ρ K Q E hA S hv hQ => wpAny_execs_nil (hQ .next .next ow ρ s .next S .refl hv)
theorem ss_frz (FO : FrameOk C nm sc F) {i : Nat} {rest : PS} {ss : List Stmt} (hi : i ≠ 0) (h : SS C n F rest ss) : SS C n F (.seq (.frz i) rest) ss := λ A s O₀ ow ρ K Q E hA S hv hQ => by
  obtain ⟨ds, e, hv⟩ := hv
  obtain ⟨y, ny⟩ : ∃ y, F.names[i]? = some y := ⟨_, List.getElem?_eq_getElem (S.len ▸ (List.getElem?_eq_some_iff.mp e).1)⟩
  have hy : y ≠ Str.empty := by
    rintro rfl
    exact hi (S.nodup i 0 Str.empty ny (by rw [FO.names]; exact FO.zero))
  obtain ⟨S2, R2⟩ := S.freeze ny hy e
  exact h A s O₀ ow _ K Q E hA S2 hv λ f fl ow' ρ' s' h1 h2 h3 h4 => hQ f fl ow' ρ' s' h1 h2 (R2.trans h3) h4
theorem ss_cons {a rest : PS} {st : Stmt} {ss : List Stmt} (h1 : S1 C n F a st) (h2 : SS C n F rest ss) : SS C n F (.seq a rest) (st :: ss) := λ A s O₀ ow ρ K Q E hA S hv hQ => by
  refine wpAny_execs_cons (h1 A s O₀ ow ρ _ _ E hA S hv λ f fl ow' ρ' s' g1 g2 g3 g4 => ?_)
  cases g1 with
  | next => exact h2 A s' O₀ ow' ρ' K Q E hA g2 g4 λ f fl ow2 ρ2 s2 k1 k2 k3 k4 => hQ f fl ow2 ρ2 s2 k1 k2 (g3.trans k3) k4
  | ret hd => exact hQ _ _ ow' ρ' s' (.ret hd) g2 g3 g4
theorem isTrueComp {elt' : PySem.Expr} {gens : List Comprehension} {cs : Scope} {pos : Pos} {x : Str} {p : Pos} {l : Nat} {env : Env} :
    ∃ b, swapsWith (.ListComp elt' gens cs pos) (some (.Name x p)) l env = pure b := ⟨_, rfl⟩
theorem fresh_comp (K : CxOk C n) (FO : FrameOk C nm sc F) (hw : ∀ x, stOk sc x = true → Writable F x) {i : Nat} {elt it cond : PE} {tg : Tg} {caps : List Nat} {x : Str} {p pos pos' : Pos} {elt' it' tg' : PySem.Expr} {ifs : List PySem.Expr} {cs : Scope} (ho : okVar nm i x = true) (hs : stOk sc x = true)
    (M : CompM nm sc elt tg it cond caps elt' it' tg' ifs cs) (hb : swapsWith (.ListComp elt' [⟨tg', it', ifs, 0⟩] cs pos') (some (.Name x p)) pos.line F.env = pure true) : S1 C n F (.asgO i (.comp elt tg it cond caps)) (.Assign [.Name x p] (.ListComp elt' [⟨tg', it', ifs, 0⟩] cs pos') pos) := by
  intro A s O₀ ow ρ KK Q E hA S hvc hQ
  obtain ⟨ds, e1, hK⟩ := hvc
  rw [exec_Assign_Name_used _ _ _ _ hb]
  refine wpAny_bind (wpAny_standAt (wpAny_bind ?_))
  have hu : ∀ ow' s', St F O₀ ow' (ρ.set i (.own ds)) s' → StepR F O₀ ow ρ s ow' (ρ.set i (.own ds)) s' → Q .next s' := λ ow' s' S' R' => hQ .next .next ow' _ s' .next S' R' hK
  obtain ⟨r, e1', he, hr, hz⟩ := mkComp_some (show mkComp (needsTup it) caps.isEmpty ((ev C it ρ).it.bind λ xs => compGo (eltF C tg elt cond (mask caps ρ)) xs) = some (.lst ds) from e1)
  cases he
  obtain ⟨xs, e2, e3⟩ := Option.bind_eq_some_iff.mp e1'
  exact wpAny_bind (comp_run (g := ⟨tg', it', ifs, 0⟩) (gs := []) FO rfl ((main K it).1 FO M.it).pi (noSet M.it) M.sc M.caps M.zip hA S e2 (use := some (assign (.Name x p) F.env)) (comp_loop1 hA FO.zero M.caps M.tg (λ G FG => ((main K elt).1 FG M.elt).pe) (λ G FG => ifs_ok M.ifs λ c' hc' => (main K cond).1 FG hc') e3 hr (λ q => ⟨List.isEmpty_iff.mp (hz q).1, (hz q).2⟩))
    (use_fin FO hw ho hs S λ ow' s' S' R' => wpAny_pure (wpAny_pure (hu ow' s' S' R'))))
theorem fresh_comp2 (K : CxOk C n) (FO : FrameOk C nm sc F) (hw : ∀ x, stOk sc x = true → Writable F x) {i : Nat} {elt it1 it cond : PE} {tg1 tg : Tg} {caps : List Nat} {x : Str} {p pos pos' : Pos} {elt' it1' tg1' it' tg' : PySem.Expr} {ifs : List PySem.Expr} {cs : Scope} (ho : okVar nm i x = true) (hs : stOk sc x = true)
    (M : CompM2 nm sc elt tg1 it1 tg it cond caps elt' it1' tg1' it' tg' ifs cs) (hb : swapsWith (.ListComp elt' [⟨tg1', it1', [], 0⟩, ⟨tg', it', ifs, 0⟩] cs pos') (some (.Name x p)) pos.line F.env = pure true) : S1 C n F (.asgO i (.comp2 elt tg1 it1 tg it cond caps)) (.Assign [.Name x p] (.ListComp elt' [⟨tg1', it1', [], 0⟩, ⟨tg', it', ifs, 0⟩] cs pos') pos) := by
  intro A s O₀ ow ρ KK Q E hA S hvc hQ
  obtain ⟨ds, e1, hK⟩ := hvc
  rw [exec_Assign_Name_used _ _ _ _ hb]
  refine wpAny_bind (wpAny_standAt (wpAny_bind ?_))
  have hu : ∀ ow' s', St F O₀ ow' (ρ.set i (.own ds)) s' → StepR F O₀ ow ρ s ow' (ρ.set i (.own ds)) s' → Q .next s' := λ ow' s' S' R' => hQ .next .next ow' _ s' .next S' R' hK
  obtain ⟨r, e1', he, hr, hz⟩ := mkComp_some (show mkComp false false ((ev C it1 ρ).it.bind λ xs => compGo (λ x => (bindT tg1 x (mask caps ρ)).bind λ ρ1 => (ev C it ρ1).it.bind λ ys => compGo (eltF C tg elt cond ρ1) ys) xs) = some (.lst ds) from e1)
  cases he
  obtain ⟨xs, e2, e3⟩ := Option.bind_eq_some_iff.mp e1'
  exact wpAny_bind (comp_run (g := ⟨tg1', it1', [], 0⟩) (gs := [⟨tg', it', ifs, 0⟩]) FO rfl ((main K it1).1 FO M.it1).pi (noSet M.it1) M.sc M.caps (λ q => by rw [M.n1] at q; cases q) hA S e2 (use := some (assign (.Name x p) F.env)) (comp_loop2 hA FO.zero M.caps M.tg1 M.tg M.disj M.n1 M.n2 (λ G FG => ((main K elt).1 FG M.elt).pe) (λ G FG => ifs_ok M.ifs λ c' hc' => (main K cond).1 FG hc') (λ G FG => ((main K it).1 FG M.it).pi) (noSet M.it) e3 hr)
    (use_fin FO hw ho hs S λ ow' s' S' R' => wpAny_pure (wpAny_pure (hu ow' s' S' R'))))
theorem s_fresh (K : CxOk C n) (FO : FrameOk C nm sc F) (hw : ∀ x, stOk sc x = true → Writable F x) {i : Nat} {e : PE} {x : Str} {p pos : Pos} {v : PySem.Expr} (ho : okVar nm i x = true) (hs : stOk sc x = true) (hf : isFresh e = true) (hm : mt nm e sc v = true) :
    S1 C n F (.asgO i e) (.Assign [.Name x p] v pos) := by
  have plain : (isComp v = false) → S1 C n F (.asgO i e) (.Assign [.Name x p] v pos) := λ h => s_asgO FO hw ho hs hf (swaps_plain h) ((main K e).1 FO hm).pe
  cases e with
  | bin op l r => exact plain (onBin_ok (P := λ v => isComp v = false) hm λ _ _ _ _ _ => rfl)
  | slc e lo hi => exact plain (onSub_ok (P := λ v => isComp v = false) hm λ _ _ _ _ => rfl)
  | lst es => exact plain (onLst_ok (P := λ v => isComp v = false) hm λ _ _ _ => rfl)
  | comp elt tg it cond caps =>
    clear plain
    have hm' := hm
    revert hm'
    refine compM (P := λ v => mt nm (.comp elt tg it cond caps) sc v = true → S1 C n F (.asgO i (.comp elt tg it cond caps)) (.Assign [.Name x p] v pos)) hm λ elt' it' tg' ifs cs pos' M hm' => ?_
    obtain ⟨b, hb⟩ := isTrueComp (elt' := elt') (gens := [⟨tg', it', ifs, 0⟩]) (cs := cs) (pos := pos') (x := x) (p := p) (l := pos.line) (env := F.env)
    cases b with
    | false => exact s_asgO FO hw ho hs hf hb ((main K _).1 FO hm').pe
    | true => exact fresh_comp K FO hw ho hs M hb
  | comp2 elt tg1 it1 tg it cond caps =>
    clear plain
    have hm' := hm
    revert hm'
    refine compM2 (P := λ v => mt nm (.comp2 elt tg1 it1 tg it cond caps) sc v = true → S1 C n F (.asgO i (.comp2 elt tg1 it1 tg it cond caps)) (.Assign [.Name x p] v pos)) hm λ elt' it1' tg1' it' tg' ifs cs pos' M hm' => ?_
    obtain ⟨b, hb⟩ := isTrueComp (elt' := elt') (gens := [⟨tg1', it1', [], 0⟩, ⟨tg', it', ifs, 0⟩]) (cs := cs) (pos := pos') (x := x) (p := p) (l := pos.line) (env := F.env)
    cases b with
    | false => exact s_asgO FO hw ho hs hf hb ((main K _).1 FO hm').pe
    | true => exact fresh_comp2 K FO hw ho hs M hb
  | _ => exact no_eq hf
end
section
variable {C : Cx} {n : Nat} {F : Frame} {nm : List Str} {sc : Scope}
abbrev StmP (C : Cx) (n : Nat) (F : Frame) (nm : List Str) (sc : Scope) (a : PS) : Prop := (∀ st, m1 nm sc a st = true → S1 C n F a st) ∧ (∀ ss, ms nm sc a ss = true → SS C n F a ss)
theorem frzB_ok {P : PS → Prop} {a : PS} {f : Nat → Bool} {y : Bool} (h : frzB a f y = true) (h1 : ∀ i, f i = true → P (.frz i)) (h2 : y = true → P a) : P a := by
  cases a with
  | frz i => exact h1 i h
  | _ => exact h2 h
theorem t_seq (FO : FrameOk C nm sc F) {a b : PS} (i1 : StmP C n F nm sc a) (i2 : StmP C n F nm sc b) : StmP C n F nm sc (.seq a b) :=
  ⟨λ _ h => no_eq h, λ ss h => frzB_ok (P := λ a => SS C n F (.seq a b) ss) h (λ i h => ss_frz FO (bne_iff_ne.mp (band h).1) (i2.2 ss (band h).2))
    λ h => onCons_ok (P := λ ss => SS C n F (.seq a b) ss) h λ s r h => ss_cons (i1.1 s (band h).1) (i2.2 r (band h).2)⟩
section
variable (K : CxOk C n) (FO : FrameOk C nm sc F) (hw : ∀ x, stOk sc x = true → Writable F x)
theorem asgName_ok {P : Stmt → Prop} {st : Stmt} {k : Str → PySem.Expr → Bool} (h : (onAssign st λ t v => onName t λ x => k x v) = true) (H : ∀ x p v pos, k x v = true → P (.Assign [.Name x p] v pos)) : P st :=
  onAssign_ok h λ t v pos h => onName_ok (P := λ t => P (.Assign [t] v pos)) h λ x p h => H x p v pos h
theorem augName_ok {P : Stmt → Prop} {st : Stmt} {op : Operator} {k : Str → PySem.Expr → Bool} (h : (onAug st λ t o v => onName t λ x => decide (o = op) && k x v) = true) (H : ∀ x p v pos, k x v = true → P (.AugAssign (.Name x p) op v pos)) : P st :=
  onAug_ok h λ t o v pos h => onName_ok (P := λ t => P (.AugAssign t o v pos)) h λ x p h => deq (P := λ o => P (.AugAssign (.Name x p) o v pos)) (band h).1 (H x p v pos (band h).2)
include K FO hw
theorem t_asg {i : Nat} {e : PE} : StmP C n F nm sc (.asg i e) :=
  ⟨λ st h => asgName_ok (P := λ st => S1 C n F (.asg i e) st) h λ x p v pos h => s_asg FO hw (band h).1 (band (band h).2).1 (bnot (band (band (band h).2).2).1) ((main K e).1 FO (band (band (band h).2).2).2).pe, λ _ h => no_eq h⟩
theorem t_asgO {i : Nat} {e : PE} : StmP C n F nm sc (.asgO i e) :=
  ⟨λ st h => asgName_ok (P := λ st => S1 C n F (.asgO i e) st) h λ x p v pos h => s_fresh K FO hw (band h).1 (band (band h).2).1 (band (band (band h).2).2).1 (band (band (band h).2).2).2, λ _ h => no_eq h⟩
theorem t_asgT {is : List Nat} {e : PE} : StmP C n F nm sc (.asgT is e) :=
  ⟨λ st h => onAssign_ok (P := λ st => S1 C n F (.asgT is e) st) h λ t v pos h => onTup_ok (P := λ t => mTgS nm sc (.many is) t = true → S1 C n F (.asgT is e) (.Assign [t] v pos)) (band h).1 (λ es k p _ q =>
    s_asgT FO hw q (bnot (band (band h).2).1) ((main K e).1 FO (band (band h).2).2).pe) (band h).1, λ _ h => no_eq h⟩
theorem t_setI {i : Nat} {k e : PE} : StmP C n F nm sc (.setI i k e) :=
  ⟨λ st h => onAssign_ok (P := λ st => S1 C n F (.setI i k e) st) h λ t v pos h => onSub_ok (P := λ t => S1 C n F (.setI i k e) (.Assign [t] v pos)) h λ o j p h => onName_ok (P := λ o => S1 C n F (.setI i k e) (.Assign [.Subscript o j p] v pos)) h λ x q h =>
    s_setI FO (band h).1 ((main K e).1 FO (band (band (band (band h).2).2).2).2).pe ((main K k).1 FO (band (band (band (band h).2).2).2).1).pe, λ _ h => no_eq h⟩
theorem t_aug {i : Nat} {op : Operator} {e : PE} : StmP C n F nm sc (.aug i op e) :=
  ⟨λ st h => augName_ok (P := λ st => S1 C n F (.aug i op e) st) h λ x p v pos h => s_aug FO hw (band h).1 (band (band h).2).1 ((main K e).1 FO (band (band h).2).2).pe, λ _ h => no_eq h⟩
theorem t_augL {i : Nat} {e : PE} : StmP C n F nm sc (.augL i e) :=
  ⟨λ st h => augName_ok (P := λ st => S1 C n F (.augL i e) st) h λ x p v pos h => s_augL FO hw (band h).1 (band (band h).2).1 (band (band h).2).2 ((main K e).1 FO (band (band h).2).2).pe, λ _ h => no_eq h⟩
theorem t_augI {i : Nat} {op : Operator} {k e : PE} : StmP C n F nm sc (.augI i op k e) :=
  ⟨λ st h => onAug_ok (P := λ st => S1 C n F (.augI i op k e) st) h λ t a v pos h => onSub_ok (P := λ t => S1 C n F (.augI i op k e) (.AugAssign t a v pos)) h λ o j p h => onName_ok (P := λ o => S1 C n F (.augI i op k e) (.AugAssign (.Subscript o j p) a v pos)) h λ x q h =>
    deq (P := λ a => S1 C n F (.augI i op k e) (.AugAssign (.Subscript (.Name x q) j p) a v pos)) (band h).1 (s_augI FO (band (band h).2).1 (noSlice (band (band (band h).2).2).1) ((main K e).1 FO (band (band (band (band h).2).2).2).2).pe ((main K k).1 FO (band (band (band (band h).2).2).2).1).pe), λ _ h => no_eq h⟩
theorem t_app {i : Nat} {e : PE} : StmP C n F nm sc (.app i e) :=
  ⟨λ st h => onExprS_ok (P := λ st => S1 C n F (.app i e) st) h λ c q h => onMeth_ok (P := λ c => S1 C n F (.app i e) (.Expr c q)) h λ o y apos xs pos h => onName_ok (P := λ o => S1 C n F (.app i e) (.Expr (.Call (.Attribute o y apos) xs [] pos) q)) h λ x p h => onOne_ok (P := λ xs => S1 C n F (.app i e) (.Expr (.Call (.Attribute (.Name x p) y apos) xs [] pos) q)) h λ v h =>
    beqS (P := λ y => S1 C n F (.app i e) (.Expr (.Call (.Attribute (.Name x p) y apos) [v] [] pos) q)) (band h).1 (s_app FO (band (band h).2).1 (band (band (band h).2).2).1 ((main K e).1 FO (band (band (band h).2).2).2).pe (noStar (band (band (band h).2).2).2)), λ _ h => no_eq h⟩
theorem t_ifs {c : PE} {a b : PS} (i1 : StmP C n F nm sc a) (i2 : StmP C n F nm sc b) : StmP C n F nm sc (.ifs c a b) :=
  ⟨λ st h => onIf_ok (P := λ st => S1 C n F (.ifs c a b) st) h λ x y z pos h => s_if ((main K c).1 FO (band h).1).pb (i1.2 _ (band (band h).2).1) (i2.2 _ (band (band h).2).2), λ _ h => no_eq h⟩
theorem t_while {c : PE} {a : PS} (i1 : StmP C n F nm sc a) : StmP C n F nm sc (.while_ c a) :=
  ⟨λ st h => onWhile_ok (P := λ st => S1 C n F (.while_ c a) st) h λ x y pos h => s_while ((main K c).1 FO (band h).1).pb (i1.2 _ (band h).2), λ _ h => no_eq h⟩
theorem t_for {tg : Tg} {it : PE} {a : PS} (i1 : StmP C n F nm sc a) : StmP C n F nm sc (.for_ tg it a) :=
  ⟨λ st h => onFor_ok (P := λ st => S1 C n F (.for_ tg it a) st) h λ t i b pos h => s_for FO (mTgS_ok (band (band h).2).1 FO.names hw) (bnot (band h).1) (noSet (band (band (band h).2).2).1) ((main K it).1 FO (band (band (band h).2).2).1).pi (i1.2 _ (band (band (band h).2).2).2), λ _ h => no_eq h⟩
theorem t_ret {e : PE} : StmP C n F nm sc (.ret e) :=
  ⟨λ st h => onRet_ok (P := λ st => S1 C n F (.ret e) st) h λ v pos h => s_ret ((main K e).1 FO h).pe, λ _ h => no_eq h⟩
end
theorem stm (K : CxOk C n) (FO : FrameOk C nm sc F) (hw : ∀ x, stOk sc x = true → Writable F x) (a : PS) : StmP C n F nm sc a := by
  induction a with
  | nil =>
    exact ⟨λ _ h => no_eq h, λ ss h => onNil_ok (P := λ ss => SS C n F .nil ss) h λ _ => ss_nil⟩
  | frz i => exact ⟨λ _ h => no_eq h, λ _ h => no_eq h⟩
  | seq a b i1 i2 => exact t_seq FO i1 i2
  | asg i e => exact t_asg K FO hw
  | asgO i e => exact t_asgO K FO hw
  | asgT is e => exact t_asgT K FO hw
  | setI i k e => exact t_setI K FO hw
  | aug i op e => exact t_aug K FO hw
  | augL i e => exact t_augL K FO hw
  | augI i op k e => exact t_augI K FO hw
  | app i e => exact t_app K FO hw
  | ifs c a b i1 i2 => exact t_ifs K FO hw i1 i2
  | while_ c a i1 => exact t_while K FO hw i1
  | for_ tg it a i1 => exact t_for K FO hw i1
  | ret e => exact t_ret K FO hw
end
noncomputable def FnSpec (C : Cx) (n : Nat) (f : Str) (spec : List D → Option D) : Prop := ∃ a o fd, C.mg f = some (.ref a) ∧ C.h0.get? a = some o ∧ o.data = .func fd ∧
  ∀ A s (O : Addr → Prop) (Q : Value → Shared → Prop) (E : Value → Shared → Prop) ds d vs, AOk n A → Keep0 C s.heap → AllBare s.gens → (∀ a, O a → ∃ us, s.heap.IsList a us) → HasL O s.heap ds vs → spec ds = some d →
    HandsP O s d Q → wpAny (model C.prog C.w) A (call (.ref a) vs) Q E s
theorem cellsFrom_some : ∀ (names : List (Str × NameKind)) (n : Nat) (acc : List (Str × Addr)) {x : Str}, ((x, .cell) ∈ names ∨ (acc.lookup x).isSome = true) → ((cellsFrom n names acc).lookup x).isSome = true
  | [], _, _, _, h => h.elim (λ q => by cases q) id
  | (m, k) :: r, n, acc, x, h => by
    have push : (acc.lookup x).isSome = true → (((m, n) :: acc).lookup x).isSome = true := λ h => by
      rw [List.lookup_cons]; split
      · rfl
      · exact h
    unfold cellsFrom
    split
    · refine cellsFrom_some r (n + 1) _ ?_
      rcases h with h | h
      · rcases List.mem_cons.mp h with e | h
        · cases e; exact .inr (by rw [List.lookup_cons_self]; rfl)
        · exact .inl h
      · exact .inr (push h)
    · rename_i hk
      refine cellsFrom_some r n acc (h.imp (λ h => ?_) id)
      rcases List.mem_cons.mp h with e | h
      · cases e; exact absurd rfl hk
      · exact h
theorem bindL_other {kindOf : Str → Option NameKind} {x : Str} : ∀ {binds : List (Str × Value)} {m : Str → Option Value}, (∀ p ∈ binds, p.1 ≠ x) → bindL kindOf binds m x = m x
  | [], _, _ => rfl
  | (n, v) :: r, m, h => by
    unfold bindL
    rw [bindL_other λ p hp => h p (List.mem_cons_of_mem _ hp)]
    split
    · exact if_neg (λ e => h (n, v) List.mem_cons_self e.symm)
    · rfl
theorem bindC_other {kindOf : Str → Option NameKind} {x : Str} : ∀ {binds : List (Str × Value)} {m : Str → Option Value}, (∀ p ∈ binds, p.1 ≠ x) → bindC kindOf binds m x = m x
  | [], _, _ => rfl
  | (n, v) :: r, m, h => by
    unfold bindC
    rw [bindC_other λ p hp => h p (List.mem_cons_of_mem _ hp)]
    split
    · rfl
    · exact if_neg (λ e => h (n, v) List.mem_cons_self e.symm)
theorem bindL_at {kindOf : Str → Option NameKind} {x : Str} {v : Value} (hk : kindOf x = some .local) : ∀ {names : List Str} {vs : List Value} {m : Str → Option Value} {i : Nat}, names.Nodup → names[i]? = some x → vs[i]? = some v → bindL kindOf (names.zip vs) m x = some v
  | [], _, _, i, _, e, _ => by simp at e
  | n :: ns, [], _, i, _, _, e => by simp at e
  | n :: ns, u :: us, m, 0, nd, e1, e2 => by
    simp only [List.getElem?_cons_zero, Option.some.injEq] at e1 e2
    subst e1 e2
    show bindL kindOf ((n, u) :: ns.zip us) m n = some u
    unfold bindL
    rw [bindL_other, if_pos hk, if_pos rfl]
    intro p hp e
    have := List.of_mem_zip (show (p.1, p.2) ∈ ns.zip us from hp)
    exact (List.nodup_cons.mp nd).1 (e ▸ this.1)
  | n :: ns, u :: us, m, i + 1, nd, e1, e2 => by
    show bindL kindOf ((n, u) :: ns.zip us) m x = some v
    unfold bindL
    exact bindL_at hk (List.nodup_cons.mp nd).2 (by simpa using e1) (by simpa using e2)
theorem bindC_at {kindOf : Str → Option NameKind} {x : Str} {v : Value} (hk : ¬ kindOf x = some .local) : ∀ {names : List Str} {vs : List Value} {m : Str → Option Value} {i : Nat}, names.Nodup → names[i]? = some x → vs[i]? = some v → bindC kindOf (names.zip vs) m x = some v
  | [], _, _, i, _, e, _ => by simp at e
  | n :: ns, [], _, i, _, _, e => by simp at e
  | n :: ns, u :: us, m, 0, nd, e1, e2 => by
    simp only [List.getElem?_cons_zero, Option.some.injEq] at e1 e2
    subst e1 e2
    show bindC kindOf ((n, u) :: ns.zip us) m n = some u
    unfold bindC
    rw [bindC_other, if_neg hk, if_pos rfl]
    intro p hp e
    have := List.of_mem_zip (show (p.1, p.2) ∈ ns.zip us from hp)
    exact (List.nodup_cons.mp nd).1 (e ▸ this.1)
  | n :: ns, u :: us, m, i + 1, nd, e1, e2 => by
    show bindC kindOf ((n, u) :: ns.zip us) m x = some v
    unfold bindC
    exact bindC_at hk (List.nodup_cons.mp nd).2 (by simpa using e1) (by simpa using e2)
noncomputable def initSlots (nm : List Str) (ds : List D) : List Slot := .undef :: (ds.map .fro ++ List.replicate (nm.length - 1 - ds.length) .undef)
structure HeadOk (nm ps : List Str) (sc : Scope) : Prop where
  names : ∃ r, nm = Str.empty :: (ps ++ r)
  nodup : nm.Nodup
  kind : sc.kind = .function
  par : ∀ x ∈ ps, stOk sc x = true
  co : sc.isCoroutine = false
  gen : sc.isGenerator = false
theorem stOk_or {sc : Scope} {x : Str} (h : stOk sc x = true) : sc.names.lookup x = some .local ∨ sc.names.lookup x = some .cell := (Bool.or_eq_true_iff.mp h).imp eq_of_beq eq_of_beq
theorem init_own {nm : List Str} {ds : List D} {i : Nat} {es : List D} (e : (initSlots nm ds)[i]? = some (Slot.own es)) : False := by
  rcases List.mem_cons.mp (List.mem_of_getElem? e) with q | q
  · cases q
  · rcases List.mem_append.mp q with q | q
    · obtain ⟨_, _, q⟩ := List.mem_map.mp q; cases q
    · cases (List.mem_replicate.mp q).2
theorem init_fro {nm ps r : List Str} (hnm : nm = Str.empty :: (ps ++ r)) {ds : List D} (hlen : ds.length = ps.length) {i : Nat} {x : Str} {d : D} (e : (initSlots nm ds)[i]? = some (Slot.fro d)) (nx : nm[i]? = some x) : ∃ j : Nat, ds[j]? = some d ∧ ps[j]? = some x := by
  subst hnm
  cases i with
  | zero => cases e
  | succ i =>
    have e : (ds.map Slot.fro ++ List.replicate ((Str.empty :: (ps ++ r)).length - 1 - ds.length) Slot.undef)[i]? = some (.fro d) := e
    have nx : (ps ++ r)[i]? = some x := nx
    by_cases hi : i < ds.length
    · rw [List.getElem?_append_left (by rw [List.length_map]; exact hi), List.getElem?_map] at e
      obtain ⟨d', e1, e2⟩ := Option.map_eq_some_iff.mp e
      cases e2
      rw [List.getElem?_append_left (hlen ▸ hi)] at nx
      exact ⟨i, e1, nx⟩
    · rw [List.getElem?_append_right (by rw [List.length_map]; exact Nat.le_of_not_lt hi)] at e
      cases (List.mem_replicate.mp (List.mem_of_getElem? e)).2
theorem arg_at {nm ps : List Str} {sc : Scope} (H : HeadOk nm ps sc) {f : Str} {a L : Addr} {cd : Value} {h₁ : Heap} {vs : List Value} {j : Nat} {x : Str} {v : Value} (nx : ps[j]? = some x) (ev : vs[j]? = some v)
    (hns : h₁.Ns L (bindL (envOfC f sc L a cd).kindOf (ps.zip vs) λ _ => none))
    (hcl : ∀ c, (cellsFrom (L + 1) sc.names []).lookup x = some c → h₁.IsCell c (bindC (envOfC f sc L a cd).kindOf (ps.zip vs) (λ _ => none) x)) : VarAt (envOfC f sc L a cd) h₁ x v := by
  obtain ⟨r, hnm⟩ := H.names
  have nd : ps.Nodup := (List.nodup_append.mp (List.nodup_cons.mp (hnm ▸ H.nodup)).2).1
  rcases stOk_or (H.par x (List.mem_of_getElem? nx)) with hp | hp
  · exact .inl ⟨hp, _, hns, bindL_at hp nd nx ev⟩
  · obtain ⟨c, hc⟩ := Option.isSome_iff_exists.mp (cellsFrom_some sc.names (L + 1) [] (.inl (mem_of_lookup hp)))
    have hcell := hcl c hc
    rw [bindC_at (λ q => nomatch hp.symm.trans (show sc.names.lookup x = some .local from q)) nd nx ev] at hcell
    exact .inr ⟨.inl hp, c, hc, hcell⟩
theorem enter_st {C : Cx} {nm ps : List Str} {sc : Scope} (H : HeadOk nm ps sc) {f : Str} {a L : Addr} {cd : Value} {s : Shared} {h₁ : Heap} {tk : Nat} {vs : List Value} {ds : List D} {O : Addr → Prop} (hL : s.heap.objs.size = L) (hk0 : Keep0 C s.heap) (hbare : AllBare s.gens) (hO : ∀ a, O a → ∃ us, s.heap.IsList a us) (hvs : HasL O s.heap ds vs) (hlen : ds.length = ps.length)
    (Fr₁ : Fr s.heap L h₁ (bindL (envOfC f sc L a cd).kindOf (ps.zip vs) λ _ => none)) (X : Cl L (cellsFrom (L + 1) sc.names []) h₁ (bindC (envOfC f sc L a cd).kindOf (ps.zip vs) λ _ => none)) :
    FrameOk C nm sc ⟨envOfC f sc L a cd, s.heap, nm, true⟩ ∧ (∀ x, stOk sc x = true → Writable ⟨envOfC f sc L a cd, s.heap, nm, true⟩ x) ∧ St ⟨envOfC f sc L a cd, s.heap, nm, true⟩ O (λ _ => 0) (initSlots nm ds) { s with heap := h₁, toks := tk } := by
  subst hL
  obtain ⟨r, hnm⟩ := H.names
  refine ⟨⟨by rw [hnm]; rfl, rfl, λ x hx => hx, λ x hx => ⟨rfl, hx⟩, hk0⟩, λ x hx => ⟨(stOk_or hx).imp id λ q => ⟨rfl, q⟩⟩,
    ⟨H.kind, rfl, rfl, ⟨_, Fr₁.ns⟩, get_none_of_ge (Nat.le_refl _), λ _ x hx => ?_, λ _ x y c e1 e2 => name_of_addr X.apart (PySem.mem_of_lookup e1) (PySem.mem_of_lookup e2), Fr₁.keep⟩, λ i sl x e nx => ?_, λ i j es es' e => (init_own e).elim, λ i es e => (init_own e).elim, ?_, λ i j x h1 h2 => ?_, hbare, hO⟩
  · obtain ⟨c, hc⟩ := Option.isSome_iff_exists.mp (cellsFrom_some sc.names (s.heap.objs.size + 1) [] (.inl (mem_of_lookup hx)))
    exact ⟨c, _, hc, X.cell x c hc, get_none_of_ge (Nat.le_of_lt (X.above x c (PySem.mem_of_lookup hc)))⟩
  · cases sl with
    | undef => trivial
    | own es => exact (init_own e).elim
    | fro d =>
      obtain ⟨j, e1, e2⟩ := init_fro hnm hlen e nx
      obtain ⟨v, ev, hv⟩ := hasL_get j hvs e1
      exact ⟨v, arg_at H e2 ev Fr₁.ns (X.cell x), has_keep (T := λ _ => False) (seqKeep_ext Fr₁.keep) (λ _ f => f.elim) d v (has_sub (λ a q => .inl (q.elim id λ ⟨i, es, e, _⟩ => (init_own e).elim)) d v hv)⟩
  · show (initSlots nm ds).length = nm.length
    subst hnm
    simp only [initSlots, List.length_cons, List.length_append, List.length_map, List.length_replicate]
    omega
  · exact (List.getElem?_inj (List.getElem?_eq_some_iff.mp (show nm[i]? = some x from h1)).1 H.nodup).mp ((show nm[i]? = some x from h1).trans (show nm[j]? = some x from h2).symm)
theorem enter_binds {nm ps : List Str} {sc : Scope} (H : HeadOk nm ps sc) {vs : List Value} {k : Nat} : ∀ x : Str × Value, x ∈ ps.zip vs → sc.names.lookup x.1 = some .local ∨ sc.names.lookup x.1 = some .cell ∧ ((cellsFrom k sc.names []).lookup x.1).isSome = true :=
  λ x hx => (stOk_or (H.par _ (List.of_mem_zip (show (x.1, x.2) ∈ ps.zip vs from hx)).1)).imp id λ h => ⟨h, cellsFrom_some _ _ _ (.inl (mem_of_lookup h))⟩
theorem fn_ok {C : Cx} {n : Nat} (K : CxOk C n) {f : Str} {params : Arguments} {body : List Stmt} {sc : Scope} {pm cd doc : Value} {a : Addr} {o : Obj} {nm ps : List Str} {b : PS}
    (hm : C.mg f = some (.ref a)) (ho : C.h0.get? a = some o) (hd : o.data = .func (docDef f params body sc pm cd doc)) (hcd : C.h0.CodeRec cd f)
    (hms : ms nm sc b body = true) (H : HeadOk nm ps sc) (hbind : ∀ vs, vs.length = ps.length → bindArgs (docDef f params body sc pm cd doc) ⟨vs, []⟩ = pure (ps.zip vs))
    {spec : List D → Option D} (hspec : ∀ ds d, spec ds = some d → ds.length = ps.length ∧ vc C b (initSlots nm ds) (λ fl _ => fl = .ret d)) : FnSpec C (n + 1) f spec := by
  refine ⟨a, o, _, hm, ho, hd, λ A s O Q E ds d vs hA hk0 hbare hO hvs hs hQ => ?_⟩
  obtain ⟨hlen, hvc⟩ := hspec ds d hs
  refine wpAny_call (call_cells_ret (hA.room) (hk0 _ _ ho) hd (K.gf.lim.keeps hk0) (hcd.keeps hk0) (hbind vs ((hasL_length hvs).trans hlen)) (enter_binds H) (λ h₁ tk Fr₁ X => ?_) H.co H.gen H.kind)
  obtain ⟨FO, hw, S⟩ := enter_st (C := C) (tk := tk) H rfl hk0 hbare hO hvs hlen Fr₁ X
  refine (stm K FO hw b).2 body hms (A.deeper _) _ O (λ _ => 0) (initSlots nm ds) _ _ _ hA.deeper S hvc λ fl flo ow' ρ' s' h1 h2 h3 h4 => ?_
  cases h1 with
  | next => cases h4
  | ret hr =>
    cases h4
    exact hQ _ s' ⟨h2.fr.keep, h3.os, λ _ => h2.bare, h3.gens⟩ (has_sub (λ a q => .inl (.inl q)) d _ hr)
structure Simple (p : Arguments) (ps : List Str) : Prop where
  args : p.args.map (·.arg) = ps
  po : p.posonlyargs = []
  ko : p.kwonlyargs = []
  va : p.vararg = none
  ka : p.kwarg = none
noncomputable def BindG (ps : List Str) (fd : List Arg → FuncData) (as : List Arg) (vs : List Value) : Prop := bindArgs (fd as) ⟨vs, []⟩ = pure (ps.zip vs)
noncomputable def Binds (ps : List Str) : Prop := ∀ (f : Str) (body : List Stmt) (sc : Scope) (pm cd doc : Value) (kd : List (Option Expr)) (df : List Expr) (as : List Arg) (vs : List Value), as.map (·.arg) = ps → vs.length = ps.length →
  BindG ps (λ as => docDef f ⟨[], as, none, [], kd, none, df⟩ body sc pm cd doc) as vs
theorem stepB {P : List Arg → List Value → Prop} {x : Str} {xs : List Str} {as : List Arg} {vs : List Value} (ha : as.map (·.arg) = x :: xs) (hv : vs.length = (x :: xs).length)
    (H : ∀ an p r v us, r.map (·.arg) = xs → us.length = xs.length → P (⟨x, an, p⟩ :: r) (v :: us)) : P as vs := by
  cases as with
  | nil => cases ha
  | cons a r =>
    cases vs with
    | nil => cases hv
    | cons v us =>
      obtain ⟨y, an, p⟩ := a
      obtain ⟨rfl, h⟩ := List.cons.inj ha
      exact H an p r v us h (Nat.succ.inj hv)
theorem endB {P : List Arg → List Value → Prop} {as : List Arg} {vs : List Value} (ha : as.map (·.arg) = []) (hv : vs.length = ([] : List Str).length) (H : P [] []) : P as vs := by
  cases as with
  | nil => cases vs with
    | nil => exact H
    | cons => cases hv
  | cons => cases ha
theorem bi_x : Binds ["x"] := λ _ _ _ _ _ _ _ _ _ _ ha hv =>
  stepB (P := λ as vs => BindG _ _ (as) (vs)) ha hv λ an0 p0 _ v0 _ ha hv => endB (P := λ as vs => BindG _ _ (⟨"x", an0, p0⟩ :: as) (v0 :: vs)) ha hv rfl
theorem bi_rgb : Binds ["r", "g", "b"] := λ _ _ _ _ _ _ _ _ _ _ ha hv =>
  stepB (P := λ as vs => BindG _ _ (as) (vs)) ha hv λ an0 p0 _ v0 _ ha hv => stepB (P := λ as vs => BindG _ _ (⟨"r", an0, p0⟩ :: as) (v0 :: vs)) ha hv λ an1 p1 _ v1 _ ha hv => stepB (P := λ as vs => BindG _ _ (⟨"r", an0, p0⟩ :: ⟨"g", an1, p1⟩ :: as) (v0 :: v1 :: vs)) ha hv λ an2 p2 _ v2 _ ha hv => endB (P := λ as vs => BindG _ _ (⟨"r", an0, p0⟩ :: ⟨"g", an1, p1⟩ :: ⟨"b", an2, p2⟩ :: as) (v0 :: v1 :: v2 :: vs)) ha hv rfl
theorem bi_hsv : Binds ["h", "s", "v"] := λ _ _ _ _ _ _ _ _ _ _ ha hv =>
  stepB (P := λ as vs => BindG _ _ (as) (vs)) ha hv λ an0 p0 _ v0 _ ha hv => stepB (P := λ as vs => BindG _ _ (⟨"h", an0, p0⟩ :: as) (v0 :: vs)) ha hv λ an1 p1 _ v1 _ ha hv => stepB (P := λ as vs => BindG _ _ (⟨"h", an0, p0⟩ :: ⟨"s", an1, p1⟩ :: as) (v0 :: v1 :: vs)) ha hv λ an2 p2 _ v2 _ ha hv => endB (P := λ as vs => BindG _ _ (⟨"h", an0, p0⟩ :: ⟨"s", an1, p1⟩ :: ⟨"v", an2, p2⟩ :: as) (v0 :: v1 :: v2 :: vs)) ha hv rfl
theorem bi_addr : Binds ["addr"] := λ _ _ _ _ _ _ _ _ _ _ ha hv =>
  stepB (P := λ as vs => BindG _ _ (as) (vs)) ha hv λ an0 p0 _ v0 _ ha hv => endB (P := λ as vs => BindG _ _ (⟨"addr", an0, p0⟩ :: as) (v0 :: vs)) ha hv rfl
theorem bi_numbers : Binds ["numbers"] := λ _ _ _ _ _ _ _ _ _ _ ha hv =>
  stepB (P := λ as vs => BindG _ _ (as) (vs)) ha hv λ an0 p0 _ v0 _ ha hv => endB (P := λ as vs => BindG _ _ (⟨"numbers", an0, p0⟩ :: as) (v0 :: vs)) ha hv rfl
theorem bi_corners : Binds ["corners"] := λ _ _ _ _ _ _ _ _ _ _ ha hv =>
  stepB (P := λ as vs => BindG _ _ (as) (vs)) ha hv λ an0 p0 _ v0 _ ha hv => endB (P := λ as vs => BindG _ _ (⟨"corners", an0, p0⟩ :: as) (v0 :: vs)) ha hv rfl
theorem bi_text : Binds ["text"] := λ _ _ _ _ _ _ _ _ _ _ ha hv =>
  stepB (P := λ as vs => BindG _ _ (as) (vs)) ha hv λ an0 p0 _ v0 _ ha hv => endB (P := λ as vs => BindG _ _ (⟨"text", an0, p0⟩ :: as) (v0 :: vs)) ha hv rfl
theorem bi_words : Binds ["words", "row", "ahead"] := λ _ _ _ _ _ _ _ _ _ _ ha hv =>
  stepB (P := λ as vs => BindG _ _ (as) (vs)) ha hv λ an0 p0 _ v0 _ ha hv => stepB (P := λ as vs => BindG _ _ (⟨"words", an0, p0⟩ :: as) (v0 :: vs)) ha hv λ an1 p1 _ v1 _ ha hv => stepB (P := λ as vs => BindG _ _ (⟨"words", an0, p0⟩ :: ⟨"row", an1, p1⟩ :: as) (v0 :: v1 :: vs)) ha hv λ an2 p2 _ v2 _ ha hv => endB (P := λ as vs => BindG _ _ (⟨"words", an0, p0⟩ :: ⟨"row", an1, p1⟩ :: ⟨"ahead", an2, p2⟩ :: as) (v0 :: v1 :: v2 :: vs)) ha hv rfl
theorem bi_pairs : Binds ["pairs"] := λ _ _ _ _ _ _ _ _ _ _ ha hv =>
  stepB (P := λ as vs => BindG _ _ (as) (vs)) ha hv λ an0 p0 _ v0 _ ha hv => endB (P := λ as vs => BindG _ _ (⟨"pairs", an0, p0⟩ :: as) (v0 :: vs)) ha hv rfl
theorem bi_counts : Binds ["counts"] := λ _ _ _ _ _ _ _ _ _ _ ha hv =>
  stepB (P := λ as vs => BindG _ _ (as) (vs)) ha hv λ an0 p0 _ v0 _ ha hv => endB (P := λ as vs => BindG _ _ (⟨"counts", an0, p0⟩ :: as) (v0 :: vs)) ha hv rfl
theorem bi_told : Binds ["told", "frieze"] := λ _ _ _ _ _ _ _ _ _ _ ha hv =>
  stepB (P := λ as vs => BindG _ _ (as) (vs)) ha hv λ an0 p0 _ v0 _ ha hv => stepB (P := λ as vs => BindG _ _ (⟨"told", an0, p0⟩ :: as) (v0 :: vs)) ha hv λ an1 p1 _ v1 _ ha hv => endB (P := λ as vs => BindG _ _ (⟨"told", an0, p0⟩ :: ⟨"frieze", an1, p1⟩ :: as) (v0 :: v1 :: vs)) ha hv rfl
theorem bi_ways : Binds ["threes", "size"] := λ _ _ _ _ _ _ _ _ _ _ ha hv =>
  stepB (P := λ as vs => BindG _ _ (as) (vs)) ha hv λ an0 p0 _ v0 _ ha hv => stepB (P := λ as vs => BindG _ _ (⟨"threes", an0, p0⟩ :: as) (v0 :: vs)) ha hv λ an1 p1 _ v1 _ ha hv => endB (P := λ as vs => BindG _ _ (⟨"threes", an0, p0⟩ :: ⟨"size", an1, p1⟩ :: as) (v0 :: v1 :: vs)) ha hv rfl
theorem bi_lit : Binds ["threes", "frieze", "size", "draw"] := λ _ _ _ _ _ _ _ _ _ _ ha hv =>
  stepB (P := λ as vs => BindG _ _ (as) (vs)) ha hv λ an0 p0 _ v0 _ ha hv => stepB (P := λ as vs => BindG _ _ (⟨"threes", an0, p0⟩ :: as) (v0 :: vs)) ha hv λ an1 p1 _ v1 _ ha hv => stepB (P := λ as vs => BindG _ _ (⟨"threes", an0, p0⟩ :: ⟨"frieze", an1, p1⟩ :: as) (v0 :: v1 :: vs)) ha hv λ an2 p2 _ v2 _ ha hv => stepB (P := λ as vs => BindG _ _ (⟨"threes", an0, p0⟩ :: ⟨"frieze", an1, p1⟩ :: ⟨"size", an2, p2⟩ :: as) (v0 :: v1 :: v2 :: vs)) ha hv λ an3 p3 _ v3 _ ha hv => endB (P := λ as vs => BindG _ _ (⟨"threes", an0, p0⟩ :: ⟨"frieze", an1, p1⟩ :: ⟨"size", an2, p2⟩ :: ⟨"draw", an3, p3⟩ :: as) (v0 :: v1 :: v2 :: v3 :: vs)) ha hv rfl
theorem bi_script : Binds ["script"] := λ _ _ _ _ _ _ _ _ _ _ ha hv =>
  stepB (P := λ as vs => BindG _ _ (as) (vs)) ha hv λ an0 p0 _ v0 _ ha hv => endB (P := λ as vs => BindG _ _ (⟨"script", an0, p0⟩ :: as) (v0 :: vs)) ha hv rfl
theorem bi_iterator : Binds ["iterator"] := λ _ _ _ _ _ _ _ _ _ _ ha hv =>
  stepB (P := λ as vs => BindG _ _ (as) (vs)) ha hv λ an0 p0 _ v0 _ ha hv => endB (P := λ as vs => BindG _ _ (⟨"iterator", an0, p0⟩ :: as) (v0 :: vs)) ha hv rfl
theorem bi_octets : Binds ["octets"] := λ _ _ _ _ _ _ _ _ _ _ ha hv =>
  stepB (P := λ as vs => BindG _ _ (as) (vs)) ha hv λ an0 p0 _ v0 _ ha hv => endB (P := λ as vs => BindG _ _ (⟨"octets", an0, p0⟩ :: as) (v0 :: vs)) ha hv rfl
theorem bind_simple {f : Str} {params : Arguments} {body : List Stmt} {sc : Scope} {pm cd doc : Value} {ps : List Str} (B : Binds ps) (S : Simple params ps) (vs : List Value) (h : vs.length = ps.length) :
    bindArgs (docDef f params body sc pm cd doc) ⟨vs, []⟩ = pure (ps.zip vs) := by
  obtain ⟨po, args, va, ko, kd, ka, df⟩ := params
  obtain ⟨s1, s2, s3, s4, s5⟩ := S
  dsimp only at s1 s2 s3 s4 s5
  subst s2 s3 s4 s5
  exact B f body sc pm cd doc kd df args vs s1 h
noncomputable def simpleB (p : Arguments) (ps : List Str) : Bool := p.args.map (·.arg) == ps && p.posonlyargs.isEmpty && p.kwonlyargs.isEmpty && p.vararg.isNone && p.kwarg.isNone
theorem simpleB_ok {p : Arguments} {ps : List Str} (h : simpleB p ps = true) : Simple p ps := by
  have h4 := band h
  have h3 := band h4.1
  have h2 := band h3.1
  have h1 := band h2.1
  exact ⟨eq_of_beq h1.1, List.isEmpty_iff.mp h1.2, List.isEmpty_iff.mp h2.2, Option.isNone_iff_eq_none.mp h3.2, Option.isNone_iff_eq_none.mp h4.2⟩
noncomputable def headB (nm ps : List Str) (sc : Scope) : Bool := nm.take (ps.length + 1) == Str.empty :: ps && decide nm.Nodup && sc.kind == .function && ps.all (stOk sc) && !sc.isCoroutine && !sc.isGenerator
theorem headB_ok {nm ps : List Str} {sc : Scope} (h : headB nm ps sc = true) : HeadOk nm ps sc := by
  have h5 := band h
  have h4 := band h5.1
  have h3 := band h4.1
  have h2 := band h3.1
  have h1 := band h2.1
  exact ⟨⟨nm.drop (ps.length + 1), (List.take_append_drop (ps.length + 1) nm).symm.trans (congrArg (· ++ nm.drop (ps.length + 1)) (eq_of_beq h1.1))⟩, of_decide_eq_true h1.2, eq_of_beq h2.2, λ x hx => List.all_eq_true.mp h3.2 x hx, bnot h4.2, bnot h5.2⟩
theorem onSome_eq {α : Type} {o : Option α} {k : α → Bool} (h : onSome o k = true) : ∃ a, o = some a ∧ k a = true := by
  cases o with
  | none => exact no_eq h
  | some a => exact ⟨a, rfl, h⟩
noncomputable def onDef (p : Program) (f : Str) (k : DefRec → Bool) : Bool := onSome ((recsOf p).find? λ d => d.name == f) k
theorem onDef_ok {p : Program} {loose : List Str} {mean : ExcName → Option Value} {mg mb : Str → Option Value} {h0 : Heap} (T : Top p loose mean mg mb h0) {f : Str} {k : DefRec → Bool} (h : onDef p f k = true) {P : Prop}
    (H : ∀ d a o pm code doc, k d = true → mg f = some (.ref a) → h0.get? a = some o → o.data = .func (docDef f d.params d.body d.scope pm code doc) → h0.CodeRec code f → P) : P := by
  obtain ⟨d, hd, hk⟩ := onSome_eq h
  have hn : d.name = f := eq_of_beq (List.find?_some (p := λ d : DefRec => d.name == f) hd)
  obtain ⟨a, o, pm, code, doc, h1, h2, h3, h4⟩ := T.fn d (List.mem_of_find?_eq_some hd)
  rw [hn] at h1 h3 h4
  exact H d a o pm code doc hk h1 h2 h3 h4
noncomputable def fnB (p : Program) (f : Str) (nm ps : List Str) (b : PS) : Bool := onDef p f λ d => ms nm d.scope b d.body && headB nm ps d.scope && simpleB d.params ps
theorem fn_of {C : Cx} {n : Nat} {p : Program} {loose : List Str} {mean : ExcName → Option Value} {mb : Str → Option Value} (T : Top p loose mean C.mg mb C.h0) (K : CxOk C n) {f : Str} {nm ps : List Str} {b : PS} (B : Binds ps) (hB : fnB p f nm ps b = true)
    {spec : List D → Option D} (hspec : ∀ ds d, spec ds = some d → ds.length = ps.length ∧ vc C b (initSlots nm ds) (λ fl _ => fl = .ret d)) : FnSpec C (n + 1) f spec :=
  onDef_ok T hB λ _ _ _ _ _ _ hk h1 h2 h3 h4 => fn_ok K h1 h2 h3 h4 (band (band hk).1).1 (headB_ok (band (band hk).1).2) (λ vs hv => bind_simple B (simpleB_ok (band hk).2) vs hv) hspec
noncomputable def Cx.add (C : Cx) (f : Str) (spec : List D → Option D) : Cx := { C with fn := λ g => if g = f then spec else C.fn g }
theorem FnSpec.le {C : Cx} {n m : Nat} {f : Str} {spec : List D → Option D} (h : FnSpec C n f spec) (hn : n ≤ m) : FnSpec C m f spec := by
  obtain ⟨a, o, fd, h1, h2, h3, h4⟩ := h
  exact ⟨a, o, fd, h1, h2, h3, λ A s O Q E ds d vs hA => h4 A s O Q E ds d vs (hA.le hn)⟩
theorem GnOk.le {C : Cx} {n m : Nat} {f : Str} (h : GnOk C n f) (hn : n ≤ m) : GnOk C m f := by
  obtain ⟨a, o, fd, h1, h2, h3, h4⟩ := h
  exact ⟨a, o, fd, h1, h2, h3, λ A s O t nt Q E ds d vs hA => h4 A s O t nt Q E ds d vs (hA.le hn)⟩
theorem CxOk.le {C : Cx} {n m : Nat} (K : CxOk C n) (hn : n ≤ m) : CxOk C m :=
  ⟨K.gf, K.gd, K.bi, K.rng, K.zip, λ f ds d e => FnSpec.le (spec := C.fn f) (K.fn f ds d e) hn, λ f ds d e => (K.gn f ds d e).le hn, K.tok⟩
theorem CxOk.add {C : Cx} {n : Nat} (K : CxOk C n) {f : Str} {spec : List D → Option D} (h : FnSpec C n f spec) : CxOk (C.add f spec) n := by
  refine ⟨K.gf, K.gd, K.bi, K.rng, K.zip, λ g ds d e => ?_, K.gn, K.tok⟩
  show FnSpec C n g (if g = f then spec else C.fn g)
  by_cases hg : g = f
  · subst hg; rw [if_pos rfl]; exact h
  · rw [if_neg hg]
    have e' : (if g = f then spec else C.fn g) ds = some d := e
    rw [if_neg hg] at e'
    exact K.fn g ds d e'
section
variable {prog : Program} {w : World} {A : Around} {E : Value → Shared → Prop} {s : Shared} {O : Addr → Prop}
structure EnSt (h : Heap) (n : Nat) (x : Str) (t : Tok) (i : Nat) : Prop where
  it : h.IsStrIter n (strIterType x) x t i
  en : ∃ old, IsEnum h (n + 1) n i old
structure EnMid (h : Heap) (n : Nat) (x : Str) (t : Tok) (i : Nat) (T : Addr) : Prop where
  it : h.IsStrIter n (strIterType x) x t i
  en : ∃ item, IsEnumOut h (n + 1) n i item T
theorem draws_str (hh : A.handled = none) (it : Addr) (x : Str) (t : Tok) : Draws prog w A it [it] x.cps.size (SignAt x) (λ i h => h.IsStrIter it (strIterType x) x t i) := by
  unfold strIterType
  split
  · exact Draws.strAscii hh it x t
  · exact Draws.strWide hh it x t
end
section
variable {M : Model} {A : Around} {R : GenEnd} {Y : Protocol} {n : Nat} {s₀ : Shared} {c : Code} {fs : List PySem.Frame} {s : Shared} {env : Env}
  {K : Flow → Sem Fin} {H : Value → Sem Fin} {gd : Bool → Bool} {lv : List Value → List Value}
theorem seg_If {test : PySem.Expr} {body orelse : List Stmt} {pos : Pos}
    (h : wpAny M (A.over c fs) (isTrue test env (eval test env)) (λ b s' => if b then Seg M A R Y n s₀ c ((execs body env).wrap K H gd lv) fs s' else Seg M A R Y n s₀ c ((execs orelse env).wrap K H gd lv) fs s')
      (λ x s' => Seg M A R Y n s₀ c (H x) fs s') s) : Seg M A R Y n s₀ c ((exec (.If test body orelse pos) env).wrap K H gd lv) fs s := by
  have e : exec (.If test body orelse pos) env = (standAt pos >>= λ _ => (isTrue test env (eval test env) >>= λ b => if b then execs body env else execs orelse env)) := by
    rw [exec_If]
  rw [e, Sem.bind_eq_wrap', Sem.wrap_wrap]
  refine seg_wrap (wpAny_standAt ?_)
  rw [Sem.bind_eq_wrap', Sem.wrap_wrap]
  refine seg_wrap (wpAny_mono h (λ b s' h' => ?_) λ _ _ x => x)
  cases b
  · exact h'
  · exact h'
theorem seg_For {target iter : PySem.Expr} {body orelse : List Stmt} {pos : Pos}
    (h : wpAny M (A.over c fs) (eval iter env) (λ x s₁ => wpAny M (A.over c fs) (pyIter x) (λ it s₂ => ∀ p, Seg M A R Y n s₀ (.forLoop target it body orelse env) (M.den (.forLoop target it body orelse env))
      (.ret (λ r => ((match r with | .ok f => (.pure f : Sem Flow) | .error e => .raise e).onRaise λ (x : Value) => do
        if (← field x 1) == Value.none then unsupported "frame.own-activation:exception-without-traceback"
        setFlight x env.frame).wrap K H gd lv) none (gd false) (lv []) c p [] :: fs) s₂) (λ x s' => Seg M A R Y n s₀ c (H x) fs s') s₁) (λ x s' => Seg M A R Y n s₀ c (H x) fs s') s)
    (hs : ∀ x, foldedSetIterable iter env x = pure x := by intro _; rfl) : Seg M A R Y n s₀ c ((exec (.For target iter body orelse pos) env).wrap K H gd lv) fs s := by
  rw [exec_For]
  rw [Sem.bind_eq_wrap', Sem.wrap_wrap]
  refine seg_wrap (wpAny_standAt ?_)
  rw [Sem.bind_eq_wrap', Sem.wrap_wrap]
  refine seg_wrap (wpAny_mono h (λ x s₁ h₁ => ?_) λ _ _ x => x)
  rw [Sem.bind_eq_wrap', Sem.wrap_wrap]
  refine seg_wrap (wpAny_of_eq (hs x) ?_)
  rw [Sem.bind_eq_wrap', Sem.wrap_wrap]
  refine seg_wrap (wpAny_standAt ?_)
  rw [Sem.bind_eq_wrap', Sem.wrap_wrap]
  refine seg_wrap (wpAny_holding (wpAny_mono h₁ (λ it s₂ h₂ => ?_) λ _ _ x => x))
  exact seg_call h₂
end
section
variable {prog : Program} {w : World} {A : Around} {R : GenEnd} {Y : Protocol} {n : Nat} {s₀ : Shared} {fs : List PySem.Frame} {s : Shared} {env : Env}
theorem seg_forLoop {target : PySem.Expr} {it : Value} {body orelse : List Stmt}
    (h : wpAny (model prog w) (A.over (.forLoop target it body orelse env) fs) (pyNext it) (λ r s₁ => match r with
        | none => Seg (model prog w) A R Y n s₀ (.forLoop target it body orelse env) (.pure (.again (.block orelse env))) fs s₁
        | some v => wpAny (model prog w) (A.over (.forLoop target it body orelse env) fs) (letOwnedTupleGo target it v) (λ _ s₂ =>
            wpAny (model prog w) (A.over (.forLoop target it body orelse env) fs) (assign target env v) (λ _ s₃ =>
              Seg (model prog w) A R Y n s₀ (.forLoop target it body orelse env) ((execs body env).wrap (λ f => match f with
                | .next | .cont => .pure (.again (.forLoop target it body orelse env))
                | .brk => .pure (.done .next)
                | .ret v => .pure (.done (.ret v))) (λ e => (do noteFrame e env; theTreesLotGoes e : Sem Unit).wrap (λ _ => .raise e) .raise id id) id id) fs s₃) (λ _ _ => False) s₂) (λ _ _ => False) s₁) (λ _ _ => False) s) :
    Seg (model prog w) A R Y n s₀ (.forLoop target it body orelse env) ((model prog w).den (.forLoop target it body orelse env)) fs s := by
  show Seg _ A R Y n s₀ _ ((forTurn target it body orelse env).onRaise (λ x => do noteFrame x env; theTreesLotGoes x)) fs s
  unfold forTurn
  rw [Sem.onRaise_eq_wrap, Sem.bind_eq_wrap', Sem.wrap_wrap]
  refine seg_wrap (wpAny_standAt ?_)
  rw [Sem.bind_eq_wrap', Sem.wrap_wrap]
  refine seg_wrap (wpAny_onRaise (wpAny_mono h (λ r s₁ h₁ => ?_) λ _ _ f => f.elim))
  cases r with
  | none => exact h₁
  | some v =>
    show Seg _ A R Y n s₀ _ (Sem.wrap _ _ _ _ (letOwnedTupleGo target it v >>= _)) fs s₁
    rw [Sem.bind_eq_wrap', Sem.wrap_wrap]
    refine seg_wrap (wpAny_mono h₁ (λ _ s₂ h₂ => ?_) λ _ _ f => f.elim)
    rw [Sem.bind_eq_wrap', Sem.wrap_wrap]
    refine seg_wrap (wpAny_mono h₂ (λ _ s₃ h₃ => ?_) λ _ _ f => f.elim)
    rw [Sem.bind_eq_wrap', Sem.wrap_wrap]
    rw [Sem.wrap_congr (execs body env) _ _ (K' := λ f => match f with
            | .next | .cont => .pure (.again (.forLoop target it body orelse env))
            | .brk => .pure (.done .next)
            | .ret v => .pure (.done (.ret v))) (H' := (λ e => (do noteFrame e env; theTreesLotGoes e : Sem Unit).wrap (λ _ => .raise e) .raise id id))
        (λ f => by cases f <;> rfl)
        (λ e => by first | exact Sem.bind_eq_wrap _ _ | (show (do noteFrame e env; theTreesLotGoes e : Sem Unit).bind (λ _ => .raise e) = _; rw [Sem.bind_eq_wrap]))]
    exact h₃
end
section
variable {prog : Program} {w : World} {A : Around} {E : Value → Shared → Prop} {s : Shared}
theorem next_gen {a : Addr} {g n : Nat} {gs : GenState} {P : Nat → Shared → Shared → Prop} {Y : Protocol} {Q : Option Value → Shared → Prop} (hh : A.handled = none)
    (hl : s.heap.NoLimit) (hroom : A.depth < recursionLimit)
    (hg : s.heap.IsGen a g) (hgs : s.gens[g]? = some gs)
    (hgo : gs.Goes (model prog w) A.in1 (λ n s₀ r s₁ => r = .ok (.ret .none) ∧ P n s₀ s₁) Y n (.send .none) (s.setGen g .running))
    (hY : ∀ v s₁ gs', gs'.bare = true → Y (n - 1) (s.setGen g .running) v s₁ (λ r' s'' => match n with
        | 0 => False
        | m + 1 => gs'.Goes (model prog w) A.in1 (λ n s₀ r s₁ => r = .ok (.ret .none) ∧ P n s₀ s₁) Y m r' s'') → Q (some v) (s₁.setGen g gs'))
    (hP : ∀ s₁, P n (s.setGen g .running) s₁ → ∀ h', (∀ b o, s₁.heap.get? b = some o → h'.get? b = some o) → Q none { s₁.setGen g .finished with heap := h' }) :
    wpAny (model prog w) A (pyNext (.ref a)) Q E s := by
  unfold pyNext
  refine wpAny_bind (wpAny_attempt (wpAny_callSpecial?_slot (name := Str.ofString "__next__") hg.typeIs slot_gen_next
    (wpAny_call_entry slot_gen_next hg.typeIs entry_gen_next ?_ (args_gen_next _))))
  show wpAny _ _ (Builtin.Generator.genWake (.ref a) (.send .none)) _ _ s
  unfold Builtin.Generator.genWake
  refine wpAny_bind (wpAny_holding (wpAny_genNumber hg (wpAny_bind (wpAny_genState hgs ?_))))
  cases gs with
  | running => exact hgo.elim
  | finished => exact hgo.elim
  | _ =>
    refine wpAny_bind (wpAny_roomToWake hl hroom ?_)
    show wpAny _ _ (.resume g (.send .none) [] _) _ _ s
    refine wpAny_resumeQ hgs hgo (λ x s₁ hx => ?_) (λ v s₁ gs' hb hv => ?_)
    · obtain ⟨rfl, hp⟩ := hx
      show wpAny _ _ (newExc (.type "StopIteration") [] >>= _) _ _ _
      refine wpAny_bind ?_
      simp only [newExc, newTuple]
      refine wpAny_bind (wpAny_newObj_type ?_ (by size_fits))
      refine wpAny_bind (m := firstArgMember _ _) (wpAny_of_eq (a := Value.none) (by first | rfl | (simp only [firstArgMember]; rfl)) ?_)
      refine wpAny_newObj_type ?_ (by size_fits)
      simp only [raiseNew]
      refine wpAny_bind (wpAny_bind (wpAny_handled ?_))
      rw [show A.in1.handled = none from hh]
      refine wpAny_throw ?_
      refine wpAny_bind (wpAny_isInstance (T := "StopIteration") (b := true) ⟨_, Heap.get?_push_size _ rfl, rfl⟩ isSubtype_stop ?_)
      exact wpAny_pure (hP s₁ hp _ λ b o hb => Heap.get?_push_of_some _ (Heap.get?_push_of_some _ hb))
    · exact wpAny_pure ⟨v, rfl, wpAny_pure (hY v s₁ gs' hb hv)⟩
end
noncomputable def escD (i : Nat) (e : Bool) : List Nat → List D
  | [] => if e then [.tup [.int ((i - 1 : Nat) : Int), .str ⟨#[92]⟩]] else []
  | c :: cs => if e then .tup [.int (i : Int), .str ⟨#[92, c]⟩] :: escD (i + 1) false cs else if c = 92 then escD (i + 1) true cs else .tup [.int (i : Int), .str ⟨#[c]⟩] :: escD (i + 1) false cs
structure GRel (hc : Heap) (L : Addr) (s₀ s : Shared) : Prop where
  heap : ∀ b o, s₀.heap.get? b = some o → b ≠ L → ¬ (hc.get? b = none ∧ iterObj o) → s.heap.get? b = some o
  gens : ∀ (i : Nat) (g : GenState), s₀.gens[i]? = some g → s.gens[i]? = some g
  os : s.os = s₀.os
theorem GRel.refl {hc L s} : GRel hc L s s := ⟨λ _ _ e _ _ => e, λ _ _ e => e, rfl⟩
theorem GRel.ext {hc L s₀ s s'} (x : GRel hc L s₀ s) (X : Ext s s') : GRel hc L s₀ s' := ⟨λ b o e h1 h2 => X.heap b o (x.heap b o e h1 h2), λ i g e => X.gens i g (x.gens i g e), X.os.trans x.os⟩
theorem GRel.step {hc s₀ s s' F ow ρ ow' ρ'} (x : GRel hc F.env.locals s₀ s) (r : StepR F (λ _ => False) ow ρ s ow' ρ' s') (hn : ∀ a, ¬ Own ow ρ a) (hcell : F.env.cells = []) : GRel hc F.env.locals s₀ s' := by
  refine ⟨λ b o e h1 h2 => r.rest b o (x.heap b o e h1 h2) h1 ?_ ?_, λ i g e => r.gens i g (x.gens i g e), r.os.trans x.os⟩
  · rintro ⟨_, y, _, hc'⟩; rw [hcell] at hc'; cases hc'
  · rintro (f | f)
    · exact f
    · exact hn b f
structure Later (C : Cx) (L : Addr) (s s₂ : Shared) : Prop where
  loc : ∀ o, s.heap.get? L = some o → s₂.heap.get? L = some o
  fields : ∀ b o vs, s.heap.get? b = some o → o.data = .fields vs → s₂.heap.get? b = some o
  keep : Keep0 C s₂.heap
  bare : AllBare s₂.gens
noncomputable def slotsG (x : Str) (p : Int) (e : Bool) (c : Slot) : List Slot := [.undef, .fro (.str x), .fro (.int p), .fro (.bool e), c]
noncomputable def flatC (c : Slot) : Prop := c = .undef ∨ ∃ y, c = .fro (.str y)
theorem slotsG_own {x p e c ow a} (hc : flatC c) : ¬ Own ow (slotsG x p e c) a := by
  rintro ⟨i, ds, h, _⟩
  have := List.mem_of_getElem? h
  unfold slotsG at this
  simp only [List.mem_cons, List.not_mem_nil, or_false, reduceCtorEq, false_or] at this
  rcases hc with rfl | ⟨y, rfl⟩ <;> cases this
theorem St.later {C : Cx} {F : Frame} {ow ow' : Nat → Addr} {x : Str} {p : Int} {e : Bool} {c : Slot} {s s₂ : Shared} (hc : flatC c) (S : St F (λ _ => False) ow (slotsG x p e c) s) (K : Later C F.env.locals s s₂) (hb : F.base = C.h0) (hcell : F.env.cells = []) (hk : ∀ y, F.env.kindOf y ≠ some .cell) :
    St F (λ _ => False) ow' (slotsG x p e c) s₂ := by
  have noOwn : ∀ {i : Nat} {ds : List D}, (slotsG x p e c)[i]? = some (Slot.own ds) → False := λ {i ds} h => slotsG_own (ow := λ _ => 0) (a := 0) hc ⟨i, ds, h, rfl⟩
  refine ⟨⟨S.fr.kind, S.fr.globals, S.fr.builtins, ?_, S.fr.fresh, λ _ y q => absurd q (hk y), S.fr.apart, λ b o q => K.keep b o (by rw [← hb]; exact q)⟩, λ i sl y h ny => ?_, λ i j ds es h => (noOwn h).elim, λ i ds h => (noOwn h).elim, S.len, S.nodup, K.bare, λ _ f => f.elim⟩
  · obtain ⟨m, o, es, ep, ho, r⟩ := S.fr.ns
    exact ⟨m, o, es, ep, K.loc o ho, r⟩
  · have q := S.slots i sl y h ny
    cases sl with
    | undef => trivial
    | own ds => exact (noOwn h).elim
    | fro d =>
      obtain ⟨v, hv, hd⟩ := q
      have fd : flatD d = true := by
        have := List.mem_of_getElem? h
        unfold slotsG at this
        simp only [List.mem_cons, List.not_mem_nil, or_false] at this
        rcases this with q | q | q | q | q
        · cases q
        · cases q; rfl
        · cases q; rfl
        · cases q; rfl
        · rcases hc with rfl | ⟨y, rfl⟩
          · cases q
          · cases q; rfl
      refine ⟨v, ?_, flat_has fd hd⟩
      rcases hv with ⟨k, m, ⟨o, es, ep, ho, r⟩, e'⟩ | ⟨_, c', hc', _⟩
      · exact .inl ⟨k, m, ⟨o, es, ep, K.loc o ho, r⟩, e'⟩
      · rw [hcell] at hc'; cases hc'
theorem EnSt.later {h h' : Heap} {n : Nat} {x : Str} {t : Tok} {i : Nat} (Z : EnSt h n x t i) (k : ∀ b o vs, h.get? b = some o → o.data = .fields vs → h'.get? b = some o) : EnSt h' n x t i := by
  obtain ⟨o, e, c, d⟩ := Z.it
  obtain ⟨old, e2⟩ := Z.en
  exact ⟨⟨o, k _ _ _ e d, c, d⟩, old, k _ _ _ e2 rfl⟩
theorem EnSt.obj {h : Heap} {n : Nat} {x : Str} {t : Tok} {i : Nat} (Z : EnSt h n x t i) : ∀ b, (b = n ∨ b = n + 1) → ∀ o, h.get? b = some o → iterObj o := by
  rintro b (rfl | rfl) o ho
  · obtain ⟨o', e, c, d⟩ := Z.it
    rw [ho] at e; cases e
    refine ⟨⟨_, d⟩, ?_⟩
    unfold strIterType at c
    split at c
    · exact .inr (.inr c)
    · exact .inr (.inl c)
  · obtain ⟨old, e2⟩ := Z.en
    have e3 : h.get? (n + 1) = some _ := e2
    rw [ho] at e3; cases e3
    exact ⟨⟨_, rfl⟩, .inl rfl⟩
noncomputable def nmG : List Str := ["", "addr", "pos", "escape", "ch"]
noncomputable def pY1 : PE := .tup (.cons (.var 2) (.cons (.bin .Add (.cS "\\") (.var 4)) .nil))
noncomputable def pY2 : PE := .tup (.cons (.var 2) (.cons (.var 4) .nil))
noncomputable def pY3 : PE := .tup (.cons (.var 2) (.cons (.cS "\\") .nil))
inductive Yields (nm : List Str) (sc : Scope) (p : PE) : Stmt → Prop
  | mk {e : PySem.Expr} {p1 p2 : Pos} : mt nm p sc e = true → Yields nm sc p (.Expr (.Yield (some e) p1) p2)
noncomputable def onYield (e : Expr) (k : Expr → Bool) : Bool := dite (e.ctorIdx = 13) (λ h => Expr.Yield.elim (motive_1 := λ _ => Bool) e h λ v p => onSome v k) λ _ => false
theorem onYield_ok {P : Expr → Prop} {e : Expr} {k : Expr → Bool} (h : onYield e k = true) (H : ∀ v p, k v = true → P (.Yield (some v) p)) : P e :=
  dite_ok h λ hc hk => Expr.Yield.elim (motive_1 := λ e => ∀ hc, Expr.Yield.elim (motive_1 := λ _ => Bool) e hc (λ v p => onSome v k) = true → P e) e hc (λ v p _ hk => onSome_ok (P := λ v => P (.Yield v p)) hk λ v hk => H v p hk) hc hk
noncomputable def yieldsB (nm : List Str) (sc : Scope) (p : PE) (st : Stmt) : Bool := onExprS st λ y => onYield y λ e => mt nm p sc e
theorem yieldsB_ok {nm sc p st} (h : yieldsB nm sc p st = true) : Yields nm sc p st :=
  onExprS_ok (P := λ st => Yields nm sc p st) h λ y q h => onYield_ok (P := λ y => Yields nm sc p (.Expr y q)) h λ _ _ h => .mk h
structure GenShape (sc : Scope) (s1 s2 : Stmt) (tgt arg t1 t2 t3 : PySem.Expr) (y1 a1 a2 y2 y3 : Stmt) : Prop where
  s1 : m1 nmG sc (.asg 2 (.cI 0)) s1 = true
  s2 : m1 nmG sc (.asg 3 (.cB false)) s2 = true
  tg : mTgS nmG sc (.many [2, 4]) tgt = true
  gl : isGlob sc "enumerate" = true
  arg : mt nmG (.var 1) sc arg = true
  t1 : mt nmG (.var 3) sc t1 = true
  y1 : Yields nmG sc pY1 y1
  a1 : m1 nmG sc (.asg 3 (.cB false)) a1 = true
  t2 : mt nmG (.cmp .Eq (.var 4) (.cS "\\")) sc t2 = true
  a2 : m1 nmG sc (.asg 3 (.cB true)) a2 = true
  y2 : Yields nmG sc pY2 y2
  t3 : mt nmG (.var 3) sc t3 = true
  y3 : Yields nmG sc pY3 y3
inductive GenBody (sc : Scope) : List Stmt → Prop
  | mk {s1 s2 es k tp arg t1 t2 t3 y1 a1 a2 y2 y3 ep cp p1 p2 p3 p4} : GenShape sc s1 s2 (.Tuple es k tp) arg t1 t2 t3 y1 a1 a2 y2 y3 →
      GenBody sc [s1, s2, .For (.Tuple es k tp) (.Call (.Name "enumerate" ep) [arg] [] cp) [.If t1 [y1, a1] [.If t2 [a2] [y2] p3] p2] [] p1, .If t3 [y3] [] p4]
noncomputable def genLoopB (sc : Scope) (b : List Stmt) : Bool := onOne b λ s => onIf s λ t1 ya r => onTwo ya λ y1 a1 => onOne r λ s2 => onIf s2 λ t2 x y => onOne x λ a2 => onOne y λ y2 =>
  mt nmG (.var 3) sc t1 && (yieldsB nmG sc pY1 y1 && (m1 nmG sc (.asg 3 (.cB false)) a1 && (mt nmG (.cmp .Eq (.var 4) (.cS "\\")) sc t2 && (m1 nmG sc (.asg 3 (.cB true)) a2 && yieldsB nmG sc pY2 y2))))
theorem genLoopB_ok {sc : Scope} {P : List Stmt → Prop} {b : List Stmt} (h : genLoopB sc b = true) (H : ∀ t1 y1 a1 t2 a2 y2 p2 p3, mt nmG (.var 3) sc t1 = true → Yields nmG sc pY1 y1 → m1 nmG sc (.asg 3 (.cB false)) a1 = true → mt nmG (.cmp .Eq (.var 4) (.cS "\\")) sc t2 = true → m1 nmG sc (.asg 3 (.cB true)) a2 = true → Yields nmG sc pY2 y2 →
    P [.If t1 [y1, a1] [.If t2 [a2] [y2] p3] p2]) : P b :=
  onOne_ok h λ s h => onIf_ok (P := λ s => P [s]) h λ t1 ya r p2 h => onTwo_ok (P := λ ya => P [.If t1 ya r p2]) h λ y1 a1 h => onOne_ok (P := λ r => P [.If t1 [y1, a1] r p2]) h λ s2 h => onIf_ok (P := λ s => P [.If t1 [y1, a1] [s] p2]) h λ t2 x y p3 h =>
    onOne_ok (P := λ x => P [.If t1 [y1, a1] [.If t2 x y p3] p2]) h λ a2 h => onOne_ok (P := λ y => P [.If t1 [y1, a1] [.If t2 [a2] y p3] p2]) h λ y2 h =>
    H t1 y1 a1 t2 a2 y2 p2 p3 (band h).1 (yieldsB_ok (band (band h).2).1) (band (band (band h).2).2).1 (band (band (band (band h).2).2).2).1 (band (band (band (band (band h).2).2).2).2).1 (yieldsB_ok (band (band (band (band (band h).2).2).2).2).2)
noncomputable def genForB (sc : Scope) (st : Stmt) : Bool := onFor st λ t i b => onTup t λ _ => onCall i λ f xs _ => onName f λ en => onOne xs λ arg => en == ("enumerate" : Str) && (mTgS nmG sc (.many [2, 4]) t && (isGlob sc "enumerate" && (mt nmG (.var 1) sc arg && genLoopB sc b)))
theorem genForB_ok {sc : Scope} {P : Stmt → Prop} {st : Stmt} (h : genForB sc st = true) (H : ∀ es k tp ep arg cp b p1, mTgS nmG sc (.many [2, 4]) (.Tuple es k tp) = true → isGlob sc "enumerate" = true → mt nmG (.var 1) sc arg = true → genLoopB sc b = true →
    P (.For (.Tuple es k tp) (.Call (.Name "enumerate" ep) [arg] [] cp) b [] p1)) : P st :=
  onFor_ok h λ t i b p1 h => onTup_ok (P := λ t => (onCall i λ f xs _ => onName f λ en => onOne xs λ arg => en == ("enumerate" : Str) && (mTgS nmG sc (.many [2, 4]) t && (isGlob sc "enumerate" && (mt nmG (.var 1) sc arg && genLoopB sc b)))) = true → P (.For t i b [] p1)) h (λ es k tp h' h =>
    onCall_ok (P := λ i => P (.For (.Tuple es k tp) i b [] p1)) h λ f xs cp h => onName_ok (P := λ f => P (.For (.Tuple es k tp) (.Call f xs [] cp) b [] p1)) h λ en ep h => onOne_ok (P := λ xs => P (.For (.Tuple es k tp) (.Call (.Name en ep) xs [] cp) b [] p1)) h λ arg h =>
    beqS (P := λ en => P (.For (.Tuple es k tp) (.Call (.Name en ep) [arg] [] cp) b [] p1)) (band h).1 (H es k tp ep arg cp b p1 (band (band h).2).1 (band (band (band h).2).2).1 (band (band (band (band h).2).2).2).1 (band (band (band (band h).2).2).2).2)) (onTup_ok (P := λ t' => t' = t → (onCall i λ f xs _ => onName f λ en => onOne xs λ arg => en == ("enumerate" : Str) && (mTgS nmG sc (.many [2, 4]) t && (isGlob sc "enumerate" && (mt nmG (.var 1) sc arg && genLoopB sc b)))) = true) h (λ _ _ _ h _ => h) rfl)
noncomputable def genB (sc : Scope) (body : List Stmt) : Bool := onCons body λ s1 r => onCons r λ s2 r => onTwo r λ w v => genForB sc w && onIf v λ t3 x y => onNil y (onOne x λ y3 =>
  m1 nmG sc (.asg 2 (.cI 0)) s1 && (m1 nmG sc (.asg 3 (.cB false)) s2 && (mt nmG (.var 3) sc t3 && yieldsB nmG sc pY3 y3)))
theorem genB_ok {sc body} (h : genB sc body = true) : GenBody sc body :=
  onCons_ok (P := λ b => GenBody sc b) h λ s1 r h => onCons_ok (P := λ r => GenBody sc (s1 :: r)) h λ s2 r h => onTwo_ok (P := λ r => GenBody sc (s1 :: s2 :: r)) h λ w v h =>
    genForB_ok (P := λ w => GenBody sc [s1, s2, w, v]) (band h).1 λ es k tp ep arg cp b p1 g1 g2 g3 g4 => genLoopB_ok (P := λ b => GenBody sc [s1, s2, .For (.Tuple es k tp) (.Call (.Name "enumerate" ep) [arg] [] cp) b [] p1, v]) g4 λ t1 y1 a1 t2 a2 y2 p2 p3 f1 f2 f3 f4 f5 f6 =>
    onIf_ok (P := λ v => GenBody sc [s1, s2, .For (.Tuple es k tp) (.Call (.Name "enumerate" ep) [arg] [] cp) [.If t1 [y1, a1] [.If t2 [a2] [y2] p3] p2] [] p1, v]) (band h).2 λ t3 x y p4 h =>
    onNil_ok (P := λ y => GenBody sc [s1, s2, .For (.Tuple es k tp) (.Call (.Name "enumerate" ep) [arg] [] cp) [.If t1 [y1, a1] [.If t2 [a2] [y2] p3] p2] [] p1, .If t3 x y p4]) h λ h =>
    onOne_ok (P := λ x => GenBody sc [s1, s2, .For (.Tuple es k tp) (.Call (.Name "enumerate" ep) [arg] [] cp) [.If t1 [y1, a1] [.If t2 [a2] [y2] p3] p2] [] p1, .If t3 x [] p4]) h λ y3 h =>
    .mk ⟨(band h).1, (band (band h).2).1, g1, g2, g3, f1, f2, f3, f4, f5, f6, (band (band (band h).2).2).1, yieldsB_ok (band (band (band h).2).2).2⟩
theorem st_fits (c : Nat) : ((⟨#[c]⟩ : Str) == ("\\" : Str)) = decide (c = 92) := by
  have : ("\\" : Str) = ⟨#[92]⟩ := by decide +kernel
  rw [this]
  by_cases h : c = 92
  · subst h; simp
  · simp [h]
section
variable {C : Cx} {n : Nat} {A : Around}
structure GFrame (C : Cx) (sc : Scope) (F : Frame) : Prop where
  fo : FrameOk C nmG sc F
  hw : ∀ x, stOk sc x = true → Writable F x
  base : F.base = C.h0
  cells : F.env.cells = []
  nocell : ∀ y, F.env.kindOf y ≠ some .cell
  co : F.env.scope.isCoroutine = false
noncomputable def genR (hc : Heap) (L : Addr) : GenEnd := λ n s₀ r s₁ => r = .ok (.ret .none) ∧ (n = 0 ∧ GRel hc L s₀ s₁ ∧ AllBare s₁.gens ∧ ∃ m, s₁.heap.Ns L m)
noncomputable def genY (C : Cx) (hc : Heap) (L : Addr) (xs : List D) : Protocol := λ m s₀ v s' kap => (m < xs.length ∧ ∃ x, xs[xs.length - 1 - m]? = some x ∧ Has (λ _ => False) s'.heap x v) ∧ GRel hc L s₀ s' ∧ AllBare s'.gens ∧ (∃ m, s'.heap.Ns L m) ∧ ∀ s₂, Later C L s' s₂ → kap (.send .none) s₂
theorem yield_seg (K : CxOk C n) {sc : Scope} {F : Frame} (GFr : GFrame C sc F) {hc : Heap} {xs : List D} {c : Code} {fs : List PySem.Frame} (hA : AOk n (A.over c fs)) (hfs : splitAtGen fs = none) (hfg : fs.any Frame.guarded = false)
    {p : PE} {st : Stmt} (hy : Yields nmG sc p st) {x : Str} {i : Int} {e : Bool} {ch : Slot} (hch : flatC ch) {ow : Nat → Addr} {s₀ s : Shared} (S : St F (λ _ => False) ow (slotsG x i e ch) s) (G : GRel hc F.env.locals s₀ s)
    {d : D} (hd : (ev C p (slotsG x i e ch)).e = some d) {m k : Nat} (hm : m + 1 + k = xs.length) (hx : xs[k]? = some d) {Kf : Flow → Sem Fin} {H : Value → Sem Fin}
    (next : ∀ s₁ s₂, Ext s s₁ → Later C F.env.locals s₁ s₂ → St F (λ _ => False) ow (slotsG x i e ch) s₂ → Seg (model C.prog C.w) A (genR hc F.env.locals) (genY C hc F.env.locals xs) m s₂ c (Kf .next) fs s₂) :
    Seg (model C.prog C.w) A (genR hc F.env.locals) (genY C hc F.env.locals xs) (m + 1) s₀ c ((exec st F.env).wrap Kf H id id) fs s := by
  cases hy with
  | mk he =>
    refine seg_Expr_Yield hfs rfl hfg ?_ GFr.co (by unfold interactive; rw [S.fr.kind]; rfl)
    refine ((main K p).1 GFr.fo he).pe (A.over c fs) s _ ow _ d _ _ hA S hd λ v s₁ X hv _ => ?_
    intro kap hkap
    refine ⟨⟨by lia, d, by rw [show xs.length - 1 - m = k by omega]; exact hx, has_sub (λ a f => f.elim) d v hv⟩, G.ext X, (S.ext X).bare, (S.ext X).fr.ns, λ s₂ hl => ?_⟩
    exact hkap .none s₂ (next s₁ s₂ X hl ((S.ext X).later hch hl GFr.base GFr.cells GFr.nocell))
end
section
variable {C : Cx} {n : Nat} {A : Around}
theorem draws_str1 {prog : Program} {w : World} (hh : A.handled = none) (it : Addr) (x : Str) (t : Tok) : Draws prog w A.in1 it [it] x.cps.size (SignAt x) (λ i h => h.IsStrIter it (strIterType x) x t i) := draws_str (A := A.in1) hh it x t
theorem AOk.overF {m : Nat} (h : AOk (m + 1) A) (body : List Stmt) (env : Env) : AOk m (A.over (.func body env) []) :=
  ⟨h.1, by show A.depth + 1 + m ≤ 900; have := h.2.1; lia, by show A.units + 3 + 10 * m ≤ 9000; have := h.2.2; lia⟩
theorem AOk.overL {m : Nat} (h : AOk (m + 1) A) (body fb : List Stmt) (env : Env) (t : PySem.Expr) (it : Value) (k : Result → Sem Fin) (g : Bool) (l : List Value) (p : Pos) : AOk m (A.over (.forLoop t it fb [] env) [.ret k none g l (.func body env) p []]) :=
  ⟨h.1, by show A.depth + 1 + m ≤ 900; have := h.2.1; lia, by show A.units + 3 + 10 * m ≤ 9000; have := h.2.2; lia⟩
noncomputable def endK : Flow → Sem Fin := λ f => .pure (.done (.ret (match f with | .ret v => v | _ => .none)))
noncomputable def endH (env : Env) : Value → Sem Fin := λ e => (leaving env e).wrap (λ _ => .raise e) .raise id id
theorem fin_seg {hc : Heap} {F : Frame} {xs : List D} {s₀ s : Shared} {c : Code} (G : GRel hc F.env.locals s₀ s) (hb : AllBare s.gens) (hn : ∃ m, s.heap.Ns F.env.locals m) :
    Seg (model C.prog C.w) A (genR hc F.env.locals) (genY C hc F.env.locals xs) 0 s₀ c (endK .next) [] s :=
  seg_end (.ok (.ret .none)) ⟨rfl, rfl, G, hb, hn⟩
theorem end_seg (K : CxOk C n) {sc : Scope} {F : Frame} (GFr : GFrame C sc F) {hc : Heap} {xs : List D} {body : List Stmt} (hA : AOk (n + 1) A) {t3 : PySem.Expr} {y3 : Stmt} {p4 : Pos} (h3 : mt nmG (.var 3) sc t3 = true) (hy3 : Yields nmG sc pY3 y3)
    {x : Str} {i : Nat} {e : Bool} {ch : Slot} (hch : flatC ch) {ow : Nat → Addr} {s₀ s : Shared} (S : St F (λ _ => False) ow (slotsG x ((i - 1 : Nat) : Int) e ch) s) (G : GRel hc F.env.locals s₀ s)
    {k : Nat} (hk : k ≤ xs.length) (hx : xs.drop k = escD i e []) :
    Seg (model C.prog C.w) A (genR hc F.env.locals) (genY C hc F.env.locals xs) (xs.length - k) s₀ (.func body F.env) ((execs [.If t3 [y3] [] p4] F.env).wrap endK (endH F.env) id id) [] s := by
  refine seg_execs_cons (seg_If (((main K (.var 3)).1 GFr.fo h3).pb _ s _ ow _ e _ _ (hA.overF body F.env) S rfl λ s₁ X => ?_))
  cases e
  · have : xs.length - k = 0 := by
      have := congrArg List.length hx
      simp [escD] at this; omega
    rw [this]
    exact seg_execs_nil (seg_execs_nil (fin_seg (G.ext X) (S.ext X).bare (S.ext X).fr.ns))
  · have hlen : xs.length = k + 1 := by
      have := congrArg List.length hx
      simp [escD] at this; lia
    have hk1 : xs[k]? = some (.tup [.int ((i - 1 : Nat) : Int), .str ⟨#[92]⟩]) := by
      have := congrArg (λ l => l[0]?) hx
      simpa [escD] using this
    rw [show xs.length - k = 0 + 1 by lia]
    refine seg_execs_cons (yield_seg K GFr (hA.overF body F.env) rfl rfl hy3 hch (S.ext X) (G.ext X) (d := .tup [.int ((i - 1 : Nat) : Int), .str ⟨#[92]⟩]) ?_ (k := k) (by lia) hk1 λ s₂ s₃ X' hl S' => ?_)
    · show (if decide ((2 : Nat) ≤ 16777216) then some (D.tup [.int ((i - 1 : Nat) : Int), .str ("\\" : Str)]) else none) = _
      rw [show ("\\" : Str) = ⟨#[92]⟩ by decide +kernel]; rfl
    · exact seg_execs_nil (seg_execs_nil (fin_seg .refl S'.bare S'.fr.ns))
theorem str_add (c : Nat) : ("\\" : Str) ++ (⟨#[c]⟩ : Str) = ⟨#[92, c]⟩ := by
  rw [show ("\\" : Str) = ⟨#[92]⟩ by decide +kernel]; rfl
theorem loop_seg (K : CxOk C n) {sc : Scope} {F : Frame} (GFr : GFrame C sc F) {hc : Heap} (hhc : Keep0 C hc) {xs : List D} {body : List Stmt} (hA : AOk (n + 1) A) {s1 s2 : Stmt} {es : List PySem.Expr} {kk : Nat} {tp : Pos} {arg t1 t2 t3 : PySem.Expr} {y1 a1 a2 y2 y3 : Stmt} {p2 p3 p4 : Pos}
    (H : GenShape sc s1 s2 (.Tuple es kk tp) arg t1 t2 t3 y1 a1 a2 y2 y3) {x : Str} {t : Tok} {ne : Nat} (hne : hc.get? ne = none ∧ hc.get? (ne + 1) = none) (p : Pos) (lv : List Value) :
    ∀ (cs : List Nat) (i : Nat) (e : Bool) (ch : Slot) (ow : Nat → Addr) (s₀ s : Shared) (k : Nat), x.cps.toList.drop i = cs → i ≤ x.cps.size → flatC ch → k ≤ xs.length → xs.drop k = escD i e cs → St F (λ _ => False) ow (slotsG x ((i - 1 : Nat) : Int) e ch) s → EnSt s.heap ne x t i → GRel hc F.env.locals s₀ s →
      (∀ b, (b = ne ∨ b = ne + 1) → ∀ o, s₀.heap.get? b = some o → iterObj o) →
      Seg (model C.prog C.w) A (genR hc F.env.locals) (genY C hc F.env.locals xs) (xs.length - k) s₀ (.forLoop (.Tuple es kk tp) (.ref (ne + 1)) [.If t1 [y1, a1] [.If t2 [a2] [y2] p3] p2] [] F.env)
        ((model C.prog C.w).den (.forLoop (.Tuple es kk tp) (.ref (ne + 1)) [.If t1 [y1, a1] [.If t2 [a2] [y2] p3] p2] [] F.env))
        [.ret (λ r => ((match r with | .ok f => (.pure f : Sem Flow) | .error e => .raise e).onRaise λ (x : Value) => do
          if (← field x 1) == Value.none then unsupported "frame.own-activation:exception-without-traceback"
          setFlight x F.env.frame).wrap (λ (f : Flow) => match f with | .next => (execs [.If t3 [y3] [] p4] F.env).wrap endK (endH F.env) id id | f => endK f) (endH F.env) id id) none false lv (.func body F.env) p []] s := by
  intro cs
  have hT := mTgS_ok H.tg GFr.fo.names GFr.hw
  have hbase : ∀ b, (b = ne ∨ b = ne + 1) → F.base.get? b = none := by
    intro b hb
    cases e : F.base.get? b with
    | none => rfl
    | some o =>
      rw [GFr.base] at e
      have := hhc b o e
      rcases hb with rfl | rfl
      · rw [hne.1] at this; cases this
      · rw [hne.2] at this; cases this
  have hnone : ∀ b, (b = ne ∨ b = ne + 1) → hc.get? b = none := by
    rintro b (rfl | rfl)
    · exact hne.1
    · exact hne.2
  have hne1 : (ne + 1 : Addr) ≠ ne := by intro (q : @Eq Nat _ _); lia
  have away : ∀ {i p e ch ow s}, flatC ch → St F (λ _ => False) ow (slotsG x p e ch) s → EnSt s.heap ne x t i → (∀ b, (b = ne ∨ b = ne + 1) → Away F (λ _ => False) ow (slotsG x p e ch) s b) ∧ ∀ b, (b = ne ∨ b = ne + 1) → NoSeq s.heap b := by
    intro i p e ch ow s hch S Z
    have key : ∀ b, (b = ne ∨ b = ne + 1) → ∃ o vs, s.heap.get? b = some o ∧ o.data = .fields vs := by
      rintro b (rfl | rfl)
      · obtain ⟨o, e, _, d⟩ := Z.it; exact ⟨o, _, e, d⟩
      · obtain ⟨old, e⟩ := Z.en; exact ⟨_, _, e, rfl⟩
    refine ⟨λ b hb => ?_, λ b hb => ?_⟩
    · obtain ⟨o, vs, e, d⟩ := key b hb
      refine ⟨λ q => q.elim id (slotsG_own hch), ?_, .fields e d⟩
      rintro rfl
      obtain ⟨m, o', es, ep, e', d', _⟩ := S.fr.ns
      rw [e] at e'; cases e'; rw [d] at d'; cases d'
    · obtain ⟨o, vs, e, d⟩ := key b hb
      exact noSeq_fields e d
  have hA2 := hA.overL body [.If t1 [y1, a1] [.If t2 [a2] [y2] p3] p2] F.env (.Tuple es kk tp) (.ref (ne + 1))
  have draws : ∀ {s₀ s s' i p e ch ow}, flatC ch → St F (λ _ => False) ow (slotsG x p e ch) s → EnSt s.heap ne x t i → GRel hc F.env.locals s₀ s → (∀ b, (b = ne ∨ b = ne + 1) → ∀ o, s₀.heap.get? b = some o → iterObj o) →
      Nx (λ b => b = ne ∨ b = ne + 1) (λ _ => False) s s' → St F (λ _ => False) ow (slotsG x p e ch) s' ∧ GRel hc F.env.locals s₀ s' := by
    intro s₀ s s' i p e ch ow hch S Z G hs0 N
    refine ⟨S.nx N hbase (away hch S Z).1 (.inl (away hch S Z).2), λ b o e h1 h2 => N.heap b o (λ q => h2 ⟨hnone b q, hs0 b q o e⟩) (G.heap b o e h1 h2), λ j g e => N.gens j g id (G.gens j g e), N.os.trans G.os⟩
  induction cs with
  | nil =>
    intro i e ch ow s₀ s k hcs hile hch hk hx S Z G hs0
    have hi : x.cps.size ≤ i := by
      have := List.drop_eq_nil_iff.mp hcs; simpa using this
    obtain ⟨old, e2⟩ := Z.en
    refine seg_forLoop ?_
    have hit' : s.heap.IsStrIter ne (strIterType x) x t x.cps.size := by
      have : i = x.cps.size := Nat.le_antisymm hile hi
      rw [← this]; exact Z.it
    refine wpAny_pyNext_enum_endD (fp := [ne]) (n := x.cps.size) (P := SignAt x) (St := λ i h => h.IsStrIter ne (strIterType x) x t i) (draws_str1 (hA2 _ _ _ _).1 ne x t) e2 hit' λ h'' kp => ?_
    obtain ⟨S', G'⟩ := draws (s' := { s with heap := h'' }) hch S Z G hs0 ⟨λ b o nb e => kp b o (λ q => nb (.inl q)) e, rfl, id, λ _ _ _ e => e⟩
    refine seg_again rfl ?_
    show Seg _ _ _ _ _ _ _ (leafOf (.ok .next)) _ _
    refine seg_leaf (.ok .next) ?_
    exact end_seg K GFr hA H.t3 H.y3 hch S' G' hk hx
  | cons c cs ih =>
    intro i e ch ow s₀ s k hcs hile hch hk hx S Z G hs0
    have hi : i < x.cps.size := by
      have h1 := congrArg List.length hcs
      simp at h1; lia
    have hc' : x.cps[i]? = some c := by
      have := congrArg (λ l => l[0]?) hcs
      simpa using this
    have hcs' : x.cps.toList.drop (i + 1) = cs := by
      have h1 : (x.cps.toList.drop i).drop 1 = cs := by rw [hcs]; rfl
      rw [List.drop_drop] at h1; exact h1
    obtain ⟨old, e2⟩ := Z.en
    refine seg_forLoop ?_
    refine wpAny_pyNext_enum_itemD (fp := [ne]) (n := x.cps.size) (P := SignAt x) (St := λ i h => h.IsStrIter ne (strIterType x) x t i) (draws_str1 (hA2 _ _ _ _).1 ne x t) e2 Z.it hi hne1 (by intro q; exact hne1 (List.mem_singleton.mp q)) λ v h'' tk hP he'' hst ht hsz' kp => ?_
    obtain ⟨c', u, hc1, rfl⟩ := hP
    rw [hc'] at hc1; cases hc1
    have hT2 : (s.heap.objs.size : Addr) ≠ ne + 1 := by
      intro (q : @Eq Nat _ _)
      have hlt : @LT.lt Nat _ (ne + 1) s.heap.objs.size := Heap.lt_size e2
      lia
    refine wpAny_letOwnedTupleGo_enum he'' λ h3 he3 same => ?_
    obtain ⟨S2, G2⟩ := draws (s' := { s with heap := h3, toks := tk + 1 }) hch S Z G hs0 ⟨λ b o nb e => (same.2 b (λ q => nb (.inr q))).trans (kp b o (λ q => nb (.inr q)) (λ q => nb (.inl q)) e), rfl, id, λ _ _ _ e => e⟩
    have Z2 : EnSt h3 ne x t (i + 1) := by
      obtain ⟨o, e, r⟩ := hst
      exact ⟨⟨o, (same.2 ne (Ne.symm hne1)).trans e, r⟩, _, he3⟩
    refine target_ok (ρ' := slotsG x (i : Int) e (.fro (.str ⟨#[c]⟩))) (d := .tup [.int (i : Int), .str ⟨#[c]⟩]) (hA2 _ _ _ _).1 hT S2 ?_ rfl λ s₃ S3 R3 => ?_
    · rw [Has]
      exact ⟨_, _, rfl, ⟨_, (same.2 _ hT2).trans ht, rfl, _, rfl⟩, hasL_cons (by rw [Has]; exact ⟨tk, rfl⟩) (hasL_cons (by rw [Has]; exact ⟨u, rfl⟩) hasL_nil)⟩
    have Z3 : EnSt s₃.heap ne x t (i + 1) := Z2.later λ b o vs e d => R3.fields S2 e d
    have G3 := G2.step R3 (λ a => slotsG_own hch) GFr.cells
    have hch' : flatC (.fro (.str ⟨#[c]⟩)) := .inr ⟨_, rfl⟩
    have again : ∀ (e' : Bool) (ow' : Nat → Addr) (s₀' s' : Shared) (k' : Nat), k' ≤ xs.length → xs.drop k' = escD (i + 1) e' cs → St F (λ _ => False) ow' (slotsG x (i : Int) e' (.fro (.str ⟨#[c]⟩))) s' → EnSt s'.heap ne x t (i + 1) → GRel hc F.env.locals s₀' s' →
        (∀ b, (b = ne ∨ b = ne + 1) → ∀ o, s₀'.heap.get? b = some o → iterObj o) → _ := λ e' ow' s₀' s' k' g1 g2 g3 g4 g5 g6 => seg_again (c := .forLoop (.Tuple es kk tp) (.ref (ne + 1)) [.If t1 [y1, a1] [.If t2 [a2] [y2] p3] p2] [] F.env) rfl (ih (i + 1) e' _ ow' s₀' s' k' hcs' hi hch' g1 g2 g3 g4 g5 g6)
    have hset : ∀ (b e' : Bool) (st : Stmt) (ow' : Nat → Addr) (s₀' s' : Shared) (k' : Nat) (A' : Around), AOk n A' → m1 nmG sc (.asg 3 (.cB b)) st = true → St F (λ _ => False) ow' (slotsG x (i : Int) e' (.fro (.str ⟨#[c]⟩))) s' → EnSt s'.heap ne x t (i + 1) → GRel hc F.env.locals s₀' s' →
        ∀ (Q : Flow → Shared → Prop) (E : Value → Shared → Prop), (∀ ow2 s2, St F (λ _ => False) ow2 (slotsG x (i : Int) b (.fro (.str ⟨#[c]⟩))) s2 → EnSt s2.heap ne x t (i + 1) → GRel hc F.env.locals s₀' s2 → Q .next s2) → wpAny (model C.prog C.w) A' (exec st F.env) Q E s' := by
      intro b e' st ow' s₀' s' k' A' hA' hm S' Z' G' Q E hQ
      refine ((stm K GFr.fo GFr.hw (.asg 3 (.cB b))).1 st hm) A' s' _ ow' _ (λ fl ρ => fl = .next ∧ ρ = slotsG x (i : Int) b (.fro (.str ⟨#[c]⟩))) Q E hA' S' ⟨.bool b, rfl, rfl, rfl⟩ λ f fl ow2 ρ2 s2 h1 h2 h3 h4 => ?_
      obtain ⟨rfl, rfl⟩ := h4
      cases h1
      exact hQ ow2 s2 h2 (Z'.later λ b o vs e d => h3.fields S' e d) (G'.step h3 (λ a => slotsG_own hch') GFr.cells)
    refine seg_execs_cons (seg_If (((main K (.var 3)).1 GFr.fo H.t1).pb _ s₃ _ ow _ e _ _ (hA2 _ _ _ _) S3 rfl λ s₄ X => ?_))
    have S4 := S3.ext X
    have Z4 : EnSt s₄.heap ne x t (i + 1) := Z3.later λ b o _ e _ => X.heap b o e
    have G4 := G3.ext X
    cases e
    · refine seg_execs_cons (seg_If (((main K (.cmp .Eq (.var 4) (.cS "\\"))).1 GFr.fo H.t2).pb _ s₄ _ ow _ (decide (c = 92)) _ _ (hA2 _ _ _ _) S4 (by show some ((⟨#[c]⟩ : Str) == ("\\" : Str)) = _; rw [st_fits]) λ s₅ X5 => ?_))
      have S5 := S4.ext X5
      have Z5 : EnSt s₅.heap ne x t (i + 1) := Z4.later λ b o _ e _ => X5.heap b o e
      have G5 := G4.ext X5
      by_cases h92 : c = 92
      · rw [decide_eq_true h92]
        refine seg_execs_cons (seg_wrap (hset true false a2 ow s₀ s₅ k _ (hA2 _ _ _ _) H.a2 S5 Z5 G5 _ _ λ ow2 s2 S' Z' G' => ?_))
        exact seg_execs_nil (seg_execs_nil (seg_execs_nil (again true ow2 s₀ s2 k hk (by rw [hx]; simp [escD, h92]) S' Z' G' hs0)))
      · rw [decide_eq_false h92]
        have hx' : xs.drop k = .tup [.int (i : Int), .str ⟨#[c]⟩] :: escD (i + 1) false cs := by rw [hx]; simp [escD, h92]
        have hk1 : xs[k]? = some (.tup [.int (i : Int), .str ⟨#[c]⟩]) := by
          have := congrArg (λ l => l[0]?) hx'
          simpa using this
        have hlt : k < xs.length := (List.getElem?_eq_some_iff.mp hk1).1
        have hx2 : xs.drop (k + 1) = escD (i + 1) false cs := by
          have h1 : (xs.drop k).drop 1 = escD (i + 1) false cs := by rw [hx']; rfl
          rw [List.drop_drop] at h1; exact h1
        rw [show xs.length - k = (xs.length - (k + 1)) + 1 by lia]
        refine seg_execs_cons (yield_seg K GFr (hA2 _ _ _ _) rfl rfl H.y2 hch' S5 G5 (d := .tup [.int (i : Int), .str ⟨#[c]⟩]) rfl (k := k) (by lia) hk1 λ s₆ s₇ X6 hl S7 => ?_)
        have Z7 : EnSt s₇.heap ne x t (i + 1) := (Z5.later λ b o _ e _ => X6.heap b o e).later hl.fields
        exact seg_execs_nil (seg_execs_nil (seg_execs_nil (again false ow s₇ s₇ (k + 1) (by lia) hx2 S7 Z7 .refl Z7.obj)))
    · have hx' : xs.drop k = .tup [.int (i : Int), .str ⟨#[92, c]⟩] :: escD (i + 1) false cs := by rw [hx]; simp [escD]
      have hk1 : xs[k]? = some (.tup [.int (i : Int), .str ⟨#[92, c]⟩]) := by
        have := congrArg (λ l => l[0]?) hx'
        simpa using this
      have hlt : k < xs.length := (List.getElem?_eq_some_iff.mp hk1).1
      have hx2 : xs.drop (k + 1) = escD (i + 1) false cs := by
        have h1 : (xs.drop k).drop 1 = escD (i + 1) false cs := by rw [hx']; rfl
        rw [List.drop_drop] at h1; exact h1
      rw [show xs.length - k = (xs.length - (k + 1)) + 1 by lia]
      refine seg_execs_cons (yield_seg K GFr (hA2 _ _ _ _) rfl rfl H.y1 hch' S4 G4 (d := .tup [.int (i : Int), .str ⟨#[92, c]⟩]) ?_ (k := k) (by lia) hk1 λ s₆ s₇ X6 hl S7 => ?_)
      · rw [← str_add]; rfl
      · have Z7 : EnSt s₇.heap ne x t (i + 1) := (Z4.later λ b o _ e _ => X6.heap b o e).later hl.fields
        refine seg_execs_cons (seg_wrap (hset false true a1 ow s₇ s₇ (k + 1) _ (hA2 _ _ _ _) H.a1 S7 Z7 .refl _ _ λ ow2 s2 S' Z' G' => ?_))
        exact seg_execs_nil (seg_execs_nil (again false ow2 s₇ s2 (k + 1) (by lia) hx2 S' Z' G' Z7.obj))
end
noncomputable def GnSpec (C : Cx) (n : Nat) (f : Str) (spec : List D → Option (List D)) : Prop := ∃ a o fd, C.mg f = some (.ref a) ∧ C.h0.get? a = some o ∧ o.data = .func fd ∧
  ∀ A s (O : Addr → Prop) (t : PySem.Expr) (nt : Bool) (Q : Value → Shared → Prop) (E : Value → Shared → Prop) ds xs vs, AOk n A → Keep0 C s.heap → AllBare s.gens → (∀ a, O a → ∃ us, s.heap.IsList a us) → HasL O s.heap ds vs → spec ds = some xs →
    (∀ g s', Ext s s' → (∀ Q' E', (∀ it s'', Ext s s'' → ItOk C.h0 C.prog C.w A O t nt s s'' it xs → Q' it s'') → wpAny (model C.prog C.w) A (pyIter g) Q' E' s') → Q g s') → wpAny (model C.prog C.w) A (call (.ref a) vs) Q E s
theorem escD_flat : ∀ {cs : List Nat} {i : Nat} {e : Bool} {d : D}, d ∈ escD i e cs → ∃ l, d = .tup l ∧ flatL l = true
  | [], i, e, d, h => by
    cases e
    · cases h
    · simp only [escD, if_true, List.mem_singleton] at h; subst h; exact ⟨_, rfl, rfl⟩
  | c :: cs, i, e, d, h => by
    cases e
    · simp only [escD, Bool.false_eq_true, if_false] at h
      split at h
      · exact escD_flat h
      · rcases List.mem_cons.mp h with rfl | h
        · exact ⟨_, rfl, rfl⟩
        · exact escD_flat h
    · simp only [escD, if_true] at h
      rcases List.mem_cons.mp h with rfl | h
      · exact ⟨_, rfl, rfl⟩
      · exact escD_flat h
section
variable {C : Cx} {n : Nat} {A : Around}
theorem body_seg (K : CxOk C n) {sc : Scope} {F : Frame} (GFr : GFrame C sc F) {hc : Heap} (hhc : Keep0 C hc) {body : List Stmt} (hA : AOk (n + 1) A) (B : GenBody sc body) (hen : C.mg "enumerate" = none)
    {x : Str} (hL : F.env.locals = hc.objs.size) {s : Shared} {ow : Nat → Addr} (S : St F (λ _ => False) ow (initSlots nmG [.str x]) s) :
    Seg (model C.prog C.w) A (genR hc F.env.locals) (genY C hc F.env.locals (escD 0 false x.cps.toList)) (escD 0 false x.cps.toList).length s (.func body F.env) ((model C.prog C.w).den (.func body F.env)) [] s := by
  obtain ⟨H⟩ := B
  rename_i s1 s2 es k tp arg t1 t2 t3 y1 a1 a2 y2 y3 ep cp p1 p2 p3 p4
  refine seg_func ?_
  have hA' := λ b => hA.overF b F.env
  have noOwn : ∀ {ρ ow a}, (ρ = initSlots nmG [.str x] ∨ ρ = [.undef, .fro (.str x), .fro (.int 0), .undef, .undef] ∨ ρ = slotsG x 0 false .undef) → ¬ Own ow ρ a := by
    rintro ρ ow a h ⟨i, ds, e, _⟩
    have hm := List.mem_of_getElem? e
    rcases h with rfl | rfl | rfl <;> simp [initSlots, slotsG, nmG] at hm
  refine seg_execs_cons (seg_wrap (((stm K GFr.fo GFr.hw (.asg 2 (.cI 0))).1 s1 H.s1) _ s _ ow _ (λ fl ρ => fl = .next ∧ ρ = [.undef, .fro (.str x), .fro (.int 0), .undef, .undef]) _ _ (hA' _) S ⟨.int 0, rfl, rfl, rfl⟩ λ f fl ow2 ρ2 s₂ h1 h2 h3 h4 => ?_))
  obtain ⟨rfl, rfl⟩ := h4
  cases h1
  refine seg_execs_cons (seg_wrap (((stm K GFr.fo GFr.hw (.asg 3 (.cB false))).1 s2 H.s2) _ s₂ _ ow2 _ (λ fl ρ => fl = .next ∧ ρ = slotsG x 0 false .undef) _ _ (hA' _) h2 ⟨.bool false, rfl, rfl, rfl⟩ λ f fl ow3 ρ3 s₃ g1 g2 g3 g4 => ?_))
  obtain ⟨rfl, rfl⟩ := g4
  cases g1
  have G : GRel hc F.env.locals s s₃ := (GRel.refl.step h3 (λ a => noOwn (.inl rfl)) GFr.cells).step g3 (λ a => noOwn (.inr (.inl rfl))) GFr.cells
  refine seg_execs_cons (seg_For ?_)
  refine wpAny_Call_NameR (loadB K GFr.fo g2 H.gl hen (v := .type "enumerate") (by decide +kernel) (by decide +kernel) ?_)
  refine PyProof.Rows.callWith_type1 (wpAny_items_cons (((main K (.var 1)).1 GFr.fo H.arg).pe _ s₃ _ ow3 _ (.str x) _ _ (hA' _) g2 rfl λ v s₄ X hv _ => wpAny_items_nil ?_) (noStar H.arg _)) (noStar H.arg _) rfl
  rw [Has] at hv
  obtain ⟨t, rfl⟩ := hv
  refine call_enumerate_str λ h' he hit hsz hk => ?_
  refine wpAny_pyIter_enum he λ p => ?_
  have S4 := g2.ext X
  have hLt : hc.objs.size < s₄.heap.objs.size := by
    obtain ⟨m, o, es, ep, ho, _⟩ := S4.fr.ns
    rw [← hL]; exact Heap.lt_size ho
  have X5 : Ext s₄ { s₄ with heap := h' } := .ofHeap hk s₄.toks
  have G5 := (G.ext X).ext X5
  have := loop_seg K GFr hhc (xs := escD 0 false x.cps.toList) (body := [s1, s2, .For (.Tuple es k tp) (.Call (.Name "enumerate" ep) [arg] [] cp) [.If t1 [y1, a1] [.If t2 [a2] [y2] p3] p2] [] p1, .If t3 [y3] [] p4]) hA H (p2 := p2) (p3 := p3) (p4 := p4) (x := x) (t := t) (ne := s₄.heap.objs.size)
    ⟨get_none_of_ge (Nat.le_of_lt hLt), get_none_of_ge (Nat.le_succ_of_le (Nat.le_of_lt hLt))⟩ p (lv := []) x.cps.toList 0 false .undef ow3 s { s₄ with heap := h' } 0 rfl (Nat.zero_le _) (.inl rfl) (Nat.zero_le _) rfl (S4.ext X5) ⟨hit, _, he⟩ G5 ?_
  · exact this
  · intro b hb o ho
    refine Classical.byContradiction λ hno => ?_
    have hbig : s₄.heap.objs.size ≤ b := by rcases hb with rfl | rfl; exact Nat.le_refl _; exact Nat.le_succ _
    have hbL : b ≠ F.env.locals := by
      rintro rfl
      rw [hL] at hbig; exact absurd hLt (Nat.not_lt.mpr hbig)
    have := (G.ext X).heap b o ho hbL λ q => hno q.2
    rw [get_none_of_ge hbig] at this; cases this
end
theorem bare_set {gens : Array GenState} {g : Nat} {x : GenState} (h : AllBare gens) (hx : x.bare = true) : AllBare (gens.setIfInBounds g x) := by
  intro y hy
  obtain ⟨i, hi, rfl⟩ := Array.mem_iff_getElem.mp hy
  have hi' : i < gens.size := by simpa using hi
  rw [Array.getElem_setIfInBounds hi']
  split
  · exact hx
  · exact h _ (Array.getElem_mem _)
theorem get_set_ne {gens : Array GenState} {g i : Nat} {x : GenState} (h : i ≠ g) : (gens.setIfInBounds g x)[i]? = gens[i]? := by
  rw [Array.getElem?_setIfInBounds]; simp [Ne.symm h]
section
variable {C : Cx} {n : Nat}
structure GInv (C : Cx) (A : Around) (hc : Heap) (L ag : Addr) (g : Nat) (xs : List D) (k : Nat) (s : Shared) : Prop where
  keep : Keep0 C s.heap
  gen : s.heap.IsGen ag g
  loc : ∃ m, s.heap.Ns L m
  go : ∃ gs, s.gens[g]? = some gs ∧ ∀ s₂, Later C L s s₂ → gs.Goes (model C.prog C.w) A.in1 (genR hc L) (genY C hc L xs) (xs.length - k) (.send .none) s₂
noncomputable def gWr (ag L b : Addr) : Prop := b = ag ∨ b = L
section
variable {A : Around} {hc : Heap} {L ag : Addr} {g : Nat} {xs : List D} {k : Nat} {s s₁ s₂ : Shared}
theorem GInv.obj (Z : GInv C A hc L ag g xs k s₁) (b : Addr) (h : gWr ag L b) : NoSeq s₁.heap b ∧ Standing s₁.heap b := by
  rcases h with rfl | rfl
  · obtain ⟨o, nm, qn, e, _, d, _⟩ := Z.gen
    exact ⟨noSeq_fields e d, .fields e d⟩
  · obtain ⟨m, hm⟩ := Z.loc
    obtain ⟨o, es, ep, e, d, _⟩ := id hm
    exact ⟨Ns.noSeq hm, o, e, λ v q => by rw [d] at q; cases q⟩
theorem GInv.post (_ : GInv C A hc L ag g xs k s₁) {gs' : GenState} (hs : s.heap = hc) (G : GRel hc L (s₁.setGen g .running) s₂) (hb : gs'.bare = true) (hab : AllBare s₂.gens) :
    Nx (Wx s s₁ (gWr ag L)) (λ j => j = g) s₁ (s₂.setGen g gs') :=
  ⟨λ b o nb e => G.heap b o e (λ q => nb (.inl (.inr q))) (λ q => nb (.inr ⟨hs ▸ q.1, o, e, q.2⟩)), G.os, λ _ => bare_set hab hb, λ j g' nj e => (get_set_ne nj).trans (G.gens j g' ((get_set_ne nj).trans e))⟩
theorem GInv.keepS (Z : GInv C A hc L ag g xs k s₁) (hk0 : Keep0 C hc) (hLs : hc.get? L = none) (G : GRel hc L (s₁.setGen g .running) s₂) : Keep0 C s₂.heap := λ b o e =>
  G.heap b o (Z.keep b o e) (λ q => nos ((hLs.symm.trans (q ▸ hk0 b o e)))) λ q => nos (q.1.symm.trans (hk0 b o e))
theorem GInv.stable (Z : GInv C A hc L ag g xs k s₁) (kk : ∀ b o, gWr ag L b → s₁.heap.get? b = some o → s₂.heap.get? b = some o) (kg : ∀ (j : Nat) (g : GenState), s₁.gens[j]? = some g → s₂.gens[j]? = some g) (kz : Keep0 C s₂.heap)
    (kf : ∀ b o vs, s₁.heap.get? b = some o → o.data = .fields vs → s₂.heap.get? b = some o) : GInv C A hc L ag g xs k s₂ where
  keep := kz
  gen := let ⟨o, nm, qn, e, r⟩ := Z.gen; ⟨o, nm, qn, kk _ _ (.inl rfl) e, r⟩
  loc := let ⟨m, o, es, ep, e, r⟩ := Z.loc; ⟨m, o, es, ep, kk _ _ (.inr rfl) e, r⟩
  go := Z.go.imp λ _ q => ⟨kg _ _ q.1, λ _ hl => q.2 _ ⟨λ o h => hl.loc o (kk _ _ (.inr rfl) h), λ b o vs h d => hl.fields b o vs (kf b o vs h d) d, hl.keep, hl.bare⟩⟩
theorem lt_of_get {gs : Array GenState} {g : Nat} {x : GenState} (h : gs[g]? = some x) : g < gs.size := (Array.getElem?_eq_some_iff.mp h).1
theorem get_set_eq {gs : Array GenState} {g : Nat} {x y : GenState} (h : gs[g]? = some x) : (gs.setIfInBounds g y)[g]? = some y := by
  rw [Array.getElem?_setIfInBounds, if_pos rfl, if_pos (lt_of_get h)]
noncomputable def gP (hc : Heap) (L : Addr) (n : Nat) (s₀ s₁ : Shared) : Prop := n = 0 ∧ GRel hc L s₀ s₁ ∧ AllBare s₁.gens ∧ ∃ m, s₁.heap.Ns L m
theorem GInv.next (hh : A.handled = none) (hroom : A.depth < recursionLimit) (hlim : C.h0.NoLimit) (hk0 : Keep0 C hc) (hLs : hc.get? L = none) (hne : ag ≠ L) (hs : s.heap = hc) {i : Nat} (hi : i < xs.length)
    (Z : GInv C A hc L ag g xs i s₁) (hbare : AllBare s₁.gens) {Q : Option Value → Shared → Prop} {E : Value → Shared → Prop}
    (hQ : ∀ v s₂, (∃ x, xs[i]? = some x ∧ Has (λ _ => False) s₂.heap x v) → GInv C A hc L ag g xs (i + 1) s₂ → Nx (Wx s s₁ (gWr ag L)) (λ j => j = g) s₁ s₂ → Q (some v) s₂) :
    wpAny (model C.prog C.w) A (pyNext (.ref ag)) Q E s₁ := Z.go.elim λ gs hgo => by
  refine next_gen hh (hlim.keeps Z.keep) hroom Z.gen hgo.1 (P := gP hc L) (Y := genY C hc L xs)
    (hgo.2 _ ⟨λ _ e => e, λ _ _ _ e _ => e, Z.keep, bare_set hbare rfl⟩) (λ v s₂ gs' hb hy => ?_) (λ s₂ hp => absurd hp.1 (Nat.sub_ne_zero_of_lt hi))
  obtain ⟨⟨_, hx⟩, G, hab, hns, hk⟩ := hy
  rw [Nat.sub_right_comm xs.length i 1, Nat.sub_sub_self (Nat.le_sub_one_of_lt hi)] at hx
  refine hQ v _ hx ⟨show Keep0 C s₂.heap from Z.keepS hk0 hLs G, ?_, hns, gs', get_set_eq (G.gens _ _ (get_set_eq hgo.1)), λ s₃ hl => ?_⟩ (Z.post hs G hb hab)
  · obtain ⟨o', nm, qn, e', hc', r⟩ := Z.gen
    exact ⟨o', nm, qn, G.heap _ _ e' hne (λ q => by rcases q.2.2 with h | h | h <;> (rw [hc'] at h; exact absurd (Value.type.inj h) (by decide))), hc', r⟩
  · have := hk s₃ ⟨hl.loc, hl.fields, hl.keep, hl.bare⟩
    rw [← Nat.succ_pred_eq_of_pos (Nat.sub_pos_of_lt hi)] at this
    exact this
theorem GInv.done (hh : A.handled = none) (hroom : A.depth < recursionLimit) (hlim : C.h0.NoLimit) (hk0 : Keep0 C hc) (hLs : hc.get? L = none) (hs : s.heap = hc)
    (Z : GInv C A hc L ag g xs xs.length s₁) (hbare : AllBare s₁.gens) {Q : Option Value → Shared → Prop} {E : Value → Shared → Prop} (hQ : ∀ s₂, Nx (Wx s s₁ (gWr ag L)) (λ j => j = g) s₁ s₂ → Q none s₂) :
    wpAny (model C.prog C.w) A (pyNext (.ref ag)) Q E s₁ := Z.go.elim λ gs hgo => by
  refine next_gen hh (hlim.keeps Z.keep) hroom Z.gen hgo.1 (P := gP hc L) (Y := genY C hc L xs)
    (hgo.2 _ ⟨λ _ e => e, λ _ _ _ e _ => e, Z.keep, bare_set hbare rfl⟩) (λ v s₂ gs' hb hy => ?_) (λ s₂ hp h' hk' => ?_)
  · obtain ⟨_, G, hab, hns, hk⟩ := hy
    have hk2 := hk s₂ ⟨λ _ e => e, λ _ _ _ e _ => e, Z.keepS hk0 hLs G, hab⟩
    rw [Nat.sub_self] at hk2
    exact hk2.elim
  · have N := Z.post (gs' := .finished) hs hp.2.1 rfl hp.2.2.1
    exact hQ _ ⟨λ b o nb e => hk' b o (N.heap b o nb e), N.os, N.bare, N.gens⟩
theorem flat_any {x : D} {O O' : Addr → Prop} {h : Heap} {v : Value} (f : ∃ l, x = .tup l ∧ flatL l = true) (hv : Has O h x v) : Has O' h x v := by
  obtain ⟨l, rfl, fl⟩ := f
  rw [Has] at hv ⊢
  exact hv.imp λ _ q => q.imp λ _ q => ⟨q.1, q.2.1, flat_hasL fl q.2.2⟩
noncomputable def gInv (C : Cx) (A : Around) (hc : Heap) (L ag : Addr) (g : Nat) (xs : List D) (W : Addr → Prop) (i : Nat) (s : Shared) : Prop := W = gWr ag L ∧ GInv C A hc L ag g xs i s
theorem gen_its (A : Around) (hh : A.handled = none) (hroom : A.depth < recursionLimit) (hlim : C.h0.NoLimit) (hk0 : Keep0 C s.heap) {O : Addr → Prop} {t : PySem.Expr} {nt : Bool} {s' : Shared} (hfl : ∀ d ∈ xs, ∃ l, d = .tup l ∧ flatL l = true) (hLs : s.heap.get? L = none) (hag : s.heap.get? ag = none) (hne : ag ≠ L)
    (hI : GInv C A s.heap L ag s.gens.size xs 0 s') : ItI C.h0 C.prog C.w A O t nt s s' ag xs (gWr ag L) (λ _ => False) (λ j => j = s.gens.size) (λ i v s' => ∃ x, xs[i]? = some x ∧ Has (λ _ => False) s'.heap x v)
      (gInv C A s.heap L ag s.gens.size xs) (λ W i _ => gInv C A s.heap L ag s.gens.size xs W i) [] [] where
  fresh := λ b h => ⟨h.elim (λ e => e ▸ hag) λ e => e ▸ hLs, (hI.obj b h).2.imp λ _ q => q.1⟩
  freshG := λ _ e => Nat.le_of_eq e.symm
  read := λ _ f => f.elim
  init := ⟨rfl, hI⟩
  srcs := hasL_nil
  kind := .inl ⟨λ _ _ _ b Z h => (Z.2.obj b (Z.1 ▸ h)).1, λ _ _ _ _ b Z h => (Z.2.obj b (Z.1 ▸ h)).1⟩
  alive := λ _ b h => ⟨λ _ _ Z => (Z.2.obj b (h.elim (λ q => Z.1 ▸ q) False.elim)).2, λ _ _ _ Z => (Z.2.obj b (h.elim (λ q => Z.1 ▸ q) False.elim)).2⟩
  stable := λ _ _ _ _ Z kk kg kz kf => ⟨Z.1, Z.2.stable (λ b o h => kk b o (.inl (Z.1 ▸ h))) kg kz kf⟩
  next := λ _ _ _ _ _ hi Z hb hQ => Z.2.next hh hroom hlim hk0 hLs hne rfl hi hb λ v s₂ hx Z' N => hQ _ v s₂ hx ⟨Z.1, Z'⟩ (Z.1 ▸ N) λ _ => .inl
  letGo := λ _ _ _ s₁ _ _ hP Z hQ => let ⟨_, _, _, e, hc, _⟩ := Z.2.gen; letGo_plain e hc (by decide) (hQ s₁ hP Z .refl)
  done := λ _ _ _ _ Z hb hQ => Z.2.done hh hroom hlim hk0 hLs rfl hb λ s₂ N => hQ s₂ (Z.1 ▸ N)
  self := λ _ _ _ _ _ Z hQ => wpAny_pyIter_gen Z.2.gen hQ
  val := λ _ _ _ _ _ q _ => q.imp λ x q => ⟨q.1, flat_any (hfl x (List.mem_of_getElem? q.1)) q.2⟩
theorem gen_iter (A : Around) (hh : A.handled = none) (hroom : A.depth < recursionLimit) (hlim : C.h0.NoLimit) {s : Shared} (hk0 : Keep0 C s.heap) {O : Addr → Prop} {t : PySem.Expr} {nt : Bool} {s' : Shared} {L ag : Addr} {xs : List D} (hfl : ∀ d ∈ xs, ∃ l, d = .tup l ∧ flatL l = true) (hLs : s.heap.get? L = none) (hag : s.heap.get? ag = none) (hne : ag ≠ L)
    (hI : GInv C A s.heap L ag s.gens.size xs 0 s') : ItOk C.h0 C.prog C.w A O t nt s s' (.ref ag) xs :=
  ⟨_, _, _, _, _, _, _, _, _, rfl, gen_its A hh hroom hlim hk0 hfl hLs hag hne hI⟩
end
theorem gn_ok (K : CxOk C n) {f : Str} {params : Arguments} {body : List Stmt} {sc : Scope} {pm cd doc : Value} {a : Addr} {o : Obj}
    (hm : C.mg f = some (.ref a)) (ho : C.h0.get? a = some o) (hd : o.data = .func (docDef f params body sc pm cd doc)) (hcd : C.h0.CodeRec cd f) (B : genB sc body = true) (hen : C.mg "enumerate" = none)
    (hps : Simple params [("addr" : Str)]) (hk : sc.kind = .function) (hgen : sc.isGenerator = true) (hco : sc.isCoroutine = false) (hnc : ∀ p ∈ sc.names, p.2 ≠ .cell) (hpar : sc.names.lookup ("addr" : Str) = some .local)
    {spec : List D → Option (List D)} (hspec : ∀ ds xs, spec ds = some xs → ∃ x, ds = [.str x] ∧ xs = escD 0 false x.cps.toList) : GnSpec C (n + 2) f spec := by
  refine ⟨a, o, _, hm, ho, hd, λ A s O t nt Q E ds xs vs hA hk0 hbare hO hvs hs hQ => ?_⟩
  obtain ⟨x, rfl, rfl⟩ := hspec ds xs hs
  rw [HasL] at hvs
  obtain ⟨v, r, rfl, hv, hr⟩ := hvs
  rw [HasL] at hr; subst hr
  have hv' := hv
  rw [Has] at hv
  obtain ⟨tt, rfl⟩ := hv
  have hb := bind_simple (f := f) (body := body) (sc := sc) (pm := pm) (cd := cd) (doc := doc) bi_addr hps [.str x tt] rfl
  refine wpAny_call (codeAny_call_generator (hA.room) (hk0 _ _ ho) hd hco hgen rfl (hcd.keeps hk0) ?_)
  rw [hb]
  refine wpAny_pure (wpAny_newFunctionEnv hnc (by
    intro y hy
    have : y = (("addr" : Str), Value.str x tt) := by simpa using hy
    subst this; exact hpar) (λ h₁ hns hsb => ?_) hk)
  dsimp only at hns hsb ⊢
  have kept : ∀ b o, s.heap.get? b = some o → h₁.get? b = some o := λ b o e => hsb.extBut b o (Nat.ne_of_lt (Heap.lt_size e)) (Heap.get?_push_of_some _ e)
  have hLs : s.heap.get? s.heap.objs.size = none := get_none_of_ge (Nat.le_refl _)
  have hLlt : s.heap.objs.size < h₁.objs.size := by obtain ⟨o, es, ep, e, _⟩ := hns; exact Heap.lt_size e
  refine ⟨K.gf.lim.keeps λ b o e => kept b o (hk0 b o e), ?_⟩
  refine hQ _ _ ⟨λ b o e => Heap.get?_push_of_some _ (kept b o e), rfl, λ h => h.push rfl, λ i g e => ?_⟩ λ Q' E' h' => wpAny_pyIter_gen (g := s.gens.size) ⟨_, _, _, Heap.get?_push_size _ rfl, rfl, rfl, rfl⟩ (h' _ _ ⟨λ b o e => Heap.get?_push_of_some _ (kept b o e), rfl, λ h => h.push rfl, λ i g e => ?_⟩ ?_)
  · have : i < s.gens.size := (Array.getElem?_eq_some_iff.mp e).1
    show (s.gens.push _)[i]? = some g
    rw [Array.getElem?_push_lt this]; rw [← e]; simp [this]
  · have : i < s.gens.size := (Array.getElem?_eq_some_iff.mp e).1
    show (s.gens.push _)[i]? = some g
    rw [Array.getElem?_push_lt this]; rw [← e]; simp [this]
  · refine gen_iter A hA.1 hA.room K.gf.lim hk0 (λ d hd => escD_flat hd) hLs (get_none_of_ge (Nat.le_of_lt hLlt)) (Nat.ne_of_gt hLlt) (L := s.heap.objs.size) ⟨λ b o e => Heap.get?_push_of_some _ (kept b o (hk0 b o e)), ⟨_, _, _, Heap.get?_push_size _ rfl, rfl, rfl, rfl⟩, ⟨_, hns.keeps λ b o e => Heap.get?_push_of_some _ e⟩, ?_⟩
    refine ⟨.fresh (.func body (newEnv sc s.heap.objs.size mainGlobals [] (f ++ ".<locals>.") (some a) cd none builtinsNs)), by show (s.gens.push _)[s.gens.size]? = _; simp; rfl, λ s₂ hl => ⟨rfl, ?_⟩⟩
    let F : Frame := ⟨newEnv sc s.heap.objs.size mainGlobals [] (f ++ ".<locals>.") (some a) cd none builtinsNs, C.h0, nmG, true⟩
    have FO : FrameOk C nmG sc F := ⟨rfl, rfl, λ x hx => hx, λ x hx => ⟨rfl, hx⟩, λ _ _ e => e⟩
    have nocell : ∀ y, F.env.kindOf y ≠ some .cell := λ y hy => hnc _ (mem_of_lookup hy) rfl
    have GFr : GFrame C sc F := ⟨FO, λ x hx => ⟨by
      unfold stOk at hx
      simp only [Bool.or_eq_true, beq_iff_eq] at hx
      exact hx.imp id λ q => ⟨rfl, q⟩⟩, rfl, rfl, nocell, hco⟩
    have hns2 : s₂.heap.Ns s.heap.objs.size (λ y => ([(("addr" : Str), Value.str x tt)] : List (Str × Value)).reverse.lookup y) := by
      obtain ⟨o, es, ep, e, r⟩ := hns
      exact ⟨o, es, ep, hl.loc o (Heap.get?_push_of_some _ e), r⟩
    have S : St F (λ _ => False) (λ _ => 0) (initSlots nmG [.str x]) s₂ := by
      have noOwn : ∀ {i : Nat} {es : List D}, (initSlots nmG [.str x])[i]? = some (Slot.own es) → False := by
        intro i es e
        have hm := List.mem_of_getElem? e
        simp [initSlots, nmG] at hm
      refine ⟨⟨hk, rfl, rfl, ⟨_, hns2⟩, ?_, λ _ y q => absurd q (nocell y), (λ _ x y c e => by cases e), hl.keep⟩, λ i sl y e ny => ?_, λ i j ds es e => (noOwn e).elim, λ i ds e => (noOwn e).elim, rfl, ?_, hl.bare, λ _ f => f.elim⟩
      · show C.h0.get? s.heap.objs.size = none
        cases e : C.h0.get? s.heap.objs.size with
        | none => rfl
        | some o => have := hk0 _ _ e; rw [hLs] at this; cases this
      · rcases i with _ | _ | i
        · cases e; trivial
        · cases e
          have hy : y = ("addr" : Str) := by
            have h1 : some (Str.ofString "addr") = some y := ny
            exact (Option.some.inj h1).symm
          subst hy
          exact ⟨.str x tt, .inl ⟨hpar, _, hns2, by simp [List.lookup]⟩, by rw [Has]; exact ⟨tt, rfl⟩⟩
        · have hm : sl ∈ List.replicate 3 Slot.undef := by
            have h1 : (List.replicate 3 Slot.undef)[i]? = some sl := e
            exact List.mem_of_getElem? h1
          rw [(List.mem_replicate.mp hm).2]
          trivial
      · intro i j y h1 h2
        have h1' : nmG[i]? = some y := h1
        have h2' : nmG[j]? = some y := h2
        exact (List.getElem?_inj (List.getElem?_eq_some_iff.mp h1').1 (by decide +kernel)).mp (h1'.trans h2'.symm)
    have := body_seg K GFr hk0 (A := A.in1) hA.in1 (genB_ok B) hen rfl S
    rw [Nat.sub_zero]
    exact this
end
noncomputable def gnB (p : Program) (f : Str) : Bool := onDef p f λ d => genB d.scope d.body && (simpleB d.params [("addr" : Str)] && (d.scope.kind == .function && (d.scope.isGenerator && (!d.scope.isCoroutine && (d.scope.names.all (λ p => p.2 != .cell) && d.scope.names.lookup ("addr" : Str) == some .local)))))
theorem gn_of {C : Cx} {n : Nat} {p : Program} {loose : List Str} {mean : ExcName → Option Value} {mb : Str → Option Value} (T : Top p loose mean C.mg mb C.h0) (K : CxOk C n) {f : Str} (hB : gnB p f = true) (hen : C.mg "enumerate" = none)
    {spec : List D → Option (List D)} (hspec : ∀ ds xs, spec ds = some xs → ∃ x, ds = [.str x] ∧ xs = escD 0 false x.cps.toList) : GnSpec C (n + 2) f spec :=
  onDef_ok T hB λ _ _ _ _ _ _ h g1 g2 g3 g4 => by
    have h1 := band h
    have h2 := band h1.2
    have h3 := band h2.2
    have h4 := band h3.2
    have h5 := band h4.2
    have h6 := band h5.2
    exact gn_ok K g1 g2 g3 g4 h1.1 hen (simpleB_ok h2.1) (eq_of_beq h3.1) h4.1 (bnot h5.1) (λ p hp => bne_iff_ne.mp (List.all_eq_true.mp h6.1 p hp)) (eq_of_beq h6.2) hspec
noncomputable def Cx.addG (C : Cx) (f : Str) (spec : List D → Option (List D)) : Cx := { C with gn := λ g => if g = f then spec else C.gn g }
theorem CxOk.addG {C : Cx} {n : Nat} (K : CxOk C n) {f : Str} {spec : List D → Option (List D)} (h : GnSpec C n f spec) : CxOk (C.addG f spec) n := by
  refine ⟨K.gf, K.gd, K.bi, K.rng, K.zip, K.fn, λ g ds d e => ?_, K.tok⟩
  show GnSpec C n g (if g = f then spec else C.gn g)
  by_cases hg : g = f
  · subst hg; rw [if_pos rfl]; exact h
  · rw [if_neg hg]
    have e' : (if g = f then spec else C.gn g) ds = some d := e
    rw [if_neg hg] at e'
    exact K.gn g ds d e'
noncomputable def freeB (p : Program) (loose : List Str) (x : Str) : Bool := !startupNames.contains x && !loose.contains x && !((recsOf p).map (·.name)).contains x && !((litsOf p).map (·.1)).contains x && !((clssOf p loose).map (·.name)).contains x
theorem free_of {p : Program} {loose : List Str} {mean : ExcName → Option Value} {mg mb : Str → Option Value} {h : Heap} (T : Top p loose mean mg mb h) {x : Str} (hx : freeB p loose x = true) : mg x = none := by
  have no : ∀ {l : List Str}, (!l.contains x) = true → x ∉ l := λ h q => nomatch (bnot h).symm.trans (List.contains_iff_mem.mpr q)
  have h4 := band hx
  have h3 := band h4.1
  have h2 := band h3.1
  have h1 := band h2.1
  exact T.free x (no h1.1) (no h1.2) (no h2.2) (no h3.2) (no h4.2)

noncomputable def runFor (body : List Slot → Option (Fl × List Slot)) (tg : Tg) : List D → List Slot → Option (Fl × List Slot)
  | [], ρ => some (.next, ρ)
  | x :: xs, ρ => (bindT tg x ρ).bind λ ρ' => (body ρ').bind λ r => match r.1 with
    | .next => runFor body tg xs r.2
    | .cont => runFor body tg xs r.2
    | .brk => some (.next, r.2)
    | .ret d => some (.ret d, r.2)
noncomputable def runWhile (test : List Slot → Option Bool) (body : List Slot → Option (Fl × List Slot)) : Nat → List Slot → Option (Fl × List Slot)
  | 0, _ => none
  | n + 1, ρ => (test ρ).bind λ b => if b then (body ρ).bind λ r => match r.1 with
    | .next => runWhile test body n r.2
    | .cont => runWhile test body n r.2
    | .brk => some (.next, r.2)
    | .ret d => some (.ret d, r.2) else some (.next, ρ)
noncomputable def ownOf (o : Option Slot) : Option (List D) := o.bind λ s => match s with | .own ds => some ds | _ => none
noncomputable def intOf (o : Option D) : Option Int := o.bind λ d => match d with | .int i => some i | _ => none
noncomputable def lstOf (o : Option D) : Option (List D) := o.bind λ d => match d with | .lst l => some l | _ => none
noncomputable def froOf (o : Option Slot) : Option D := o.bind λ s => match s with | .fro d => some d | _ => none
theorem ownOf_ok {o : Option Slot} {ds : List D} (h : ownOf o = some ds) : o = some (.own ds) := bindE h λ s e h => by
  cases s <;> first | (cases h; exact e) | exact nos h
theorem froOf_ok {o : Option Slot} {d : D} (h : froOf o = some d) : o = some (.fro d) := bindE h λ s e h => by
  cases s <;> first | (cases h; exact e) | exact nos h
theorem intOf_ok {o : Option D} {i : Int} (h : intOf o = some i) : o = some (.int i) := bindE h λ s e h => by
  cases s <;> first | (cases h; exact e) | exact nos h
theorem lstOf_ok {o : Option D} {l : List D} (h : lstOf o = some l) : o = some (.lst l) := bindE h λ s e h => by
  cases s <;> first | (cases h; exact e) | exact nos h
theorem fin_ {x r : Fl × List Slot} {K : KT} (h : some x = some r) (hK : K r.1 r.2) : K x.1 x.2 := by
  cases h; exact hK
noncomputable def runE (ev : PE → List Slot → Rs) (src : Nat → PE → List Slot → Option (List D)) (f : Nat) : PS → List Slot → Option (Fl × List Slot)
  | .nil => λ ρ => some (.next, ρ)
  | .seq a b => λ ρ => (runE ev src f a ρ).bind λ r => match r.1 with
    | .next => runE ev src f b r.2
    | _ => some r
  | .frz i => λ ρ => (ownOf ρ[i]?).bind λ ds => some (.next, ρ.set i (.fro (.lst ds)))
  | .asg i e => λ ρ => (ev e ρ).e.bind λ d => some (.next, ρ.set i (.fro d))
  | .asgO i e => λ ρ => (lstOf (ev e ρ).e).bind λ ds => some (.next, ρ.set i (.own ds))
  | .asgT is e => λ ρ => (ev e ρ).e.bind λ d => (bindT (.many is) d ρ).bind λ ρ' => some (.next, ρ')
  | .aug i op e => λ ρ => (intOf (froOf ρ[i]?)).bind λ o => (intOf (ev e ρ).e).bind λ d => (augI op o d).bind λ r => some (.next, ρ.set i (.fro (.int r)))
  | .augL i e => λ ρ => (ownOf ρ[i]?).bind λ ds => (src i e ρ).bind λ es => if ds.length + es.length ≤ 16777216 then some (.next, ρ.set i (.own (ds ++ es))) else none
  | .app i e => λ ρ => (ownOf ρ[i]?).bind λ ds => (ev e ρ).e.bind λ d => if ds.length ≤ 16777000 then some (.next, ρ.set i (.own (ds ++ [d]))) else none
  | .setI i k e => λ ρ => (ownOf ρ[i]?).bind λ ds => (ev e ρ).e.bind λ d => (intOf (ev k ρ).e).bind λ n => (setNat ds n d).bind λ ds' => some (.next, ρ.set i (.own ds'))
  | .augI i op k e => λ ρ => (ownOf ρ[i]?).bind λ ds => (intOf (ev k ρ).e).bind λ n => (intOf (ev e ρ).e).bind λ d => (intOf (dsub (.lst ds) (.int n))).bind λ o => (augI op o d).bind λ r => (setNat ds n (.int r)).bind λ ds' => some (.next, ρ.set i (.own ds'))
  | .ifs c a b => λ ρ => (ev c ρ).b.bind λ t => if t then runE ev src f a ρ else runE ev src f b ρ
  | .while_ c a => λ ρ => runWhile (λ ρ => (ev c ρ).b) (runE ev src f a) f ρ
  | .for_ tg it a => λ ρ => (ev it ρ).it.bind λ xs => runFor (runE ev src f a) tg xs ρ
  | .ret e => λ ρ => (ev e ρ).e.bind λ d => some (.ret d, ρ)
noncomputable def run (C : Cx) (f : Nat) (p : PS) (ρ : List Slot) : Option (Fl × List Slot) := runE (ev C) (augSrc C) f p ρ
theorem runFor_vc {body : List Slot → Option (Fl × List Slot)} {vb : List Slot → KT → Prop} (hb : ∀ ρ r, body ρ = some r → ∀ K : KT, K r.1 r.2 → vb ρ K) (tg : Tg) : ∀ (xs : List D) (ρ : List Slot) (r : Fl × List Slot), runFor body tg xs ρ = some r → ∀ K : KT, K r.1 r.2 → vcFor vb tg xs ρ K
  | [], ρ, r, h, K, hK => by cases h; exact hK
  | x :: xs, ρ, r, h, K, hK => by
    refine bindE h λ ρ' e1 h => bindE h λ r1 e2 h => ⟨ρ', e1, hb ρ' r1 e2 _ ?_⟩
    obtain ⟨fl, ρ1⟩ := r1
    cases fl with
    | next => exact runFor_vc hb tg xs ρ1 r h K hK
    | cont => exact runFor_vc hb tg xs ρ1 r h K hK
    | brk => cases h; exact hK
    | ret d => cases h; exact hK
theorem runWhile_vc {test : List Slot → Option Bool} {body : List Slot → Option (Fl × List Slot)} {vb : List Slot → KT → Prop} (hb : ∀ ρ r, body ρ = some r → ∀ K : KT, K r.1 r.2 → vb ρ K) : ∀ (n : Nat) (ρ : List Slot) (r : Fl × List Slot), runWhile test body n ρ = some r → ∀ K : KT, K r.1 r.2 → vcWhile test vb n ρ K
  | 0, ρ, r, h, K, hK => by cases h
  | n + 1, ρ, r, h, K, hK => by
    obtain ⟨b, e1, h⟩ := Option.bind_eq_some_iff.mp h
    refine ⟨b, e1, ?_⟩
    cases b
    · cases h; exact hK
    · obtain ⟨r1, e2, h⟩ := Option.bind_eq_some_iff.mp h
      refine hb ρ r1 e2 _ ?_
      obtain ⟨fl, ρ1⟩ := r1
      cases fl with
      | next => exact runWhile_vc hb n ρ1 r h K hK
      | cont => exact runWhile_vc hb n ρ1 r h K hK
      | brk => cases h; exact hK
      | ret d => cases h; exact hK
theorem run_vc (C : Cx) (f : Nat) (p : PS) : ∀ (ρ : List Slot) (r : Fl × List Slot), run C f p ρ = some r → ∀ K : KT, K r.1 r.2 → vc C p ρ K := by
  induction p with
  | nil => intro ρ r h K hK; exact fin_ h hK
  | seq a b ih1 ih2 =>
    intro ρ r h K hK
    refine bindE h λ r1 e1 h => ih1 ρ r1 e1 _ ?_
    clear e1
    obtain ⟨fl, ρ1⟩ := r1
    cases fl with
    | next => exact ih2 ρ1 r h K hK
    | cont => exact fin_ h hK
    | brk => exact fin_ h hK
    | ret d => exact fin_ h hK
  | frz i => intro ρ r h K hK; exact bindE h λ ds e1 h => ⟨ds, ownOf_ok e1, fin_ h hK⟩
  | asg i e => intro ρ r h K hK; exact bindE h λ d e1 h => ⟨d, e1, fin_ h hK⟩
  | asgO i e => intro ρ r h K hK; exact bindE h λ ds e1 h => ⟨ds, lstOf_ok e1, fin_ h hK⟩
  | asgT is e => intro ρ r h K hK; exact bindE h λ d e1 h => bindE h λ ρ' e2 h => ⟨d, ρ', e1, e2, fin_ h hK⟩
  | aug i op e => intro ρ r h K hK; exact bindE h λ o e1 h => bindE h λ d e2 h => bindE h λ x e3 h => ⟨o, d, x, froOf_ok (intOf_ok e1), intOf_ok e2, e3, fin_ h hK⟩
  | augL i e => intro ρ r h K hK; exact bindE h λ ds e1 h => bindE h λ es e2 h => ⟨ds, es, ownOf_ok e1, e2, (iteE h).1, fin_ (iteE h).2 hK⟩
  | app i e => intro ρ r h K hK; exact bindE h λ ds e1 h => bindE h λ d e2 h => ⟨ds, d, ownOf_ok e1, e2, (iteE h).1, fin_ (iteE h).2 hK⟩
  | setI i k e => intro ρ r h K hK; exact bindE h λ ds e1 h => bindE h λ d e2 h => bindE h λ n e3 h => bindE h λ ds' e4 h => ⟨ds, n, d, ds', ownOf_ok e1, e2, intOf_ok e3, e4, fin_ h hK⟩
  | augI i op k e => intro ρ r h K hK; exact bindE h λ ds e1 h => bindE h λ n e2 h => bindE h λ d e3 h => bindE h λ o e4 h => bindE h λ x e5 h => bindE h λ ds' e6 h => ⟨ds, n, o, d, x, ds', ownOf_ok e1, intOf_ok e2, intOf_ok e4, intOf_ok e3, e5, e6, fin_ h hK⟩
  | ifs c a b ih1 ih2 =>
    intro ρ r h K hK
    refine bindE h λ t e1 h => ⟨t, e1, ?_⟩
    clear e1
    cases t
    · exact ih2 ρ r h K hK
    · exact ih1 ρ r h K hK
  | while_ c a ih => intro ρ r h K hK; exact ⟨f, runWhile_vc ih f ρ r h K hK⟩
  | for_ tg it a ih => intro ρ r h K hK; exact bindE h λ xs e1 h => ⟨xs, e1, runFor_vc ih tg xs ρ r h K hK⟩
  | ret e => intro ρ r h K hK; exact bindE h λ d e1 h => ⟨d, e1, fin_ h hK⟩
structure NewEx (I : Addr) (h h' : Heap) (e : Addr) (cls : String) : Prop where
  keeps : ∀ b o, b ≠ I → h.get? b = some o → h'.get? b = some o
  new : h.get? e = none
  there : ∃ ob t, h'.get? e = some ob ∧ ob.cls = .type cls ∧ ob.data = .fields #[t, .none, .none, .none, .bool false, .none]
section
variable {prog : Program} {w : World} {A : Around} {E : Value → Shared → Prop} {s : Shared} {b : Array UInt8} {t : Tok}
theorem callIter_bytes {Q : Value → Shared → Prop} (hQ : ∀ h', (∀ b o, s.heap.get? b = some o → h'.get? b = some o) → s.heap.get? s.heap.objs.size = none → KBw.IsBytesIter h' s.heap.objs.size b t 0 → Q (.ref s.heap.objs.size) { s with heap := h' }) :
    wpAny (model prog w) A (call (.builtin "iter") [.bytes b t]) Q E s := by
  refine call_function_entry (by decide +kernel) (by decide +kernel) kdk_entry_iter (kdk_args_iter _) ?_
  unfold Builtin.«iter»
  refine wpAny_bind (m := someArgs "iter" 1 2 _) (wpAny_of_eq (a := [Value.bytes b t]) (by first | rfl | kernel_rfl!) ?_)
  show wpAny _ _ (pyIter (.bytes b t) >>= _) _ _ _
  refine wpAny_bind (KBw.pyIter_bytes ?_)
  exact wpAny_pure ⟨_, rfl, hQ _ (λ b o e => Heap.get?_push_of_some _ e) (get_none_of_ge (Nat.le_refl _)) ⟨_, Heap.get?_push_size _ rfl, rfl, rfl⟩⟩
theorem callNext_item {I : Addr} {i : Nat} {c : UInt8} {Q : Value → Shared → Prop} (hit : KBw.IsBytesIter s.heap I b t i) (hx : b[i]? = some c)
    (hQ : ∀ h', KBw.IsBytesIter h' I b t (i + 1) → Heap.SameBut I s.heap h' → Q (.int (c.toNat : Int) s.toks) { s with heap := h', toks := s.toks + 1 }) : wpAny (model prog w) A (call (.builtin "next") [.ref I]) Q E s := by
  obtain ⟨o, ho, hc, hd⟩ := id hit
  refine call_function_entry (by decide +kernel) (by decide +kernel) kdk_entry_next (kdk_args_next _) ?_
  unfold Builtin.«next»
  refine wpAny_bind (m := someArgs "next" 1 2 _) (wpAny_of_eq (a := [Value.ref I]) (by first | rfl | kernel_rfl!) ?_)
  dsimp only
  refine wpAny_bind (wpAny_specialOf (name := Str.ofString "__next__") (KBw.iter_typeIs hit) KBw.slot_next.lookup ?_)
  refine wpAny_ite_split (λ hab => absurd hab (by decide)) (λ _ => ?_)
  refine wpAny_bind (wpAny_callSpecial?_slot (name := Str.ofString "__next__") (KBw.iter_typeIs hit) KBw.slot_next (wpAny_call_entry KBw.slot_next (KBw.iter_typeIs hit) KBw.entry_next ?_ (KBw.args_next _)))
  show wpAny _ _ (field (.ref I) 0 >>= _) _ _ s
  refine wpAny_bind (wpAny_field ho hd (x := .bytes b t) rfl ?_)
  show wpAny _ _ (if (Value.bytes b t == Value.none) = true then _ else _) _ _ s
  rw [if_neg (show ¬ ((Value.bytes b t == Value.none) = true) from Bool.false_ne_true)]
  show wpAny _ _ (field (.ref I) 1 >>= _) _ _ s
  refine wpAny_bind (wpAny_field ho hd (x := .int i 0) rfl ?_)
  refine wpAny_bind (wpAny_of_eq (a := b) rfl ?_)
  simp only [Int.toNat_natCast, hx]
  refine wpAny_bind (wpAny_setField ho hd (by simp) (wpAny_bind (wpAny_mkInt (wpAny_pure ⟨_, rfl, wpAny_pure ⟨_, rfl, hQ _ ?_ (Heap.SameBut.update ..)⟩⟩))))
  exact ⟨_, Heap.get?_update_self _ ho (Obj.isFreed_of_fields (Obj.data_mapFields hd _)), (Obj.cls_mapFields ..).trans hc, by
    rw [Obj.data_mapFields hd]; simp [rawInt]⟩
theorem callNext_end {I : Addr} {i : Nat} {Q : Value → Shared → Prop} (hh : A.handled = none) (hit : KBw.IsBytesIter s.heap I b t i) (hx : b[i]? = none)
    (hE : ∀ h' e, NewEx I s.heap h' e "StopIteration" → E (.ref e) { s with heap := h' }) : wpAny (model prog w) A (call (.builtin "next") [.ref I]) Q E s := by
  obtain ⟨o, ho, hc, hd⟩ := id hit
  refine call_function_entry (by decide +kernel) (by decide +kernel) kdk_entry_next (kdk_args_next _) ?_
  unfold Builtin.«next»
  refine wpAny_bind (m := someArgs "next" 1 2 _) (wpAny_of_eq (a := [Value.ref I]) (by first | rfl | kernel_rfl!) ?_)
  dsimp only
  refine wpAny_bind (wpAny_specialOf (name := Str.ofString "__next__") (KBw.iter_typeIs hit) KBw.slot_next.lookup ?_)
  refine wpAny_ite_split (λ hab => absurd hab (by decide)) (λ _ => ?_)
  refine wpAny_bind (wpAny_callSpecial?_slot (name := Str.ofString "__next__") (KBw.iter_typeIs hit) KBw.slot_next (wpAny_call_entry KBw.slot_next (KBw.iter_typeIs hit) KBw.entry_next ?_ (KBw.args_next _)))
  show wpAny _ _ (field (.ref I) 0 >>= _) _ _ s
  refine wpAny_bind (wpAny_field ho hd (x := .bytes b t) rfl ?_)
  show wpAny _ _ (if (Value.bytes b t == Value.none) = true then _ else _) _ _ s
  rw [if_neg (show ¬ ((Value.bytes b t == Value.none) = true) from Bool.false_ne_true)]
  show wpAny _ _ (field (.ref I) 1 >>= _) _ _ s
  refine wpAny_bind (wpAny_field ho hd (x := .int i 0) rfl ?_)
  refine wpAny_bind (wpAny_of_eq (a := b) rfl ?_)
  simp only [Int.toNat_natCast, hx]
  refine wpAny_bind (wpAny_rule (wpAny_bind (wpAny_setField ho hd (by simp) ?_)))
  show wpAny _ _ (newExc (.type "StopIteration") [] >>= _) _ _ _
  refine wpAny_bind ?_
  simp only [newExc, newTuple]
  refine wpAny_bind (wpAny_newObj_type ?_ (by size_fits))
  refine wpAny_bind (m := firstArgMember _ _) (wpAny_of_eq (a := Value.none) (by first | rfl | (simp only [firstArgMember]; rfl)) ?_)
  refine wpAny_newObj_type ?_ (by size_fits)
  simp only [raiseNew]
  refine wpAny_bind (wpAny_handled ?_)
  rw [show A.in1.in1.handled = none from hh]
  refine wpAny_bind (wpAny_pure (wpAny_throw ?_))
  refine hE _ _ ⟨λ b o n e => ((Heap.SameBut.update ..).extBut.push _).push _ b o n e, ?_, ?_⟩
  · refine get_none_of_ge ?_
    simp [Heap.size_push, Heap.size_after_update]
  · exact ⟨_, _, Heap.get?_push_size _ rfl, rfl, rfl⟩
end
noncomputable def nmE (x : Str) (e : PySem.Expr) : Bool := onName e λ y => y == x
theorem nmE_ok {P : PySem.Expr → Prop} {x : Str} {e : PySem.Expr} (h : nmE x e = true) (H : ∀ p, P (.Name x p)) : P e :=
  onName_ok h λ _ p h => beqS (P := λ y => P (.Name y p)) h (H p)
noncomputable def intE (k : Int) (e : PySem.Expr) : Bool := onConst e λ c => decide (c = .int k)
theorem intE_ok {P : PySem.Expr → Prop} {k : Int} {e : PySem.Expr} (h : intE k e = true) (H : ∀ u p, P (.Constant (.int k) u p)) : P e :=
  onConst_ok h λ _ u p h => deq (P := λ c => P (.Constant c u p)) h (H u p)
noncomputable def callE (f x : Str) (e : PySem.Expr) : Bool := onCall e λ g as _ => onOne as λ a => nmE f g && nmE x a
theorem callE_ok {P : PySem.Expr → Prop} {f x : Str} {e : PySem.Expr} (h : callE f x e = true) (H : ∀ p q r, P (.Call (.Name f p) [.Name x q] [] r)) : P e :=
  onCall_ok h λ g as r h => onOne_ok (P := λ as => P (.Call g as [] r)) h λ a h => nmE_ok (P := λ g => P (.Call g [a] [] r)) (band h).1 λ p => nmE_ok (P := λ a => P (.Call (.Name f p) [a] [] r)) (band h).2 λ q => H p q r
noncomputable def binE (x : Str) (op : Operator) (k : Int) (e : PySem.Expr) : Bool := onBin e λ l o r => decide (o = op) && (nmE x l && intE k r)
theorem binE_ok {P : PySem.Expr → Prop} {x : Str} {op : Operator} {k : Int} {e : PySem.Expr} (h : binE x op k e = true) (H : ∀ p q u r, P (.BinOp (.Name x p) op (.Constant (.int k) u q) r)) : P e :=
  onBin_ok h λ l o r z h => deq (P := λ o => P (.BinOp l o r z)) (band h).1 (nmE_ok (P := λ l => P (.BinOp l op r z)) (band (band h).2).1 λ p => intE_ok (P := λ r => P (.BinOp (.Name x p) op r z)) (band (band h).2).2 λ u q => H p q u z)
noncomputable def asgS (x : Str) (pe : PySem.Expr → Bool) (st : Stmt) : Bool := onAssign st λ t v => nmE x t && pe v
theorem asgS_ok {P : Stmt → Prop} {x : Str} {pe : PySem.Expr → Bool} {st : Stmt} (h : asgS x pe st = true) (H : ∀ p v q, pe v = true → P (.Assign [.Name x p] v q)) : P st :=
  onAssign_ok h λ t v q h => nmE_ok (P := λ t => P (.Assign [t] v q)) (band h).1 λ p => H p v q (band h).2
noncomputable def augS (x : Str) (op : Operator) (pe : PySem.Expr → Bool) (st : Stmt) : Bool := onAug st λ t o v => decide (o = op) && (nmE x t && pe v)
theorem augS_ok {P : Stmt → Prop} {x : Str} {op : Operator} {pe : PySem.Expr → Bool} {st : Stmt} (h : augS x op pe st = true) (H : ∀ p v q, pe v = true → P (.AugAssign (.Name x p) op v q)) : P st :=
  onAug_ok h λ t o v q h => deq (P := λ o => P (.AugAssign t o v q)) (band h).1 (nmE_ok (P := λ t => P (.AugAssign t op v q)) (band (band h).2).1 λ p => H p v q (band (band h).2).2)
noncomputable def retS (pe : PySem.Expr → Bool) (st : Stmt) : Bool := onRet st pe
theorem retS_ok {P : Stmt → Prop} {pe : PySem.Expr → Bool} {st : Stmt} (h : retS pe st = true) (H : ∀ v q, pe v = true → P (.Return (some v) q)) : P st := onRet_ok h H
noncomputable def whileS (pt : PySem.Expr → Bool) (pb : List Stmt → Bool) (st : Stmt) : Bool := onWhile st λ t b => pt t && pb b
theorem whileS_ok {P : Stmt → Prop} {pt : PySem.Expr → Bool} {pb : List Stmt → Bool} {st : Stmt} (h : whileS pt pb st = true) (H : ∀ t b q, pt t = true → pb b = true → P (.While t b [] q)) : P st :=
  onWhile_ok h λ t b q h => H t b q (band h).1 (band h).2
noncomputable def consL (p : Stmt → Bool) (q : List Stmt → Bool) (l : List Stmt) : Bool := onCons l λ s r => p s && q r
theorem consL_ok {P : List Stmt → Prop} {p : Stmt → Bool} {q : List Stmt → Bool} {l : List Stmt} (h : consL p q l = true) (H : ∀ s r, p s = true → q r = true → P (s :: r)) : P l :=
  onCons_ok h λ s r h => H s r (band h).1 (band h).2
noncomputable def nilL (l : List Stmt) : Bool := onNil l true
theorem nilL_ok {P : List Stmt → Prop} {l : List Stmt} (h : nilL l = true) (H : P []) : P l := onNil_ok h λ _ => H
noncomputable def nextS : Stmt → Bool := asgS "b" (callE "next" "iterator")
noncomputable def stepL : List Stmt → Bool := consL (augS "val" .LShift (intE 6)) (consL nextS (consL (augS "val" .BitOr (binE "b" .BitAnd 63)) nilL))
noncomputable def parseB : List Stmt → Bool := consL nextS (consL (asgS "val" (binE "b" .BitAnd 63)) (consL (whileS (binE "b" .BitAnd 64) stepL) (consL (retS (nmE "val")) nilL)))
noncomputable def parseScB (sc : Scope) : Bool := sc.kind == .function && !sc.isGenerator && !sc.isCoroutine && sc.names.all (λ p => p.2 != .cell) && sc.names.lookup ("iterator" : Str) == some .local && sc.names.lookup ("b" : Str) == some .local && sc.names.lookup ("val" : Str) == some .local && sc.names.lookup ("next" : Str) == some .globalImplicit
noncomputable def pvGo : UInt8 → Nat → List UInt8 → Option (Nat × List UInt8)
  | b, v, [] => if b.toNat / 64 % 2 = 1 then none else some (v, [])
  | b, v, c :: cs => if b.toNat / 64 % 2 = 1 then (if v < 1099511627776 then pvGo c (v * 64 + c.toNat % 64) cs else none) else some (v, c :: cs)
theorem pvGo_or {c : UInt8} {v V : Nat} {l rest : List UInt8} (e : pvGo c v l = some (V, rest)) : (¬c.toNat / 64 % 2 = 1 ∧ v = V ∧ l = rest) ∨ ∃ d ds, l = d :: ds ∧ c.toNat / 64 % 2 = 1 ∧ v < 1099511627776 ∧ pvGo d (v * 64 + d.toNat % 64) ds = some (V, rest) := by
  cases l with
  | nil =>
    by_cases h : c.toNat / 64 % 2 = 1
    · cases (if_pos h).symm.trans e
    · cases (if_neg h).symm.trans e; exact .inl ⟨h, rfl, rfl⟩
  | cons d ds =>
    by_cases h : c.toNat / 64 % 2 = 1
    · replace e := (if_pos h).symm.trans e
      by_cases hv : v < 1099511627776
      · exact .inr ⟨d, ds, rfl, h, hv, (if_pos hv).symm.trans e⟩
      · cases (if_neg hv).symm.trans e
    · cases (if_neg h).symm.trans e; exact .inl ⟨h, rfl, rfl⟩
noncomputable def pv : List UInt8 → Option (Nat × List UInt8)
  | [] => none
  | b :: bs => pvGo b (b.toNat % 64) bs
theorem and63 (n : Nat) : Builtin.bitAnd (n : Int) 63 = ((n % 64 : Nat) : Int) := by rw [bitAnd_m6]; lia
theorem and64 (n : Nat) : Builtin.bitAnd (n : Int) 64 = ((n / 64 % 2 * 64 : Nat) : Int) := by
  have := kbt_bit (n : Int) 6
  have e : (2 : Int) ^ 6 = 64 := by decide
  rw [e] at this
  rw [this]; lia
theorem or6 (v c : Nat) (h : c < 64) : Builtin.bitOr ((v : Int) * 64) (c : Int) = ((v * 64 + c : Nat) : Int) := by
  have e1 : Builtin.bitNot ((v : Int) * 64) = -((v * 64 : Nat) : Int) - 1 := by unfold Builtin.bitNot; lia
  have e2 : Builtin.bitNot (c : Int) = -(c : Int) - 1 := by unfold Builtin.bitNot; lia
  unfold Builtin.bitOr Builtin.bitAnd
  rw [e1, e2]
  have d1 : decide (0 ≤ -((v * 64 : Nat) : Int) - 1) = false := by simp; lia
  have d2 : decide (0 ≤ -(c : Int) - 1) = false := by simp; lia
  rw [d1, d2]
  simp only
  have f1 : (Builtin.bitNot (-((v * 64 : Nat) : Int) - 1)).toNat = v * 64 := by unfold Builtin.bitNot; lia
  have f2 : (Builtin.bitNot (-(c : Int) - 1)).toNat = c := by unfold Builtin.bitNot; lia
  rw [f1, f2]
  have g : v * 64 ||| c = v * 64 + c := by
    have := Nat.shiftLeft_add_eq_or_of_lt (i := 6) (b := c) h v
    rw [Nat.shiftLeft_eq] at this
    exact this.symm
  rw [g]
  unfold Builtin.bitNot; lia
section
variable {prog : Program} {w : World} {A : Around} {E : Value → Shared → Prop} {s : Shared} {b : Array UInt8} {t : Tok} {name : Str} {sc : Scope} {L a : Addr} {cd : Value} {m : Str → Option Value}
theorem ex_cons {M : Model} {env : Env} {Q : Flow → Shared → Prop} {p : Stmt → Bool} {q : List Stmt → Bool} {l : List Stmt} (h : consL p q l = true)
    (H : ∀ st r, p st = true → q r = true → wpAny M A (exec st env) (λ f s' => match f with | .next => wpAny M A (execs r env) Q E s' | f => Q f s') E s) : wpAny M A (execs l env) Q E s :=
  consL_ok (P := λ l => wpAny M A (execs l env) Q E s) h λ st r a b => wpAny_execs_cons (H st r a b)
theorem ex_nil {M : Model} {env : Env} {Q : Flow → Shared → Prop} {l : List Stmt} (h : nilL l = true) (H : Q .next s) : wpAny M A (execs l env) Q E s :=
  nilL_ok (P := λ l => wpAny M A (execs l env) Q E s) h (wpAny_execs_nil H)
theorem pl_ld {M : Model} {x : Str} {pos : Pos} {v : Value} {Q : Value → Shared → Prop} (hk : sc.kind = .function) (hl : sc.names.lookup x = some .local) (hn : s.heap.Ns L m) (hv : m x = some v) (h : Q v s) (hd : (x == ("__debug__" : Str)) = false := by decide) :
    wpAny M A (eval (.Name x pos) (envOf name sc L a cd)) Q E s := wpAny_Name (wpAny_loadName_local hk hl hn hv h) hd
theorem pl_ldn {M : Model} {x : Str} {v : Value} {Q : Value → Shared → Prop} (hk : sc.kind = .function) (hl : sc.names.lookup x = some .local) (hn : s.heap.Ns L m) (hv : m x = some v) (h : Q v s) :
    wpAny M A (loadName (envOf name sc L a cd) x) Q E s := wpAny_loadName_local hk hl hn hv h
theorem pl_st {M : Model} {x : Str} {v : Value} {Q : Unit → Shared → Prop} (hk : sc.kind = .function) (hl : sc.names.lookup x = some .local) (hn : s.heap.Ns L m)
    (h : ∀ h', h'.Ns L (λ y => if y = x then some v else m y) → Heap.SameBut L s.heap h' → Q () { s with heap := h', toks := s.toks + 1 }) : wpAny M A (storeName (envOf name sc L a cd) x v) Q E s :=
  wpAny_storeName_local hl hn h (by show (sc.kind == .class || (sc.kind == .module && L != mainGlobals)) = false; rw [hk]; rfl)
theorem pl_built {M : Model} {mg mb : Str → Option Value} {x : Str} {pos : Pos} {v : Value} {Q : Value → Shared → Prop} (hk : sc.kind = .function) (hl : sc.names.lookup x = some .globalImplicit) (G : GF mg mb s.heap) (hm : mg x = none) (hb : bootBuiltins x = some v) (h : Q v s) (hn : x ≠ "__name__" := by decide) (hd : (x == ("__debug__" : Str)) = false := by decide) :
    wpAny M A (eval (.Name x pos) (envOf name sc L a cd)) Q E s :=
  Name_function_global hk hl (loadGlobal_builtin (env := envOf name sc L a cd) G.g hm G.b ((G.boot x hn).trans hb) h) hd
theorem pl_glob {M : Model} {mg mb : Str → Option Value} {x : Str} {pos : Pos} {v : Value} {Q : Value → Shared → Prop} (hk : sc.kind = .function) (hl : sc.names.lookup x = some .globalImplicit) (G : GF mg mb s.heap) (hm : mg x = some v) (h : Q v s) (hd : (x == ("__debug__" : Str)) = false := by decide) :
    wpAny M A (eval (.Name x pos) (envOf name sc L a cd)) Q E s :=
  Name_function_global hk hl (loadGlobal_global (env := envOf name sc L a cd) G.g hm h) hd
theorem pl_call1 {mg mb : Str → Option Value} {f x : Str} {id : String} {p q r : Pos} {v : Value} {Q : Value → Shared → Prop} (hk : sc.kind = .function) (hf : sc.names.lookup f = some .globalImplicit) (G : GF mg mb s.heap) (hm : mg f = none) (hb : bootBuiltins f = some (.builtin id))
    (hl : sc.names.lookup x = some .local) (hn : s.heap.Ns L m) (hv : m x = some v) (h : wpAny (model prog w) A (call (.builtin id) [v]) Q E s) (hne : f ≠ "__name__" := by decide) (hd1 : (f == ("__debug__" : Str)) = false := by decide) (hd2 : (x == ("__debug__" : Str)) = false := by decide) :
    wpAny (model prog w) A (eval (.Call (.Name f p) [.Name x q] [] r) (envOf name sc L a cd)) Q E s :=
  wpAny_Call_NameR (pl_built hk hf G hm hb (PyProof.Rows.callWith_builtin1 (spliced_cons (pl_ld hk hl hn hv (spliced_nil h) hd2)) rfl rfl) hne hd1)
theorem pl_and {x : Str} {p q r : Pos} {u : Nat} {v k : Int} {tv : Tok} {Q : Value → Shared → Prop} (hk : sc.kind = .function) (hl : sc.names.lookup x = some .local) (hn : s.heap.Ns L m) (hv : m x = some (.int v tv)) (h : ∀ tk tk', Q (.int (Builtin.bitAnd v k) tk) { s with toks := tk' }) (hd2 : (x == ("__debug__" : Str)) = false := by decide) :
    wpAny (model prog w) A (eval (.BinOp (.Name x p) .BitAnd (.Constant (.int k) u q) r) (envOf name sc L a cd)) Q E s := by
  refine wpAny_BinOp (pl_ld hk hl hn hv (wpAny_Constant_int ?_) hd2)
  exact PyProof.Rows.and_int (h _ _)
end
structure PvKeep (I L : Addr) (h₀ h : Heap) : Prop where
  keep : ∀ b o, b ≠ I → h₀.get? b = some o → h.get? b = some o
  lt : h₀.objs.size ≤ L
theorem PvKeep.store {I L : Addr} {h₀ h h' : Heap} (x : PvKeep I L h₀ h) (s : Heap.SameBut L h h') : PvKeep I L h₀ h' :=
  ⟨λ b o n e => (s.2 b (Nat.ne_of_lt (Nat.lt_of_lt_of_le (Heap.lt_size e) x.lt))).trans (x.keep b o n e), x.lt⟩
theorem PvKeep.draw {I L : Addr} {h₀ h h' : Heap} (x : PvKeep I L h₀ h) (s : Heap.SameBut I h h') : PvKeep I L h₀ h' :=
  ⟨λ b o n e => (s.2 b n).trans (x.keep b o n e), x.lt⟩
theorem iter_other {h h' : Heap} {I L : Addr} {b : Array UInt8} {t : Tok} {i : Nat} (x : KBw.IsBytesIter h I b t i) (hIL : I ≠ L) (s : Heap.SameBut L h h') : KBw.IsBytesIter h' I b t i := by
  obtain ⟨o, e, r⟩ := x
  exact ⟨o, (s.2 I hIL).trans e, r⟩
theorem drop_cons {b : Array UInt8} {i : Nat} {c : UInt8} {cs : List UInt8} (h : b.toList.drop i = c :: cs) : b[i]? = some c ∧ b.toList.drop (i + 1) = cs := by
  have h1 : b.toList[i]? = some c := by
    have := congrArg (λ l : List UInt8 => l[0]?) h
    simpa using this
  refine ⟨by simpa using h1, ?_⟩
  have := congrArg List.tail h
  simpa using this
theorem drop_nil {b : Array UInt8} {i : Nat} (h : b.toList.drop i = []) : b[i]? = none := by
  have := List.drop_eq_nil_iff.mp h
  simp at this
  simp [this]
structure PvSc (sc : Scope) : Prop where
  kind : sc.kind = .function
  gen : sc.isGenerator = false
  co : sc.isCoroutine = false
  cell : ∀ x ∈ sc.names, x.2 ≠ .cell
  it : sc.names.lookup ("iterator" : Str) = some .local
  b : sc.names.lookup ("b" : Str) = some .local
  val : sc.names.lookup ("val" : Str) = some .local
  next : sc.names.lookup ("next" : Str) = some .globalImplicit
theorem parseScB_ok {sc : Scope} (h : parseScB sc = true) : PvSc sc := by
  have h7 := band h
  have h6 := band h7.1
  have h5 := band h6.1
  have h4 := band h5.1
  have h3 := band h4.1
  have h2 := band h3.1
  have h1 := band h2.1
  exact ⟨eq_of_beq h1.1, bnot h1.2, bnot h2.2, λ x hx => bne_iff_ne.mp (List.all_eq_true.mp h3.2 x hx), eq_of_beq h4.2, eq_of_beq h5.2, eq_of_beq h6.2, eq_of_beq h7.2⟩
section
variable {prog : Program} {w : World} {A : Around} {E : Value → Shared → Prop} {s : Shared} {b : Array UInt8} {t : Tok} {name : Str} {sc : Scope} {L a : Addr} {cd : Value} {m : Str → Option Value} {mg mb : Str → Option Value}
theorem gf_ns {h h' : Heap} (G : GF mg mb h) (k : ∀ {c m}, h.Ns c m → h'.Ns c m) : GF mg mb h' :=
  ⟨k G.g, k G.b, let ⟨mc, a, b⟩ := G.lim; ⟨mc, k a, b⟩, G.boot⟩
theorem gf_keep {h h' : Heap} {I L : Addr} (G : GF mg mb h) (hI : ∃ o vs, h.get? I = some o ∧ o.data = .fields vs) (x : PvKeep I L h h') : GF mg mb h' := by
  obtain ⟨o, vs, ho, hd⟩ := hI
  refine gf_ns G λ {c m} hc => ?_
  obtain ⟨o', es, ep, ho', hd', r⟩ := id hc
  refine ⟨o', es, ep, x.keep _ _ ?_ ho', hd', r⟩
  rintro rfl
  rw [ho] at ho'; cases ho'; rw [hd] at hd'; cases hd'
structure PvFr (I L : Addr) (b : Array UInt8) (t : Tok) (h₀ h : Heap) (i : Nat) (m : Str → Option Value) : Prop where
  ns : h.Ns L m
  it : KBw.IsBytesIter h I b t i
  keep : PvKeep I L h₀ h
  iter : m ("iterator" : Str) = some (.ref I)
theorem PvFr.store {I L : Addr} {h₀ h h' : Heap} {i : Nat} {x : Str} {v : Value} (P : PvFr I L b t h₀ h i m) (hIL : I ≠ L) (hx : x ≠ "iterator") (hn : h'.Ns L (λ y => if y = x then some v else m y)) (hs : Heap.SameBut L h h') :
    PvFr I L b t h₀ h' i (λ y => if y = x then some v else m y) :=
  ⟨hn, iter_other P.it hIL hs, P.keep.store hs, by rw [if_neg (Ne.symm hx)]; exact P.iter⟩
theorem PvFr.draw {I L : Addr} {h₀ h h' : Heap} {i j : Nat} (P : PvFr I L b t h₀ h i m) (hIL : I ≠ L) (hi : KBw.IsBytesIter h' I b t j) (hs : Heap.SameBut I h h') : PvFr I L b t h₀ h' j m :=
  ⟨P.ns.sameBut hs (Ne.symm hIL), hi, P.keep.draw hs, P.iter⟩
theorem boot_next' : bootBuiltins ("next" : Str) = some (.builtin "next") := PyProof.Rows.boot_next
theorem boot_iter' : bootBuiltins ("iter" : Str) = some (.builtin "iter") := PyProof.Rows.boot_iter
theorem pv_draw {I : Addr} {h₀ : Heap} {i : Nat} {c : UInt8} {st : Stmt} {Q : Flow → Shared → Prop} (S : PvSc sc) (hIL : I ≠ L) (G : GF mg mb s.heap) (hm : mg ("next" : Str) = none) (hs : nextS st = true) (P : PvFr I L b t h₀ s.heap i m) (hc : b[i]? = some c)
    (h : ∀ h' tk tv, PvFr I L b t h₀ h' (i + 1) (λ y => if y = ("b" : Str) then some (.int (c.toNat : Int) tv) else m y) → Q .next { s with heap := h', toks := tk }) :
    wpAny (model prog w) A (exec st (envOf name sc L a cd)) Q E s := by
  refine asgS_ok (P := λ st => wpAny (model prog w) A (exec st (envOf name sc L a cd)) Q E s) hs λ p v q hv => callE_ok (P := λ v => wpAny (model prog w) A (exec (.Assign [.Name "b" p] v q) (envOf name sc L a cd)) Q E s) hv λ p1 p2 p3 => ?_
  refine wpAny_Assign_Name (pl_call1 S.kind S.next G hm boot_next' S.it P.ns P.iter (callNext_item P.it hc λ h' hi hs => ?_)) (by rfl)
  exact pl_st S.kind S.b (P.draw hIL hi hs).ns λ h'' hn hs' => h h'' _ _ ((P.draw hIL hi hs).store hIL (by decide) hn hs')
theorem pv_shift {I : Addr} {h₀ : Heap} {i v : Nat} {tv : Tok} {st : Stmt} {Q : Flow → Shared → Prop} (S : PvSc sc) (hIL : I ≠ L) (hs : augS "val" .LShift (intE 6) st = true) (P : PvFr I L b t h₀ s.heap i m) (ev : m ("val" : Str) = some (.int (v : Int) tv)) (hv : v < 1099511627776)
    (h : ∀ h' tk tv, PvFr I L b t h₀ h' i (λ y => if y = ("val" : Str) then some (.int ((v : Int) * 64) tv) else m y) → Q .next { s with heap := h', toks := tk }) :
    wpAny (model prog w) A (exec st (envOf name sc L a cd)) Q E s := by
  refine augS_ok (P := λ st => wpAny (model prog w) A (exec st (envOf name sc L a cd)) Q E s) hs λ p e q he => intE_ok (P := λ e => wpAny (model prog w) A (exec (.AugAssign (.Name "val" p) .LShift e q) (envOf name sc L a cd)) Q E s) he λ u1 u2 => ?_
  refine wpAny_AugAssign_Name (pl_ldn S.kind S.val P.ns ev (wpAny_Constant_int ?_))
  refine PyProof.Rows.ilshift_int_small (by decide) (by decide) (by omega) ?_
  exact pl_st S.kind S.val P.ns λ h2 hn2 hs2 => h h2 _ _ (P.store hIL (by decide) hn2 hs2)
theorem pv_or {I : Addr} {h₀ : Heap} {i v : Nat} {c : UInt8} {tb tv : Tok} {st : Stmt} {Q : Flow → Shared → Prop} (S : PvSc sc) (hIL : I ≠ L) (hs : augS "val" .BitOr (binE "b" .BitAnd 63) st = true) (P : PvFr I L b t h₀ s.heap i m) (ev : m ("val" : Str) = some (.int ((v : Int) * 64) tv)) (eb : m ("b" : Str) = some (.int (c.toNat : Int) tb))
    (h : ∀ h' tk tv, PvFr I L b t h₀ h' i (λ y => if y = ("val" : Str) then some (.int ((v * 64 + c.toNat % 64 : Nat) : Int) tv) else m y) → Q .next { s with heap := h', toks := tk }) :
    wpAny (model prog w) A (exec st (envOf name sc L a cd)) Q E s := by
  refine augS_ok (P := λ st => wpAny (model prog w) A (exec st (envOf name sc L a cd)) Q E s) hs λ p e q he => binE_ok (P := λ e => wpAny (model prog w) A (exec (.AugAssign (.Name "val" p) .BitOr e q) (envOf name sc L a cd)) Q E s) he λ u1 u2 u3 u4 => ?_
  refine wpAny_AugAssign_Name (pl_ldn S.kind S.val P.ns ev (pl_and S.kind S.b P.ns eb λ tk4 tk5 => ?_))
  refine PyProof.Rows.ior_int ?_
  rw [and63, or6 v _ (Nat.mod_lt _ (by decide))]
  exact pl_st S.kind S.val P.ns λ h2 hn2 hs2 => h h2 _ _ (P.store hIL (by decide) hn2 hs2)
theorem bit64 (n : Nat) : ((((n / 64 % 2 * 64 : Nat) : Int) != 0) = true) = (n / 64 % 2 = 1) := by
  rcases Nat.mod_two_eq_zero_or_one (n / 64) with h | h <;> rw [h] <;> decide
theorem pv_test {I : Addr} {h₀ : Heap} {i : Nat} {c : UInt8} {tb : Tok} {test : PySem.Expr} {Q : Bool → Shared → Prop} (S : PvSc sc) (ht : binE "b" .BitAnd 64 test = true) (P : PvFr I L b t h₀ s.heap i m) (eb : m ("b" : Str) = some (.int (c.toNat : Int) tb))
    (h : ∀ tk v, (v = true) = (c.toNat / 64 % 2 = 1) → Q v { s with toks := tk }) : wpAny (model prog w) A (PySem.isTrue test (envOf name sc L a cd) (eval test (envOf name sc L a cd))) Q E s := by
  refine binE_ok (P := λ e => wpAny (model prog w) A (PySem.isTrue e (envOf name sc L a cd) (eval e (envOf name sc L a cd))) Q E s) ht λ u1 u2 u3 u4 => ?_
  refine isTrue_plain (pl_and S.kind S.b P.ns eb λ tk tk' => PyProof.Rows.truthy_int ?_) rfl
  rw [and64]
  exact h _ _ (bit64 _)
inductive PvInv (s : Shared) (h₀ : Heap) (I L : Addr) (b : Array UInt8) (t : Tok) (V : Nat) (rest : List UInt8) : Nat → Shared → Prop
  | mk {h' tk i m v c tb tv} : PvFr I L b t h₀ h' i m → m ("b" : Str) = some (.int ((c : UInt8).toNat : Int) tb) → m ("val" : Str) = some (.int ((v : Nat) : Int) tv) → pvGo c v (b.toList.drop i) = some (V, rest) → PvInv s h₀ I L b t V rest (b.toList.drop i).length { s with heap := h', toks := tk }
theorem pv_turn {I : Addr} {h₀ : Heap} {i v : Nat} {c : UInt8} {tv : Tok} {lb : List Stmt} {K : Flow → Shared → Prop} (S : PvSc sc) (hIL : I ≠ L) (G : ∀ h', PvKeep I L h₀ h' → GF mg mb h') (hm : mg ("next" : Str) = none) (hb : stepL lb = true)
    (P : PvFr I L b t h₀ s.heap i m) (ev : m ("val" : Str) = some (.int (v : Int) tv)) (hv : v < 1099511627776) (hc : b[i]? = some c)
    (h : ∀ h' tk m' tb tv, PvFr I L b t h₀ h' (i + 1) m' → m' ("b" : Str) = some (.int (c.toNat : Int) tb) → m' ("val" : Str) = some (.int ((v * 64 + c.toNat % 64 : Nat) : Int) tv) → K .next { s with heap := h', toks := tk }) :
    wpAny (model prog w) A (execs lb (envOf name sc L a cd)) K E s :=
  ex_cons hb λ _ _ a1 hb => pv_shift S hIL a1 P ev hv λ h1 tk1 tv1 P1 => ex_cons hb λ _ _ a2 hb => pv_draw S hIL (G _ P1.keep) hm a2 P1 hc λ h2 tk2 tv2 P2 =>
    ex_cons hb λ _ _ a3 hb => pv_or S hIL a3 P2 (by rfl) (by rfl) λ h3 tk3 tv3 P3 => ex_nil hb (h h3 tk3 _ tv2 tv3 P3 (by rfl) (by rfl))
theorem pv_first {I : Addr} {h₀ : Heap} {i : Nat} {c : UInt8} {tb : Tok} {st : Stmt} {Q : Flow → Shared → Prop} (S : PvSc sc) (hIL : I ≠ L) (hs : asgS "val" (binE "b" .BitAnd 63) st = true) (P : PvFr I L b t h₀ s.heap i m) (eb : m ("b" : Str) = some (.int (c.toNat : Int) tb))
    (h : ∀ h' tk tv, PvFr I L b t h₀ h' i (λ y => if y = ("val" : Str) then some (.int ((c.toNat % 64 : Nat) : Int) tv) else m y) → Q .next { s with heap := h', toks := tk }) :
    wpAny (model prog w) A (exec st (envOf name sc L a cd)) Q E s := by
  refine asgS_ok (P := λ st => wpAny (model prog w) A (exec st (envOf name sc L a cd)) Q E s) hs λ p e q he => binE_ok (P := λ e => wpAny (model prog w) A (exec (.Assign [.Name "val" p] e q) (envOf name sc L a cd)) Q E s) he λ u1 u2 u3 u4 => ?_
  refine wpAny_Assign_Name (pl_and S.kind S.b P.ns eb λ tk4 tk5 => ?_) (by rfl)
  rw [and63]
  exact pl_st S.kind S.val P.ns λ h2 hn2 hs2 => h h2 _ _ (P.store hIL (by decide) hn2 hs2)
theorem pl_ret {M : Model} {x : Str} {st : Stmt} {v : Value} {Q : Flow → Shared → Prop} (hs : retS (nmE x) st = true) (hk : sc.kind = .function) (hl : sc.names.lookup x = some .local) (hn : s.heap.Ns L m) (hv : m x = some v) (h : Q (.ret v) s) (hd : (x == ("__debug__" : Str)) = false := by decide) :
    wpAny M A (exec st (envOf name sc L a cd)) Q E s :=
  retS_ok (P := λ st => wpAny M A (exec st (envOf name sc L a cd)) Q E s) hs λ v q hv' => nmE_ok (P := λ v => wpAny M A (exec (.Return (some v) q) (envOf name sc L a cd)) Q E s) hv' λ p => wpAny_Return_some (pl_ld hk hl hn hv h hd)
theorem pv_loop {I : Addr} {h₀ : Heap} {st : Stmt} {Q : Flow → Shared → Prop} (S : PvSc sc) (hIL : I ≠ L) (G : ∀ h', PvKeep I L h₀ h' → GF mg mb h') (hm : mg ("next" : Str) = none) (hst : whileS (binE "b" .BitAnd 64) stepL st = true)
    {i : Nat} {v : Nat} {c : UInt8} {tb tv : Tok} {V : Nat} {rest : List UInt8} (P : PvFr I L b t h₀ s.heap i m) (eb : m ("b" : Str) = some (.int (c.toNat : Int) tb)) (ev : m ("val" : Str) = some (.int (v : Int) tv)) (e : pvGo c v (b.toList.drop i) = some (V, rest))
    (h : ∀ h' tk i' m' tv', PvFr I L b t h₀ h' i' m' → m' ("val" : Str) = some (.int (V : Int) tv') → b.toList.drop i' = rest → Q .next { s with heap := h', toks := tk }) :
    wpAny (model prog w) A (exec st (envOf name sc L a cd)) Q E s := by
  refine whileS_ok (P := λ st => wpAny (model prog w) A (exec st (envOf name sc L a cd)) Q E s) hst λ test lb q ht hb => ?_
  refine wpAny_While (codeAny_whileLoop (PvInv s h₀ I L b t V rest) (λ n s₁ hI => ?_) _ (.mk P eb ev e))
  cases hI with
  | @mk h1 tk1 i m v c tb tv P eb ev e =>
    refine pv_test S ht P eb λ tk x hx => ?_
    rcases pvGo_or e with ⟨hb, rfl, hr⟩ | ⟨d, ds, hl, hb', hv, e⟩
    · exact itn (λ q => hb (hx.mp q)) (wpAny_execs_nil (h _ _ i m tv P ev hr))
    · refine itp (hx.mpr hb') ?_
      obtain ⟨hc, hdr⟩ := drop_cons hl
      subst hdr
      exact pv_turn S hIL G hm hb P ev hv hc λ h2 tk2 m2 tb2 tv2 P2 eb2 ev2 => ⟨_, by rw [hl]; exact Nat.lt_succ_self _, .mk P2 eb2 ev2 e⟩
end
section
variable {prog : Program} {w : World} {A : Around} {E : Value → Shared → Prop} {s : Shared} {b : Array UInt8} {t : Tok} {mg mb : Str → Option Value}
theorem iterFields {h : Heap} {I : Addr} {b : Array UInt8} {t : Tok} {i : Nat} (x : KBw.IsBytesIter h I b t i) : ∃ o vs, h.get? I = some o ∧ o.data = .fields vs := let ⟨o, e, _, d⟩ := x; ⟨o, _, e, d⟩
inductive PvDef (mg : Str → Option Value) (h : Heap) : Prop
  | mk {a o params body sc pm cd doc} : mg ("_parse_varint" : Str) = some (.ref a) → h.get? a = some o → o.data = .func (docDef "_parse_varint" params body sc pm cd doc) → h.CodeRec cd "_parse_varint" →
    parseB body = true → PvSc sc → Simple params ["iterator"] → PvDef mg h
structure PvFn (mg : Str → Option Value) (h : Heap) : Prop where
  fn : PvDef mg h
  next : mg ("next" : Str) = none
theorem pv_enter {I : Addr} {h₁ : Heap} {i : Nat} (hit : KBw.IsBytesIter s.heap I b t i) (F : Fr s.heap s.heap.objs.size h₁ λ x => ([(("iterator" : Str), Value.ref I)]).reverse.lookup x) :
    I ≠ s.heap.objs.size ∧ PvFr I s.heap.objs.size b t s.heap h₁ i λ x => ([(("iterator" : Str), Value.ref I)]).reverse.lookup x := by
  obtain ⟨o', e', r⟩ := hit
  exact ⟨Nat.ne_of_lt (Heap.lt_size e'), F.ns, ⟨o', F.keep _ _ e', r⟩, ⟨λ b o _ e => F.keep b o e, F.above⟩, by rfl⟩
theorem pv_locals {sc : Scope} {I : Addr} (S : PvSc sc) : ∀ x : Str × Value, x ∈ [(("iterator" : Str), Value.ref I)] → sc.names.lookup x.1 = some .local :=
  List.forall_mem_singleton.mpr S.it
theorem pv_some {l : List UInt8} {V : Nat} {rest : List UInt8} (e : pv l = some (V, rest)) : ∃ c cs, l = c :: cs ∧ pvGo c (c.toNat % 64) cs = some (V, rest) := by
  cases l with
  | nil => exact nos e
  | cons c cs => exact ⟨c, cs, rfl, e⟩
theorem parse_body {I a : Addr} {h₀ : Heap} {body : List Stmt} {sc : Scope} {L : Addr} {cd : Value} {f : Str} {m : Str → Option Value} {Q : Flow → Shared → Prop} (hB : parseB body = true) (S : PvSc sc) (hIL : I ≠ L) (G : ∀ h', PvKeep I L h₀ h' → GF mg mb h') (hm : mg ("next" : Str) = none)
    {i : Nat} (P : PvFr I L b t h₀ s.heap i m) {V : Nat} {rest : List UInt8} (e : pv (b.toList.drop i) = some (V, rest))
    (h : ∀ h' tk i' tv m', PvFr I L b t h₀ h' i' m' → b.toList.drop i' = rest → Q (.ret (.int (V : Int) tv)) { s with heap := h', toks := tk }) : wpAny (model prog w) A (execs body (envOf f sc L a cd)) Q E s := by
  obtain ⟨c, cs, hd, e⟩ := pv_some e
  obtain ⟨hx, hdr⟩ := drop_cons hd
  subst hdr
  exact ex_cons hB λ _ _ a1 hB => pv_draw S hIL (G _ P.keep) hm a1 P hx λ h2 tk2 tv2 P2 => ex_cons hB λ _ _ a2 hB => pv_first S hIL a2 P2 (by rfl) λ h3 tk3 tv3 P3 =>
    ex_cons hB λ _ _ a3 hB => pv_loop S hIL G hm a3 P3 (by rfl) (by rfl) e λ h6 tk6 i' m' tv' P6 ev hr => ex_cons hB λ _ _ a4 _ => pl_ret a4 S.kind S.val P6.ns ev (h h6 tk6 i' tv' m' P6 hr)
theorem parse_ok {a I : Addr} {o : Obj} {params : Arguments} {body : List Stmt} {sc : Scope} {pm cd doc : Value} {f : Str} {Q : Value → Shared → Prop} (hroom : A.depth < recursionLimit) (ho : s.heap.get? a = some o) (hd : o.data = .func (docDef f params body sc pm cd doc)) (hcd : s.heap.CodeRec cd f)
    (hB : parseB body = true) (S : PvSc sc) (hP : Simple params ["iterator"]) (G : GF mg mb s.heap) (hm : mg ("next" : Str) = none) {i : Nat} (hit : KBw.IsBytesIter s.heap I b t i) {V : Nat} {rest : List UInt8} (e : pv (b.toList.drop i) = some (V, rest))
    (h : ∀ h' tk i' tv, (∀ b o, b ≠ I → s.heap.get? b = some o → h'.get? b = some o) → KBw.IsBytesIter h' I b t i' → b.toList.drop i' = rest → Q (.int (V : Int) tv) { s with heap := h', toks := tk }) :
    wpAny (model prog w) A (call (.ref a) [.ref I]) Q E s :=
  wpAny_call (call_plain hroom ho hd G.lim hcd (bind_simple bi_iterator hP [.ref I] rfl) (pv_locals S) (λ h₁ F => parse_body (s := { s with heap := h₁, toks := _ }) hB S (pv_enter hit F).1 (λ h' k => gf_keep G (iterFields hit) k) hm (pv_enter hit F).2 e λ h' tk i' tv m' P hr => h h' tk i' tv P.keep.keep P.it hr) S.co S.gen S.kind S.cell)
theorem pv_left {I L e2 : Addr} {h₁ h2 : Heap} {o' : Obj} {vs : Array Value} {m : Str → Option Value} {base : Heap} {outer : List Env} {f : Str} {sc : Scope} {a : Addr} {cd : Value} (S : PvSc sc) (F : ∀ c o, s.heap.get? c = some o → h₁.get? c = some o) (hL : s.heap.objs.size = L) (hIL : I ≠ L)
    (hI : h₁.get? I = some o') (dI : o'.data = .fields vs) (hns : h₁.Ns L m) (hkb : base.StaysIn s.heap) (hIb : base.get? I = none) (hl : s.heap.FunFrames base outer)
    (kp : ∀ c o, c ≠ I → h₁.get? c = some o → h2.get? c = some o) (new : h₁.get? e2 = none) :
    base.get? e2 = none ∧ base.StaysIn h2 ∧ h2.FunFrames base (envOf f sc L a cd :: outer) ∧ ∀ c o, s.heap.get? c = some o → (∀ vs, o.data ≠ .fields vs) → h2.get? c = some o := by
  subst hL
  have k : ∀ c o, s.heap.get? c = some o → (∀ vs, o.data ≠ .fields vs) → h2.get? c = some o := λ c o ho hnf => kp c o (by rintro rfl; rw [F _ _ ho] at hI; cases hI; exact hnf _ dI) (F _ _ ho)
  refine ⟨?_, λ c o' q => kp c o' (by rintro rfl; rw [hIb] at q; exact nos q) (F _ _ (hkb _ _ q)), ?_, k⟩
  · cases q : base.get? e2 with
    | none => rfl
    | some o' => exact nos (new.symm.trans (F _ _ (hkb _ _ q)))
  · obtain ⟨o', es, ep, ho', hd', r⟩ := hns
    exact Heap.FunFrames.cons (λ q => nomatch S.kind.symm.trans q) rfl ⟨o', es, ep, kp _ _ (Ne.symm hIL) ho', hd', r⟩ hkb.fresh (hl.of_keeps λ c o' ho' hnf => ⟨o', k c o' ho' hnf, rfl⟩)
theorem parse_end {a I : Addr} {o : Obj} {params : Arguments} {body : List Stmt} {sc : Scope} {pm cd doc : Value} {f : Str} {Q : Value → Shared → Prop} (hh : A.handled = none) (hroom : A.depth < recursionLimit) (ho : s.heap.get? a = some o) (hd : o.data = .func (docDef f params body sc pm cd doc)) (hcd : s.heap.CodeRec cd f)
    (hB : parseB body = true) (S : PvSc sc) (hP : Simple params ["iterator"]) (G : GF mg mb s.heap) (hm : mg ("next" : Str) = none) {i : Nat} (hit : KBw.IsBytesIter s.heap I b t i) (e : b.toList.drop i = [])
    {base : Heap} {outer : List Env} (hfr : A.frames = some outer) (hl : s.heap.FunFrames base outer) (hkb : base.StaysIn s.heap) (hIb : base.get? I = none)
    (h : ∀ h' tk e a0, Heap.FlyingW base outer e (.type "StopIteration") a0 h' → s.heap.UpToSlots h' → E (.ref e) { s with heap := h', toks := tk }) :
    wpAny (model prog w) A (call (.ref a) [.ref I]) Q E s := by
  refine wpAny_call (call_plain hroom ho hd G.lim hcd (bind_simple bi_iterator hP [.ref I] rfl) (pv_locals S) (λ h₁ F => ?_) S.co S.gen S.kind S.cell)
  obtain ⟨hIL, P1⟩ := pv_enter hit F
  refine ex_cons hB λ _ _ a1 _ => asgS_ok (P := λ st => wpAny (model prog w) _ (exec st _) _ _ _) a1 λ p v q hv => callE_ok (P := λ v => wpAny (model prog w) _ (exec (.Assign [.Name "b" p] v q) _) _ _ _) hv λ p1 p2 p3 => ?_
  refine wpAny_Assign_Name (pl_call1 S.kind S.next (gf_keep G (iterFields hit) P1.keep) hm boot_next' S.it P1.ns P1.iter (callNext_end (A := A.deeper _) hh P1.it (drop_nil e) λ h2 e2 X => ?_)) (by rfl)
  obtain ⟨oe, t0, he, hcl, hde⟩ := X.there
  obtain ⟨oI, vs, eI, dI⟩ := iterFields P1.it
  obtain ⟨hen, hst, hl2, kp⟩ := pv_left (f := f) (a := a) (cd := cd) (outer := outer) (e2 := e2) (h2 := h2) S F.keep rfl hIL eI dI F.ns hkb hIb hl X.keeps X.new
  refine wpAny_leaving_firstW (a0 := t0) (Around.frames_deeper hfr) hl2 rfl he hst hen hde rfl rfl λ h3 L3 => ?_
  obtain ⟨k1, ⟨_, _, k2⟩, k3, k4⟩ := L3
  rw [hcl] at k3
  exact h h3 _ e2 t0 ⟨k1, hen, k2, k3⟩ λ c o' ho' hnf => k4 c o' (kp c o' ho' hnf) hnf
end
noncomputable def noE (e : PySem.Expr) : Bool := onLst e λ xs => onNil xs true
theorem noE_ok {P : PySem.Expr → Prop} {e : PySem.Expr} (h : noE e = true) (H : ∀ p, P (.List [] p)) : P e :=
  onLst_ok h λ xs p h => onNil_ok (P := λ xs => P (.List xs p)) h λ _ => H p
noncomputable def lenE (x : Str) (k : Int) (e : PySem.Expr) : Bool := onCmp e λ l os rs => onOne os λ o => onOne rs λ r => decide (o = .Lt) && (callE "len" x l && intE k r)
theorem lenE_ok {P : PySem.Expr → Prop} {x : Str} {k : Int} {e : PySem.Expr} (h : lenE x k e = true) (H : ∀ p q r u q' r', P (.Compare (.Call (.Name "len" p) [.Name x q] [] r) [.Lt] [.Constant (.int k) u q'] r')) : P e :=
  onCmp_ok h λ l os rs z h => onOne_ok (P := λ os => P (.Compare l os rs z)) h λ o h => onOne_ok (P := λ rs => P (.Compare l [o] rs z)) h λ r h => deq (P := λ o => P (.Compare l [o] [r] z)) (band h).1
    (callE_ok (P := λ l => P (.Compare l [.Lt] [r] z)) (band (band h).2).1 λ p q y => intE_ok (P := λ r => P (.Compare (.Call (.Name "len" p) [.Name x q] [] y) [.Lt] [r] z)) (band (band h).2).2 λ u q' => H p q y u q' z)
noncomputable def appS (x : Str) (pe : PySem.Expr → Bool) (st : Stmt) : Bool := onExprS st λ c => onCall c λ f xs pos => onAttr f λ o y apos => onOne xs λ v => y == ("append" : Str) && (nmE x o && (apos.endLine == pos.line && pe v))
theorem appS_ok {P : Stmt → Prop} {x : Str} {pe : PySem.Expr → Bool} {st : Stmt} (h : appS x pe st = true) (H : ∀ p apos v pos q, (apos.endLine == pos.line) = true → pe v = true → P (.Expr (.Call (.Attribute (.Name x p) "append" apos) [v] [] pos) q)) : P st :=
  onExprS_ok h λ c q h => onCall_ok (P := λ c => P (.Expr c q)) h λ f xs pos h => onAttr_ok (P := λ f => P (.Expr (.Call f xs [] pos) q)) h λ o y apos h => onOne_ok (P := λ xs => P (.Expr (.Call (.Attribute o y apos) xs [] pos) q)) h λ v h =>
    beqS (P := λ y => P (.Expr (.Call (.Attribute o y apos) [v] [] pos) q)) (band h).1 (nmE_ok (P := λ o => P (.Expr (.Call (.Attribute o "append" apos) [v] [] pos) q)) (band (band h).2).1 λ p => H p apos v pos q (band (band (band h).2).2).1 (band (band (band h).2).2).2)
noncomputable def onTry (e : Stmt) (k : List Stmt → List ExceptHandler → Bool) : Bool := dite (e.ctorIdx = 17) (λ h => Stmt.Try.elim (motive_2 := λ _ => Bool) e h λ b hs els fin p => onNil els (onNil fin (k b hs))) λ _ => false
theorem onTry_ok {P : Stmt → Prop} {e : Stmt} {k : List Stmt → List ExceptHandler → Bool} (h : onTry e k = true) (H : ∀ b hs p, k b hs = true → P (.Try b hs [] [] p)) : P e :=
  dite_ok h λ hc hk => Stmt.Try.elim (motive_2 := λ e => ∀ hc, Stmt.Try.elim (motive_2 := λ _ => Bool) e hc (λ b hs els fin p => onNil els (onNil fin (k b hs))) = true → P e) e hc (λ b hs els fin p _ hk => onNil_ok (P := λ els => P (.Try b hs els fin p)) hk λ hk => onNil_ok (P := λ fin => P (.Try b hs [] fin p)) hk (H b hs p)) hc hk
noncomputable def onHandler (h : ExceptHandler) (k : PySem.Expr → List Stmt → Bool) : Bool := ExceptHandler.casesOn (motive_4 := λ _ => Bool) h λ t n b _ => onSome t λ t => onNone n (k t b)
theorem onHandler_ok {P : ExceptHandler → Prop} {h : ExceptHandler} {k : PySem.Expr → List Stmt → Bool} (hk : onHandler h k = true) (H : ∀ t b q, k t b = true → P (.ExceptHandler (some t) none b q)) : P h := by
  cases h with
  | ExceptHandler t n b q => exact onSome_ok (P := λ t => P (.ExceptHandler t n b q)) hk λ t hk => onNone_ok (P := λ n => P (.ExceptHandler (some t) n b q)) hk (H t b q)
noncomputable def tryS (pb : List Stmt → Bool) (x : Str) (ph : List Stmt → Bool) (st : Stmt) : Bool := onTry st λ b hs => onOne hs λ h => onHandler h λ t hb => nmE x t && (pb b && ph hb)
theorem tryS_ok {P : Stmt → Prop} {pb ph : List Stmt → Bool} {x : Str} {st : Stmt} (h : tryS pb x ph st = true) (H : ∀ b p hb q r, pb b = true → ph hb = true → P (.Try b [.ExceptHandler (some (.Name x p)) none hb q] [] [] r)) : P st :=
  onTry_ok h λ b hs r h => onOne_ok (P := λ hs => P (.Try b hs [] [] r)) h λ z h => onHandler_ok (P := λ z => P (.Try b [z] [] [] r)) h λ t hb q h =>
    nmE_ok (P := λ t => P (.Try b [.ExceptHandler (some t) none hb q] [] [] r)) (band h).1 λ p => H b p hb q r (band (band h).2).1 (band (band h).2).2
noncomputable def turnS : Stmt → Bool := appS "told" (callE "_parse_varint" "source")
noncomputable def toldW : Stmt → Bool := whileS (lenE "told" 9) (consL turnS nilL)
noncomputable def toldB : List Stmt → Bool := consL (asgS "told" noE) (consL (asgS "source" (callE "iter" "octets")) (consL (tryS (consL toldW nilL) "StopIteration" (consL (retS (nmE "told")) nilL)) λ _ => true))
noncomputable def toldScB (sc : Scope) : Bool := sc.kind == .function && !sc.isGenerator && !sc.isCoroutine && sc.names.all (λ p => p.2 != .cell) && sc.names.lookup ("octets" : Str) == some .local && sc.names.lookup ("told" : Str) == some .local && sc.names.lookup ("source" : Str) == some .local && sc.names.lookup ("iter" : Str) == some .globalImplicit && sc.names.lookup ("len" : Str) == some .globalImplicit && sc.names.lookup ("_parse_varint" : Str) == some .globalImplicit && sc.names.lookup ("StopIteration" : Str) == some .globalImplicit
structure TdSc (sc : Scope) : Prop where
  kind : sc.kind = .function
  gen : sc.isGenerator = false
  co : sc.isCoroutine = false
  cell : ∀ x ∈ sc.names, x.2 ≠ .cell
  octets : sc.names.lookup ("octets" : Str) = some .local
  told : sc.names.lookup ("told" : Str) = some .local
  source : sc.names.lookup ("source" : Str) = some .local
  iter : sc.names.lookup ("iter" : Str) = some .globalImplicit
  len : sc.names.lookup ("len" : Str) = some .globalImplicit
  parse : sc.names.lookup ("_parse_varint" : Str) = some .globalImplicit
  stop : sc.names.lookup ("StopIteration" : Str) = some .globalImplicit
theorem toldScB_ok {sc : Scope} (h : toldScB sc = true) : TdSc sc := by
  have h10 := band h
  have h9 := band h10.1
  have h8 := band h9.1
  have h7 := band h8.1
  have h6 := band h7.1
  have h5 := band h6.1
  have h4 := band h5.1
  have h3 := band h4.1
  have h2 := band h3.1
  have h1 := band h2.1
  exact ⟨eq_of_beq h1.1, bnot h1.2, bnot h2.2, λ x hx => bne_iff_ne.mp (List.all_eq_true.mp h3.2 x hx), eq_of_beq h4.2, eq_of_beq h5.2, eq_of_beq h6.2, eq_of_beq h7.2, eq_of_beq h8.2, eq_of_beq h9.2, eq_of_beq h10.2⟩
noncomputable def Told : List UInt8 → List Nat → Prop
  | bs, [] => bs = []
  | bs, V :: Vs => ∃ rest, pv bs = some (V, rest) ∧ Told rest Vs
theorem setFlight_heldW {M : Model} {A : Around} {E : Value → Shared → Prop} {s : Shared} {base : Heap} {l : List Env} {e L L' : Addr} {cls a0 : Value} {Q : Unit → Shared → Prop} (R : Heap.HeldW base l e cls a0 L' s.heap)
    (h : ∀ h', Heap.HeldW base l e cls a0 L h' → s.heap.UpToSlots h' → Q () { s with heap := h' }) : wpAny M A (setFlight (.ref e) (some L)) Q E s := by
  obtain ⟨hkb, hen, hl, oe, vs, T, oT, ts, he, hcls, hd, h1, hnT, hTe, hT, hdT, h3⟩ := R
  have hsz3 : 3 < ts.size := (Array.getElem?_eq_some_iff.mp h3).1
  have other : ∀ b, b ≠ T → (s.heap.update T (Obj.mapFields (·.setIfInBounds 3 ((some L).elim Value.none λ f => rawInt f)))).get? b = s.heap.get? b :=
    λ b hb => Heap.get?_update_other _ _ (Ne.symm hb)
  have noRecord : ∀ b o, s.heap.get? b = some o → (∀ vs, o.data ≠ .fields vs) → b ≠ T := λ b o hb hnf q => by
    rw [q, hT] at hb; injection hb with hb; subst hb; exact hnf ts hdT
  unfold setFlight
  refine wpAny_bind (wpAny_field he hd h1 ?_)
  rw [if_pos (show (Value.ref T != Value.none) = true from by simp)]
  refine wpAny_setField hT hdT hsz3 (h _ ⟨λ b o hbo => (other b λ q => by rw [q, hnT] at hbo; cases hbo).trans (hkb b o hbo), hen,
    hl.of_keeps λ b o hb hnf => ⟨o, (other b (noRecord b o hb hnf)).trans hb, rfl⟩, ?_⟩ λ b o hb hnf => ⟨o.slots, (other b (noRecord b o hb hnf)).trans hb⟩)
  exact ⟨oe, vs, T, _, _, (other e (Ne.symm hTe)).trans he, hcls, hd, h1, hnT, hTe, Heap.get?_update_self _ hT (Obj.isFreed_of_fields (Obj.data_mapFields hdT _)), Obj.data_mapFields hdT _, by simp [hsz3]⟩
theorem cameBack_held {M : Model} {A : Around} {E : Value → Shared → Prop} {s : Shared} {env : Env} {base : Heap} {l : List Env} {e L : Addr} {cls a0 : Value} (hf : env.frame = some L) (R : Heap.HeldW base l e cls a0 L s.heap)
    (h : ∀ h', Heap.HeldW base l e cls a0 L h' → s.heap.UpToSlots h' → E (.ref e) { s with heap := h' }) : cameBackBy M A env E (.ref e) s := by
  obtain ⟨hkb, hen, hl, oe, vs, T, oT, ts, he, hcls, hd, h1, hnT, hTe, hT, hdT, h3⟩ := id R
  unfold cameBackBy
  refine wpAny_bind (wpAny_field he hd h1 ?_)
  rw [if_neg (show ¬ ((Value.ref T == Value.none) = true) from by simp), hf]
  exact setFlight_heldW R h
structure TdFr (h₀ : Heap) (I l L : Addr) (b : Array UInt8) (t : Tok) (h : Heap) (i : Nat) (ks : List Nat) (m : Str → Option Value) : Prop where
  ns : h.Ns L m
  told : m ("told" : Str) = some (.ref l)
  src : m ("source" : Str) = some (.ref I)
  lst : ∃ vs, h.PlainList l vs ∧ ∀ O g, HasL O g (ks.map λ (k : Nat) => D.int (k : Int)) vs.toList
  it : KBw.IsBytesIter h I b t i
  keep : ∀ b o, h₀.get? b = some o → h.get? b = some o
  newI : h₀.get? I = none
  newl : h₀.get? l = none
  newL : h₀.get? L = none
structure TdEnd (h₀ : Heap) (l L : Addr) (h : Heap) (ks : List Nat) : Prop where
  up : h₀.UpToSlots h
  ns : ∃ m, h.Ns L m ∧ m ("told" : Str) = some (.ref l)
  lst : ∃ vs, h.IsList l vs ∧ ∀ O g, HasL O g (ks.map λ (k : Nat) => D.int (k : Int)) vs.toList
  newl : h₀.get? l = none
theorem TdEnd.upTo {h₀ : Heap} {l L : Addr} {h h' : Heap} {ks : List Nat} (x : TdEnd h₀ l L h ks) (k : h.UpToSlots h') : TdEnd h₀ l L h' ks := by
  obtain ⟨m, hm, e⟩ := x.ns
  obtain ⟨vs, ⟨o, ho, hc, n, hd⟩, hv⟩ := x.lst
  obtain ⟨sl, hs⟩ := k l o ho λ ws q => by rw [hd] at q; cases q
  exact ⟨x.up.trans k, ⟨m, k.ns hm, e⟩, ⟨vs, ⟨_, hs, hc, n, hd⟩, hv⟩, x.newl⟩
theorem TdFr.end_ {h₀ : Heap} {I l L : Addr} {b : Array UInt8} {t : Tok} {h : Heap} {i : Nat} {ks : List Nat} {m : Str → Option Value} (x : TdFr h₀ I l L b t h i ks m) : TdEnd h₀ l L h ks := by
  obtain ⟨vs, hv, r⟩ := x.lst
  exact ⟨.of_keeps x.keep, ⟨m, x.ns, x.told⟩, ⟨vs, PlainList.isL hv, r⟩, x.newl⟩
section
variable {prog : Program} {w : World} {A : Around} {E : Value → Shared → Prop} {s : Shared} {b : Array UInt8} {t : Tok} {name : Str} {sc : Scope} {L a : Addr} {cd : Value} {m : Str → Option Value} {mg mb : Str → Option Value}
theorem iList_ints {vs : List Value} {ks : List Nat} {k : Nat} {tk : Tok} (h : ∀ O g, HasL O g (ks.map λ (k : Nat) => D.int (k : Int)) vs) : ∀ O g, HasL O g ((ks ++ [k]).map λ (k : Nat) => D.int (k : Int)) (vs ++ [.int (k : Int) tk]) := by
  intro O g
  rw [List.map_append]
  exact hasL_append (h O g) (hasL_cons (by rw [Has]; exact ⟨tk, rfl⟩) hasL_nil)
theorem ne_data {h : Heap} {a b : Addr} {o o' : Obj} (ha : h.get? a = some o) (hb : h.get? b = some o') (f : o.data = o'.data → False) : a ≠ b := by
  rintro rfl
  exact f (congrArg Obj.data (som (ha.symm.trans hb)))
theorem TdFr.ne {h₀ : Heap} {I l L : Addr} {h : Heap} {i : Nat} {ks : List Nat} (x : TdFr h₀ I l L b t h i ks m) : I ≠ L ∧ l ≠ L ∧ l ≠ I := by
  obtain ⟨oL, es, ep, hL, dL, _⟩ := x.ns
  obtain ⟨oI, hI, _, dI⟩ := x.it
  obtain ⟨vs, ⟨n, hl⟩, _⟩ := x.lst
  exact ⟨ne_data hI hL λ q => (nomatch dI.symm.trans (q.trans dL)), ne_data hl hL λ q => (nomatch q.trans dL), ne_data hl hI λ q => (nomatch q.trans dI)⟩
theorem none_ne {h : Heap} {c d : Addr} {o : Obj} (hc : h.get? c = some o) (hd : h.get? d = none) : c ≠ d := by
  rintro rfl
  exact nos (hd.symm.trans hc)
theorem TdFr.turn {h₀ : Heap} {I l : Addr} {h h1 h2 : Heap} {i i' : Nat} {ks : List Nat} {V : Nat} {tv : Tok} {vs : Array Value} (P : TdFr h₀ I l L b t h i ks m) (hvs : ∀ O g, HasL O g (ks.map λ (k : Nat) => D.int (k : Int)) vs.toList)
    (k1 : ∀ b o, b ≠ I → h.get? b = some o → h1.get? b = some o) (hit : KBw.IsBytesIter h1 I b t i') (hp : h2.PlainList l (vs.push (.int (V : Int) tv))) (hsm : Heap.SameBut l h1 h2) : TdFr h₀ I l L b t h2 i' (ks ++ [V]) m := by
  obtain ⟨n1, n2, n3⟩ := P.ne
  refine ⟨?_, P.told, P.src, ⟨_, hp, ?_⟩, ?_, λ c o' ho' => (hsm.2 c (none_ne ho' P.newl)).trans (k1 c _ (none_ne ho' P.newI) (P.keep _ _ ho')), P.newI, P.newl, P.newL⟩
  · obtain ⟨o', es, ep, ho', r⟩ := P.ns
    exact ⟨o', es, ep, (hsm.2 L (Ne.symm n2)).trans (k1 L _ (Ne.symm n1) ho'), r⟩
  · rw [Array.toList_push]; exact iList_ints hvs
  · obtain ⟨o', ho', r⟩ := hit
    exact ⟨o', (hsm.2 I (Ne.symm n3)).trans ho', r⟩
theorem td_call {h₀ : Heap} {I l : Addr} {i : Nat} {ks : List Nat} {st : Stmt} {Q : Flow → Shared → Prop} (hs : turnS st = true) (S : TdSc sc) (G : GF mg mb h₀) (PF : PvDef mg h₀) (P : TdFr h₀ I l L b t s.heap i ks m)
    (h : ∀ af o params body sc' pm cd' doc vs, s.heap.get? af = some o → o.data = .func (docDef "_parse_varint" params body sc' pm cd' doc) → s.heap.CodeRec cd' "_parse_varint" → parseB body = true → PvSc sc' → Simple params ["iterator"] → s.heap.PlainList l vs → (∀ O g, HasL O g (ks.map λ (k : Nat) => D.int (k : Int)) vs.toList) →
      wpAny (model prog w) A (call (.ref af) [.ref I]) (λ v s₂ => wpAny (model prog w) A (call (.builtin "list.append") [.ref l, v]) (λ _ => Q .next) E s₂) E s) :
    wpAny (model prog w) A (exec st (envOf name sc L a cd)) Q E s := by
  obtain ⟨hmg, ho, hdat, hcd, hB, S', hP⟩ := PF
  obtain ⟨vs, ⟨n0, hp0⟩, hvs⟩ := P.lst
  refine appS_ok (P := λ st => wpAny (model prog w) A (exec st (envOf name sc L a cd)) Q E s) hs λ p apos v pos q hline hv => callE_ok (P := λ v => wpAny (model prog w) A (exec (.Expr (.Call (.Attribute (.Name "told" p) "append" apos) [v] [] pos) q) (envOf name sc L a cd)) Q E s) hv λ p1 p2 p3 => ?_
  refine wpAny_Expr_any (wpAny_Call_append rfl rfl hline rfl (pl_ld S.kind S.told P.ns P.told ?_)) (by unfold interactive; rw [show (envOf name sc L a cd).scope.kind = .function from S.kind]; rfl) rfl
  refine ⟨l, vs, rfl, ⟨_, n0, hp0, rfl, rfl, rfl⟩, ?_⟩
  exact wpAny_Call_NameR (pl_glob S.kind S.parse (G.keeps P.keep) hmg (callWith_def hdat (spliced_cons (pl_ld S.kind S.source P.ns P.src (spliced_nil ⟨P.keep _ _ ho, h _ _ _ _ _ _ _ _ vs (P.keep _ _ ho) hdat (hcd.keeps P.keep) hB S' hP ⟨n0, hp0⟩ hvs⟩))) rfl))
theorem td_turn {h₀ : Heap} {I l : Addr} {i : Nat} {ks : List Nat} {st : Stmt} {Q : Flow → Shared → Prop} (hs : turnS st = true) (S : TdSc sc) (G : GF mg mb h₀) (PF : PvFn mg h₀) (hroom : A.depth < recursionLimit)
    (P : TdFr h₀ I l L b t s.heap i ks m) (hsz : ks.length ≤ 100) {V : Nat} {rest : List UInt8} (e : pv (b.toList.drop i) = some (V, rest))
    (h : ∀ h' tk i', TdFr h₀ I l L b t h' i' (ks ++ [V]) m → b.toList.drop i' = rest → Q .next { s with heap := h', toks := tk }) :
    wpAny (model prog w) A (exec st (envOf name sc L a cd)) Q E s :=
  td_call hs S G PF.fn P λ af o params body sc' pm cd' doc vs ho hdat hcd hB S' hP hp0 hvs => parse_ok hroom ho hdat hcd hB S' hP (G.keeps P.keep) PF.next P.it e λ h1 tk i' tv k1 hit hdr =>
    wpAny_list_append_plain (hp0.imp λ _ q => k1 l _ P.ne.2.2 q) (λ h2 hp hsm => h _ _ i' (P.turn hvs k1 hit hp hsm) hdr) (by
      have hlen := hasL_length (hvs (λ _ => False) s.heap)
      rw [Array.length_toList, List.length_map] at hlen
      show vs.size ≤ 16777216; omega)
theorem td_last {h₀ : Heap} {I l : Addr} {i : Nat} {ks : List Nat} {st : Stmt} {Q : Flow → Shared → Prop} (hs : turnS st = true) (S : TdSc sc) (G : GF mg mb h₀) (PF : PvFn mg h₀) (hh : A.handled = none) (hroom : A.depth < recursionLimit)
    (P : TdFr h₀ I l L b t s.heap i ks m) (e : b.toList.drop i = [])
    {base : Heap} {outer : List Env} (hfr : A.frames = some (envOf name sc L a cd :: outer)) (hl : h₀.FunFrames base outer) (hkb : base.StaysIn h₀)
    (h : ∀ h' tk e a0, Heap.FlyingW base (envOf name sc L a cd :: outer) e (.type "StopIteration") a0 h' → TdEnd h₀ l L h' ks → E (.ref e) { s with heap := h', toks := tk }) :
    wpAny (model prog w) A (exec st (envOf name sc L a cd)) Q E s := by
  have none_base : ∀ {c : Addr}, h₀.get? c = none → base.get? c = none := λ {c} hc => by
    cases q : base.get? c with
    | none => rfl
    | some o' => exact nos (hc.symm.trans (hkb _ _ q))
  have hl2 : s.heap.FunFrames base (envOf name sc L a cd :: outer) :=
    Heap.FunFrames.cons (λ q => nomatch S.kind.symm.trans q) rfl P.ns (none_base P.newL) (hl.of_keeps λ c o' ho' _ => ⟨o', P.keep _ _ ho', rfl⟩)
  exact td_call hs S G PF.fn P λ af o params body sc' pm cd' doc vs ho hdat hcd hB S' hP hp0 hvs => parse_end hh hroom ho hdat hcd hB S' hP (G.keeps P.keep) PF.next P.it e hfr hl2 (λ c o' q => P.keep _ _ (hkb _ _ q)) (none_base P.newI) λ h' tk e a0 X U => h h' tk e a0 X (P.end_.upTo U)
end
section
variable {prog : Program} {w : World} {A : Around} {E : Value → Shared → Prop} {s : Shared} {b : Array UInt8} {t : Tok} {name : Str} {sc : Scope} {L a : Addr} {cd : Value} {m : Str → Option Value} {mg mb : Str → Option Value}
theorem boot_len' : bootBuiltins ("len" : Str) = some (.builtin "len") := by decide +kernel
theorem boot_stop' : bootBuiltins ("StopIteration" : Str) = some (.type "StopIteration") := by decide +kernel
inductive TdInv (s : Shared) (h₀ : Heap) (I l L : Addr) (b : Array UInt8) (t : Tok) (m : Str → Option Value) (Us : List Nat) : Nat → Shared → Prop
  | mk {h' tk i ks Vs} : TdFr h₀ I l L b t h' i ks m → Told (b.toList.drop i) Vs → ks ++ Vs = Us → TdInv s h₀ I l L b t m Us Vs.length { s with heap := h', toks := tk }
theorem td_test {h₀ : Heap} {I l : Addr} {i : Nat} {ks : List Nat} {test : PySem.Expr} {Q : Bool → Shared → Prop} (S : TdSc sc) (G : GF mg mb h₀) (hlen : mg ("len" : Str) = none) (ht : lenE "told" 9 test = true) (P : TdFr h₀ I l L b t s.heap i ks m) (hsz : ks.length ≤ 8)
    (h : ∀ tk, Q true { s with toks := tk }) : wpAny (model prog w) A (PySem.isTrue test (envOf name sc L a cd) (eval test (envOf name sc L a cd))) Q E s := by
  obtain ⟨vs, hp, hvs⟩ := P.lst
  have hvl := hasL_length (hvs (λ _ => False) s.heap)
  rw [Array.length_toList, List.length_map] at hvl
  refine lenE_ok (P := λ e => wpAny (model prog w) A (PySem.isTrue e (envOf name sc L a cd) (eval e (envOf name sc L a cd))) Q E s) ht λ p1 p2 p3 u1 p4 p5 => ?_
  refine wpAny_isTrue_Compare1 (pl_call1 S.kind S.len (G.keeps P.keep) hlen boot_len' S.told P.ns P.told (Calls.call_len_list (PlainList.isL hp) (by omega) (wpAny_Constant_int (PyProof.Rows.lt_int (wpAny_truthy_bool ?_)))))
  have hlt : decide ((vs.size : Int) < 9) = true := decide_eq_true (by omega)
  rw [hlt]
  exact h _
theorem td_loop {h₀ : Heap} {I l : Addr} {st : Stmt} {Q : Flow → Shared → Prop} (S : TdSc sc) (G : GF mg mb h₀) (PF : PvFn mg h₀) (hlen : mg ("len" : Str) = none) (hh : A.handled = none) (hroom : A.depth < recursionLimit)
    (hs : toldW st = true)
    {base : Heap} {outer : List Env} (hfr : A.frames = some (envOf name sc L a cd :: outer)) (hl : h₀.FunFrames base outer) (hkb : base.StaysIn h₀)
    {i : Nat} {ks Vs : List Nat} (P : TdFr h₀ I l L b t s.heap i ks m) (hT : Told (b.toList.drop i) Vs) (hsz : (ks ++ Vs).length ≤ 8)
    (hE : ∀ h' tk e a0, Heap.HeldW base (envOf name sc L a cd :: outer) e (.type "StopIteration") a0 L h' → TdEnd h₀ l L h' (ks ++ Vs) → E (.ref e) { s with heap := h', toks := tk }) :
    wpAny (model prog w) A (exec st (envOf name sc L a cd)) Q E s := by
  refine whileS_ok (P := λ st => wpAny (model prog w) A (exec st (envOf name sc L a cd)) Q E s) hs λ test lb q ht hb => ?_
  refine wpAny_While (codeAny_whileLoop (TdInv s h₀ I l L b t m (ks ++ Vs)) (λ n s₁ hI => ?_) _ (.mk P hT rfl))
  cases hI with
  | @mk h1 tk1 i ks' Vs' P hT hks =>
    rw [← hks, List.length_append] at hsz
    refine td_test S G hlen ht P (by omega) λ tk => itp rfl (ex_cons hb λ st r a1 hr => ?_)
    cases Vs' with
    | nil =>
      rw [List.append_nil] at hks
      refine td_last a1 S G PF hh hroom P hT hfr hl hkb λ h' tk e a0 X U => ?_
      show notedBy _ _ _ _ _ _
      unfold notedBy
      refine wpAny_looks_onW hfr rfl X λ h2 H2 U2 => ?_
      show cameBackBy _ _ _ _ _ _
      exact cameBack_held rfl H2 λ h3 H3 U3 => hE h3 _ e a0 H3 (hks ▸ (U.upTo U2).upTo U3)
    | cons V Vs' =>
      obtain ⟨rest, e1, e2⟩ := hT
      exact td_turn a1 S G PF hroom P (by omega) e1 λ h' tk i' P' hdr => ex_nil hr ⟨_, Nat.lt_succ_self _, .mk P' (by rw [hdr]; exact e2) (by rw [← hks, List.append_assoc]; rfl)⟩
structure TdOne (h₀ : Heap) (l L : Addr) (b : Array UInt8) (tb : Tok) (h : Heap) (m : Str → Option Value) : Prop where
  ns : h.Ns L m
  oct : m ("octets" : Str) = some (.bytes b tb)
  told : m ("told" : Str) = some (.ref l)
  lst : h.PlainList l #[]
  keep : ∀ c o, h₀.get? c = some o → h.get? c = some o
  ne : l ≠ L
  newl : h₀.get? l = none
  newL : h₀.get? L = none
theorem td_new {h₀ : Heap} {tb : Tok} {st : Stmt} {Q : Flow → Shared → Prop} (hs : asgS "told" noE st = true) (S : TdSc sc) (hL : h₀.objs.size = L) (F : Fr h₀ L s.heap m) (hm : m ("octets" : Str) = some (.bytes b tb))
    (h : ∀ h' tk l m', TdOne h₀ l L b tb h' m' → Q .next { s with heap := h', toks := tk }) : wpAny (model prog w) A (exec st (envOf name sc L a cd)) Q E s := by
  subst hL
  have hL : h₀.get? h₀.objs.size = none := get_none_of_ge (Nat.le_refl _)
  refine asgS_ok (P := λ st => wpAny (model prog w) A (exec st (envOf name sc h₀.objs.size a cd)) Q E s) hs λ p v q hv => noE_ok (P := λ v => wpAny (model prog w) A (exec (.Assign [.Name "told" p] v q) (envOf name sc h₀.objs.size a cd)) Q E s) hv λ p1 => ?_
  refine wpAny_Assign_Name (wpAny_List (spliced_nil ⟨by decide, ?_⟩)) (by rfl)
  refine pl_st S.kind S.told (F.ns.push _) λ h2 hn2 hs2 => h h2 _ s.heap.objs.size _ ⟨hn2, hm, by rfl, ?_, λ c o e => (hs2.2 c (none_ne e hL)).trans (Heap.get?_push_of_some _ (F.keep _ _ e)), ?_, ?_, hL⟩
  · exact ⟨0, (hs2.2 _ (Nat.ne_of_gt (by obtain ⟨o', _, _, e, _⟩ := F.ns; exact Heap.lt_size e))).trans (Heap.get?_push_size _ rfl)⟩
  · exact Nat.ne_of_gt (by obtain ⟨o', _, _, e, _⟩ := F.ns; exact Heap.lt_size e)
  · cases e : h₀.get? s.heap.objs.size with
    | none => rfl
    | some o' => exact nos ((get_none_of_ge (Nat.le_refl _)).symm.trans (F.keep _ _ e))
theorem td_src {h₀ : Heap} {l : Addr} {tb : Tok} {st : Stmt} {Q : Flow → Shared → Prop} (hs : asgS "source" (callE "iter" "octets") st = true) (S : TdSc sc) (G : GF mg mb h₀) (hiter : mg ("iter" : Str) = none) (P : TdOne h₀ l L b tb s.heap m)
    (h : ∀ h' tk I m', TdFr h₀ I l L b tb h' 0 [] m' → Q .next { s with heap := h', toks := tk }) : wpAny (model prog w) A (exec st (envOf name sc L a cd)) Q E s := by
  refine asgS_ok (P := λ st => wpAny (model prog w) A (exec st (envOf name sc L a cd)) Q E s) hs λ p v q hv => callE_ok (P := λ v => wpAny (model prog w) A (exec (.Assign [.Name "source" p] v q) (envOf name sc L a cd)) Q E s) hv λ p1 p2 p3 => ?_
  refine wpAny_Assign_Name (pl_call1 S.kind S.iter (G.keeps P.keep) hiter boot_iter' S.octets P.ns P.oct (callIter_bytes λ h3 kp3 nI hit => ?_)) (by rfl)
  refine pl_st S.kind S.source (P.ns.keeps kp3) λ h4 hn4 hs4 => h h4 _ s.heap.objs.size _ ⟨hn4, P.told, by rfl, ⟨#[], P.lst.imp λ _ e => (hs4.2 _ P.ne).trans (kp3 _ _ e), λ O g => hasL_nil⟩, ?_, λ c o e => (hs4.2 c (none_ne e P.newL)).trans (kp3 _ _ (P.keep _ _ e)), ?_, P.newl, P.newL⟩
  · obtain ⟨o', e, r⟩ := hit
    exact ⟨o', (hs4.2 _ (Nat.ne_of_gt (by obtain ⟨o', _, _, e, _⟩ := P.ns; exact Heap.lt_size e))).trans e, r⟩
  · cases e : h₀.get? s.heap.objs.size with
    | none => rfl
    | some o' => exact nos (nI.symm.trans (P.keep _ _ e))
noncomputable def toldT : Stmt → Bool := tryS (consL toldW nilL) "StopIteration" (consL (retS (nmE "told")) nilL)
theorem td_try {h₀ : Heap} {I l : Addr} {st : Stmt} {Q : Flow → Shared → Prop} (hs : toldT st = true) (S : TdSc sc) (G : GF mg mb h₀) (PF : PvFn mg h₀) (hlen : mg ("len" : Str) = none) (hstop : mg ("StopIteration" : Str) = none) (hh : A.handled = none) (hroom : A.depth < recursionLimit)
    {base : Heap} {outer : List Env} (hfr : A.frames = some (envOf name sc L a cd :: outer)) (hl : h₀.FunFrames base outer) (hkb : base.StaysIn h₀)
    {Vs : List Nat} (P : TdFr h₀ I l L b t s.heap 0 [] m) (hT : Told b.toList Vs) (hsz : Vs.length ≤ 8)
    (h : ∀ h' tk vs, h₀.UpToSlots h' → base.StaysIn h' → h₀.get? l = none → h'.IsList l vs → (∀ O g, HasL O g (Vs.map λ (k : Nat) => D.int (k : Int)) vs.toList) → Q (.ret (.ref l)) { s with heap := h', toks := tk }) :
    wpAny (model prog w) A (exec st (envOf name sc L a cd)) Q E s := by
  refine tryS_ok (P := λ st => wpAny (model prog w) A (exec st (envOf name sc L a cd)) Q E s) hs λ tb p hb q r k3 k4 => consL_ok (P := λ hb => wpAny (model prog w) A (exec (.Try tb [.ExceptHandler (some (.Name "StopIteration" p)) none hb q] [] [] r) (envOf name sc L a cd)) Q E s) k4 λ s4 r4 a5 _ => ?_
  refine wpAny_Try_except (ex_cons k3 λ st r a1 _ => td_loop S G PF hlen hh hroom a1 hfr hl hkb P hT hsz λ h5 tk5 e a0 H5 U5 => ?_)
  refine wpAny_noteFrame_againW rfl H5.2.2.2 (wpAny_landsW H5 λ h6 X6 U6 => ?_)
  have G6 : GF mg mb h6 := gf_ns G λ {c m} hn => (U5.up.trans U6).ns hn
  obtain ⟨oe, he, hce⟩ := X6.there
  refine wpAny_handleBy_builtin (X := "StopIteration") (T := "StopIteration") (b := true) (isSubtype_of_subB (by decide +kernel)) (isSubtype_of_subB (by decide +kernel)) (isSubtype_of_subB (by decide +kernel)) (pl_built S.kind S.stop G6 hstop boot_stop' ⟨rfl, ⟨oe, he, hce⟩, ?_⟩)
  rw [if_pos rfl]
  refine lands_againW X6 λ h7 X7 U7 => ?_
  have Z := (U5.upTo U6).upTo U7
  obtain ⟨m7, hm7, et⟩ := Z.ns
  obtain ⟨vs, hl7, hv7⟩ := Z.lst
  exact wpAny_execs_cons (pl_ret a5 S.kind S.told hm7 et (h h7 _ vs Z.up X7.1 Z.newl hl7 hv7))
theorem told_ok {at_ : Addr} {o : Obj} {params : Arguments} {body : List Stmt} {sc : Scope} {pm cd doc : Value} {f : Str} {Q : Value → Shared → Prop} {tb : Tok} (hh : A.handled = none) (hroom : A.depth + 1 < recursionLimit) (ho : s.heap.get? at_ = some o) (hd : o.data = .func (docDef f params body sc pm cd doc)) (hcd : s.heap.CodeRec cd f)
    (hB : toldB body = true) (S : TdSc sc) (hP : Simple params ["octets"]) (G : GF mg mb s.heap) (PF : PvFn mg s.heap) (hlen : mg ("len" : Str) = none) (hiter : mg ("iter" : Str) = none) (hstop : mg ("StopIteration" : Str) = none)
    {base : Heap} {outer : List Env} (hfr : A.frames = some outer) (hl : s.heap.FunFrames base outer) (hkb : base.StaysIn s.heap)
    {Vs : List Nat} (hT : Told b.toList Vs) (hsz : Vs.length ≤ 8)
    (h : ∀ h' tk l vs, s.heap.UpToSlots h' → base.StaysIn h' → s.heap.get? l = none → h'.IsList l vs → (∀ O g, HasL O g (Vs.map λ (k : Nat) => D.int (k : Int)) vs.toList) → Q (.ref l) { s with heap := h', toks := tk }) :
    wpAny (model prog w) A (call (.ref at_) [.bytes b tb]) Q E s :=
  wpAny_call (call_plain (Nat.lt_of_succ_lt hroom) ho hd G.lim hcd (bind_simple bi_octets hP [.bytes b tb] rfl) (List.forall_mem_singleton.mpr S.octets) (λ h₁ F =>
    ex_cons hB λ _ _ a1 hB => td_new a1 S rfl F (by rfl) λ h2 tk2 l m2 P2 => ex_cons hB λ _ _ a2 hB => td_src a2 S G hiter P2 λ h4 tk4 I m4 P4 =>
    ex_cons hB λ _ _ a3 _ => td_try a3 S G PF hlen hstop hh hroom (Around.frames_deeper hfr) hl hkb P4 hT hsz λ h' tk vs u1 u2 u3 u4 u5 => h h' tk l vs u1 u2 u3 u4 u5) S.co S.gen S.kind S.cell)
end
theorem wp_execs_append {M : Model} {Γ : Ctx} {env : Env} {b : List Stmt} {Q : Flow → Pos → Shared → Prop} {E : Value → Pos → Shared → Prop} : ∀ (a : List Stmt) (p : Pos) (s : Shared),
    Sem.wp M Γ (execs a env) (λ f p' s' => match f with | .next => Sem.wp M Γ (execs b env) Q E p' s' | f => Q f p' s') E p s → Sem.wp M Γ (execs (a ++ b) env) Q E p s
  | [], p, s, h => by
    rw [execs_nil, Sem.wp_pure'] at h
    exact h
  | st :: a, p, s, h => by
    rw [execs_cons, Sem.wp_bind'] at h
    rw [List.cons_append, execs_cons, Sem.wp_bind']
    refine Sem.wp_mono M Γ _ (λ f p' s' h' => ?_) (λ _ _ _ h' => h') _ _ h
    cases f with
    | next => exact wp_execs_append a p' s' h'
    | brk => rw [Sem.wp_pure'] at h' ⊢; exact h'
    | cont => rw [Sem.wp_pure'] at h' ⊢; exact h'
    | ret v => rw [Sem.wp_pure'] at h' ⊢; exact h'
theorem wpAny_execs_append {M : Model} {A : Around} {env : Env} {a b : List Stmt} {Q : Flow → Shared → Prop} {E : Value → Shared → Prop} {s : Shared}
    (h : wpAny M A (execs a env) (λ f s' => match f with | .next => wpAny M A (execs b env) Q E s' | f => Q f s') E s) : wpAny M A (execs (a ++ b) env) Q E s := λ Γ p hΓ => by
  refine wp_execs_append a p s (Sem.wp_mono M Γ _ (λ f p' s' h' => ?_) (λ _ _ _ h' => h') _ _ (h Γ p hΓ))
  cases f with
  | next => exact h' Γ p' hΓ
  | brk => exact h'
  | cont => exact h'
  | ret v => exact h'
theorem seqKeep_up {T : Addr → Prop} {h h' : Heap} (U : h.UpToSlots h') : SeqKeep T h h' := by
  constructor
  · rintro a vs _ ⟨o, ho, hc, n, hd⟩
    obtain ⟨sl, e⟩ := U a o ho λ ws q => by rw [hd] at q; cases q
    exact ⟨_, e, hc, n, hd⟩
  · rintro a vs ⟨o, ho, hc, n, hd⟩
    obtain ⟨sl, e⟩ := U a o ho λ ws q => by rw [hd] at q; cases q
    exact ⟨_, e, hc, n, hd⟩
theorem cell_up {h h' : Heap} {c : Addr} {v : Option Value} (U : h.UpToSlots h') (x : h.IsCell c v) : h'.IsCell c v := by
  obtain ⟨o, ho, hd⟩ := x
  obtain ⟨sl, e⟩ := U c o ho λ ws q => by rw [hd] at q; cases q
  exact ⟨_, e, hd⟩
theorem VarAt.up {env : Env} {h h' : Heap} {x : Str} {v : Value} (U : h.UpToSlots h') (y : VarAt env h x v) : VarAt env h' x v := by
  rcases y with ⟨k, m, hm, e⟩ | ⟨k, c, hc, hv⟩
  · exact .inl ⟨k, m, U.ns hm, e⟩
  · exact .inr ⟨k, c, hc, cell_up U hv⟩
theorem St.up {F O₀ ow ρ s} {s' : Shared} (S : St F O₀ ow ρ s) (noOwn : ∀ (i : Nat) ds, ρ[i]? ≠ some (.own ds)) (U : s.heap.UpToSlots s'.heap) (k : F.base.StaysIn s'.heap) (hg : s'.gens = s.gens) : St F O₀ ow ρ s' := by
  refine ⟨⟨S.fr.kind, S.fr.globals, S.fr.builtins, ?_, S.fr.fresh, λ hw x hx => ?_, S.fr.apart, k⟩, λ i sl x e nx => ?_, λ i j ds es e => (noOwn i ds e).elim, λ i ds e => (noOwn i ds e).elim, S.len, S.nodup, by rw [hg]; exact S.bare, S.old⟩
  · obtain ⟨m, hm⟩ := S.fr.ns; exact ⟨m, U.ns hm⟩
  · obtain ⟨c, v, a, b, d⟩ := S.fr.cell hw x hx; exact ⟨c, v, a, cell_up U b, d⟩
  · have q := S.slots i sl x e nx
    cases sl with
    | undef => trivial
    | own ds => exact (noOwn i ds e).elim
    | fro d =>
      obtain ⟨v, hv, hd⟩ := q
      exact ⟨v, hv.up U, has_keep (T := λ _ => False) (seqKeep_up U) (λ _ f => f.elim) d v hd⟩
inductive TdDef (mg : Str → Option Value) (h : Heap) : Prop
  | mk {a o params body sc pm cd doc} : mg ("_law_told" : Str) = some (.ref a) → h.get? a = some o → o.data = .func (docDef "_law_told" params body sc pm cd doc) → h.CodeRec cd "_law_told" →
    toldB body = true → TdSc sc → Simple params ["octets"] → TdDef mg h
structure TdFn (mg : Str → Option Value) (h : Heap) : Prop where
  fn : TdDef mg h
  len : mg ("len" : Str) = none
  iter : mg ("iter" : Str) = none
  stop : mg ("StopIteration" : Str) = none
theorem PvFn.keeps {mg : Str → Option Value} {h h' : Heap} (x : PvFn mg h) (k : ∀ b o, h.get? b = some o → h'.get? b = some o) : PvFn mg h' := by
  refine ⟨?_, x.next⟩
  obtain ⟨h1, h2, h3, h4, h5, h6, h7⟩ := x.fn
  exact .mk h1 (k _ _ h2) h3 (h4.keeps k) h5 h6 h7
section
variable {C : Cx} {n : Nat} {F : Frame} {nm : List Str} {sc : Scope}
theorem s_told (K : CxOk C n) (FO : FrameOk C nm sc F) (hw : ∀ x, stOk sc x = true → Writable F x) (PF : PvFn C.mg C.h0) (TF : TdFn C.mg C.h0) (hF : F.env.frame = some F.env.locals) {i : Nat} {e : PE} {x : Str} {p p1 p3 pos : Pos} {v : PySem.Expr}
    (ho : okVar nm i x = true) (hs : stOk sc x = true) (hg : isGlob sc "_law_told" = true) (he : PeOk C n F e v) (st : ∀ r, starEach (v :: r) F.env = (false, eval v F.env) :: starEach r F.env)
    {A : Around} {s : Shared} {O₀ : Addr → Prop} {ow : Nat → Addr} {ρ : List Slot} {Q : Flow → Shared → Prop} {E : Value → Shared → Prop} (hA : AOk n A) (hroom : A.depth + 1 < recursionLimit) (hfr : A.frames = some [F.env]) (S : St F O₀ ow ρ s) (noOwn : ∀ (i : Nat) ds, ρ[i]? ≠ some (.own ds))
    {b : Array UInt8} {Vs : List Nat} (e1 : (ev C e ρ).e = some (.bytes b)) (hT : Told b.toList Vs) (hsz : Vs.length ≤ 8)
    (hQ : ∀ s', St F O₀ ow (ρ.set i (.fro (.lst (Vs.map λ (k : Nat) => D.int (k : Int))))) s' → s'.os = s.os → Q .next s') :
    wpAny (model C.prog C.w) A (exec (.Assign [.Name x p] (.Call (.Name "_law_told" p1) [v] [] p3) pos) F.env) Q E s := by
  obtain ⟨hmg, hoa, hdat, hcd, hB, St', hP⟩ := TF.fn
  have nx : F.names[i]? = some x := by rw [FO.names]; exact (okVar_iff ho).1
  have ht : backTo p3 (starEach [v] F.env) = [(false, eval v F.env)] := by rw [st]; rfl
  refine wpAny_Assign_Name (wpAny_Call_NameR (loadG K FO S hg hmg (callWith_def hdat ?_ (st [])))) (by rfl)
  rw [ht]
  refine spliced_cons (he A s O₀ ow ρ _ _ E hA S e1 λ u s₁ X hu _ => spliced_nil ⟨X.heap _ _ (FO.keepS S _ _ hoa), ?_⟩)
  rw [Has] at hu
  obtain ⟨tb, rfl⟩ := hu
  have S₁ := S.ext X
  have k0 : ∀ c o', C.h0.get? c = some o' → s₁.heap.get? c = some o' := FO.keepS S₁
  obtain ⟨mL, hmL⟩ := S₁.fr.ns
  have hl : s₁.heap.FunFrames F.base [F.env] := Heap.FunFrames.cons (by rw [S.fr.kind]; decide) hF hmL S.fr.fresh trivial
  refine told_ok (f := "_law_told") hA.1 hroom (k0 _ _ hoa) hdat (hcd.keeps k0) hB St' hP (K.gf.keeps k0) (PF.keeps k0) TF.len TF.iter TF.stop hfr hl S₁.fr.keep hT hsz λ h' tk l vs U kb nl hlst hvs => ?_
  have S₂ : St F O₀ ow ρ { s₁ with heap := h', toks := tk } := S₁.up noOwn U kb rfl
  refine wpAny_store S₂.fr (hw x hs) λ h'' t c W => ?_
  have hd : Has (Oof O₀ ow ρ) h' (.lst (Vs.map λ (k : Nat) => D.int (k : Int))) (.ref l) := by
    rw [Has]
    refine ⟨l, vs, rfl, λ q => ?_, hlst, hvs _ _⟩
    obtain ⟨o', e'⟩ := S₁.oof l q
    rw [nl] at e'; cases e'
  obtain ⟨S3, R3⟩ := S₂.put_fro (t := t) nx W hd
  exact hQ _ S3 (R3.os.trans X.os)
end
theorem law_ok {C : Cx} {n : Nat} (K : CxOk C n) {f : Str} {params : Arguments} {ss1 ss2 : List Stmt} {sc : Scope} {pm cd doc : Value} {a : Addr} {o : Obj} {nm ps : List Str} {pre post : PS} {i : Nat} {e : PE} {x : Str} {p p1 p3 pos : Pos} {v : PySem.Expr}
    (ho : C.h0.get? a = some o) (hd : o.data = .func (docDef f params (ss1 ++ .Assign [.Name x p] (.Call (.Name "_law_told" p1) [v] [] p3) pos :: ss2) sc pm cd doc)) (hcd : C.h0.CodeRec cd f)
    (hms1 : ms nm sc pre ss1 = true) (hms2 : ms nm sc post ss2 = true) (H : HeadOk nm ps sc) (hbind : ∀ vs, vs.length = ps.length → bindArgs (docDef f params (ss1 ++ .Assign [.Name x p] (.Call (.Name "_law_told" p1) [v] [] p3) pos :: ss2) sc pm cd doc) ⟨vs, []⟩ = pure (ps.zip vs))
    (PF : PvFn C.mg C.h0) (TF : TdFn C.mg C.h0) (ho' : okVar nm i x = true) (hs' : stOk sc x = true) (hg : isGlob sc "_law_told" = true) (hm : mt nm e sc v = true)
    {A : Around} {s : Shared} {O : Addr → Prop} {Q : Value → Shared → Prop} {E : Value → Shared → Prop} {ds : List D} {d : D} {vs : List Value} (hA : AOk (n + 1) A) (hroom : A.depth + 2 < recursionLimit) (hfr : A.frames = some []) (hk0 : Keep0 C s.heap) (hbare : AllBare s.gens) (hO : ∀ a, O a → ∃ us, s.heap.IsList a us) (hvs : HasL O s.heap ds vs) (hlen : ds.length = ps.length)
    (hvc : vc C pre (initSlots nm ds) (λ fl ρ1 => fl = .next ∧ (∀ (i : Nat) ds, ρ1[i]? ≠ some (.own ds)) ∧ ∃ bs Vs, (ev C e ρ1).e = some (.bytes bs) ∧ Told bs.toList Vs ∧ Vs.length ≤ 8 ∧ vc C post (ρ1.set i (.fro (.lst (Vs.map λ (k : Nat) => D.int (k : Int))))) (λ fl _ => fl = .ret d)))
    (hQ : ∀ v s', (∀ b o, s.heap.get? b = some o → s'.heap.get? b = some o) → s'.os = s.os → AllBare s'.gens → Has O s'.heap d v → Q v s') : wpAny (model C.prog C.w) A (call (.ref a) vs) Q E s := by
  refine wpAny_call (call_cells_ret (hA.room) (hk0 _ _ ho) hd (K.gf.lim.keeps hk0) (hcd.keeps hk0) (hbind vs ((hasL_length hvs).trans hlen)) (enter_binds H) (λ h₁ tk Fr₁ X => ?_) H.co H.gen H.kind)
  obtain ⟨FO, hw, S⟩ := enter_st (C := C) (tk := tk) H rfl hk0 hbare hO hvs hlen Fr₁ X
  have hA1 : AOk n (A.deeper (envOfC f sc s.heap.objs.size a cd)) := hA.deeper
  refine wpAny_execs_append ((stm K FO hw pre).2 ss1 hms1 _ _ O (λ _ => 0) (initSlots nm ds) _ _ _ hA1 S hvc λ fl flo ow1 ρ1 s1 h1 h2 h3 h4 => ?_)
  cases h1 with
  | ret hr => exact nomatch h4.1
  | next =>
  obtain ⟨-, noOwn1, bs, Vs, e1, hT, hsz, hvc2⟩ := h4
  refine wpAny_execs_cons (s_told K FO hw PF TF rfl ho' hs' hg ((main K e).1 FO hm).pe (noStar hm) hA1 (by show A.depth + 1 + 1 < recursionLimit; exact hroom) (Around.frames_deeper hfr) h2 noOwn1 e1 hT hsz λ s2 S2 hos2 => ?_)
  refine (stm K FO hw post).2 ss2 hms2 _ _ O ow1 _ _ _ _ hA1 S2 hvc2 λ fl flo ow' ρ' s' h1 g2 g3 h4 => ?_
  cases h1 with
  | next => cases h4
  | ret hr =>
    cases h4
    exact hQ _ s' g2.fr.keep (g3.os.trans (hos2.trans h3.os)) g2.bare (has_sub (λ a q => .inl (.inl q)) d _ hr)
noncomputable def tokTab : List (List Nat × Int) := [([33], 54), ([33, 61], 28), ([37], 24), ([37, 61], 40), ([38], 19), ([38, 61], 41), ([40], 7), ([41], 8), ([42], 16), ([42, 42], 35), ([42, 42, 61], 46), ([42, 61], 38), ([43], 14), ([43, 61], 36), ([44], 12), ([45], 15), ([45, 61], 37), ([45, 62], 51), ([46], 23), ([46, 46, 46], 52), ([47], 17), ([47, 47], 47), ([47, 47, 61], 48), ([47, 61], 39), ([58], 11), ([58, 61], 53), ([59], 13), ([60], 20), ([60, 60], 33), ([60, 60, 61], 44), ([60, 61], 29), ([61], 22), ([61, 61], 27), ([62], 21), ([62, 61], 30), ([62, 62], 34), ([62, 62, 61], 45), ([64], 49), ([64, 61], 50), ([91], 9), ([93], 10), ([94], 32), ([94, 61], 43), ([123], 25), ([124], 18), ([124, 61], 42), ([125], 26), ([126], 31)]
noncomputable def tokP (x : Str) : Option Int := tokTab.lookup x.cps.toList
noncomputable def KV : List DictEntry → List (List Nat × Int) → Prop
  | [], tab => tab = []
  | e :: r, tab => ∃ k i tab', tab = (k, i) :: tab' ∧ (∃ y t u, e.key = .str y t ∧ y.cps.toList = k ∧ e.val = .int i u) ∧ KV r tab'
theorem str_ext {x y : Str} (h : x.cps.toList = y.cps.toList) : x = y := by
  obtain ⟨⟨a⟩⟩ := x; obtain ⟨⟨b⟩⟩ := y; simp at h; subst h; rfl
theorem tok_of {es : Array DictEntry} {tab : List (List Nat × Int)} (h : KV es.toList tab) (x : Str) :
    (∀ i, tab.lookup x.cps.toList = some i → ∃ t, findBy Value.isStrOf es x = some (.int i t)) ∧ (tab.lookup x.cps.toList = none → findBy Value.isStrOf es x = none) := by
  obtain ⟨l⟩ := es
  unfold findBy
  rw [List.find?_toArray]
  induction l generalizing tab with
  | nil => cases h; exact ⟨λ i e => (by cases e), λ _ => rfl⟩
  | cons e r ih =>
    obtain ⟨k, i, tab', rfl, ⟨y, t, u, h1, h2, h3⟩, h4⟩ := h
    have ih := ih h4
    rw [List.find?_cons, List.lookup_cons, h1]
    by_cases hy : y = x
    · subst hy
      have : Value.isStrOf y (.str y t) = true := by simp [Value.isStrOf]
      rw [this, h2]
      simp only [beq_self_eq_true, Option.some.injEq, Option.map_some, h3]
      exact ⟨λ j e => ⟨u, by rw [e]⟩, λ e => (by cases e)⟩
    · have q1 : Value.isStrOf x (.str y t) = false := by
        show (y == x) = false
        exact beq_eq_false_iff_ne.mpr hy
      have q2 : (x.cps.toList == k) = false := by
        apply beq_eq_false_iff_ne.mpr
        rintro e
        exact hy (str_ext (by rw [h2, e]))
      rw [q1, q2]
      exact ih
noncomputable def gdP (x : Str) : Option D := if x = "NT_OFFSET" then some (.int 256) else if x = "ENDMARKER" then some (.int 0) else none
noncomputable def cxP (prog : Program) (w : World) (h0 : Heap) (mg mb : Str → Option Value) : Cx :=
  ⟨prog, w, h0, mg, mb, λ _ _ => none, λ _ _ => none, gdP, tokP⟩
theorem cxP_ok {p prog : Program} {w : World} {h0 : Heap} {mg mb : Str → Option Value} {loose : List Str} {mean : ExcName → Option Value} (T : Top p loose mean mg mb h0)
    (hf : ([("len" : Str), "ord", "max", "min", "sum", "bytes", "int", "range", "zip"].all λ x => freeB p loose x) = true)
    (hn : (match valOf p "NT_OFFSET" with | some (.int i) => i == 256 | _ => false) = true) (he : (match valOf p "ENDMARKER" with | some (.int i) => i == 0 | _ => false) = true)
    (ht : ∃ d f, mg "EXACT_TOKEN_TYPES" = some (.ref d) ∧ (d == sysModules) = false ∧ h0.MapOf (strKind prog w) d f ∧ ∀ x, (∀ i, tokP x = some i → ∃ t, f x = some (.int i t)) ∧ (tokP x = none → f x = none)) (n : Nat) : CxOk (cxP prog w h0 mg mb) n := by
  have fr : ∀ x : Str, x ∈ ([("len" : Str), "ord", "max", "min", "sum", "bytes", "int", "range", "zip"] : List Str) → mg x = none := λ x hx => free_of T (List.all_eq_true.mp hf x hx)
  have key : ∀ (x : Str) (i : Int), valOf p x = some (.int i) → ∃ v, mg x = some v ∧ ∀ O h, Has O h (.int i) v := λ x i hv => by
    obtain ⟨v, h1, h2⟩ := T.const x _ hv
    refine ⟨v, h1, λ O h => ?_⟩
    rw [Has]
    exact PyProof.V.Flat.int_inv h2
  refine ⟨⟨T.g, T.b, T.nolimit, T.builtins⟩, λ x d e => ?_, λ b => ?_, fr _ (by simp), fr _ (by simp), (λ f ds d e => by cases e), (λ f ds d e => by cases e), ht⟩
  · have e' : gdP x = some d := e
    unfold gdP at e'
    split at e'
    · rename_i q; subst q; cases e'
      split at hn
      · rename_i i hv; rw [beq_iff_eq.mp hn] at hv; exact key _ _ hv
      · cases hn
    · split at e'
      · rename_i q; subst q; cases e'
        split at he
        · rename_i i hv; rw [beq_iff_eq.mp he] at hv; exact key _ _ hv
        · cases he
      · cases e'
  · cases b
    · exact fr _ (by simp [biName])
    · exact fr _ (by simp [biName])
    · exact fr _ (by simp [biName])
    · exact fr _ (by simp [biName])
    · exact fr _ (by simp [biName])
    · exact fr _ (by simp [biName])
    · exact fr _ (by simp [biName])
noncomputable def specR (C : Cx) (nm ps : List Str) (b : PS) (ds : List D) : Option D :=
  if ds.length = ps.length then (match run C 4000 b (initSlots nm ds) with | some (.ret d, _) => some d | _ => none) else none
theorem specR_vc {C : Cx} {nm ps : List Str} {b : PS} {ds : List D} {d : D} (h : specR C nm ps b ds = some d) : ds.length = ps.length ∧ vc C b (initSlots nm ds) (λ fl _ => fl = .ret d) := by
  unfold specR at h
  split at h
  · rename_i hl
    split at h
    · rename_i d' ρ' e
      cases h
      exact ⟨hl, run_vc C 4000 b _ _ e _ rfl⟩
    · cases h
  · cases h
theorem CxOk.addR {C : Cx} {n : Nat} {p : Program} {loose : List Str} {mean : ExcName → Option Value} {mb : Str → Option Value} (T : Top p loose mean C.mg mb C.h0) (K : CxOk C n) (f : Str) (nm ps : List Str) (b : PS) (B : Binds ps) (hB : fnB p f nm ps b = true) : CxOk (C.add f (specR C nm ps b)) (n + 1) :=
  (K.le (Nat.le_succ n)).add (fn_of T K B hB λ ds d e => specR_vc e)
noncomputable def escG : List D → Option (List D)
  | [.str x] => some (escD 0 false x.cps.toList)
  | _ => none
theorem escG_ok : ∀ ds xs, escG ds = some xs → ∃ x, ds = [.str x] ∧ xs = escD 0 false x.cps.toList := by
  intro ds xs h
  unfold escG at h
  split at h
  · cases h; exact ⟨_, rfl, rfl⟩
  · cases h
noncomputable def nm_ISTERMINAL : List Str := ["", "x"]
noncomputable def ps_ISTERMINAL : PS :=
  (.seq (.ret (.cmp .Lt (.var 1) (.glob "NT_OFFSET")))
  .nil)
noncomputable def nm_ISNONTERMINAL : List Str := ["", "x"]
noncomputable def ps_ISNONTERMINAL : PS :=
  (.seq (.ret (.cmp .GtE (.var 1) (.glob "NT_OFFSET")))
  .nil)
noncomputable def nm_ISEOF : List Str := ["", "x"]
noncomputable def ps_ISEOF : PS :=
  (.seq (.ret (.cmp .Eq (.var 1) (.glob "ENDMARKER")))
  .nil)
noncomputable def nm_rgb_to_hls : List Str := ["", "r", "g", "b", "maxc", "minc", "sumc", "rangec", "l", "s", "rc", "gc", "bc", "h"]
noncomputable def ps_rgb_to_hls : PS :=
  (.seq (.asg 4 (.bi .max (.cons (.var 1) (.cons (.var 2) (.cons (.var 3) .nil)))))
  (.seq (.asg 5 (.bi .min (.cons (.var 1) (.cons (.var 2) (.cons (.var 3) .nil)))))
  (.seq (.asg 6 (.bin .Add (.var 4) (.var 5)))
  (.seq (.asg 7 (.bin .Sub (.var 4) (.var 5)))
  (.seq (.asg 8 (.bin .Div (.var 6) (.cF 0x4000000000000000)))
  (.seq (.ifs (.cmp .Eq (.var 5) (.var 4))
    (.seq (.ret (.tup (.cons (.cF 0x0000000000000000) (.cons (.var 8) (.cons (.cF 0x0000000000000000) .nil)))))
    .nil)
    .nil)
  (.seq (.ifs (.cmp .LtE (.var 8) (.cF 0x3fe0000000000000))
    (.seq (.asg 9 (.bin .Div (.var 7) (.var 6)))
    .nil)
    (.seq (.asg 9 (.bin .Div (.var 7) (.bin .Sub (.bin .Sub (.cF 0x4000000000000000) (.var 4)) (.var 5))))
    .nil))
  (.seq (.asg 10 (.bin .Div (.bin .Sub (.var 4) (.var 1)) (.var 7)))
  (.seq (.asg 11 (.bin .Div (.bin .Sub (.var 4) (.var 2)) (.var 7)))
  (.seq (.asg 12 (.bin .Div (.bin .Sub (.var 4) (.var 3)) (.var 7)))
  (.seq (.ifs (.cmp .Eq (.var 1) (.var 4))
    (.seq (.asg 13 (.bin .Sub (.var 12) (.var 11)))
    .nil)
    (.seq (.ifs (.cmp .Eq (.var 2) (.var 4))
      (.seq (.asg 13 (.bin .Sub (.bin .Add (.cF 0x4000000000000000) (.var 10)) (.var 12)))
      .nil)
      (.seq (.asg 13 (.bin .Sub (.bin .Add (.cF 0x4010000000000000) (.var 11)) (.var 10)))
      .nil))
    .nil))
  (.seq (.asg 13 (.bin .Mod (.bin .Div (.var 13) (.cF 0x4018000000000000)) (.cF 0x3ff0000000000000)))
  (.seq (.ret (.tup (.cons (.var 13) (.cons (.var 8) (.cons (.var 9) .nil)))))
  .nil)))))))))))))
noncomputable def nm_rgb_to_hsv : List Str := ["", "r", "g", "b", "maxc", "minc", "rangec", "v", "s", "rc", "gc", "bc", "h"]
noncomputable def ps_rgb_to_hsv : PS :=
  (.seq (.asg 4 (.bi .max (.cons (.var 1) (.cons (.var 2) (.cons (.var 3) .nil)))))
  (.seq (.asg 5 (.bi .min (.cons (.var 1) (.cons (.var 2) (.cons (.var 3) .nil)))))
  (.seq (.asg 6 (.bin .Sub (.var 4) (.var 5)))
  (.seq (.asg 7 (.var 4))
  (.seq (.ifs (.cmp .Eq (.var 5) (.var 4))
    (.seq (.ret (.tup (.cons (.cF 0x0000000000000000) (.cons (.cF 0x0000000000000000) (.cons (.var 7) .nil)))))
    .nil)
    .nil)
  (.seq (.asg 8 (.bin .Div (.var 6) (.var 4)))
  (.seq (.asg 9 (.bin .Div (.bin .Sub (.var 4) (.var 1)) (.var 6)))
  (.seq (.asg 10 (.bin .Div (.bin .Sub (.var 4) (.var 2)) (.var 6)))
  (.seq (.asg 11 (.bin .Div (.bin .Sub (.var 4) (.var 3)) (.var 6)))
  (.seq (.ifs (.cmp .Eq (.var 1) (.var 4))
    (.seq (.asg 12 (.bin .Sub (.var 11) (.var 10)))
    .nil)
    (.seq (.ifs (.cmp .Eq (.var 2) (.var 4))
      (.seq (.asg 12 (.bin .Sub (.bin .Add (.cF 0x4000000000000000) (.var 9)) (.var 11)))
      .nil)
      (.seq (.asg 12 (.bin .Sub (.bin .Add (.cF 0x4010000000000000) (.var 10)) (.var 9)))
      .nil))
    .nil))
  (.seq (.asg 12 (.bin .Mod (.bin .Div (.var 12) (.cF 0x4018000000000000)) (.cF 0x3ff0000000000000)))
  (.seq (.ret (.tup (.cons (.var 12) (.cons (.var 8) (.cons (.var 7) .nil)))))
  .nil))))))))))))
noncomputable def nm_hsv_to_rgb : List Str := ["", "h", "s", "v", "i", "f", "p", "q", "t"]
noncomputable def ps_hsv_to_rgb : PS :=
  (.seq (.ifs (.cmp .Eq (.var 2) (.cF 0x0000000000000000))
    (.seq (.ret (.tup (.cons (.var 3) (.cons (.var 3) (.cons (.var 3) .nil)))))
    .nil)
    .nil)
  (.seq (.asg 4 (.bi .int (.cons (.bin .Mult (.var 1) (.cF 0x4018000000000000)) .nil)))
  (.seq (.asg 5 (.bin .Sub (.bin .Mult (.var 1) (.cF 0x4018000000000000)) (.var 4)))
  (.seq (.asg 6 (.bin .Mult (.var 3) (.bin .Sub (.cF 0x3ff0000000000000) (.var 2))))
  (.seq (.asg 7 (.bin .Mult (.var 3) (.bin .Sub (.cF 0x3ff0000000000000) (.bin .Mult (.var 2) (.var 5)))))
  (.seq (.asg 8 (.bin .Mult (.var 3) (.bin .Sub (.cF 0x3ff0000000000000) (.bin .Mult (.var 2) (.bin .Sub (.cF 0x3ff0000000000000) (.var 5))))))
  (.seq (.asg 4 (.bin .Mod (.var 4) (.cI 6)))
  (.seq (.ifs (.cmp .Eq (.var 4) (.cI 0))
    (.seq (.ret (.tup (.cons (.var 3) (.cons (.var 8) (.cons (.var 6) .nil)))))
    .nil)
    .nil)
  (.seq (.ifs (.cmp .Eq (.var 4) (.cI 1))
    (.seq (.ret (.tup (.cons (.var 7) (.cons (.var 3) (.cons (.var 6) .nil)))))
    .nil)
    .nil)
  (.seq (.ifs (.cmp .Eq (.var 4) (.cI 2))
    (.seq (.ret (.tup (.cons (.var 6) (.cons (.var 3) (.cons (.var 8) .nil)))))
    .nil)
    .nil)
  (.seq (.ifs (.cmp .Eq (.var 4) (.cI 3))
    (.seq (.ret (.tup (.cons (.var 6) (.cons (.var 7) (.cons (.var 3) .nil)))))
    .nil)
    .nil)
  (.seq (.ifs (.cmp .Eq (.var 4) (.cI 4))
    (.seq (.ret (.tup (.cons (.var 8) (.cons (.var 6) (.cons (.var 3) .nil)))))
    .nil)
    .nil)
  (.seq (.ifs (.cmp .Eq (.var 4) (.cI 5))
    (.seq (.ret (.tup (.cons (.var 3) (.cons (.var 6) (.cons (.var 7) .nil)))))
    .nil)
    .nil)
  .nil)))))))))))))
noncomputable def nm_strip_quoted_realnames : List Str := ["", "addr", "start", "open_pos", "result", "pos", "ch"]
noncomputable def ps_strip_quoted_realnames : PS :=
  (.seq (.ifs (.cmp .NotIn (.cS "\"") (.var 1))
    (.seq (.ret (.var 1))
    .nil)
    .nil)
  (.seq (.asg 2 (.cI 0))
  (.seq (.asg 3 .cN)
  (.seq (.asgO 4 (.lst .nil))
  (.seq (.for_ (.many [5, 6]) (.gen "_iter_escaped_chars" (.cons (.var 1) .nil))
    (.seq (.ifs (.cmp .Eq (.var 6) (.cS "\""))
      (.seq (.ifs (.cmp .Is (.var 3) .cN)
        (.seq (.asg 3 (.var 5))
        .nil)
        (.seq (.ifs (.cmp .NotEq (.var 2) (.var 3))
          (.seq (.app 4 (.slc (.var 1) (.var 2) (.var 3)))
          .nil)
          .nil)
        (.seq (.asg 2 (.bin .Add (.var 5) (.cI 1)))
        (.seq (.asg 3 .cN)
        .nil))))
      .nil)
      .nil)
    .nil))
  (.seq (.ifs (.cmp .Lt (.var 2) (.bi .len (.cons (.var 1) .nil)))
    (.seq (.app 4 (.slc (.var 1) (.var 2) .abs))
    .nil)
    .nil)
  (.seq (.ret (.join "" (.var 4)))
  .nil)))))))
noncomputable def nm_check_parenthesis : List Str := ["", "addr", "opens", "pos", "ch"]
noncomputable def ps_check_parenthesis : PS :=
  (.seq (.asg 1 (.call "_strip_quoted_realnames" (.cons (.var 1) .nil)))
  (.seq (.asg 2 (.cI 0))
  (.seq (.for_ (.many [3, 4]) (.gen "_iter_escaped_chars" (.cons (.var 1) .nil))
    (.seq (.ifs (.cmp .Eq (.var 4) (.cS "("))
      (.seq (.aug 2 .Add (.cI 1))
      .nil)
      (.seq (.ifs (.cmp .Eq (.var 4) (.cS ")"))
        (.seq (.aug 2 .Sub (.cI 1))
        (.seq (.ifs (.cmp .Lt (.var 2) (.cI 0))
          (.seq (.ret (.cB false))
          .nil)
          .nil)
        .nil))
        .nil)
      .nil))
    .nil))
  (.seq (.ret (.cmp .Eq (.var 2) (.cI 0)))
  .nil))))
noncomputable def nm_law_drawn : List Str := ["", "numbers", "signs", "remarks", "size", "corners", "things", "c", "sign", "x", "at", "i", "k", "front", "j", "back", "kind", "joined"]
noncomputable def ps_law_drawn : PS :=
  (.seq (.asg 2 (.splt "[ ] : , ; + - * / | & < > = . % { } == != <= >= ~ ^ << >> ** += -= *= /= %= &= |= ^= <<= >>= **= // //= @ @= -> ... := !"))
  (.seq (.asg 3 (.lst (.cons (.cS "") (.cons (.cS "\")\"") (.cons (.cS "\"(\\\"\"") (.cons (.cS "\"\\\\(\"") .nil))))))
  (.seq (.asg 4 (.bin .Add (.bi .len (.cons (.var 1) .nil)) (.cI 1)))
  (.seq (.asgO 5 (.bin .Mult (.lst (.cons (.cI 0) .nil)) (.bin .Add (.var 4) (.cI 1))))
  (.seq (.asgO 6 (.lst .nil))
  (.seq (.for_ (.one 7) (.rng (.cons (.var 4) .nil))
    (.seq (.asg 8 (.sub (.cS "()\"\\a+") (.bin .Mod (.bin .Add (.bin .FloorDiv (.sub (.var 1) (.bin .Sub (.var 7) (.cI 1))) (.cI 11040)) (.var 7)) (.cI 6))))
    (.seq (.setI 5 (.var 7) (.bin .Mult (.cI 4096) (.bi .ord (.cons (.var 8) .nil))))
    (.seq (.app 6 (.tup (.cons (.var 7) (.cons (.bin .Add (.var 7) (.cI 1)) (.cons (.bin .Add (.cS "\\") (.var 8)) .nil)))))
    .nil))))
  (.seq (.for_ (.one 9) (.var 1)
    (.seq (.asg 10 (.bin .Mod (.var 9) (.bin .Sub (.bi .len (.cons (.var 6) .nil)) (.cI 1))))
    (.seq (.asgT [11, 12, 13] (.sub (.var 6) (.var 10)))
    (.seq (.asgT [12, 14, 15] (.sub (.var 6) (.bin .Add (.var 10) (.cI 1))))
    (.seq (.asg 16 (.bin .Mod (.bin .FloorDiv (.var 9) (.cI 60)) (.cI 46)))
    (.seq (.asg 17 (.bin .Add (.bin .Add (.bin .Add (.bin .Add (.bin .Add (.cS "(") (.var 13)) (.sub (.var 2) (.var 16))) (.sub (.var 3) (.bin .Mod (.bin .FloorDiv (.var 9) (.cI 2760)) (.cI 4)))) (.var 15)) (.cS ")")))
    (.seq (.augI 5 .Add (.var 11) (.cI 1))
    (.seq (.augI 5 .Add (.var 12) (.bin .Add (.bin .Mult (.cI 64) (.bin .Add (.var 16) (.cI 9))) (.cI 1)))
    (.seq (.augI 5 .Add (.var 14) (.cI 1))
    (.seq (.asgO 6 (.bin .Add (.bin .Add (.slc (.var 6) .abs (.var 10)) (.lst (.cons (.tup (.cons (.var 11) (.cons (.var 14) (.cons (.var 17) .nil)))) .nil))) (.slc (.var 6) (.bin .Add (.var 10) (.cI 2)) .abs)))
    .nil))))))))))
  (.seq (.frz 5)
  (.seq (.ret (.tup (.cons (.sub (.sub (.var 6) (.cI 0)) (.cI 2)) (.cons (.var 5) .nil))))
  .nil)))))))))
noncomputable def nm_law_octets : List Str := ["", "corners", "octets", "number", "figures"]
noncomputable def ps_law_octets : PS :=
  (.seq (.asgO 2 (.lst .nil))
  (.seq (.for_ (.one 3) (.var 1)
    (.seq (.asgO 4 (.lst (.cons (.bin .Mod (.var 3) (.cI 64)) .nil)))
    (.seq (.aug 3 .FloorDiv (.cI 64))
    (.seq (.while_ (.cmp .Gt (.var 3) (.cI 0))
      (.seq (.asgO 4 (.bin .Add (.lst (.cons (.bin .Add (.cI 64) (.bin .Mod (.var 3) (.cI 64))) .nil)) (.var 4)))
      (.seq (.aug 3 .FloorDiv (.cI 64))
      .nil)))
    (.seq (.augI 4 .Add (.cI 0) (.cI 128))
    (.seq (.augL 2 (.var 4))
    .nil))))))
  (.seq (.ret (.bi .bytes (.cons (.var 2) .nil)))
  .nil)))
noncomputable def nm_law_read : List Str := ["", "text", "pieces", "words", "row", "gaps", "ahead", "at", "span", "word", "symbol", "place", "piece"]
noncomputable def ps_law_read : PS :=
  (.seq (.asgO 2 (.comp (.var 12) (.many [11, 12]) (.gen "_iter_escaped_chars" (.cons (.call "_strip_quoted_realnames" (.cons (.var 1) .nil)) .nil)) (.cB true) []))
  (.seq (.frz 2)
  (.seq (.asgO 3 (.lst .nil))
  (.seq (.asgO 4 (.lst .nil))
  (.seq (.asgO 5 (.lst (.cons (.cI 0) .nil)))
  (.seq (.asgO 6 (.lst .nil))
  (.seq (.asg 7 (.cI 0))
  (.seq (.while_ (.cmp .Lt (.var 7) (.bi .len (.cons (.var 2) .nil)))
    (.seq (.asg 8 (.cI 3))
    (.seq (.while_ (.and_ (.cmp .Gt (.var 8) (.cI 1)) (.notTok (.join "" (.slc (.var 2) (.var 7) (.bin .Add (.var 7) (.var 8))))))
      (.seq (.aug 8 .Sub (.cI 1))
      .nil))
    (.seq (.asg 9 (.join "" (.slc (.var 2) (.var 7) (.bin .Add (.var 7) (.var 8)))))
    (.seq (.asg 10 (.getD (.var 9) (.bin .Add (.cI 222) (.bi .ord (.cons (.sub (.var 9) (.neg (.cI 1))) .nil)))))
    (.seq (.app 3 (.var 9))
    (.seq (.app 4 (.var 10))
    (.seq (.app 6 (.bin .Sub (.bi .len (.cons (.var 5) .nil)) (.cI 1)))
    (.seq (.ifs (.call "ISTERMINAL" (.cons (.var 10) .nil))
      (.seq (.augI 5 .Add (.neg (.cI 1)) (.cI 1))
      .nil)
      .nil)
    (.seq (.ifs (.call "ISNONTERMINAL" (.cons (.var 10) .nil))
      (.seq (.app 5 (.cI 0))
      .nil)
      .nil)
    (.seq (.aug 7 .Add (.var 8))
    .nil)))))))))))
  (.seq (.frz 3)
  (.seq (.frz 5)
  (.seq (.ret (.tup (.cons (.var 3) (.cons (.bin .Add (.var 4) (.lst (.cons (.cI 0) .nil))) (.cons (.var 5) (.cons (.bin .Add (.var 6) (.lst (.cons (.neg (.cI 1)) .nil))) .nil))))))
  .nil)))))))))))
noncomputable def nm_law_pairs : List Str := ["", "words", "row", "ahead", "pairs", "t", "u"]
noncomputable def ps_law_pairs : PS :=
  (.seq (.asgO 4 (.lst .nil))
  (.seq (.for_ (.one 5) (.rng (.cons (.bi .len (.cons (.var 1) .nil)) .nil))
    (.seq (.ifs (.cmp .Eq (.sub (.var 2) (.var 5)) (.cI 7))
      (.seq (.asg 6 (.bin .Add (.var 5) (.cI 1)))
      (.seq (.while_ (.and_ (.cmp .Lt (.var 6) (.bi .len (.cons (.var 1) .nil))) (.or_ (.cmp .NotEq (.sub (.var 2) (.var 6)) (.cI 8)) (.not_ (.call "_check_parenthesis" (.cons (.join "" (.slc (.var 1) (.var 5) (.bin .Add (.var 6) (.cI 1)))) .nil)))))
        (.seq (.aug 6 .Add (.cI 1))
        .nil))
      (.seq (.app 4 (.tup (.cons (.sub (.var 3) (.var 5)) (.cons (.sub (.var 3) (.var 6)) .nil))))
      .nil)))
      .nil)
    .nil))
  (.seq (.frz 4)
  (.seq (.ret (.var 4))
  .nil))))
noncomputable def nm_law_threes : List Str := ["", "pairs", "threes", "t", "i", "j", "inner", "a", "b"]
noncomputable def ps_law_threes : PS :=
  (.seq (.asgO 2 (.lst .nil))
  (.seq (.for_ (.one 3) (.rng (.cons (.bi .len (.cons (.var 1) .nil)) .nil))
    (.seq (.asgT [4, 5] (.sub (.var 1) (.var 3)))
    (.seq (.asgO 6 (.comp (.var 8) (.many [7, 8]) (.slc (.var 1) (.bin .Add (.var 3) (.cI 1)) (.bin .Add (.var 3) (.cI 2))) (.cmp .Eq (.var 7) (.var 4)) [4]))
    (.seq (.frz 6)
    (.seq (.app 2 (.tup (.cons (.var 4) (.cons (.sub (.bin .Add (.var 6) (.lst (.cons (.bin .Add (.var 4) (.cI 1)) .nil))) (.cI 0)) (.cons (.var 5) .nil)))))
    .nil)))))
  (.seq (.frz 2)
  (.seq (.ret (.var 2))
  .nil))))
noncomputable def nm_law_frieze : List Str := ["", "counts", "size", "table", "i", "line", "j"]
noncomputable def ps_law_frieze : PS :=
  (.seq (.asg 2 (.bin .Sub (.bi .len (.cons (.var 1) .nil)) (.cI 1)))
  (.seq (.asgO 3 (.lst .nil))
  (.seq (.for_ (.one 4) (.rng (.cons (.var 2) .nil))
    (.seq (.asgO 5 (.bin .Add (.bin .Mult (.lst (.cons (.cI 0) .nil)) (.bin .Add (.var 4) (.cI 1))) (.lst (.cons (.cI 1) .nil))))
    (.seq (.for_ (.one 6) (.rng (.cons (.bin .Add (.var 4) (.cI 1)) (.cons (.var 2) .nil)))
      (.seq (.app 5 (.bin .Sub (.bin .Mult (.sub (.var 1) (.var 6)) (.sub (.var 5) (.var 6))) (.sub (.var 5) (.bin .Sub (.var 6) (.cI 1)))))
      .nil))
    (.seq (.frz 5)
    (.seq (.app 3 (.var 5))
    .nil)))))
  (.seq (.frz 3)
  (.seq (.ret (.var 3))
  .nil)))))
noncomputable def nm_law_written : List Str := ["", "told", "frieze", "size", "row", "c", "i", "j"]
noncomputable def ps_law_written : PS :=
  (.seq (.asg 3 (.bin .Sub (.bi .len (.cons (.var 1) .nil)) (.cI 1)))
  (.seq (.asgO 4 (.lst .nil))
  (.seq (.for_ (.one 5) (.rng (.cons (.bin .Add (.var 3) (.cI 1)) .nil))
    (.seq (.augL 4 (.comp (.cI 8) (.one 6) (.rng (.cons (.bin .Sub (.var 5) (.cI 1)) .nil)) (.cmp .Eq (.sub (.sub (.var 2) (.var 6)) (.var 5)) (.cI 1)) [2, 5]))
    (.seq (.ifs (.chain .Lt .Lt (.cI 0) (.var 5) (.var 3))
      (.seq (.app 4 (.bin .Mod (.bin .FloorDiv (.sub (.var 1) (.var 5)) (.cI 64)) (.cI 64)))
      .nil)
      .nil)
    (.seq (.augL 4 (.comp (.cI 7) (.one 7) (.rng (.cons (.bin .Add (.var 5) (.cI 2)) (.cons (.bin .Add (.var 3) (.cI 1)) .nil))) (.cmp .Eq (.sub (.sub (.var 2) (.var 5)) (.var 7)) (.cI 1)) [2, 5]))
    (.seq (.ifs (.cmp .Lt (.var 5) (.var 3))
      (.seq (.app 4 (.bin .Add (.cI 222) (.bin .FloorDiv (.sub (.var 1) (.var 5)) (.cI 4096))))
      .nil)
      .nil)
    .nil)))))
  (.seq (.ret (.bin .Add (.var 4) (.lst (.cons (.cI 0) .nil))))
  .nil))))
noncomputable def nm_law_ways : List Str := ["", "threes", "size", "table", "i", "line", "ways", "j", "used", "t"]
noncomputable def ps_law_ways : PS :=
  (.seq (.asgO 3 (.lst .nil))
  (.seq (.for_ (.one 4) (.rng (.cons (.var 2) .nil))
    (.seq (.asgO 5 (.bin .Mult (.lst (.cons (.cI 0) .nil)) (.bin .Add (.var 4) (.cI 1))))
    (.seq (.asg 6 (.lst (.cons (.cI 0) .nil)))
    (.seq (.for_ (.one 7) (.rng (.cons (.bin .Add (.var 4) (.cI 1)) (.cons (.bin .Add (.var 2) (.cI 1)) .nil)))
      (.seq (.app 5 (.bi .len (.cons (.var 6) .nil)))
      (.seq (.asgO 6 (.comp2 (.bin .Add (.var 8) (.bin .Pow (.cI 2) (.var 9))) (.one 8) (.var 6) (.one 9) (.rng (.cons (.bi .len (.cons (.var 1) .nil)) .nil)) (.and_ (.cmp .In (.var 7) (.sub (.var 1) (.var 9))) (.cmp .Eq (.bin .Mod (.bin .FloorDiv (.var 8) (.bin .Pow (.cI 2) (.var 9))) (.cI 2)) (.cI 0))) [1, 7]))
      (.seq (.frz 6)
      .nil))))
    (.seq (.frz 5)
    (.seq (.app 3 (.var 5))
    .nil))))))
  (.seq (.frz 3)
  (.seq (.ret (.var 3))
  .nil))))
noncomputable def nm_law_lit : List Str := ["", "threes", "frieze", "size", "draw", "share", "level", "turn", "step", "high", "low", "lights", "i", "k", "j", "red", "green", "blue", "hue", "due", "c", "part", "a", "b"]
noncomputable def ps_law_lit : PS :=
  (.seq (.asg 5 (.bin .Add (.cI 1) (.bin .Mod (.var 4) (.cI 4))))
  (.seq (.asg 6 (.bin .Add (.cI 1) (.bin .Mod (.bin .FloorDiv (.var 4) (.cI 4)) (.cI 4))))
  (.seq (.asg 7 (.bin .Mod (.bin .FloorDiv (.var 4) (.cI 16)) (.cI 3)))
  (.seq (.asg 8 (.bin .Add (.cI 1) (.bin .Mod (.bin .FloorDiv (.var 4) (.cI 48)) (.cI 2))))
  (.seq (.asg 9 (.bin .Mult (.cI 4) (.var 6)))
  (.seq (.asg 10 (.bin .Mult (.var 6) (.bin .Sub (.cI 4) (.var 5))))
  (.seq (.asgO 11 (.comp (.lst .nil) (.one 20) (.rng (.cons (.bin .Add (.var 3) (.cI 1)) .nil)) (.cB true) []))
  (.seq (.setI 11 (.cI 0) (.comp (.ite (.cmp .Eq (.var 21) (.var 7)) (.var 9) (.var 10)) (.one 21) (.rng (.cons (.cI 3) .nil)) (.cB true) [7, 9, 10]))
  (.seq (.setI 11 (.var 3) (.comp (.ite (.cmp .Eq (.var 21) (.bin .Mod (.bin .Add (.var 7) (.var 8)) (.cI 3))) (.var 9) (.var 10)) (.one 21) (.rng (.cons (.cI 3) .nil)) (.cB true) [7, 8, 9, 10]))
  (.seq (.for_ (.many [12, 13, 14]) (.var 1)
    (.seq (.asgT [15, 16, 17] (.comp (.bin .Div (.bin .Add (.var 22) (.var 23)) (.cI 32)) (.many [22, 23]) (.zip (.sub (.var 11) (.var 12)) (.sub (.var 11) (.var 14))) (.cB true) []))
    (.seq (.asg 18 (.sub (.call "rgb_to_hsv" (.cons (.var 15) (.cons (.var 16) (.cons (.var 17) .nil)))) (.cI 0)))
    (.seq (.setI 11 (.var 13) (.comp (.bi .int (.cons (.bin .Add (.bin .Mult (.cI 16) (.var 21)) (.cF 0x3fe0000000000000)) .nil)) (.one 21) (.call "hsv_to_rgb" (.cons (.bin .Add (.var 18) (.cF 0x3fe0000000000000)) (.cons (.bin .Div (.var 5) (.cI 4)) (.cons (.bin .Div (.var 6) (.cI 4)) .nil)))) (.cB true) []))
    .nil))))
  (.seq (.for_ (.one 12) (.rng (.cons (.var 3) .nil))
    (.seq (.for_ (.one 14) (.rng (.cons (.bin .Add (.var 12) (.cI 1)) (.cons (.bin .Add (.var 3) (.cI 1)) .nil)))
      (.seq (.asgT [15, 16, 17] (.comp (.bin .Div (.bin .Add (.var 22) (.var 23)) (.cI 32)) (.many [22, 23]) (.zip (.sub (.var 11) (.var 12)) (.sub (.var 11) (.var 14))) (.cB true) []))
      (.seq (.asg 19 (.ite (.cmp .Eq (.bin .Mod (.sub (.sub (.var 2) (.var 12)) (.var 14)) (.cI 2)) (.cI 1)) (.bin .Add (.var 9) (.bin .Mult (.cI 3) (.var 10))) (.bin .Add (.bin .Mult (.cI 2) (.var 9)) (.bin .Mult (.cI 2) (.var 10)))))
      (.seq (.ifs (.cmp .NotEq (.bin .Mult (.cI 64) (.sub (.call "rgb_to_hls" (.cons (.var 15) (.cons (.var 16) (.cons (.var 17) .nil)))) (.cI 1))) (.var 19))
        (.seq (.ret (.cB false))
        .nil)
        .nil)
      .nil))))
    .nil))
  (.seq (.ret (.cB true))
  .nil))))))))))))
noncomputable def nm_law : List Str := ["", "script", "drawn", "numbers", "size", "text", "corners", "told", "counts", "frieze", "words", "row", "gaps", "ahead", "pairs", "threes", "x", "number", "t", "i", "j"]
noncomputable def ps_law_pre : PS :=
  (.seq (.asgO 2 (.comp (.bin .Mod (.var 16) (.cI 1000000)) (.one 16) (.slc (.var 1) .abs (.cI 5)) (.cB true) []))
  (.seq (.frz 2)
  (.seq (.asg 3 (.bin .Add (.var 2) (.slc (.lst (.cons (.cI 4320) (.cons (.cI 13561) (.cons (.cI 62881) (.cons (.cI 2580) .nil))))) (.bi .len (.cons (.var 2) .nil)) .abs)))
  (.seq (.asg 4 (.bin .Add (.bi .len (.cons (.var 3) .nil)) (.cI 1)))
  (.seq (.asgT [5, 6] (.call "_law_drawn" (.cons (.var 3) .nil)))
  .nil)))))
noncomputable def ps_law_post : PS :=
  (.seq (.ifs (.cmp .NotEq (.var 7) (.var 6))
    (.seq (.ret (.cB false))
    .nil)
    .nil)
  (.seq (.asgO 8 (.comp (.bin .Mod (.var 17) (.cI 64)) (.one 17) (.var 7) (.cB true) []))
  (.seq (.frz 8)
  (.seq (.asg 9 (.call "_law_frieze" (.cons (.var 8) .nil)))
  (.seq (.asgT [10, 11, 12, 13] (.call "_law_read" (.cons (.var 5) .nil)))
  (.seq (.ifs (.or_ (.cmp .NotEq (.var 12) (.var 8)) (.cmp .NotEq (.var 11) (.call "_law_written" (.cons (.var 7) (.cons (.var 9) .nil)))))
    (.seq (.ret (.cB false))
    .nil)
    .nil)
  (.seq (.ifs (.cmp .NotEq (.comp (.var 18) (.one 18) (.rng (.cons (.bi .len (.cons (.var 11) .nil)) .nil)) (.call "ISEOF" (.cons (.sub (.var 11) (.var 18)) .nil)) [11]) (.lst (.cons (.bin .Sub (.bi .len (.cons (.var 11) .nil)) (.cI 1)) .nil)))
    (.seq (.ret (.cB false))
    .nil)
    .nil)
  (.seq (.asg 14 (.call "_law_pairs" (.cons (.var 10) (.cons (.var 11) (.cons (.var 13) .nil)))))
  (.seq (.asg 15 (.call "_law_threes" (.cons (.var 14) .nil)))
  (.seq (.ifs (.cmp .NotEq (.call "_law_ways" (.cons (.var 15) (.cons (.var 4) .nil))) (.var 9))
    (.seq (.ret (.cB false))
    .nil)
    .nil)
  (.seq (.ifs (.cmp .NotEq (.var 14) (.comp2 (.tup (.cons (.var 19) (.cons (.var 20) .nil))) (.one 19) (.rng (.cons (.var 4) .nil)) (.one 20) (.rng (.cons (.var 4) (.cons (.bin .Add (.var 19) (.cI 1)) (.cons (.neg (.cI 1)) .nil)))) (.cmp .Eq (.sub (.sub (.var 9) (.var 19)) (.var 20)) (.cI 1)) [4, 9]))
    (.seq (.ret (.cB false))
    .nil)
    .nil)
  (.seq (.ret (.call "_law_lit" (.cons (.var 15) (.cons (.var 9) (.cons (.var 4) (.cons (.bi .sum (.cons (.var 3) .nil)) .nil))))))
  .nil))))))))))))
noncomputable def k0 (B : Cx) : Cx := B.addG "_iter_escaped_chars" escG
noncomputable def k1 (B : Cx) : Cx := (k0 B).add "ISTERMINAL" (specR (k0 B) nm_ISTERMINAL ["x"] ps_ISTERMINAL)
noncomputable def k2 (B : Cx) : Cx := (k1 B).add "ISNONTERMINAL" (specR (k1 B) nm_ISNONTERMINAL ["x"] ps_ISNONTERMINAL)
noncomputable def k3 (B : Cx) : Cx := (k2 B).add "ISEOF" (specR (k2 B) nm_ISEOF ["x"] ps_ISEOF)
noncomputable def k4 (B : Cx) : Cx := (k3 B).add "rgb_to_hls" (specR (k3 B) nm_rgb_to_hls ["r", "g", "b"] ps_rgb_to_hls)
noncomputable def k5 (B : Cx) : Cx := (k4 B).add "rgb_to_hsv" (specR (k4 B) nm_rgb_to_hsv ["r", "g", "b"] ps_rgb_to_hsv)
noncomputable def k6 (B : Cx) : Cx := (k5 B).add "hsv_to_rgb" (specR (k5 B) nm_hsv_to_rgb ["h", "s", "v"] ps_hsv_to_rgb)
noncomputable def k7 (B : Cx) : Cx := (k6 B).add "_strip_quoted_realnames" (specR (k6 B) nm_strip_quoted_realnames ["addr"] ps_strip_quoted_realnames)
noncomputable def k8 (B : Cx) : Cx := (k7 B).add "_check_parenthesis" (specR (k7 B) nm_check_parenthesis ["addr"] ps_check_parenthesis)
noncomputable def k9 (B : Cx) : Cx := (k8 B).add "_law_drawn" (specR (k8 B) nm_law_drawn ["numbers"] ps_law_drawn)
noncomputable def k10 (B : Cx) : Cx := (k9 B).add "_law_octets" (specR (k9 B) nm_law_octets ["corners"] ps_law_octets)
noncomputable def k11 (B : Cx) : Cx := (k10 B).add "_law_read" (specR (k10 B) nm_law_read ["text"] ps_law_read)
noncomputable def k12 (B : Cx) : Cx := (k11 B).add "_law_pairs" (specR (k11 B) nm_law_pairs ["words", "row", "ahead"] ps_law_pairs)
noncomputable def k13 (B : Cx) : Cx := (k12 B).add "_law_threes" (specR (k12 B) nm_law_threes ["pairs"] ps_law_threes)
noncomputable def k14 (B : Cx) : Cx := (k13 B).add "_law_frieze" (specR (k13 B) nm_law_frieze ["counts"] ps_law_frieze)
noncomputable def k15 (B : Cx) : Cx := (k14 B).add "_law_written" (specR (k14 B) nm_law_written ["told", "frieze"] ps_law_written)
noncomputable def k16 (B : Cx) : Cx := (k15 B).add "_law_ways" (specR (k15 B) nm_law_ways ["threes", "size"] ps_law_ways)
noncomputable def k17 (B : Cx) : Cx := (k16 B).add "_law_lit" (specR (k16 B) nm_law_lit ["threes", "frieze", "size", "draw"] ps_law_lit)
noncomputable def kL (B : Cx) : Cx := k17 B
noncomputable def pvFnB (p : Program) : Bool := onDef p "_parse_varint" λ d => parseB d.body && (parseScB d.scope && simpleB d.params ["iterator"])
noncomputable def tdFnB (p : Program) : Bool := onDef p "_law_told" λ d => toldB d.body && (toldScB d.scope && simpleB d.params ["octets"])
noncomputable def toldStB (nm : List Str) (sc : Scope) (i : Nat) (e : PE) (st : Stmt) : Bool := onAssign st λ t c => onName t λ x => onCall c λ f xs _ => onName f λ g => onOne xs λ v =>
  g == ("_law_told" : Str) && (okVar nm i x && (stOk sc x && (isGlob sc "_law_told" && mt nm e sc v)))
theorem toldStB_ok {P : Stmt → Prop} {nm : List Str} {sc : Scope} {i : Nat} {e : PE} {st : Stmt} (h : toldStB nm sc i e st = true)
    (H : ∀ x p p1 v p3 pos, okVar nm i x = true → stOk sc x = true → isGlob sc "_law_told" = true → mt nm e sc v = true → P (.Assign [.Name x p] (.Call (.Name "_law_told" p1) [v] [] p3) pos)) : P st :=
  onAssign_ok h λ t c pos h => onName_ok (P := λ t => P (.Assign [t] c pos)) h λ x p h => onCall_ok (P := λ c => P (.Assign [.Name x p] c pos)) h λ f xs p3 h => onName_ok (P := λ f => P (.Assign [.Name x p] (.Call f xs [] p3) pos)) h λ g p1 h =>
    onOne_ok (P := λ xs => P (.Assign [.Name x p] (.Call (.Name g p1) xs [] p3) pos)) h λ v h => beqS (P := λ g => P (.Assign [.Name x p] (.Call (.Name g p1) [v] [] p3) pos)) (band h).1 (H x p p1 v p3 pos (band (band h).2).1 (band (band (band h).2).2).1 (band (band (band (band h).2).2).2).1 (band (band (band (band h).2).2).2).2)
noncomputable def octE : PE := .call "_law_octets" (.cons (.var 6) .nil)
noncomputable def lawB (p : Program) : Bool := onDef p "law" λ d => ms nm_law d.scope ps_law_pre (d.body.take 4) && (headB nm_law ["script"] d.scope && (simpleB d.params ["script"] && onCons (d.body.drop 4) λ st r => toldStB nm_law d.scope 7 octE st && ms nm_law d.scope ps_law_post r))
section
variable {p : Program} {loose : List Str} {mean : ExcName → Option Value} {mg mb : Str → Option Value} {h0 : Heap}
theorem pvFn_of (T : Top p loose mean mg mb h0) (h : pvFnB p = true) (hf : freeB p loose "next" = true) : PvFn mg h0 :=
  onDef_ok T h λ _ _ _ _ _ _ h h1 h2 h3 h4 => ⟨.mk h1 h2 h3 h4 (band h).1 (parseScB_ok (band (band h).2).1) (simpleB_ok (band (band h).2).2), free_of T hf⟩
theorem tdFn_of (T : Top p loose mean mg mb h0) (h : tdFnB p = true) (h1 : freeB p loose "len" = true) (h2 : freeB p loose "iter" = true) (h3 : freeB p loose "StopIteration" = true) : TdFn mg h0 :=
  onDef_ok T h λ _ _ _ _ _ _ h g1 g2 g3 g4 => ⟨.mk g1 g2 g3 g4 (band h).1 (toldScB_ok (band (band h).2).1) (simpleB_ok (band (band h).2).2), free_of T h1, free_of T h2, free_of T h3⟩
end
structure ChainB (p : Program) (loose : List Str) : Prop where
  esc : gnB p "_iter_escaped_chars" = true
  f1 : fnB p "ISTERMINAL" nm_ISTERMINAL ["x"] ps_ISTERMINAL = true
  f2 : fnB p "ISNONTERMINAL" nm_ISNONTERMINAL ["x"] ps_ISNONTERMINAL = true
  f3 : fnB p "ISEOF" nm_ISEOF ["x"] ps_ISEOF = true
  f4 : fnB p "rgb_to_hls" nm_rgb_to_hls ["r", "g", "b"] ps_rgb_to_hls = true
  f5 : fnB p "rgb_to_hsv" nm_rgb_to_hsv ["r", "g", "b"] ps_rgb_to_hsv = true
  f6 : fnB p "hsv_to_rgb" nm_hsv_to_rgb ["h", "s", "v"] ps_hsv_to_rgb = true
  f7 : fnB p "_strip_quoted_realnames" nm_strip_quoted_realnames ["addr"] ps_strip_quoted_realnames = true
  f8 : fnB p "_check_parenthesis" nm_check_parenthesis ["addr"] ps_check_parenthesis = true
  f9 : fnB p "_law_drawn" nm_law_drawn ["numbers"] ps_law_drawn = true
  f10 : fnB p "_law_octets" nm_law_octets ["corners"] ps_law_octets = true
  f11 : fnB p "_law_read" nm_law_read ["text"] ps_law_read = true
  f12 : fnB p "_law_pairs" nm_law_pairs ["words", "row", "ahead"] ps_law_pairs = true
  f13 : fnB p "_law_threes" nm_law_threes ["pairs"] ps_law_threes = true
  f14 : fnB p "_law_frieze" nm_law_frieze ["counts"] ps_law_frieze = true
  f15 : fnB p "_law_written" nm_law_written ["told", "frieze"] ps_law_written = true
  f16 : fnB p "_law_ways" nm_law_ways ["threes", "size"] ps_law_ways = true
  f17 : fnB p "_law_lit" nm_law_lit ["threes", "frieze", "size", "draw"] ps_law_lit = true
  pv : pvFnB p = true
  td : tdFnB p = true
  law : lawB p = true
  frs : (([("len" : Str), "ord", "max", "min", "sum", "bytes", "int", "range", "zip"].all λ x => freeB p loose x) && (freeB p loose "next" && (freeB p loose "iter" && (freeB p loose "StopIteration" && freeB p loose "enumerate")))) = true
  nt : (match valOf p "NT_OFFSET" with | some (.int i) => i == 256 | _ => false) = true
  em : (match valOf p "ENDMARKER" with | some (.int i) => i == 0 | _ => false) = true
theorem ChainB.bi {p loose} (B : ChainB p loose) : ([("len" : Str), "ord", "max", "min", "sum", "bytes", "int", "range", "zip"].all λ x => freeB p loose x) = true := (band B.frs).1
theorem ChainB.next {p loose} (B : ChainB p loose) : freeB p loose "next" = true := (band (band B.frs).2).1
theorem ChainB.iter {p loose} (B : ChainB p loose) : freeB p loose "iter" = true := (band (band (band B.frs).2).2).1
theorem ChainB.stop {p loose} (B : ChainB p loose) : freeB p loose "StopIteration" = true := (band (band (band (band B.frs).2).2).2).1
theorem ChainB.enum {p loose} (B : ChainB p loose) : freeB p loose "enumerate" = true := (band (band (band (band B.frs).2).2).2).2
section
variable {p : Program} {loose : List Str} {mean : ExcName → Option Value} {mg mb : Str → Option Value} {h0 : Heap} {prog : Program} {w : World}
theorem chain_ok (T : Top p loose mean mg mb h0) (B : ChainB p loose)
    (ht : ∃ d f, mg "EXACT_TOKEN_TYPES" = some (.ref d) ∧ (d == sysModules) = false ∧ h0.MapOf (strKind prog w) d f ∧ ∀ x, (∀ i, tokP x = some i → ∃ t, f x = some (.int i t)) ∧ (tokP x = none → f x = none)) :
    CxOk (kL (cxP prog w h0 mg mb)) 19 := by
  have K := cxP_ok (prog := prog) (w := w) T B.bi B.nt B.em ht 0
  have K0 : CxOk (k0 (cxP prog w h0 mg mb)) 2 := (K.le (by decide)).addG (gn_of (C := cxP prog w h0 mg mb) T K B.esc (free_of T B.enum) escG_ok)
  have K1 : CxOk (k1 (cxP prog w h0 mg mb)) 3 := K0.addR (C := k0 (cxP prog w h0 mg mb)) T "ISTERMINAL" nm_ISTERMINAL ["x"] ps_ISTERMINAL bi_x B.f1
  have K2 : CxOk (k2 (cxP prog w h0 mg mb)) 4 := K1.addR (C := k1 (cxP prog w h0 mg mb)) T "ISNONTERMINAL" nm_ISNONTERMINAL ["x"] ps_ISNONTERMINAL bi_x B.f2
  have K3 : CxOk (k3 (cxP prog w h0 mg mb)) 5 := K2.addR (C := k2 (cxP prog w h0 mg mb)) T "ISEOF" nm_ISEOF ["x"] ps_ISEOF bi_x B.f3
  have K4 : CxOk (k4 (cxP prog w h0 mg mb)) 6 := K3.addR (C := k3 (cxP prog w h0 mg mb)) T "rgb_to_hls" nm_rgb_to_hls ["r", "g", "b"] ps_rgb_to_hls bi_rgb B.f4
  have K5 : CxOk (k5 (cxP prog w h0 mg mb)) 7 := K4.addR (C := k4 (cxP prog w h0 mg mb)) T "rgb_to_hsv" nm_rgb_to_hsv ["r", "g", "b"] ps_rgb_to_hsv bi_rgb B.f5
  have K6 : CxOk (k6 (cxP prog w h0 mg mb)) 8 := K5.addR (C := k5 (cxP prog w h0 mg mb)) T "hsv_to_rgb" nm_hsv_to_rgb ["h", "s", "v"] ps_hsv_to_rgb bi_hsv B.f6
  have K7 : CxOk (k7 (cxP prog w h0 mg mb)) 9 := K6.addR (C := k6 (cxP prog w h0 mg mb)) T "_strip_quoted_realnames" nm_strip_quoted_realnames ["addr"] ps_strip_quoted_realnames bi_addr B.f7
  have K8 : CxOk (k8 (cxP prog w h0 mg mb)) 10 := K7.addR (C := k7 (cxP prog w h0 mg mb)) T "_check_parenthesis" nm_check_parenthesis ["addr"] ps_check_parenthesis bi_addr B.f8
  have K9 : CxOk (k9 (cxP prog w h0 mg mb)) 11 := K8.addR (C := k8 (cxP prog w h0 mg mb)) T "_law_drawn" nm_law_drawn ["numbers"] ps_law_drawn bi_numbers B.f9
  have K10 : CxOk (k10 (cxP prog w h0 mg mb)) 12 := K9.addR (C := k9 (cxP prog w h0 mg mb)) T "_law_octets" nm_law_octets ["corners"] ps_law_octets bi_corners B.f10
  have K11 : CxOk (k11 (cxP prog w h0 mg mb)) 13 := K10.addR (C := k10 (cxP prog w h0 mg mb)) T "_law_read" nm_law_read ["text"] ps_law_read bi_text B.f11
  have K12 : CxOk (k12 (cxP prog w h0 mg mb)) 14 := K11.addR (C := k11 (cxP prog w h0 mg mb)) T "_law_pairs" nm_law_pairs ["words", "row", "ahead"] ps_law_pairs bi_words B.f12
  have K13 : CxOk (k13 (cxP prog w h0 mg mb)) 15 := K12.addR (C := k12 (cxP prog w h0 mg mb)) T "_law_threes" nm_law_threes ["pairs"] ps_law_threes bi_pairs B.f13
  have K14 : CxOk (k14 (cxP prog w h0 mg mb)) 16 := K13.addR (C := k13 (cxP prog w h0 mg mb)) T "_law_frieze" nm_law_frieze ["counts"] ps_law_frieze bi_counts B.f14
  have K15 : CxOk (k15 (cxP prog w h0 mg mb)) 17 := K14.addR (C := k14 (cxP prog w h0 mg mb)) T "_law_written" nm_law_written ["told", "frieze"] ps_law_written bi_told B.f15
  have K16 : CxOk (k16 (cxP prog w h0 mg mb)) 18 := K15.addR (C := k15 (cxP prog w h0 mg mb)) T "_law_ways" nm_law_ways ["threes", "size"] ps_law_ways bi_ways B.f16
  have K17 : CxOk (k17 (cxP prog w h0 mg mb)) 19 := K16.addR (C := k16 (cxP prog w h0 mg mb)) T "_law_lit" nm_law_lit ["threes", "frieze", "size", "draw"] ps_law_lit bi_lit B.f17
  exact K17
noncomputable def LawTrue (C : Cx) (script : List Int) : Prop := ∃ ρ1 bs Vs ρ2, run C 4000 ps_law_pre (initSlots nm_law [.lst (script.map .int)]) = some (.next, ρ1) ∧ (∀ (i : Nat) ds, ρ1[i]? ≠ some (.own ds)) ∧ (ev C octE ρ1).e = some (.bytes bs) ∧ Told bs.toList Vs ∧ Vs.length ≤ 8 ∧
  run C 4000 ps_law_post (ρ1.set 7 (.fro (.lst (Vs.map λ (k : Nat) => D.int (k : Int))))) = some (.ret (.bool true), ρ2)
theorem law_run (T : Top p loose mean mg mb h0) (B : ChainB p loose)
    (ht : ∃ d f, mg "EXACT_TOKEN_TYPES" = some (.ref d) ∧ (d == sysModules) = false ∧ h0.MapOf (strKind prog w) d f ∧ ∀ x, (∀ i, tokP x = some i → ∃ t, f x = some (.int i t)) ∧ (tokP x = none → f x = none))
    {script : List Int} (hL : LawTrue (kL (cxP prog w h0 mg mb)) script) {a : Addr} (ha : mg "law" = some (.ref a)) {s : Shared} (hs : s.heap = h0) (hg : AllBare s.gens) {v : Value} (hv : Has (λ _ => False) h0 (.lst (script.map .int)) v) {Q : Value → Shared → Prop} {E : Value → Shared → Prop}
    (hQ : ∀ s', (∀ b o, s.heap.get? b = some o → s'.heap.get? b = some o) → s'.os = s.os → AllBare s'.gens → Q (.bool true) s') : wpAny (model prog w) callerA (call (.ref a) [v]) Q E s := by
  have K := (chain_ok (prog := prog) (w := w) T B ht).le (show _ ≤ 40 by decide)
  refine onDef_ok T B.law λ d a' o pm code doc hk' g1 g2 g3 g4 => ?_
  cases Option.some.inj (ha.symm.trans g1)
  have b3 := band (band hk').2
  have b4 := band b3.2
  refine onCons_ok (P := λ l => d.body.drop 4 = l → _) b4.2 (λ st r hk hdrop => ?_) rfl
  refine toldStB_ok (P := λ st => d.body.drop 4 = st :: r → _) (band hk).1 (λ x p0 p1 e p3 pos c1 c2 c3 c4 hdrop => ?_) hdrop
  have hbody : d.body = d.body.take 4 ++ .Assign [.Name x p0] (.Call (.Name "_law_told" p1) [e] [] p3) pos :: r := by rw [← hdrop, List.take_append_drop]
  rw [hbody] at g3
  have H := headB_ok b3.1
  obtain ⟨ρ1, bs, Vs, ρ2, e1, e2, e3, e4, e5, e6⟩ := hL
  refine law_ok (C := kL (cxP prog w h0 mg mb)) K g2 g3 g4 (band hk').1 (band hk).2 H (λ vs hv => bind_simple bi_script (simpleB_ok b4.1) vs hv) (pvFn_of T B.pv B.next) (tdFn_of T B.td ((List.all_eq_true.mp B.bi) _ (by simp)) B.iter B.stop) c1 c2 c3 c4 (O := λ _ => False) (ds := [.lst (script.map .int)]) (d := .bool true)
    ⟨rfl, by decide +kernel, by decide +kernel⟩ (by decide +kernel) rfl (λ b o q => by rw [hs]; exact q) hg (λ _ f => f.elim) (hasL_cons (by rw [hs]; exact hv) hasL_nil) rfl ?_ ?_
  · exact run_vc _ 4000 _ _ _ e1 _ ⟨rfl, e2, bs, Vs, e3, e4, e5, run_vc _ 4000 _ _ _ e6 _ rfl⟩
  · intro v' s' k1 k2 k3 k4
    rw [Has] at k4
    subst k4
    exact hQ s' k1 k2 k3
end
theorem hasL_intsAre {O : Addr → Prop} {h : Heap} : ∀ {vs : List Value} {ns : List Int}, IntsAre vs ns → HasL O h (ns.map .int) vs
  | _, _, .nil => hasL_nil
  | _, _, .cons _ _ r => hasL_cons (by rw [Has]; exact ⟨_, rfl⟩) (hasL_intsAre r)
theorem has_script {h : Heap} {a : Addr} {vs : List Value} {ns : List Int} (hl : h.IsList a vs.toArray) (hi : IntsAre vs ns) : Has (λ _ => False) h (.lst (ns.map .int)) (.ref a) := by
  rw [Has]
  exact ⟨a, vs.toArray, rfl, id, hl, by simpa using hasL_intsAre hi⟩
theorem table_of {K : Frag} {h : Heap} {mg : Str → Option Value} {prog : Program} {w : World} {d : Addr} {es : Array DictEntry} {n : Nat} (X : K.In h) (G : h.Ns mainGlobals mg) (e : nsIn K mainGlobals "EXACT_TOKEN_TYPES" = some (some (.ref d))) (hd : (d == sysModules) = false)
    (hl : K.lookup d = some ⟨.type "dict", none, .dict es n, #[]⟩) (hk : KeysLit w.params es.toList) (hv : KV es.toList tokTab) :
    ∃ d f, mg "EXACT_TOKEN_TYPES" = some (.ref d) ∧ (d == sysModules) = false ∧ h.MapOf (strKind prog w) d f ∧ ∀ x, (∀ i, tokP x = some i → ∃ t, f x = some (.int i t)) ∧ (tokP x = none → f x = none) :=
  ⟨d, _, mg_of X G e, hd, mapOf_K X hl hk, λ x => tok_of hv x⟩
structure SameCx (C C' : Cx) : Prop where
  fn : C.fn = C'.fn
  gn : C.gn = C'.gn
  gd : C.gd = C'.gd
  tok : C.tok = C'.tok
theorem SameCx.elim {P : Cx → Cx → Prop} (H : ∀ prog w h0 mg mb prog' w' h0' mg' mb' fn gn gd tok, P ⟨prog, w, h0, mg, mb, fn, gn, gd, tok⟩ ⟨prog', w', h0', mg', mb', fn, gn, gd, tok⟩) {C C' : Cx} (h : SameCx C C') : P C C' := by
  obtain ⟨prog, w, h0, mg, mb, fn, gn, gd, tok⟩ := C
  obtain ⟨prog', w', h0', mg', mb', fn', gn', gd', tok'⟩ := C'
  obtain ⟨h1, h2, h3, h4⟩ := h
  dsimp only at h1 h2 h3 h4
  subst h1 h2 h3 h4
  exact H ..
theorem ev_same {C C' : Cx} (h : SameCx C C') (p : PE) (ρ : List Slot) : ev C p ρ = ev C' p ρ := h.elim (P := λ C C' => ev C p ρ = ev C' p ρ) λ _ _ _ _ _ _ _ _ _ _ _ _ _ _ => by kernel_rfl
theorem run_same {C C' : Cx} (h : SameCx C C') (f : Nat) (p : PS) : run C f p = run C' f p := h.elim (P := λ C C' => run C f p = run C' f p) λ _ _ _ _ _ _ _ _ _ _ _ _ _ _ => by kernel_rfl
theorem specR_same {C C' : Cx} (h : SameCx C C') (nm ps : List Str) (b : PS) : specR C nm ps b = specR C' nm ps b := by
  funext ds; unfold specR; rw [run_same h]
theorem SameCx.add {C C' : Cx} (h : SameCx C C') (f : Str) (nm ps : List Str) (b : PS) : SameCx (C.add f (specR C nm ps b)) (C'.add f (specR C' nm ps b)) := by
  refine ⟨?_, h.gn, h.gd, h.tok⟩
  show (λ g => if g = f then _ else C.fn g) = λ g => if g = f then _ else C'.fn g
  rw [specR_same h, h.fn]
theorem SameCx.addG {C C' : Cx} (h : SameCx C C') (f : Str) (sp : List D → Option (List D)) : SameCx (C.addG f sp) (C'.addG f sp) := by
  refine ⟨h.fn, ?_, h.gd, h.tok⟩
  show (λ g => if g = f then _ else C.gn g) = λ g => if g = f then _ else C'.gn g
  rw [h.gn]
noncomputable def cE : Cx := cxP default ⟨λ _ _ => 0, { strHash := λ _ => 0, shareClass := λ _ => 0, mergeTok := λ t => t, idOf := λ _ => 0, idOfShared := λ _ _ => 0, followText := λ _ => false, idOfImm := λ _ => 0 }⟩ {} (λ _ => none) (λ _ => none)
theorem same_kL {C C' : Cx} (h : SameCx C C') : SameCx (kL C) (kL C') := by
  refine SameCx.add ?_ _ _ _ _
  refine SameCx.add ?_ _ _ _ _
  refine SameCx.add ?_ _ _ _ _
  refine SameCx.add ?_ _ _ _ _
  refine SameCx.add ?_ _ _ _ _
  refine SameCx.add ?_ _ _ _ _
  refine SameCx.add ?_ _ _ _ _
  refine SameCx.add ?_ _ _ _ _
  refine SameCx.add ?_ _ _ _ _
  refine SameCx.add ?_ _ _ _ _
  refine SameCx.add ?_ _ _ _ _
  refine SameCx.add ?_ _ _ _ _
  refine SameCx.add ?_ _ _ _ _
  refine SameCx.add ?_ _ _ _ _
  refine SameCx.add ?_ _ _ _ _
  refine SameCx.add ?_ _ _ _ _
  refine SameCx.add ?_ _ _ _ _
  exact h.addG _ _
theorem lawTrue_same {C C' : Cx} (h : SameCx C C') {script : List Int} (x : LawTrue C' script) : LawTrue C script := by
  obtain ⟨ρ1, bs, Vs, ρ2, h1, h2, h3, h4, h5, h6⟩ := x
  exact ⟨ρ1, bs, Vs, ρ2, by rw [run_same h]; exact h1, h2, by rw [ev_same h]; exact h3, h4, h5, by rw [run_same h]; exact h6⟩
theorem law_plain {script : List Int} (x : LawTrue (kL cE) script) (prog : Program) (w : World) (h0 : Heap) (mg mb : Str → Option Value) : LawTrue (kL (cxP prog w h0 mg mb)) script :=
  lawTrue_same (same_kL ⟨rfl, rfl, rfl, rfl⟩) x
noncomputable def S (l : List Nat) : Str := ⟨l.toArray⟩
theorem S_cps (l : List Nat) : (S l).cps.toList = l := by simp [S]
theorem S_len (l : List Nat) : (S l).length = l.length := by simp [S, Str.length]
theorem S_app (a b : List Nat) : S a ++ S b = S (a ++ b) := str_ext (by
  show ((S a).cps ++ (S b).cps).toList = _
  rw [Array.toList_append, S_cps, S_cps, S_cps])
theorem S_of (x : Str) : x = S x.cps.toList := str_ext (by rw [S_cps])
theorem S_inj {a b : List Nat} (h : S a = S b) : a = b := by have := congrArg (λ x : Str => x.cps.toList) h; simpa [S_cps] using this
theorem S_beq (a b : List Nat) : (S a == S b) = (a == b) := by
  by_cases h : a = b
  · subst h; simp
  · rw [beq_eq_false_iff_ne.mpr h, beq_eq_false_iff_ne.mpr λ q => h (S_inj q)]
theorem blen_L {l : List D} (h : l.length ≤ 16777216) : blen [.lst l] = some (.int (l.length : Int)) := if_pos (decide_eq_true h)
theorem blen_S {l : List Nat} (h : l.length ≤ 16777216) : blen [.str (S l)] = some (.int (l.length : Int)) := (if_pos (decide_eq_true (by rw [S_len]; exact h))).trans (by rw [S_len])
theorem lt_nn (a b : Nat) : dcmp .Lt (.int (a : Int)) (.int (b : Int)) = some (decide (a < b)) := congrArg some (decide_eq_decide.mpr Int.ofNat_lt)
theorem dsub_L (l : List D) (k : Int) : dsub (.lst l) (.int k) = dsubL l k := rfl
theorem dsub_T (l : List D) (k : Int) : dsub (.tup l) (.int k) = dsubT l k := rfl
theorem dsub_S (l : Str) (k : Int) : dsub (.str l) (.int k) = dsubS l k := rfl
theorem small_nat {k : Nat} (h : k ≤ 100000) : smallI (k : Int) = true := smallI_iff.mpr ⟨by omega, by omega⟩
theorem dsubL_at {l : List D} {k : Nat} {d : D} (hk : k ≤ 100000) (h : l[k]? = some d) : dsub (.lst l) (.int (k : Int)) = some d := by
  rw [dsub_L]
  unfold dsubL
  rw [if_pos (small_nat hk), if_pos (Int.natCast_nonneg k)]; exact h
theorem dsubT_at {l : List D} {k : Nat} {d : D} (hk : k ≤ 100000) (h : l[k]? = some d) : dsub (.tup l) (.int (k : Int)) = some d := by
  rw [dsub_T]
  unfold dsubT
  rw [if_pos (small_nat hk), if_pos (Int.natCast_nonneg k)]; exact h
theorem dsubS_at {l : List Nat} {k : Nat} {c : Nat} (hk : k ≤ 100000) (h : l[k]? = some c) : dsub (.str (S l)) (.int (k : Int)) = some (.str (S [c])) := by
  rw [dsub_S]
  unfold dsubS
  rw [if_pos (small_nat hk), if_pos (Int.natCast_nonneg k), show (S l).cps[(k : Int).toNat]? = some c by rw [← Array.getElem?_toList, S_cps]; exact h]; rfl
theorem last_at {n : Nat} : (-1 + ((n + 1 : Nat) : Int)).toNat = n := by omega
theorem small_m1 : smallI (-1) = true := by decide
theorem dsubL_last {l : List D} {d : D} : dsub (.lst (l ++ [d])) (.int (-1)) = some d := by
  rw [dsub_L]
  unfold dsubL
  rw [if_pos small_m1, if_neg (by decide), List.length_append, List.length_singleton, if_pos (by omega), last_at, List.getElem?_concat_length]
theorem dsubS_last {l : List Nat} {c : Nat} : dsub (.str (S (l ++ [c]))) (.int (-1)) = some (.str (S [c])) := by
  rw [dsub_S]
  unfold dsubS
  rw [if_pos small_m1, if_neg (by decide), S_len, List.length_append, List.length_singleton, if_pos (by omega), last_at, show (S (l ++ [c])).cps[l.length]? = some c by rw [← Array.getElem?_toList, S_cps, List.getElem?_concat_length]]; rfl
theorem S_sub (l : List Nat) (lo hi : Option Int) : subStr (S l) lo hi = S ((l.drop (slA lo l.length)).take (slB hi l.length - slA lo l.length)) := by
  unfold subStr; rw [S_cps, S_len]; rfl
theorem S_join : ∀ (ls : List (List Nat)), Txt.join (S []) (ls.map S) = S ls.flatten := by
  intro ls
  show Builtin.Str.glued _ _ = _
  rw [StrLaws.glued_eq_join]
  induction ls with
  | nil => rfl
  | cons a r ih =>
    cases r with
    | nil => show S a = _; simp
    | cons b r =>
      show S a ++ S [] ++ Str.join (S []) (S b :: r.map S) = _
      have ih' : Str.join (S []) (S b :: r.map S) = S (b :: r).flatten := ih
      rw [ih', S_app, S_app]
      simp
theorem S_has (l : List Nat) (c : Nat) : Txt.contains (S l) (S [c]) = decide (c ∈ l) := by
  have := StrLaws.found_one (S l) c
  rw [S_cps] at this
  exact this
theorem strsOf_S : ∀ (ls : List (List Nat)), strsOf (ls.map λ l => D.str (S l)) = some (ls.map S)
  | [] => rfl
  | l :: ls => by simp [strsOf, strsOf_S ls]
theorem djoin_S {ls : List (List Nat)} (h : ls.flatten.length ≤ 16777216) : djoin (S []) (.lst (ls.map λ l => D.str (S l))) = some (.str (S ls.flatten)) := by
  show (strsOf (ls.map λ l => D.str (S l))).bind _ = _
  rw [strsOf_S, Option.bind_some, S_join, if_pos]
  have e : ((ls.map S).map (·.length)).sum = ls.flatten.length := by
    rw [List.length_flatten, List.map_map]
    congr 1
  rw [e]
  exact decide_eq_true (by show ls.flatten.length + (ls.map S).length * 0 ≤ 16777216; omega)
noncomputable def Runs (body : List Slot → Option (Fl × List Slot)) (tg : Tg) : List D → List Slot → List Slot → Prop
  | [], ρ, ρ' => ρ' = ρ
  | x :: xs, ρ, ρ' => ∃ ρ1 ρ2, bindT tg x ρ = some ρ1 ∧ body ρ1 = some (.next, ρ2) ∧ Runs body tg xs ρ2 ρ'
section
variable {body : List Slot → Option (Fl × List Slot)} {tg : Tg}
theorem Runs.append : ∀ {xs ys : List D} {ρ ρ1 ρ2 : List Slot}, Runs body tg xs ρ ρ1 → Runs body tg ys ρ1 ρ2 → Runs body tg (xs ++ ys) ρ ρ2
  | [], _, _, _, _, h, k => by cases h; exact k
  | _ :: _, _, _, _, _, ⟨a, b, h1, h2, h3⟩, k => ⟨a, b, h1, h2, h3.append k⟩
theorem Runs.front : ∀ {xs ys : List D} {ρ ρ1 : List Slot}, Runs body tg xs ρ ρ1 → runFor body tg (xs ++ ys) ρ = runFor body tg ys ρ1
  | [], _, _, _, h => by cases h; rfl
  | x :: xs, ys, ρ, ρ1, ⟨a, b, h1, h2, h3⟩ => by
    show (bindT tg x ρ).bind _ = _
    rw [h1, Option.bind_some, h2, Option.bind_some]
    exact h3.front
theorem Runs.run {xs : List D} {ρ ρ' : List Slot} (h : Runs body tg xs ρ ρ') : runFor body tg xs ρ = some (.next, ρ') := by
  have := h.front (ys := [])
  rwa [List.append_nil] at this
theorem Runs.one {x : D} {ρ ρ1 ρ2 : List Slot} (h1 : bindT tg x ρ = some ρ1) (h2 : body ρ1 = some (.next, ρ2)) : Runs body tg [x] ρ ρ2 := ⟨ρ1, ρ2, h1, h2, rfl⟩
theorem runs_inv (I : List D → List Slot → Prop) (step : ∀ x xs ρ, I (x :: xs) ρ → ∃ ρ1 ρ2, bindT tg x ρ = some ρ1 ∧ body ρ1 = some (.next, ρ2) ∧ I xs ρ2) : ∀ (xs : List D) (ρ : List Slot), I xs ρ → ∃ ρ', Runs body tg xs ρ ρ' ∧ I [] ρ'
  | [], ρ, h => ⟨ρ, rfl, h⟩
  | x :: xs, ρ, h => by
    obtain ⟨ρ1, ρ2, h1, h2, h3⟩ := step x xs ρ h
    obtain ⟨ρ', h4, h5⟩ := runs_inv I step xs ρ2 h3
    exact ⟨ρ', ⟨ρ1, ρ2, h1, h2, h4⟩, h5⟩
end
theorem run_seq {C : Cx} {f : Nat} {a b : PS} {ρ ρ' : List Slot} (h : run C f a ρ = some (.next, ρ')) : run C f (.seq a b) ρ = run C f b ρ' := by
  show (run C f a ρ).bind _ = _
  rw [h]; rfl
theorem run_ret {C : Cx} {f : Nat} {a b : PS} {ρ ρ' : List Slot} {d : D} (h : run C f a ρ = some (.ret d, ρ')) : run C f (.seq a b) ρ = some (.ret d, ρ') := by
  show (run C f a ρ).bind _ = _
  rw [h]; rfl
theorem run_for {C : Cx} {f : Nat} {tg : Tg} {it : PE} {a : PS} {ρ ρ' : List Slot} {xs : List D} (h : (ev C it ρ).it = some xs) (k : Runs (run C f a) tg xs ρ ρ') : run C f (.for_ tg it a) ρ = some (.next, ρ') := by
  show (ev C it ρ).it.bind _ = _
  rw [h, Option.bind_some]; exact k.run
theorem run_asg {C : Cx} {f i : Nat} {e : PE} {ρ : List Slot} {d : D} (h : (ev C e ρ).e = some d) : run C f (.asg i e) ρ = some (.next, ρ.set i (.fro d)) := by
  exact bnd h rfl
theorem run_asgO {C : Cx} {f i : Nat} {e : PE} {ρ : List Slot} {l : List D} (h : (ev C e ρ).e = some (.lst l)) : run C f (.asgO i e) ρ = some (.next, ρ.set i (.own l)) := by
  exact bnd (congrArg lstOf h) rfl
theorem run_app {C : Cx} {f i : Nat} {e : PE} {ρ : List Slot} {l : List D} {d : D} (h0 : ρ[i]? = some (.own l)) (h : (ev C e ρ).e = some d) (hl : l.length ≤ 16777000) : run C f (.app i e) ρ = some (.next, ρ.set i (.own (l ++ [d]))) := by
  exact bnd (congrArg ownOf h0) (bnd h (if_pos hl))
theorem run_aug {C : Cx} {f i : Nat} {op : Operator} {e : PE} {ρ : List Slot} {o d r : Int} (h0 : ρ[i]? = some (.fro (.int o))) (h : (ev C e ρ).e = some (.int d)) (hr : augI op o d = some r) : run C f (.aug i op e) ρ = some (.next, ρ.set i (.fro (.int r))) := by
  exact bnd (congrArg (λ o => intOf (froOf o)) h0) (bnd (congrArg intOf h) (bnd hr rfl))
theorem run_if {C : Cx} {f : Nat} {c : PE} {a b : PS} {ρ : List Slot} {t : Bool} (h : (ev C c ρ).b = some t) : run C f (.ifs c a b) ρ = if t then run C f a ρ else run C f b ρ := by
  exact bnd h rfl
theorem run_retE {C : Cx} {f : Nat} {e : PE} {ρ : List Slot} {d : D} (h : (ev C e ρ).e = some d) : run C f (.ret e) ρ = some (.ret d, ρ) := by
  exact bnd h rfl
theorem run_frz {C : Cx} {f i : Nat} {ρ : List Slot} {l : List D} (h0 : ρ[i]? = some (.own l)) : run C f (.frz i) ρ = some (.next, ρ.set i (.fro (.lst l))) := by
  exact bnd (congrArg ownOf h0) rfl
theorem specR_of {C : Cx} {nm ps : List Str} {b : PS} {ds : List D} {d : D} {ρ' : List Slot} (hl : ds.length = ps.length) (h : run C 4000 b (initSlots nm ds) = some (.ret d, ρ')) : specR C nm ps b ds = some d := by
  unfold specR
  rw [if_pos hl, h]
theorem run_while {C : Cx} {f : Nat} {c : PE} {a : PS} (I : Nat → List Slot → Prop) (J : List Slot → Prop)
    (step : ∀ n ρ, I n ρ → (∃ ρ', (ev C c ρ).b = some true ∧ run C f a ρ = some (.next, ρ') ∧ ∃ m, m < n ∧ I m ρ') ∨ ((ev C c ρ).b = some false ∧ J ρ)) :
    ∀ (n : Nat) (ρ : List Slot), I n ρ → n < f → ∃ ρ', run C f (.while_ c a) ρ = some (.next, ρ') ∧ J ρ' := by
  intro n ρ hI hn
  show ∃ ρ', runWhile (λ ρ => (ev C c ρ).b) (run C f a) f ρ = some (.next, ρ') ∧ J ρ'
  have key : ∀ (g : Nat) (n : Nat) (ρ : List Slot), I n ρ → n < g → ∃ ρ', runWhile (λ ρ => (ev C c ρ).b) (run C f a) g ρ = some (.next, ρ') ∧ J ρ' := by
    intro g
    induction g with
    | zero => intro n ρ _ h; lia
    | succ g ih =>
      intro n ρ hI hn
      rcases step n ρ hI with ⟨ρ', h1, h2, m, hm, h3⟩ | ⟨h1, h2⟩
      · obtain ⟨ρ'', k1, k2⟩ := ih m ρ' h3 (by lia)
        refine ⟨ρ'', ?_, k2⟩
        show (Option.bind (ev C c ρ).b _) = _
        rw [h1, Option.bind_some, if_pos rfl, h2]
        exact k1
      · refine ⟨ρ, ?_, h2⟩
        show (Option.bind (ev C c ρ).b _) = _
        rw [h1]; rfl
  exact key f n ρ hI hn
noncomputable def escEnd : Bool → List Nat → Bool
  | e, [] => e
  | e, c :: cs => if e then escEnd false cs else if c = 92 then escEnd true cs else escEnd false cs
noncomputable def escM (i : Nat) : Bool → List Nat → List D
  | _, [] => []
  | e, c :: cs => if e then .tup [.int (i : Int), .str (S [92, c])] :: escM (i + 1) false cs else if c = 92 then escM (i + 1) true cs else .tup [.int (i : Int), .str (S [c])] :: escM (i + 1) false cs
theorem escM_append : ∀ (a b : List Nat) (i : Nat) (e : Bool), escM i e (a ++ b) = escM i e a ++ escM (i + a.length) (escEnd e a) b
  | [], b, i, e => by simp [escM, escEnd]
  | c :: a, b, i, e => by
    have ih := λ e => escM_append a b (i + 1) e
    have e1 : i + (c :: a).length = i + 1 + a.length := by simp; lia
    rw [e1]
    cases e
    · simp only [List.cons_append, escM, escEnd, Bool.false_eq_true, if_false]
      split
      · exact ih true
      · rw [ih false]; rfl
    · simp only [List.cons_append, escM, escEnd, if_true]
      rw [ih false]
theorem escEnd_append : ∀ (a b : List Nat) (e : Bool), escEnd e (a ++ b) = escEnd (escEnd e a) b
  | [], b, e => rfl
  | c :: a, b, e => by
    cases e
    · simp only [List.cons_append, escEnd, Bool.false_eq_true, if_false]
      split <;> exact escEnd_append a b _
    · simp only [List.cons_append, escEnd, if_true]; exact escEnd_append a b _
theorem escD_M : ∀ (l : List Nat) (i : Nat) (e : Bool), escEnd e l = false → escD i e l = escM i e l
  | [], i, e, h => by cases h; rfl
  | c :: l, i, e, h => by
    cases e
    · simp only [escEnd, Bool.false_eq_true, if_false] at h
      simp only [escD, escM, Bool.false_eq_true, if_false]
      split
      · rename_i hc; rw [if_pos hc] at h; exact escD_M l _ _ h
      · rename_i hc; rw [if_neg hc] at h; rw [escD_M l _ _ h]; rfl
    · simp only [escEnd, if_true] at h
      simp only [escD, escM, if_true]
      rw [escD_M l _ _ h]; rfl
noncomputable def noQ : Bool → List Nat → Bool
  | _, [] => true
  | e, c :: cs => if e then noQ false cs else if c = 92 then noQ true cs else c != 34 && noQ false cs
noncomputable def stripBody : PS :=
    (.seq (.ifs (.cmp .Eq (.var 6) (.cS "\""))
      (.seq (.ifs (.cmp .Is (.var 3) .cN)
        (.seq (.asg 3 (.var 5))
        .nil)
        (.seq (.ifs (.cmp .NotEq (.var 2) (.var 3))
          (.seq (.app 4 (.slc (.var 1) (.var 2) (.var 3)))
          .nil)
          .nil)
        (.seq (.asg 2 (.bin .Add (.var 5) (.cI 1)))
        (.seq (.asg 3 .cN)
        .nil))))
      .nil)
      .nil)
    .nil)
noncomputable def stripSt (A : List Nat) (st : Nat) (op : D) (R : List (List Nat)) (p c : Slot) : List Slot :=
  [.undef, .fro (.str (S A)), .fro (.int (st : Int)), .fro op, .own (R.map λ l => D.str (S l)), p, c]
theorem mark34 : (("\"" : Str)) = S [34] := by decide +kernel
section
variable {C : Cx}
theorem strip_other {A : List Nat} {st : Nat} {op : D} {R : List (List Nat)} {p : Slot} {ch : List Nat} (h : ch ≠ [34]) :
    run C 4000 stripBody (stripSt A st op R p (.fro (.str (S ch)))) = some (.next, stripSt A st op R p (.fro (.str (S ch)))) := by
  have e : (ev C (.cmp .Eq (.var 6) (.cS "\"")) (stripSt A st op R p (.fro (.str (S ch))))).b = some false := by
    show some (S ch == ("\"" : Str)) = _
    rw [mark34, S_beq, beq_eq_false_iff_ne.mpr h]
  exact run_seq ((run_if e).trans rfl)
theorem strip_plain {A : List Nat} {st : Nat} {op : D} {R : List (List Nat)} : ∀ (w : List Nat) (i : Nat) (e : Bool) (p c : Slot), noQ e w = true → ∃ p' c', Runs (run C 4000 stripBody) (.many [5, 6]) (escM i e w) (stripSt A st op R p c) (stripSt A st op R p' c')
  | [], i, e, p, c, _ => ⟨p, c, rfl⟩
  | x :: w, i, e, p, c, h => by
    cases e
    · simp only [noQ, Bool.false_eq_true, if_false] at h
      simp only [escM, Bool.false_eq_true, if_false]
      split
      · rename_i hx
        rw [if_pos hx] at h
        exact strip_plain w (i + 1) true p c h
      · rename_i hx
        rw [if_neg hx] at h
        simp only [Bool.and_eq_true, bne_iff_ne, ne_eq] at h
        obtain ⟨p', c', k⟩ := strip_plain w (i + 1) false (.fro (.int (i : Int))) (.fro (.str (S [x]))) h.2
        exact ⟨p', c', _, _, rfl, strip_other (by simpa using h.1), k⟩
    · simp only [noQ, if_true] at h
      simp only [escM, if_true]
      obtain ⟨p', c', k⟩ := strip_plain w (i + 1) false (.fro (.int (i : Int))) (.fro (.str (S [92, x]))) h
      exact ⟨p', c', _, _, rfl, strip_other (by simp), k⟩
theorem test34 {A : List Nat} {st : Nat} {op : D} {R : List (List Nat)} {p : Slot} : (ev C (.cmp .Eq (.var 6) (.cS "\"")) (stripSt A st op R p (.fro (.str (S [34]))))).b = some true := by
  show some (S [34] == ("\"" : Str)) = _
  rw [mark34]; simp
theorem strip_open {A : List Nat} {st i : Nat} {R : List (List Nat)} :
    run C 4000 stripBody (stripSt A st .none R (.fro (.int (i : Int))) (.fro (.str (S [34])))) = some (.next, stripSt A st (.int (i : Int)) R (.fro (.int (i : Int))) (.fro (.str (S [34])))) :=
  run_seq ((run_if test34).trans (run_seq ((run_if (t := true) rfl).trans (run_seq (run_asg rfl)))))
theorem strip_close {A : List Nat} {st k i : Nat} {R : List (List Nat)} (h1 : st ≤ k) (h2 : k ≤ A.length) (h3 : A.length ≤ 100000) (h4 : R.length ≤ 100000) :
    run C 4000 stripBody (stripSt A st (.int (k : Int)) R (.fro (.int (i : Int))) (.fro (.str (S [34])))) = some (.next, stripSt A (i + 1) .none (if st = k then R else R ++ [(A.drop st).take (k - st)]) (.fro (.int (i : Int))) (.fro (.str (S [34])))) := by
  refine run_seq ((run_if test34).trans ?_)
  rw [if_pos rfl]
  refine run_seq (b := .nil) ((run_if (t := false) rfl).trans ?_)
  rw [if_neg Bool.false_ne_true]
  have e : (ev C (.cmp .NotEq (.var 2) (.var 3)) (stripSt A st (.int (k : Int)) R (.fro (.int (i : Int))) (.fro (.str (S [34]))))).b = some (decide (st ≠ k)) := by
    show some ((st : Int) != (k : Int)) = _
    by_cases hk : st = k
    · subst hk; simp
    · have : ((st : Int) != (k : Int)) = true := by simp; lia
      rw [this]; simp [hk]
  have e1 : run C 4000 (.ifs (.cmp .NotEq (.var 2) (.var 3)) (.seq (.app 4 (.slc (.var 1) (.var 2) (.var 3))) .nil) .nil) (stripSt A st (.int (k : Int)) R (.fro (.int (i : Int))) (.fro (.str (S [34])))) = some (.next, stripSt A st (.int (k : Int)) (if st = k then R else R ++ [(A.drop st).take (k - st)]) (.fro (.int (i : Int))) (.fro (.str (S [34])))) := by
    refine (run_if e).trans ?_
    by_cases hk : st = k
    · rw [decide_eq_false (by simpa using hk), if_neg Bool.false_ne_true, if_pos hk]; rfl
    · rw [decide_eq_true hk, if_pos rfl, if_neg hk]
      have sl : (ev C (.slc (.var 1) (.var 2) (.var 3)) (stripSt A st (.int (k : Int)) R (.fro (.int (i : Int))) (.fro (.str (S [34]))))).e = some (.str (S ((A.drop st).take (k - st)))) := by
        show dslc (.str (S A)) (some (st : Int)) (some (k : Int)) = _
        unfold dslc
        simp only [nonneg, S_len]
        rw [if_pos (by simp; lia), S_sub]
        have a1 : slA (some (st : Int)) A.length = st := by show min (st : Int).toNat A.length = st; lia
        have a2 : slB (some (k : Int)) A.length = k := by show min (k : Int).toNat A.length = k; lia
        rw [a1, a2]
      refine run_seq (b := .nil) ((run_app rfl sl (by simp; lia)).trans ?_)
      congr 2
      simp [stripSt]
  rw [run_seq e1]
  refine run_seq (run_asg (d := .int ((i + 1 : Nat) : Int)) (by
    show some (D.int ((i : Int) + 1)) = _
    rfl)) |>.trans ?_
  exact run_seq (run_asg rfl)
abbrev Wd := Bool × List Nat
noncomputable def wdText (ws : List Wd) : List Nat := ws.flatMap (·.2)
noncomputable def wdKeep (ws : List Wd) : List Nat := ws.flatMap λ w => if w.1 then [] else w.2
noncomputable def WdOk (w : Wd) : Prop := if w.1 then ∃ mid, w.2 = 34 :: (mid ++ [34]) ∧ noQ false mid = true ∧ escEnd false mid = false else noQ false w.2 = true ∧ escEnd false w.2 = false
theorem strip_words : ∀ (ws : List Wd) (A pre cur : List Nat) (R : List (List Nat)) (p c : Slot), (∀ w ∈ ws, WdOk w) → A = pre ++ (cur ++ wdText ws) → A.length ≤ 100000 → R.length ≤ pre.length →
    ∃ p' c' pre' cur' R', Runs (run C 4000 stripBody) (.many [5, 6]) (escM (pre.length + cur.length) false (wdText ws)) (stripSt A pre.length .none R p c) (stripSt A pre'.length .none R' p' c') ∧ A = pre' ++ cur' ∧ R'.flatten ++ cur' = R.flatten ++ cur ++ wdKeep ws ∧ R'.length ≤ pre'.length
  | [], A, pre, cur, R, p, c, _, hA, _, hR => ⟨p, c, pre, cur, R, rfl, by simpa [wdText] using hA, by simp [wdKeep], hR⟩
  | (false, w) :: ws, A, pre, cur, R, p, c, ok, hA, hl, hR => by
    have okw : noQ false w = true ∧ escEnd false w = false := by simpa [WdOk] using ok (false, w) List.mem_cons_self
    have e0 : wdText ((false, w) :: ws) = w ++ wdText ws := rfl
    have e1 : wdKeep ((false, w) :: ws) = w ++ wdKeep ws := rfl
    rw [e0, escM_append, okw.2]
    obtain ⟨p1, c1, k1⟩ := strip_plain (C := C) (A := A) (st := pre.length) (op := .none) (R := R) w (pre.length + cur.length) false p c okw.1
    obtain ⟨p', c', pre', cur', R', k2, h2, h3, h4⟩ := strip_words ws A pre (cur ++ w) R p1 c1 (λ v hv => ok v (List.mem_cons_of_mem _ hv)) (by rw [hA, e0, List.append_assoc]) hl hR
    refine ⟨p', c', pre', cur', R', k1.append ?_, h2, by rw [h3, e1]; simp, h4⟩
    rw [List.length_append, ← Nat.add_assoc] at k2
    exact k2
  | (true, w) :: ws, A, pre, cur, R, p, c, ok, hA, hl, hR => by
    obtain ⟨mid, rfl, q1, q2⟩ : ∃ mid, w = 34 :: (mid ++ [34]) ∧ noQ false mid = true ∧ escEnd false mid = false := by simpa [WdOk] using ok (true, w) List.mem_cons_self
    have e0 : wdText ((true, 34 :: (mid ++ [34])) :: ws) = [34] ++ (mid ++ ([34] ++ wdText ws)) := by simp [wdText]
    have e1 : wdKeep ((true, 34 :: (mid ++ [34])) :: ws) = wdKeep ws := rfl
    have hlen : A.length = pre.length + (cur.length + (1 + (mid.length + (1 + (wdText ws).length)))) := by rw [hA, e0]; simp; lia
    rw [e0, escM_append, show escEnd false [34] = false from rfl, escM_append, q2, escM_append, show escEnd false [34] = false from rfl]
    have s1 : escM (pre.length + cur.length) false [34] = [.tup [.int ((pre.length + cur.length : Nat) : Int), .str (S [34])]] := rfl
    have s2 : escM (pre.length + cur.length + [34].length + mid.length) false [34] = [.tup [.int ((pre.length + cur.length + 1 + mid.length : Nat) : Int), .str (S [34])]] := rfl
    rw [s1, s2]
    obtain ⟨p1, c1, k1⟩ := strip_plain (C := C) (A := A) (st := pre.length) (op := .int ((pre.length + cur.length : Nat) : Int)) (R := R) mid (pre.length + cur.length + [34].length) false (.fro (.int ((pre.length + cur.length : Nat) : Int))) (.fro (.str (S [34]))) q1
    have hcl := strip_close (C := C) (A := A) (st := pre.length) (k := pre.length + cur.length) (i := pre.length + cur.length + 1 + mid.length) (R := R) (by lia) (by lia) hl (by lia)
    have hcur : (A.drop pre.length).take (pre.length + cur.length - pre.length) = cur := by
      rw [hA, List.drop_left, Nat.add_sub_cancel_left, List.take_left]
    rw [hcur] at hcl
    have hpre : (pre ++ (cur ++ (34 :: (mid ++ [34])))).length = pre.length + cur.length + 1 + mid.length + 1 := by simp; lia
    have hA2 : A = (pre ++ (cur ++ (34 :: (mid ++ [34])))) ++ ([] ++ wdText ws) := by rw [hA, e0]; simp
    have hR2 : (if pre.length = pre.length + cur.length then R else R ++ [cur]).length ≤ (pre ++ (cur ++ (34 :: (mid ++ [34])))).length := by
      rw [hpre]; split
      · lia
      · simp; lia
    obtain ⟨p', c', pre', cur', R', k2, h2, h3, h4⟩ := strip_words ws A (pre ++ (cur ++ (34 :: (mid ++ [34])))) [] _ (.fro (.int ((pre.length + cur.length + 1 + mid.length : Nat) : Int))) (.fro (.str (S [34]))) (λ v hv => ok v (List.mem_cons_of_mem _ hv)) hA2 hl hR2
    refine ⟨p', c', pre', cur', R', (Runs.one rfl strip_open).append (k1.append ((Runs.one rfl hcl).append ?_)), h2, ?_, h4⟩
    · rw [hpre] at k2
      simpa using k2
    · rw [h3, e1]
      by_cases hc : pre.length = pre.length + cur.length
      · have : cur = [] := List.eq_nil_of_length_eq_zero (by lia)
        rw [if_pos hc, this]
      · rw [if_neg hc]; simp
theorem wd_noMark : ∀ (ws : List Wd), (∀ w ∈ ws, WdOk w) → 34 ∉ wdText ws → wdKeep ws = wdText ws
  | [], _, _ => rfl
  | (false, w) :: ws, ok, h => by
    have e0 : wdText ((false, w) :: ws) = w ++ wdText ws := rfl
    have e1 : wdKeep ((false, w) :: ws) = w ++ wdKeep ws := rfl
    rw [e0] at h ⊢
    rw [e1, wd_noMark ws (λ v hv => ok v (List.mem_cons_of_mem _ hv)) (λ q => h (List.mem_append_right _ q))]
  | (true, w) :: ws, ok, h => by
    obtain ⟨mid, rfl, q1, q2⟩ : ∃ mid, w = 34 :: (mid ++ [34]) ∧ noQ false mid = true ∧ escEnd false mid = false := by simpa [WdOk] using ok (true, w) List.mem_cons_self
    exact absurd (by simp [wdText]) h
theorem wd_keep_le : ∀ (ws : List Wd), (wdKeep ws).length ≤ (wdText ws).length
  | [] => Nat.le_refl _
  | (false, w) :: ws => by
    show (w ++ wdKeep ws).length ≤ (w ++ wdText ws).length
    have := wd_keep_le ws
    simp only [List.length_append]; lia
  | (true, w) :: ws => by
    show (wdKeep ws).length ≤ (w ++ wdText ws).length
    have := wd_keep_le ws
    simp only [List.length_append]; lia
theorem wd_end : ∀ (ws : List Wd), (∀ w ∈ ws, WdOk w) → escEnd false (wdText ws) = false
  | [], _ => rfl
  | (b, w) :: ws, ok => by
    have e0 : wdText ((b, w) :: ws) = w ++ wdText ws := rfl
    rw [e0, escEnd_append]
    have : escEnd false w = false := by
      cases b
      · have okw : noQ false w = true ∧ escEnd false w = false := by simpa [WdOk] using ok (false, w) List.mem_cons_self
        exact okw.2
      · obtain ⟨mid, rfl, q1, q2⟩ : ∃ mid, w = 34 :: (mid ++ [34]) ∧ noQ false mid = true ∧ escEnd false mid = false := by simpa [WdOk] using ok (true, w) List.mem_cons_self
        show escEnd false (mid ++ [34]) = false
        rw [escEnd_append, q2]; rfl
    rw [this]
    exact wd_end ws λ v hv => ok v (List.mem_cons_of_mem _ hv)
theorem empty_S : (("" : Str)) = S [] := by decide +kernel
theorem strip_ok (hg : C.gn "_iter_escaped_chars" = escG) (ws : List Wd) (ok : ∀ w ∈ ws, WdOk w) (hl : (wdText ws).length ≤ 100000) :
    specR C nm_strip_quoted_realnames ["addr"] ps_strip_quoted_realnames [.str (S (wdText ws))] = some (.str (S (wdKeep ws))) := by
  have hin : (ev C (.cmp .NotIn (.cS "\"") (.var 1)) (initSlots nm_strip_quoted_realnames [.str (S (wdText ws))])).b = some (!decide (34 ∈ wdText ws)) := by
    show some (!Txt.contains (S (wdText ws)) ("\"" : Str)) = _
    rw [mark34, S_has]
  by_cases h34 : 34 ∈ wdText ws
  · rw [decide_eq_true h34] at hin
    obtain ⟨p', c', pre', cur', R', k, h2, h3, h4⟩ := strip_words (C := C) ws (wdText ws) [] [] [] .undef .undef ok rfl hl (Nat.le_refl _)
    have hlen : (wdText ws).length = pre'.length + cur'.length := by rw [h2]; simp
    have hit : (ev C (.gen "_iter_escaped_chars" (.cons (.var 1) .nil)) (stripSt (wdText ws) 0 .none [] .undef .undef)).it = some (escM 0 false (wdText ws)) := by
      show C.gn "_iter_escaped_chars" [.str (S (wdText ws))] = _
      rw [hg]
      show some (escD 0 false (S (wdText ws)).cps.toList) = _
      rw [S_cps, escD_M _ _ _ (wd_end ws ok)]
    have hlt : (ev C (.cmp .Lt (.var 2) (.bi .len (.cons (.var 1) .nil))) (stripSt (wdText ws) pre'.length .none R' p' c')).b = some (decide (pre'.length < (wdText ws).length)) := by
      show ((blen [.str (S (wdText ws))]).bind λ b => dcmp .Lt (.int (pre'.length : Int)) b) = _
      rw [blen_S (by lia)]
      exact lt_nn _ _
    have hfin : ∃ R2 : List (List Nat), run C 4000 (.ifs (.cmp .Lt (.var 2) (.bi .len (.cons (.var 1) .nil))) (.seq (.app 4 (.slc (.var 1) (.var 2) .abs)) .nil) .nil) (stripSt (wdText ws) pre'.length .none R' p' c') = some (.next, stripSt (wdText ws) pre'.length .none R2 p' c') ∧ R2.flatten = wdKeep ws := by
      by_cases hc : pre'.length < (wdText ws).length
      · refine ⟨R' ++ [cur'], (run_if hlt).trans ?_, ?_⟩
        · rw [decide_eq_true hc, if_pos rfl]
          have sl : (ev C (.slc (.var 1) (.var 2) .abs) (stripSt (wdText ws) pre'.length .none R' p' c')).e = some (.str (S cur')) := by
            show dslc (.str (S (wdText ws))) (some (pre'.length : Int)) none = _
            unfold dslc
            simp only [nonneg, S_len]
            rw [if_pos (by simp; lia), S_sub]
            have a1 : slA (some (pre'.length : Int)) (wdText ws).length = pre'.length := by show min (pre'.length : Int).toNat (wdText ws).length = _; lia
            have a2 : slB none (wdText ws).length = (wdText ws).length := rfl
            rw [a1, a2, hlen, h2, List.drop_left, Nat.add_sub_cancel_left, List.take_length]
          refine run_seq (b := .nil) ((run_app rfl sl (by simp; lia)).trans ?_)
          congr 2
          simp [stripSt]
        · simpa using h3
      · refine ⟨R', (run_if hlt).trans ?_, ?_⟩
        · rw [decide_eq_false hc, if_neg Bool.false_ne_true]; rfl
        · have : cur' = [] := List.eq_nil_of_length_eq_zero (by lia)
          rw [this] at h3; simpa using h3
    obtain ⟨R2, k2, h5⟩ := hfin
    refine specR_of (ρ' := stripSt (wdText ws) pre'.length .none R2 p' c') rfl ?_
    refine (run_seq ((run_if hin).trans rfl)).trans ?_
    refine (run_seq (run_asg rfl)).trans ((run_seq (run_asg rfl)).trans ((run_seq (run_asgO (l := []) rfl)).trans ?_))
    refine (run_seq (run_for hit k)).trans ((run_seq k2).trans (run_ret (run_retE ?_)))
    show ((some (D.lst (R2.map λ l => D.str (S l)))).bind (djoin ("" : Str))) = _
    rw [empty_S, Option.bind_some, djoin_S, h5]
    rw [h5]
    exact Nat.le_trans (wd_keep_le ws) (by lia)
  · rw [decide_eq_false h34] at hin
    rw [wd_noMark ws ok h34]
    refine specR_of (ρ' := initSlots nm_strip_quoted_realnames [.str (S (wdText ws))]) rfl ?_
    exact run_ret ((run_if hin).trans (run_ret (run_retE rfl)))
end
noncomputable def chk : Bool → Nat → List Nat → Option Nat
  | _, o, [] => some o
  | e, o, c :: cs => if e then chk false o cs else if c = 92 then chk true o cs else if c = 40 then chk false (o + 1) cs else if c = 41 then (if o = 0 then none else chk false (o - 1) cs) else chk false o cs
noncomputable def chkBody : PS :=
    (.seq (.ifs (.cmp .Eq (.var 4) (.cS "("))
      (.seq (.aug 2 .Add (.cI 1))
      .nil)
      (.seq (.ifs (.cmp .Eq (.var 4) (.cS ")"))
        (.seq (.aug 2 .Sub (.cI 1))
        (.seq (.ifs (.cmp .Lt (.var 2) (.cI 0))
          (.seq (.ret (.cB false))
          .nil)
          .nil)
        .nil))
        .nil)
      .nil))
    .nil)
noncomputable def chkSt (A : List Nat) (o : Int) (p c : Slot) : List Slot := [.undef, .fro (.str (S A)), .fro (.int o), p, c]
theorem mark40 : (("(" : Str)) = S [40] := by decide +kernel
theorem mark41 : ((")" : Str)) = S [41] := by decide +kernel
section
variable {C : Cx}
theorem chk_t1 {A : List Nat} {o : Int} {p : Slot} {ch : List Nat} : (ev C (.cmp .Eq (.var 4) (.cS "(")) (chkSt A o p (.fro (.str (S ch))))).b = some (ch == [40]) := by
  show some (S ch == ("(" : Str)) = _
  rw [mark40, S_beq]
theorem chk_t2 {A : List Nat} {o : Int} {p : Slot} {ch : List Nat} : (ev C (.cmp .Eq (.var 4) (.cS ")")) (chkSt A o p (.fro (.str (S ch))))).b = some (ch == [41]) := by
  show some (S ch == (")" : Str)) = _
  rw [mark41, S_beq]
theorem chk_other {A : List Nat} {o : Nat} {p : Slot} {ch : List Nat} (h1 : ch ≠ [40]) (h2 : ch ≠ [41]) :
    run C 4000 chkBody (chkSt A (o : Int) p (.fro (.str (S ch)))) = some (.next, chkSt A (o : Int) p (.fro (.str (S ch)))) := by
  refine run_seq ((run_if chk_t1).trans ?_)
  rw [beq_eq_false_iff_ne.mpr h1, if_neg Bool.false_ne_true]
  refine run_seq (b := .nil) ((run_if chk_t2).trans ?_)
  rw [beq_eq_false_iff_ne.mpr h2]; rfl
theorem chk_open {A : List Nat} {o : Nat} {p : Slot} :
    run C 4000 chkBody (chkSt A (o : Int) p (.fro (.str (S [40])))) = some (.next, chkSt A ((o + 1 : Nat) : Int) p (.fro (.str (S [40])))) := by
  refine run_seq ((run_if chk_t1).trans ?_)
  rw [show ([40] == [40]) = true from rfl, if_pos rfl]
  exact run_seq (run_aug rfl rfl rfl)
theorem chk_close {A : List Nat} {o : Nat} {p : Slot} :
    run C 4000 chkBody (chkSt A (o : Int) p (.fro (.str (S [41])))) = if o = 0 then some (.ret (.bool false), chkSt A (-1) p (.fro (.str (S [41])))) else some (.next, chkSt A ((o - 1 : Nat) : Int) p (.fro (.str (S [41])))) := by
  have e1 : run C 4000 (.aug 2 .Sub (.cI 1)) (chkSt A (o : Int) p (.fro (.str (S [41])))) = some (.next, chkSt A ((o : Int) - 1) p (.fro (.str (S [41])))) := run_aug rfl rfl rfl
  have e2 : (ev C (.cmp .Lt (.var 2) (.cI 0)) (chkSt A ((o : Int) - 1) p (.fro (.str (S [41]))))).b = some (decide ((o : Int) - 1 < 0)) := rfl
  by_cases h : o = 0
  · subst h
    rw [if_pos rfl]
    refine run_ret ((run_if chk_t1).trans ?_)
    rw [show ([41] == [40]) = false from rfl, if_neg Bool.false_ne_true]
    refine run_ret (b := .nil) ((run_if chk_t2).trans ?_)
    rw [show ([41] == [41]) = true from rfl, if_pos rfl, run_seq e1]
    refine run_ret (b := .nil) ((run_if e2).trans ?_)
    exact run_ret (run_retE rfl)
  · rw [if_neg h]
    refine run_seq ((run_if chk_t1).trans ?_)
    rw [show ([41] == [40]) = false from rfl, if_neg Bool.false_ne_true]
    refine run_seq (b := .nil) ((run_if chk_t2).trans ?_)
    rw [show ([41] == [41]) = true from rfl, if_pos rfl, run_seq e1]
    refine run_seq (b := .nil) ((run_if e2).trans ?_)
    have : decide ((o : Int) - 1 < 0) = false := decide_eq_false (by lia)
    rw [this, if_neg Bool.false_ne_true]
    have e3 : (o : Int) - 1 = ((o - 1 : Nat) : Int) := by lia
    rw [e3]; rfl
theorem chk_some {A : List Nat} : ∀ (w : List Nat) (i : Nat) (e : Bool) (o o' : Nat) (p c : Slot), chk e o w = some o' → ∃ p' c', Runs (run C 4000 chkBody) (.many [3, 4]) (escM i e w) (chkSt A (o : Int) p c) (chkSt A (o' : Int) p' c')
  | [], i, e, o, o', p, c, h => by cases h; exact ⟨p, c, rfl⟩
  | x :: w, i, e, o, o', p, c, h => by
    cases e
    · simp only [chk, Bool.false_eq_true, if_false] at h
      simp only [escM, Bool.false_eq_true, if_false]
      split
      · rename_i hx
        rw [if_pos hx] at h
        exact chk_some w (i + 1) true o o' p c h
      · rename_i hx
        rw [if_neg hx] at h
        by_cases h40 : x = 40
        · subst h40
          rw [if_pos rfl] at h
          obtain ⟨p', c', k⟩ := chk_some w (i + 1) false (o + 1) o' (.fro (.int (i : Int))) (.fro (.str (S [40]))) h
          exact ⟨p', c', _, _, rfl, chk_open, k⟩
        · rw [if_neg h40] at h
          by_cases h41 : x = 41
          · subst h41
            rw [if_pos rfl] at h
            by_cases ho : o = 0
            · rw [if_pos ho] at h; cases h
            · rw [if_neg ho] at h
              obtain ⟨p', c', k⟩ := chk_some w (i + 1) false (o - 1) o' (.fro (.int (i : Int))) (.fro (.str (S [41]))) h
              exact ⟨p', c', _, _, rfl, chk_close.trans (if_neg ho), k⟩
          · rw [if_neg h41] at h
            obtain ⟨p', c', k⟩ := chk_some w (i + 1) false o o' (.fro (.int (i : Int))) (.fro (.str (S [x]))) h
            exact ⟨p', c', _, _, rfl, chk_other (by simpa using h40) (by simpa using h41), k⟩
    · simp only [chk, if_true] at h
      simp only [escM, if_true]
      obtain ⟨p', c', k⟩ := chk_some w (i + 1) false o o' (.fro (.int (i : Int))) (.fro (.str (S [92, x]))) h
      exact ⟨p', c', _, _, rfl, chk_other (by simp) (by simp), k⟩
theorem chk_none {A : List Nat} : ∀ (w : List Nat) (i : Nat) (e : Bool) (o : Nat) (p c : Slot), chk e o w = none → ∃ ρ', runFor (run C 4000 chkBody) (.many [3, 4]) (escM i e w) (chkSt A (o : Int) p c) = some (.ret (.bool false), ρ')
  | [], i, e, o, p, c, h => by cases h
  | x :: w, i, e, o, p, c, h => by
    have step : ∀ (ch : List Nat) (o1 : Nat), chk false o1 w = none → run C 4000 chkBody (chkSt A (o : Int) (.fro (.int (i : Int))) (.fro (.str (S ch)))) = some (.next, chkSt A (o1 : Int) (.fro (.int (i : Int))) (.fro (.str (S ch)))) →
        ∃ ρ', runFor (run C 4000 chkBody) (.many [3, 4]) (D.tup [.int (i : Int), .str (S ch)] :: escM (i + 1) false w) (chkSt A (o : Int) p c) = some (.ret (.bool false), ρ') := by
      intro ch o1 hn hb
      obtain ⟨ρ', k⟩ := chk_none w (i + 1) false o1 (.fro (.int (i : Int))) (.fro (.str (S ch))) hn
      refine ⟨ρ', ?_⟩
      have := Runs.front (ys := escM (i + 1) false w) (Runs.one (body := run C 4000 chkBody) (tg := .many [3, 4]) (x := D.tup [.int (i : Int), .str (S ch)]) (ρ := chkSt A (o : Int) p c) rfl hb)
      exact this.trans k
    cases e
    · simp only [chk, Bool.false_eq_true, if_false] at h
      simp only [escM, Bool.false_eq_true, if_false]
      split
      · rename_i hx
        rw [if_pos hx] at h
        exact chk_none w (i + 1) true o p c h
      · rename_i hx
        rw [if_neg hx] at h
        by_cases h40 : x = 40
        · subst h40
          rw [if_pos rfl] at h
          exact step [40] (o + 1) h chk_open
        · rw [if_neg h40] at h
          by_cases h41 : x = 41
          · subst h41
            rw [if_pos rfl] at h
            by_cases ho : o = 0
            · subst ho
              refine ⟨chkSt A (-1) (.fro (.int (i : Int))) (.fro (.str (S [41]))), ?_⟩
              show (bindT (.many [3, 4]) (D.tup [.int (i : Int), .str (S [41])]) (chkSt A 0 p c)).bind _ = _
              rw [show bindT (.many [3, 4]) (D.tup [.int (i : Int), .str (S [41])]) (chkSt A 0 p c) = some (chkSt A ((0 : Nat) : Int) (.fro (.int (i : Int))) (.fro (.str (S [41])))) from rfl, Option.bind_some, chk_close, if_pos rfl]
              rfl
            · rw [if_neg ho] at h
              exact step [41] (o - 1) h (by rw [chk_close, if_neg ho])
          · rw [if_neg h41] at h
            exact step [x] o h (chk_other (by simpa using h40) (by simpa using h41))
    · simp only [chk, if_true] at h
      simp only [escM, if_true]
      exact step [92, x] o h (chk_other (by simp) (by simp))
theorem check_ok (hg : C.gn "_iter_escaped_chars" = escG) {t u : List Nat} (hf : C.fn "_strip_quoted_realnames" [.str (S t)] = some (.str (S u))) (he : escEnd false u = false) :
    specR C nm_check_parenthesis ["addr"] ps_check_parenthesis [.str (S t)] = some (.bool (chk false 0 u == some 0)) := by
  have h1 : run C 4000 (.asg 1 (.call "_strip_quoted_realnames" (.cons (.var 1) .nil))) (initSlots nm_check_parenthesis [.str (S t)]) = some (.next, [.undef, .fro (.str (S u)), .undef, .undef, .undef]) := run_asg hf
  have h2 : run C 4000 (.asg 2 (.cI 0)) [.undef, .fro (.str (S u)), .undef, .undef, .undef] = some (.next, chkSt u 0 .undef .undef) := run_asg rfl
  have hit : (ev C (.gen "_iter_escaped_chars" (.cons (.var 1) .nil)) (chkSt u 0 .undef .undef)).it = some (escM 0 false u) := by
    show C.gn "_iter_escaped_chars" [.str (S u)] = _
    rw [hg]
    show some (escD 0 false (S u).cps.toList) = _
    rw [S_cps, escD_M _ _ _ he]
  cases hc : chk false 0 u with
  | none =>
    obtain ⟨ρ', k⟩ := chk_none (C := C) (A := u) u 0 false 0 .undef .undef hc
    refine specR_of (ρ' := ρ') rfl ?_
    refine (run_seq h1).trans ((run_seq h2).trans ?_)
    refine run_ret ?_
    show (Option.bind (ev C (.gen "_iter_escaped_chars" (.cons (.var 1) .nil)) (chkSt u 0 .undef .undef)).it _) = _
    rw [hit]
    exact k
  | some o =>
    obtain ⟨p', c', k⟩ := chk_some (C := C) (A := u) u 0 false 0 o .undef .undef hc
    refine specR_of (ρ' := chkSt u (o : Int) p' c') rfl ?_
    refine (run_seq h1).trans ((run_seq h2).trans ((run_seq (run_for hit k)).trans (run_ret (run_retE ?_))))
    show some (D.bool ((o : Int) == 0)) = _
    congr 2
    cases o with
    | zero => rfl
    | succ o => rfl
end
noncomputable def opTab : List (List Nat) := [[91], [93], [58], [44], [59], [43], [45], [42], [47], [124], [38], [60], [62], [61], [46], [37], [123], [125], [61, 61], [33, 61], [60, 61], [62, 61], [126], [94], [60, 60], [62, 62], [42, 42], [43, 61], [45, 61], [42, 61], [47, 61], [37, 61], [38, 61], [124, 61], [94, 61], [60, 60, 61], [62, 62, 61], [42, 42, 61], [47, 47], [47, 47, 61], [64], [64, 61], [45, 62], [46, 46, 46], [58, 61], [33]]
noncomputable def opc (k : Nat) : List Nat := opTab.getD k []
inductive Tk where
  | op | cl | lf (c : Nat) | kd (k : Nat)
noncomputable def Tk.okB : Tk → Bool
  | .kd k => decide (k < 46)
  | .lf c => decide (c < 128) && decide (34 ≤ c)
  | _ => true
noncomputable def tkc : Tk → List Nat
  | .op => [40] | .cl => [41] | .lf c => [92, c] | .kd k => opc k
noncomputable def tkp : Tk → List (List Nat)
  | .op => [[40]] | .cl => [[41]] | .lf c => [[92, c]] | .kd k => (opc k).map ([·])
noncomputable def tks : Tk → Int
  | .op => 7 | .cl => 8 | .lf c => 222 + (c : Int) | .kd k => (k : Int) + 9
noncomputable def tkText (ts : List Tk) : List Nat := ts.flatMap tkc
noncomputable def tkPcs (ts : List Tk) : List (List Nat) := ts.flatMap tkp
theorem tok_bad_all : (tokTab.all λ p => !p.1.contains 92 && (decide (p.1.length < 2) || (!p.1.contains 40 && !p.1.contains 41))) = true := by decide +kernel
theorem lookup_mem {α β : Type} [BEq α] [LawfulBEq α] {a : α} {b : β} : ∀ {l : List (α × β)}, l.lookup a = some b → (a, b) ∈ l
  | [], h => by cases h
  | (x, y) :: l, h => by
    rw [List.lookup_cons] at h
    split at h
    · rename_i q; cases h; rw [beq_iff_eq.mp q]; exact List.mem_cons_self
    · exact List.mem_cons_of_mem _ (lookup_mem h)
theorem tok_bad {l : List Nat} (h : 92 ∈ l ∨ (2 ≤ l.length ∧ (40 ∈ l ∨ 41 ∈ l))) : tokTab.lookup l = none := by
  cases e : tokTab.lookup l with
  | none => rfl
  | some i =>
    exfalso
    have q := List.all_eq_true.mp tok_bad_all _ (lookup_mem e)
    simp only [Bool.and_eq_true, Bool.not_eq_true', Bool.or_eq_true, decide_eq_true_eq] at q
    obtain ⟨q1, q2⟩ := q
    have n1 : 92 ∉ l := by simpa using q1
    rcases h with h | ⟨h1, h2⟩
    · exact n1 h
    · rcases q2 with q2 | ⟨q2, q3⟩
      · lia
      · rcases h2 with h2 | h2
        · exact (by simpa using q2 : 40 ∉ l) h2
        · exact (by simpa using q3 : 41 ∉ l) h2
theorem op_all : ((List.range 46).all λ k => tokTab.lookup (opc k) == some ((k : Int) + 9) && decide (1 ≤ (opc k).length) && decide ((opc k).length ≤ 3) && (opc k).all λ c => c != 92 && c != 34 && c != 40 && c != 41) = true := by decide +kernel
structure OpOk (k : Nat) : Prop where
  tok : tokTab.lookup (opc k) = some ((k : Int) + 9)
  one : 1 ≤ (opc k).length
  three : (opc k).length ≤ 3
  no : ∀ c ∈ opc k, c ≠ 92 ∧ c ≠ 34 ∧ c ≠ 40 ∧ c ≠ 41
theorem op_ok {k : Nat} (h : k < 46) : OpOk k := by
  have q := List.all_eq_true.mp op_all k (List.mem_range.mpr h)
  simp only [Bool.and_eq_true, beq_iff_eq, decide_eq_true_eq, List.all_eq_true, bne_iff_ne, ne_eq] at q
  exact ⟨q.1.1.1, q.1.1.2, q.1.2, λ c hc => let ⟨⟨⟨a, b⟩, d⟩, e⟩ := q.2 c hc; ⟨a, b, d, e⟩⟩
noncomputable def pcsM : Bool → List Nat → List (List Nat)
  | _, [] => []
  | e, c :: cs => if e then [92, c] :: pcsM false cs else if c = 92 then pcsM true cs else [c] :: pcsM false cs
theorem pcsM_append : ∀ (a b : List Nat) (e : Bool), pcsM e (a ++ b) = pcsM e a ++ pcsM (escEnd e a) b
  | [], b, e => by simp [pcsM, escEnd]
  | c :: a, b, e => by
    have ih := λ e => pcsM_append a b e
    cases e
    · simp only [List.cons_append, pcsM, escEnd, Bool.false_eq_true, if_false]
      split
      · exact ih true
      · rw [ih false]; rfl
    · simp only [List.cons_append, pcsM, escEnd, if_true]
      rw [ih false]
theorem plain_pcs : ∀ (l : List Nat), (∀ c ∈ l, c ≠ 92) → pcsM false l = l.map ([·]) ∧ escEnd false l = false
  | [], _ => ⟨rfl, rfl⟩
  | c :: l, h => by
    obtain ⟨h1, h2⟩ := plain_pcs l λ d hd => h d (List.mem_cons_of_mem _ hd)
    have hc := h c List.mem_cons_self
    simp only [pcsM, escEnd, Bool.false_eq_true, if_false, if_neg hc, h1, h2, List.map_cons, and_self]
theorem plain_noQ : ∀ (l : List Nat), (∀ c ∈ l, c ≠ 92 ∧ c ≠ 34) → noQ false l = true
  | [], _ => rfl
  | c :: l, h => by
    have ih := plain_noQ l λ d hd => h d (List.mem_cons_of_mem _ hd)
    have hc := h c List.mem_cons_self
    simp [noQ, hc.1, hc.2, ih]
theorem tk_pcs {t : Tk} (h : t.okB = true) : pcsM false (tkc t) = tkp t ∧ escEnd false (tkc t) = false ∧ noQ false (tkc t) = true := by
  cases t with
  | op => exact ⟨rfl, rfl, rfl⟩
  | cl => exact ⟨rfl, rfl, rfl⟩
  | lf c => exact ⟨rfl, rfl, rfl⟩
  | kd k =>
    have K := op_ok (of_decide_eq_true h)
    obtain ⟨a, b⟩ := plain_pcs (opc k) λ c hc => (K.no c hc).1
    exact ⟨a, b, plain_noQ _ λ c hc => ⟨(K.no c hc).1, (K.no c hc).2.1⟩⟩
theorem tks_pcs : ∀ (ts : List Tk), (∀ t ∈ ts, t.okB = true) → pcsM false (tkText ts) = tkPcs ts ∧ escEnd false (tkText ts) = false ∧ noQ false (tkText ts) = true
  | [], _ => ⟨rfl, rfl, rfl⟩
  | t :: ts, h => by
    obtain ⟨a, b, c⟩ := tk_pcs (h t List.mem_cons_self)
    obtain ⟨a', b', c'⟩ := tks_pcs ts λ u hu => h u (List.mem_cons_of_mem _ hu)
    have e0 : tkText (t :: ts) = tkc t ++ tkText ts := rfl
    have e1 : tkPcs (t :: ts) = tkp t ++ tkPcs ts := rfl
    rw [e0, e1, pcsM_append, escEnd_append, a, b, a', b']
    refine ⟨rfl, rfl, ?_⟩
    have nq : ∀ (l m : List Nat) (e : Bool), noQ e l = true → noQ (escEnd e l) m = true → noQ e (l ++ m) = true := by
      intro l
      induction l with
      | nil => intro m e _ h; exact h
      | cons x l ih =>
        intro m e h1 h2
        cases e
        · simp only [List.cons_append, noQ, escEnd, Bool.false_eq_true, if_false] at h1 h2 ⊢
          split
          · rename_i hx; rw [if_pos hx] at h1 h2; exact ih m true h1 h2
          · rename_i hx
            rw [if_neg hx] at h1 h2
            simp only [Bool.and_eq_true] at h1 ⊢
            exact ⟨h1.1, ih m false h1.2 h2⟩
        · simp only [List.cons_append, noQ, escEnd, if_true] at h1 h2 ⊢
          exact ih m false h1 h2
    exact nq _ _ _ c (by rw [b]; exact c')
noncomputable def adj : List Tk → Bool
  | [] => true
  | .kd _ :: .op :: r => adj r
  | .kd _ :: .lf _ :: r => adj r
  | .kd _ :: _ => false
  | _ :: r => adj r
noncomputable def sp (rest : List (List Nat)) : Nat := if (tokTab.lookup (rest.take 3).flatten).isSome then 3 else if (tokTab.lookup (rest.take 2).flatten).isSome then 2 else 1
theorem tkp_ne {t : Tk} (h : t.okB = true) : ∃ a p r, tkp t = (a :: p) :: r := by
  cases t with
  | op => exact ⟨_, _, _, rfl⟩
  | cl => exact ⟨_, _, _, rfl⟩
  | lf c => exact ⟨_, _, _, rfl⟩
  | kd k =>
    have K := op_ok (of_decide_eq_true h)
    cases e : opc k with
    | nil => have := K.one; rw [e] at this; simp at this
    | cons a l => exact ⟨a, [], l.map ([·]), by show (opc k).map ([·]) = _; rw [e]; rfl⟩
theorem pcs_ne {ts : List Tk} (h : ∀ t ∈ ts, t.okB = true) : tkPcs ts = [] ∨ ∃ a p r, tkPcs ts = (a :: p) :: r := by
  cases ts with
  | nil => exact .inl rfl
  | cons t ts =>
    obtain ⟨a, p, r, e⟩ := tkp_ne (h t List.mem_cons_self)
    exact .inr ⟨a, p, r ++ tkPcs ts, by show tkp t ++ _ = _; rw [e]; rfl⟩
theorem none_some {α : Type} {o : Option α} (h : o = none) : o.isSome = false := by rw [h]; rfl
theorem sp_ok : ∀ {t : Tk} {ts : List Tk}, (∀ u ∈ t :: ts, u.okB = true) → adj (t :: ts) = true → ((tkPcs (t :: ts)).take (sp (tkPcs (t :: ts)))).flatten = tkc t ∧ (tkPcs (t :: ts)).drop (sp (tkPcs (t :: ts))) = tkPcs ts := by
  intro t ts h ha
  have e1 : tkPcs (t :: ts) = tkp t ++ tkPcs ts := rfl
  have hts : ∀ u ∈ ts, u.okB = true := λ u hu => h u (List.mem_cons_of_mem _ hu)
  rw [e1]
  have br : ∀ b : Nat, (b = 40 ∨ b = 41) → (tokTab.lookup [b]).isSome = true → (([[b]] ++ tkPcs ts).take (sp ([[b]] ++ tkPcs ts))).flatten = [b] ∧ ([[b]] ++ tkPcs ts).drop (sp ([[b]] ++ tkPcs ts)) = tkPcs ts := by
    intro b hb hs
    rcases pcs_ne hts with e | ⟨a, p, r, e⟩
    · rw [e]
      have : sp ([[b]] ++ []) = 3 := by unfold sp; exact if_pos hs
      rw [this]; exact ⟨rfl, rfl⟩
    · rw [e]
      have bad : ∀ l : List Nat, (tokTab.lookup (b :: a :: l)).isSome = false := λ l => none_some (tok_bad (.inr ⟨by simp, by rcases hb with rfl | rfl <;> simp⟩))
      have : sp ([[b]] ++ (a :: p) :: r) = 1 := by
        unfold sp
        have q3 : (([[b]] ++ (a :: p) :: r).take 3).flatten = b :: a :: (p ++ (r.take 1).flatten) := by simp
        have q2 : (([[b]] ++ (a :: p) :: r).take 2).flatten = b :: a :: p := by simp
        rw [q3, q2, bad, bad]; rfl
      rw [this]; exact ⟨rfl, rfl⟩
  cases t with
  | op => exact br 40 (.inl rfl) (by decide +kernel)
  | cl => exact br 41 (.inr rfl) (by decide +kernel)
  | lf c =>
    have bad : ∀ n, (tokTab.lookup ((([[92, c]] ++ tkPcs ts).take (n + 1)).flatten)).isSome = false := λ n => none_some (tok_bad (.inl (by simp)))
    have : sp ([[92, c]] ++ tkPcs ts) = 1 := by unfold sp; rw [bad 2, bad 1]; rfl
    show (([[92, c]] ++ tkPcs ts).take (sp ([[92, c]] ++ tkPcs ts))).flatten = _ ∧ ([[92, c]] ++ tkPcs ts).drop (sp ([[92, c]] ++ tkPcs ts)) = _
    rw [this]; exact ⟨rfl, rfl⟩
  | kd k =>
    have K := op_ok (of_decide_eq_true (h _ List.mem_cons_self))
    obtain ⟨q, r, e, hq⟩ : ∃ q r, tkPcs ts = q :: r ∧ (q = [40] ∨ 92 ∈ q) := by
      cases ts with
      | nil => simp [adj] at ha
      | cons u us =>
        cases u with
        | op => exact ⟨[40], tkPcs us, rfl, .inl rfl⟩
        | lf c => exact ⟨[92, c], tkPcs us, rfl, .inr (by simp)⟩
        | cl => simp [adj] at ha
        | kd k => simp [adj] at ha
    rw [e]
    have bad : ∀ l m : List Nat, 1 ≤ l.length → (tokTab.lookup (l ++ (q ++ m))).isSome = false := λ l m hl => none_some (tok_bad (by
      rcases hq with rfl | hq
      · exact .inr ⟨by simp; lia, by simp⟩
      · exact .inl (by simp [hq])))
    have good : (tokTab.lookup (opc k)).isSome = true := by rw [K.tok]; rfl
    show (((opc k).map ([·]) ++ q :: r).take (sp ((opc k).map ([·]) ++ q :: r))).flatten = opc k ∧ ((opc k).map ([·]) ++ q :: r).drop (sp ((opc k).map ([·]) ++ q :: r)) = _
    have one := K.one
    have three := K.three
    generalize opc k = l at one three good
    match l, one, three with
    | [a], _, _ =>
      have : sp (([a].map ([·])) ++ q :: r) = 1 := by
        unfold sp
        have q3 : ((([a].map ([·])) ++ q :: r).take 3).flatten = [a] ++ (q ++ (r.take 1).flatten) := by simp
        have q2 : ((([a].map ([·])) ++ q :: r).take 2).flatten = [a] ++ (q ++ []) := by simp
        rw [q3, q2, bad _ _ (by simp), bad _ _ (by simp)]; rfl
      rw [this]; exact ⟨rfl, rfl⟩
    | [a, b], _, _ =>
      have : sp (([a, b].map ([·])) ++ q :: r) = 2 := by
        unfold sp
        have q3 : ((([a, b].map ([·])) ++ q :: r).take 3).flatten = [a, b] ++ (q ++ []) := by simp
        have q2 : ((([a, b].map ([·])) ++ q :: r).take 2).flatten = [a, b] := by simp
        rw [q3, q2, bad _ _ (by simp), good]; rfl
      rw [this]; exact ⟨rfl, rfl⟩
    | [a, b, c], _, _ =>
      have : sp (([a, b, c].map ([·])) ++ q :: r) = 3 := by
        unfold sp
        have q3 : ((([a, b, c].map ([·])) ++ q :: r).take 3).flatten = [a, b, c] := by simp
        rw [q3, good]; rfl
      rw [this]; exact ⟨rfl, rfl⟩
theorem adj_tail {t : Tk} {ts : List Tk} (h : adj (t :: ts) = true) : adj ts = true := by
  cases t with
  | op => simpa [adj] using h
  | cl => simpa [adj] using h
  | lf c => simpa [adj] using h
  | kd k =>
    cases ts with
    | nil => simp [adj] at h
    | cons u us =>
      cases u with
      | op => simpa [adj] using h
      | lf c => simpa [adj] using h
      | cl => simp [adj] at h
      | kd k => simp [adj] at h
theorem run_augI {C : Cx} {f i : Nat} {op : Operator} {k e : PE} {ρ : List Slot} {ds ds' : List D} {n o d r : Int} (h0 : ρ[i]? = some (.own ds)) (hk : (ev C k ρ).e = some (.int n)) (he : (ev C e ρ).e = some (.int d)) (hs : dsub (.lst ds) (.int n) = some (.int o)) (hr : augI op o d = some r) (hn : setNat ds n (.int r) = some ds') :
    run C f (.augI i op k e) ρ = some (.next, ρ.set i (.own ds')) := by
  exact bnd (congrArg ownOf h0) (bnd (congrArg intOf hk) (bnd (congrArg intOf he) (bnd (congrArg intOf hs) (bnd hr (bnd hn rfl)))))
theorem run_setI {C : Cx} {f i : Nat} {k e : PE} {ρ : List Slot} {ds ds' : List D} {n : Int} {d : D} (h0 : ρ[i]? = some (.own ds)) (hk : (ev C k ρ).e = some (.int n)) (he : (ev C e ρ).e = some d) (hn : setNat ds n d = some ds') :
    run C f (.setI i k e) ρ = some (.next, ρ.set i (.own ds')) := by
  exact bnd (congrArg ownOf h0) (bnd he (bnd (congrArg intOf hk) (bnd hn rfl)))
theorem smallI_of {x : Int} (h1 : -4611686018427387904 < x) (h2 : x < 4611686018427387904) : smallI x = true := smallI_iff.mpr ⟨by lia, by lia⟩
theorem take_cut {α : Type} (l : List α) (a b n : Nat) (h : l.length = n - a) : l.take (min b n - a) = l.take (b - a) := by
  rw [List.take_eq_take_iff, h, ← Nat.sub_min_sub_right, Nat.min_assoc, Nat.min_self]
theorem and_true2 {a b : Bool} (x : a = true) (y : b = true) : (a && b) = true := by rw [x, y]; rfl
theorem nonneg_nat (a : Nat) : nonneg (some (a : Int)) = true := decide_eq_true (Int.natCast_nonneg a)
theorem slc_lst {l : List D} {a b : Nat} (hl : l.length ≤ 16777216) (ha : a ≤ l.length) : dslc (.lst l) (some (a : Int)) (some (b : Int)) = some (.lst ((l.drop a).take (b - a))) := by
  unfold dslc
  dsimp only
  rw [if_pos (and_true2 (and_true2 (nonneg_nat a) (nonneg_nat b)) (decide_eq_true hl)), show slA (some (a : Int)) l.length = a from Nat.min_eq_left ha, show slB (some (b : Int)) l.length = min b l.length from rfl]
  exact congrArg (λ x => some (D.lst x)) (take_cut _ _ _ _ List.length_drop)
theorem flat_le : ∀ (l : List (List Nat)), (∀ p ∈ l, p.length ≤ 2) → l.flatten.length ≤ 2 * l.length
  | [], _ => Nat.le_refl _
  | p :: l, h => by
    have h1 := h p List.mem_cons_self
    have h2 := flat_le l λ q hq => h q (List.mem_cons_of_mem _ hq)
    simp only [List.flatten_cons, List.length_append, List.length_cons]; lia
noncomputable abbrev strD (l : List Nat) : D := .str (S l)
theorem dsub_last {l : List D} {d : D} (_ : l.length < 1000000) : dsub (.lst (l ++ [d])) (.int (-1)) = some d := dsubL_last
theorem setNat_last {l : List D} {d e : D} (h : l.length < 1000000) : setNat (l ++ [d]) (-1) e = some (l ++ [e]) := by
  unfold setNat
  rw [if_pos (smallI_of (by decide) (by decide)), if_neg (by decide), if_pos (by simp; lia)]
  have : (-1 + ((l ++ [d]).length : Int)).toNat = l.length := by simp; lia
  rw [this]; simp
structure Rd where
  W : List (List Nat)
  row : List Int
  G : List Int
  g : Int
  ahead : List Int
noncomputable def rdStep (r : Rd) (t : Tk) : Rd := ⟨r.W ++ [tkc t], r.row ++ [tks t], if tks t < 256 then r.G else r.G ++ [r.g], if tks t < 256 then r.g + 1 else 0, r.ahead ++ [(r.G.length : Int)]⟩
noncomputable def rdSt (x : Slot) (P : List (List Nat)) (r : Rd) (at_ : Nat) (a b c : Slot) : List Slot :=
  [.undef, x, .fro (.lst (P.map strD)), .own (r.W.map strD), .own (r.row.map .int), .own ((r.G ++ [r.g]).map .int), .own (r.ahead.map .int), .fro (.int (at_ : Int)), a, b, c, .undef, .undef]
noncomputable def rdJoin : PE := .join "" (.slc (.var 2) (.var 7) (.bin .Add (.var 7) (.var 8)))
noncomputable def rdSpan : PS := (.while_ (.and_ (.cmp .Gt (.var 8) (.cI 1)) (.notTok (.join "" (.slc (.var 2) (.var 7) (.bin .Add (.var 7) (.var 8))))))
      (.seq (.aug 8 .Sub (.cI 1))
      .nil))
noncomputable def rdBody : PS :=
    (.seq (.asg 8 (.cI 3))
    (.seq rdSpan
    (.seq (.asg 9 rdJoin)
    (.seq (.asg 10 (.getD (.var 9) (.bin .Add (.cI 222) (.bi .ord (.cons (.sub (.var 9) (.neg (.cI 1))) .nil)))))
    (.seq (.app 3 (.var 9))
    (.seq (.app 4 (.var 10))
    (.seq (.app 6 (.bin .Sub (.bi .len (.cons (.var 5) .nil)) (.cI 1)))
    (.seq (.ifs (.call "ISTERMINAL" (.cons (.var 10) .nil))
      (.seq (.augI 5 .Add (.neg (.cI 1)) (.cI 1))
      .nil)
      .nil)
    (.seq (.ifs (.call "ISNONTERMINAL" (.cons (.var 10) .nil))
      (.seq (.app 5 (.cI 0))
      .nil)
      .nil)
    (.seq (.aug 7 .Add (.var 8))
    .nil))))))))))
structure RdCx (C : Cx) : Prop where
  tok : C.tok = tokP
  term : ∀ y : Int, C.fn "ISTERMINAL" [.int y] = some (.bool (decide (y < 256)))
  non : ∀ y : Int, C.fn "ISNONTERMINAL" [.int y] = some (.bool (decide (256 ≤ y)))
section
variable {C : Cx}
theorem rd_join {x : Slot} {P : List (List Nat)} {r : Rd} {a s : Nat} {b c : Slot} (hP : P.length ≤ 100000) (hp : ∀ p ∈ P, p.length ≤ 2) (ha : a ≤ P.length) :
    ev C rdJoin (rdSt x P r a (.fro (.int (s : Int))) b c) = .of (some (.str (S ((P.drop a).take s).flatten))) := by
  have e1 : ev C rdJoin (rdSt x P r a (.fro (.int (s : Int))) b c) = .of ((dslc (.lst (P.map strD)) (some (a : Int)) (some ((a + s : Nat) : Int))).bind (djoin ("" : Str))) := rfl
  rw [e1, slc_lst (by simp; lia) (by simpa using ha), Option.bind_some, Nat.add_sub_cancel_left, ← List.map_drop, ← List.map_take, empty_S, djoin_S]
  have h1 := flat_le ((P.drop a).take s) λ p hq => hp p (List.mem_of_mem_drop (List.mem_of_mem_take hq))
  have h2 : ((P.drop a).take s).length ≤ P.length := by rw [List.length_take, List.length_drop]; lia
  lia
theorem rd_span (K : RdCx C) {x : Slot} {P : List (List Nat)} {r : Rd} {a : Nat} {b c : Slot} (hP : P.length ≤ 100000) (hp : ∀ p ∈ P, p.length ≤ 2) (ha : a ≤ P.length) :
    run C 4000 rdSpan (rdSt x P r a (.fro (.int 3)) b c) = some (.next, rdSt x P r a (.fro (.int (sp (P.drop a) : Int))) b c) := by
  have test : ∀ s : Nat, (ev C (.and_ (.cmp .Gt (.var 8) (.cI 1)) (.notTok rdJoin)) (rdSt x P r a (.fro (.int (s : Int))) b c)).b = some (if (1 : Int) < (s : Int) then (tokTab.lookup ((P.drop a).take s).flatten).isNone else false) := by
    intro s
    have e1 : (ev C (.and_ (.cmp .Gt (.var 8) (.cI 1)) (.notTok rdJoin)) (rdSt x P r a (.fro (.int (s : Int))) b c)).b = if decide ((1 : Int) < (s : Int)) then ((ev C rdJoin (rdSt x P r a (.fro (.int (s : Int))) b c)).t.bind (dnotTok C.tok)) else some false := rfl
    rw [e1, rd_join hP hp ha, K.tok]
    have e2 : (Rs.of (some (.str (S ((P.drop a).take s).flatten)))).t.bind (dnotTok tokP) = some (tokTab.lookup (S ((P.drop a).take s).flatten).cps.toList).isNone := rfl
    rw [e2, S_cps]
    by_cases h : (1 : Int) < (s : Int)
    · rw [decide_eq_true h, if_pos rfl, if_pos h]
    · rw [decide_eq_false h, if_neg Bool.false_ne_true, if_neg h]
  have dec : ∀ s : Nat, run C 4000 (.seq (.aug 8 .Sub (.cI 1)) .nil) (rdSt x P r a (.fro (.int ((s + 1 : Nat) : Int))) b c) = some (.next, rdSt x P r a (.fro (.int (s : Int))) b c) := by
    intro s
    refine run_seq (b := .nil) (run_aug rfl rfl (r := (s : Int)) ?_)
    show some (((s + 1 : Nat) : Int) - 1) = _
    congr 1; lia
  obtain ⟨ρ', h1, h2⟩ := run_while (C := C) (f := 4000) (c := .and_ (.cmp .Gt (.var 8) (.cI 1)) (.notTok rdJoin)) (a := .seq (.aug 8 .Sub (.cI 1)) .nil)
    (λ n ρ => 1 ≤ n ∧ n ≤ 3 ∧ ρ = rdSt x P r a (.fro (.int (n : Int))) b c ∧ (n ≤ 2 → (tokTab.lookup ((P.drop a).take 3).flatten).isSome = false) ∧ (n ≤ 1 → (tokTab.lookup ((P.drop a).take 2).flatten).isSome = false))
    (λ ρ => ρ = rdSt x P r a (.fro (.int (sp (P.drop a) : Int))) b c) (λ n ρ hI => by
    obtain ⟨g1, g2, rfl, g3, g4⟩ := hI
    rw [test]
    by_cases hn : (1 : Int) < (n : Int)
    · rw [if_pos hn]
      cases e : tokTab.lookup ((P.drop a).take n).flatten with
      | none =>
        obtain ⟨m, rfl⟩ : ∃ m, n = m + 1 := ⟨n - 1, by lia⟩
        refine .inl ⟨_, rfl, dec m, m, by lia, by lia, by lia, rfl, λ hm => ?_, λ hm => ?_⟩
        · by_cases h3 : m + 1 = 3
          · rw [h3] at e; rw [e]; rfl
          · exact g3 (by lia)
        · have : m + 1 = 2 := by lia
          rw [this] at e; rw [e]; rfl
      | some i =>
        refine .inr ⟨rfl, ?_⟩
        have : sp (P.drop a) = n := by
          unfold sp
          by_cases h3 : n = 3
          · subst h3; rw [e]; rfl
          · have h2 : n = 2 := by lia
            subst h2
            rw [g3 (by decide), e]; rfl
        rw [this]
    · rw [if_neg hn]
      refine .inr ⟨rfl, ?_⟩
      have h1 : n = 1 := by lia
      subst h1
      have : sp (P.drop a) = 1 := by
        unfold sp
        rw [g3 (by decide), g4 (by decide)]; rfl
      rw [this]) 3 _ ⟨by decide, by decide, rfl, λ h => absurd h (by decide), λ h => absurd h (by decide)⟩ (by decide)
  rw [h2] at h1; exact h1
end
noncomputable def tkLast : Tk → Nat
  | .op => 40 | .cl => 41 | .lf c => c | .kd k => (opc k).getLastD 0
theorem tkc_last {t : Tk} (h : t.okB = true) : ∃ l, tkc t = l ++ [tkLast t] := by
  cases t with
  | op => exact ⟨[], rfl⟩
  | cl => exact ⟨[], rfl⟩
  | lf c => exact ⟨[92], rfl⟩
  | kd k =>
    have K := op_ok (of_decide_eq_true h)
    refine ⟨(opc k).dropLast, ?_⟩
    have hne : opc k ≠ [] := by intro e; have := K.one; rw [e] at this; simp at this
    show opc k = (opc k).dropLast ++ [(opc k).getLastD 0]
    rw [List.getLastD_eq_getLast?, List.getLast?_eq_some_getLast hne, Option.getD_some, List.dropLast_concat_getLast]
theorem tks_tok {t : Tk} (h : t.okB = true) : (tokTab.lookup (tkc t)).getD (222 + (tkLast t : Int)) = tks t := by
  cases t with
  | op => decide +kernel
  | cl => decide +kernel
  | lf c =>
    have : tokTab.lookup (tkc (.lf c)) = none := tok_bad (.inl (by simp [tkc]))
    rw [this]; rfl
  | kd k =>
    have K := op_ok (of_decide_eq_true h)
    show (tokTab.lookup (opc k)).getD _ = _
    rw [K.tok]; rfl
section
variable {C : Cx} {x : Slot} {P : List (List Nat)} {r : Rd} {a : Nat} {b c : Slot}
theorem rd_word (hP : P.length ≤ 100000) (hp : ∀ p ∈ P, p.length ≤ 2) (ha : a ≤ P.length) {s : Nat} {w : List Nat} (hw : ((P.drop a).take s).flatten = w) :
    run C 4000 (.asg 9 rdJoin) (rdSt x P r a (.fro (.int (s : Int))) b c) = some (.next, rdSt x P r a (.fro (.int (s : Int))) (.fro (.str (S w))) c) := by
  refine run_asg (d := .str (S w)) ?_
  rw [rd_join hP hp ha, hw]; rfl
theorem rd_sym (K : RdCx C) {s : Slot} {t : Tk} (h : t.okB = true) :
    run C 4000 (.asg 10 (.getD (.var 9) (.bin .Add (.cI 222) (.bi .ord (.cons (.sub (.var 9) (.neg (.cI 1))) .nil))))) (rdSt x P r a s (.fro (.str (S (tkc t)))) c) = some (.next, rdSt x P r a s (.fro (.str (S (tkc t)))) (.fro (.int (tks t)))) := by
  obtain ⟨l, hl⟩ := tkc_last h
  refine run_asg (d := .int (tks t)) ?_
  have hlen : l.length < 1000 := by
    have : (tkc t).length ≤ 3 := by
      cases t with
      | op => decide
      | cl => decide
      | lf c => simp [tkc]
      | kd k => exact (op_ok (of_decide_eq_true h)).three
    rw [hl] at this; simp at this; lia
  have e1 : dsub (.str (S (tkc t))) (.int (-1)) = some (.str (S [tkLast t])) := by
    rw [hl]
    exact dsubS_last
  have e3 : (ev C (.bin .Add (.cI 222) (.bi .ord (.cons (.sub (.var 9) (.neg (.cI 1))) .nil))) (rdSt x P r a s (.fro (.str (S (tkc t)))) c)).t = ((((dsub (.str (S (tkc t))) (.int (-1))).bind λ d => (some ([] : List D)).map (d :: ·)).bind bord).bind λ q => dbin .Add (.int 222) q) := rfl
  have e2 : (ev C (.getD (.var 9) (.bin .Add (.cI 222) (.bi .ord (.cons (.sub (.var 9) (.neg (.cI 1))) .nil)))) (rdSt x P r a s (.fro (.str (S (tkc t)))) c)).e
      = (ev C (.bin .Add (.cI 222) (.bi .ord (.cons (.sub (.var 9) (.neg (.cI 1))) .nil))) (rdSt x P r a s (.fro (.str (S (tkc t)))) c)).t.bind λ q => dgetD C.tok (.str (S (tkc t))) q := rfl
  rw [e2, e3, e1, K.tok]
  show dgetD tokP (.str (S (tkc t))) (.int (222 + (tkLast t : Int))) = _
  unfold dgetD tokP
  dsimp only
  rw [S_cps, tks_tok h]
theorem rd_appW (hl : r.W.length ≤ 10000) {s : Slot} {l : List Nat} : run C 4000 (.app 3 (.var 9)) (rdSt x P r a s (.fro (.str (S l))) c) = some (.next, rdSt x P { r with W := r.W ++ [l] } a s (.fro (.str (S l))) c) :=
  (run_app rfl rfl (by simp; lia)).trans (by simp [rdSt])
theorem rd_appR (hl : r.row.length ≤ 10000) {s w : Slot} {y : Int} : run C 4000 (.app 4 (.var 10)) (rdSt x P r a s w (.fro (.int y))) = some (.next, rdSt x P { r with row := r.row ++ [y] } a s w (.fro (.int y))) :=
  (run_app rfl rfl (by simp; lia)).trans (by simp [rdSt])
theorem rd_appA (hl : r.ahead.length ≤ 10000) (hg : r.G.length ≤ 10000) {s w y : Slot} : run C 4000 (.app 6 (.bin .Sub (.bi .len (.cons (.var 5) .nil)) (.cI 1))) (rdSt x P r a s w y) = some (.next, rdSt x P { r with ahead := r.ahead ++ [(r.G.length : Int)] } a s w y) := by
  have e1 : (ev C (.bin .Sub (.bi .len (.cons (.var 5) .nil)) (.cI 1)) (rdSt x P r a s w y)).e = some (.int (r.G.length : Int)) := by
    show (blen [.lst ((r.G ++ [r.g]).map .int)]).bind (λ q => dbin .Sub q (.int 1)) = _
    rw [blen_L (by rw [List.length_map, List.length_append]; exact Nat.le_trans (Nat.add_le_add_right hg 1) (by decide)), List.length_map, List.length_append]
    show some (D.int (((r.G.length + 1 : Nat) : Int) - 1)) = _
    rw [Int.natCast_add]
    exact congrArg (λ i => some (D.int i)) (Int.add_sub_cancel _ _)
  exact (run_app rfl e1 (by simp; lia)).trans (by simp [rdSt])
theorem rd_gap (K : RdCx C) (hg : r.G.length ≤ 10000) {s w : Slot} {y : Int} :
    run C 4000 (.ifs (.call "ISTERMINAL" (.cons (.var 10) .nil)) (.seq (.augI 5 .Add (.neg (.cI 1)) (.cI 1)) .nil) .nil) (rdSt x P r a s w (.fro (.int y))) = some (.next, rdSt x P { r with g := if y < 256 then r.g + 1 else r.g } a s w (.fro (.int y))) := by
  have e1 : (ev C (.call "ISTERMINAL" (.cons (.var 10) .nil)) (rdSt x P r a s w (.fro (.int y)))).b = some (decide (y < 256)) := by
    show (C.fn "ISTERMINAL" [.int y]).bind dtruth = _
    rw [K.term]; rfl
  refine (run_if e1).trans ?_
  by_cases h : y < 256
  · rw [decide_eq_true h, if_pos rfl, if_pos h]
    refine run_seq (b := .nil) ((run_augI (ds := (r.G.map .int) ++ [.int r.g]) (n := -1) (o := r.g) (d := 1) (r := r.g + 1) (ds' := (r.G.map .int) ++ [.int (r.g + 1)]) ?_ rfl rfl ?_ rfl ?_).trans ?_)
    · simp [rdSt]
    · exact dsub_last (by simp; lia)
    · exact setNat_last (by simp; lia)
    · simp [rdSt]
  · rw [decide_eq_false h, if_neg Bool.false_ne_true, if_neg h]; rfl
theorem rd_new (K : RdCx C) (hg : r.G.length ≤ 10000) {s w : Slot} {y : Int} :
    run C 4000 (.ifs (.call "ISNONTERMINAL" (.cons (.var 10) .nil)) (.seq (.app 5 (.cI 0)) .nil) .nil) (rdSt x P r a s w (.fro (.int y))) = some (.next, rdSt x P { r with G := if y < 256 then r.G else r.G ++ [r.g], g := if y < 256 then r.g else 0 } a s w (.fro (.int y))) := by
  have e1 : (ev C (.call "ISNONTERMINAL" (.cons (.var 10) .nil)) (rdSt x P r a s w (.fro (.int y)))).b = some (decide (256 ≤ y)) := by
    show (C.fn "ISNONTERMINAL" [.int y]).bind dtruth = _
    rw [K.non]; rfl
  refine (run_if e1).trans ?_
  by_cases h : y < 256
  · rw [decide_eq_false (by lia), if_neg Bool.false_ne_true, if_pos h, if_pos h]; rfl
  · rw [decide_eq_true (by lia), if_pos rfl, if_neg h, if_neg h]
    refine run_seq (b := .nil) ((run_app rfl rfl (by simp; lia)).trans ?_)
    simp [rdSt]
theorem rd_turn (K : RdCx C) (hP : P.length ≤ 100000) (hp : ∀ p ∈ P, p.length ≤ 2) (ha : a ≤ P.length) {t : Tk} {ts : List Tk} (hd : P.drop a = tkPcs (t :: ts)) (hok : ∀ u ∈ t :: ts, u.okB = true) (hadj : adj (t :: ts) = true)
    (h1 : r.W.length ≤ 10000) (h2 : r.row.length ≤ 10000) (h3 : r.ahead.length ≤ 10000) (h4 : r.G.length ≤ 10000) :
    run C 4000 rdBody (rdSt x P r a b c s) = some (.next, rdSt x P (rdStep r t) (a + sp (P.drop a)) (.fro (.int (sp (P.drop a) : Int))) (.fro (.str (S (tkc t)))) (.fro (.int (tks t)))) := by
  obtain ⟨q1, q2⟩ := sp_ok hok hadj
  rw [← hd] at q1 q2
  have hokt := hok t List.mem_cons_self
  refine (run_seq (ρ' := rdSt x P r a (.fro (.int 3)) c s) (run_asg rfl)).trans ?_
  refine (run_seq (rd_span K hP hp ha)).trans ?_
  refine (run_seq (rd_word hP hp ha q1)).trans ?_
  refine (run_seq (rd_sym K hokt)).trans ?_
  refine (run_seq (rd_appW h1)).trans ?_
  refine (run_seq (rd_appR (by simpa using h2))).trans ?_
  refine (run_seq (rd_appA (by simpa using h3) (by simpa using h4))).trans ?_
  refine (run_seq (rd_gap K (by simpa using h4))).trans ?_
  refine (run_seq (rd_new K (by simpa using h4))).trans ?_
  refine run_seq ((run_aug rfl rfl (r := ((a + sp (P.drop a) : Nat) : Int)) ?_).trans ?_)
  · show some ((a : Int) + (sp (P.drop a) : Int)) = _
    congr 1
  · by_cases h : tks t < 256 <;> simp [rdSt, rdStep, h]
end
noncomputable def rd0 : Rd := ⟨[], [], [], 0, []⟩
theorem rd_len : ∀ (ts : List Tk) (r : Rd), (ts.foldl rdStep r).W.length = r.W.length + ts.length ∧ (ts.foldl rdStep r).row.length = r.row.length + ts.length ∧ (ts.foldl rdStep r).ahead.length = r.ahead.length + ts.length ∧ (ts.foldl rdStep r).G.length ≤ r.G.length + ts.length
  | [], r => ⟨rfl, rfl, rfl, Nat.le_refl _⟩
  | t :: ts, r => by
    obtain ⟨h1, h2, h3, h4⟩ := rd_len ts (rdStep r t)
    have g1 : (rdStep r t).W.length = r.W.length + 1 := by simp [rdStep]
    have g2 : (rdStep r t).row.length = r.row.length + 1 := by simp [rdStep]
    have g3 : (rdStep r t).ahead.length = r.ahead.length + 1 := by simp [rdStep]
    have g4 : (rdStep r t).G.length ≤ r.G.length + 1 := by
      unfold rdStep; dsimp only; split <;> simp
    simp only [List.foldl_cons, List.length_cons]
    lia
theorem pcs_len : ∀ (ts : List Tk), (∀ t ∈ ts, t.okB = true) → (tkPcs ts).length ≤ 3 * ts.length ∧ ∀ p ∈ tkPcs ts, p.length ≤ 2
  | [], _ => ⟨Nat.le_refl _, λ _ h => by cases h⟩
  | t :: ts, h => by
    obtain ⟨h1, h2⟩ := pcs_len ts λ u hu => h u (List.mem_cons_of_mem _ hu)
    have e1 : tkPcs (t :: ts) = tkp t ++ tkPcs ts := rfl
    have ht : (tkp t).length ≤ 3 ∧ ∀ p ∈ tkp t, p.length ≤ 2 := by
      cases t with
      | op => exact ⟨by decide, by decide⟩
      | cl => exact ⟨by decide, by decide⟩
      | lf c => exact ⟨by simp [tkp], λ p hp => by simp [tkp] at hp; subst hp; simp⟩
      | kd k =>
        have K := op_ok (of_decide_eq_true (h _ List.mem_cons_self))
        refine ⟨by simpa [tkp] using K.three, λ p hp => ?_⟩
        obtain ⟨c, _, rfl⟩ := List.mem_map.mp (show p ∈ (opc k).map ([·]) from hp)
        simp
    rw [e1]
    refine ⟨by simp only [List.length_append, List.length_cons]; lia, λ p hp => ?_⟩
    rcases List.mem_append.mp hp with hp | hp
    · exact ht.2 p hp
    · exact h2 p hp
theorem comp_pcs {f : D → Option (List D)} (hf : ∀ (i : Int) (y : Str), f (.tup [.int i, .str y]) = some [.str y]) : ∀ (w : List Nat) (i : Nat) (e : Bool), compGo f (escM i e w) = some ((pcsM e w).map strD)
  | [], i, e => rfl
  | c :: w, i, e => by
    cases e
    · simp only [escM, pcsM, Bool.false_eq_true, if_false]
      split
      · exact comp_pcs hf w _ true
      · simp only [compGo, hf, comp_pcs hf w _ false]; rfl
    · simp only [escM, pcsM, if_true]
      simp only [compGo, hf, comp_pcs hf w _ false]; rfl
section
variable {C : Cx}
theorem read_ok (K : RdCx C) (hg : C.gn "_iter_escaped_chars" = escG) {txt : List Nat} {ts : List Tk} (hf : C.fn "_strip_quoted_realnames" [.str (S txt)] = some (.str (S (tkText ts)))) (hok : ∀ t ∈ ts, t.okB = true) (hadj : adj ts = true) (hl : ts.length ≤ 1000) :
    specR C nm_law_read ["text"] ps_law_read [.str (S txt)] = some (.tup [.lst ((ts.foldl rdStep rd0).W.map strD), .lst (((ts.foldl rdStep rd0).row ++ [0]).map .int), .lst (((ts.foldl rdStep rd0).G ++ [(ts.foldl rdStep rd0).g]).map .int), .lst (((ts.foldl rdStep rd0).ahead ++ [-1]).map .int)]) := by
  obtain ⟨q1, q2, q3⟩ := tks_pcs ts hok
  obtain ⟨p1, p2⟩ := pcs_len ts hok
  have hP : (tkPcs ts).length ≤ 100000 := by lia
  have hc : (ev C (.comp (.var 12) (.many [11, 12]) (.gen "_iter_escaped_chars" (.cons (.call "_strip_quoted_realnames" (.cons (.var 1) .nil)) .nil)) (.cB true) []) (initSlots nm_law_read [.str (S txt)])).e = some (.lst ((tkPcs ts).map strD)) := by
    have e1 : (ev C (.gen "_iter_escaped_chars" (.cons (.call "_strip_quoted_realnames" (.cons (.var 1) .nil)) .nil)) (initSlots nm_law_read [.str (S txt)])).it = some (escM 0 false (tkText ts)) := by
      show (((C.fn "_strip_quoted_realnames" [.str (S txt)]).bind λ d => (some ([] : List D)).map (d :: ·)).bind (C.gn "_iter_escaped_chars")) = _
      rw [hf, hg]
      show some (escD 0 false (S (tkText ts)).cps.toList) = _
      rw [S_cps, escD_M _ _ _ q2]
    show mkComp false true ((ev C (.gen "_iter_escaped_chars" (.cons (.call "_strip_quoted_realnames" (.cons (.var 1) .nil)) .nil)) (initSlots nm_law_read [.str (S txt)])).it.bind λ xs => compGo _ xs) = _
    rw [e1, Option.bind_some, comp_pcs (λ i y => rfl), q1]
    unfold mkComp
    rw [Option.bind_some, if_pos (by simp; lia)]
  have x1 : run C 4000 (.asgO 2 (.comp (.var 12) (.many [11, 12]) (.gen "_iter_escaped_chars" (.cons (.call "_strip_quoted_realnames" (.cons (.var 1) .nil)) .nil)) (.cB true) [])) (initSlots nm_law_read [.str (S txt)]) = some (.next, [.undef, .fro (.str (S txt)), .own ((tkPcs ts).map strD), .undef, .undef, .undef, .undef, .undef, .undef, .undef, .undef, .undef, .undef]) := run_asgO hc
  have test : ∀ (r : Rd) (a : Nat) (b c s : Slot), (ev C (.cmp .Lt (.var 7) (.bi .len (.cons (.var 2) .nil))) (rdSt (.fro (.str (S txt))) (tkPcs ts) r a b c s)).b = some (decide (a < (tkPcs ts).length)) := by
    intro r a b c s
    show ((blen [.lst ((tkPcs ts).map strD)]).bind λ q => dcmp .Lt (.int (a : Int)) q) = _
    rw [blen_L (by simp; lia), List.length_map]
    exact lt_nn _ _
  obtain ⟨ρ', w1, w2⟩ := run_while (C := C) (f := 4000) (c := .cmp .Lt (.var 7) (.bi .len (.cons (.var 2) .nil))) (a := rdBody)
    (λ n ρ => ∃ pre ts' a b c s, n = ts'.length ∧ ts = pre ++ ts' ∧ ρ = rdSt (.fro (.str (S txt))) (tkPcs ts) (pre.foldl rdStep rd0) a b c s ∧ (tkPcs ts).drop a = tkPcs ts')
    (λ ρ => ∃ a b c s, ρ = rdSt (.fro (.str (S txt))) (tkPcs ts) (ts.foldl rdStep rd0) a b c s) (λ n ρ hI => by
      obtain ⟨pre, ts', a, b, c, s, rfl, hts, rfl, hd⟩ := hI
      rw [test]
      cases ts' with
      | nil =>
        have : (tkPcs ts).length ≤ a := List.drop_eq_nil_iff.mp hd
        rw [decide_eq_false (by lia)]
        rw [List.append_nil] at hts
        exact .inr ⟨rfl, a, b, c, s, by rw [hts]⟩
      | cons t ts' =>
        have hsub : ∀ u ∈ t :: ts', u.okB = true := λ u hu => hok u (by rw [hts]; exact List.mem_append_right _ hu)
        have hlt : a < (tkPcs ts).length := by
          rcases Nat.lt_or_ge a (tkPcs ts).length with h | h
          · exact h
          · exfalso
            rw [List.drop_eq_nil_iff.mpr h] at hd
            obtain ⟨x, p, r, e⟩ := tkp_ne (hsub t List.mem_cons_self)
            have : tkPcs (t :: ts') = tkp t ++ tkPcs ts' := rfl
            rw [this, e] at hd; cases hd
        rw [decide_eq_true hlt]
        have hadj' : adj (t :: ts') = true := by
          have : ∀ (l m : List Tk), adj (l ++ m) = true → adj m = true := by
            intro l
            induction l with
            | nil => intro m h; exact h
            | cons u l ih => intro m h; exact ih m (adj_tail h)
          exact this pre _ (by rw [← hts]; exact hadj)
        obtain ⟨l1, l2, l3, l4⟩ := rd_len pre rd0
        have hpl : pre.length ≤ 1000 := by
          have := congrArg List.length hts
          simp at this; lia
        have z : rd0.W.length = 0 ∧ rd0.row.length = 0 ∧ rd0.ahead.length = 0 ∧ rd0.G.length = 0 := ⟨rfl, rfl, rfl, rfl⟩
        refine .inl ⟨_, rfl, rd_turn K hP p2 (by lia) hd hsub hadj' (by lia) (by lia) (by lia) (by lia), ts'.length, by simp, pre ++ [t], ts', _, _, _, _, rfl, by rw [hts]; simp, by rw [List.foldl_append]; rfl, ?_⟩
        have := (sp_ok hsub hadj').2
        rw [← hd] at this
        rw [← List.drop_drop]
        exact this) ts.length _ ⟨[], ts, 0, .undef, .undef, .undef, rfl, rfl, rfl, rfl⟩ (by lia)
  obtain ⟨a, b, c, s, rfl⟩ := w2
  obtain ⟨l1, l2, l3, l4⟩ := rd_len ts rd0
  refine specR_of (ρ' := (((rdSt (.fro (.str (S txt))) (tkPcs ts) (ts.foldl rdStep rd0) a b c s).set 3 (.fro (.lst ((ts.foldl rdStep rd0).W.map strD)))).set 5 (.fro (.lst (((ts.foldl rdStep rd0).G ++ [(ts.foldl rdStep rd0).g]).map .int))))) rfl ?_
  refine (run_seq x1).trans ((run_seq (run_frz rfl)).trans ((run_seq (run_asgO (l := []) rfl)).trans ((run_seq (run_asgO (l := []) rfl)).trans ((run_seq (run_asgO (l := [.int 0]) rfl)).trans ((run_seq (run_asgO (l := []) rfl)).trans ((run_seq (run_asg (d := .int 0) rfl)).trans ?_))))))
  refine (run_seq w1).trans ((run_seq (run_frz rfl)).trans ((run_seq (run_frz rfl)).trans (run_ret (run_retE ?_))))
  have f1 : dbin .Add (.lst ((ts.foldl rdStep rd0).row.map .int)) (.lst [.int 0]) = some (.lst (((ts.foldl rdStep rd0).row ++ [0]).map .int)) := by
    show dbinLL .Add _ _ = _
    unfold dbinLL
    dsimp only
    rw [if_pos (decide_eq_true (by rw [List.length_map, l2]; show 0 + ts.length + 1 ≤ 16777216; lia))]
    simp
  have f2 : dbin .Add (.lst ((ts.foldl rdStep rd0).ahead.map .int)) (.lst [.int (-1)]) = some (.lst (((ts.foldl rdStep rd0).ahead ++ [-1]).map .int)) := by
    show dbinLL .Add _ _ = _
    unfold dbinLL
    dsimp only
    rw [if_pos (decide_eq_true (by rw [List.length_map, l3]; show 0 + ts.length + 1 ≤ 16777216; lia))]
    simp
  show ((some (D.lst ((ts.foldl rdStep rd0).W.map strD))).bind λ d => ((dbin .Add (.lst ((ts.foldl rdStep rd0).row.map .int)) (.lst [.int 0])).bind λ d => ((some (D.lst (((ts.foldl rdStep rd0).G ++ [(ts.foldl rdStep rd0).g]).map .int))).bind λ d => ((dbin .Add (.lst ((ts.foldl rdStep rd0).ahead.map .int)) (.lst [.int (-1)])).bind λ d => (some ([] : List D)).map (d :: ·)).map (d :: ·)).map (d :: ·)).map (d :: ·)).bind _ = _
  rw [f1, f2]
  rfl
end
section
variable {C : Cx} {ρ : List Slot}
theorem tOf {p : PE} {d : D} (h : ev C p ρ = .of (some d)) : (ev C p ρ).t = some d := by rw [h]; rfl
theorem eOf {p : PE} {d : D} (h : ev C p ρ = .of (some d)) : (ev C p ρ).e = some d := by rw [h]; rfl
theorem bOf {p : PE} {b : Bool} (h : ev C p ρ = .of (some (.bool b))) : (ev C p ρ).b = some b := by rw [h]; rfl
theorem v_var {i : Nat} {d : D} (h : ρ[i]? = some (.fro d)) : ev C (.var i) ρ = .of (some d) := by show Rs.slot ρ[i]? = _; rw [h]; rfl
theorem t_own {i : Nat} {l : List D} (h : ρ[i]? = some (.own l)) : (ev C (.var i) ρ).t = some (.lst l) := by show (Rs.slot ρ[i]?).t = _; rw [h]; rfl
theorem v_cI {i : Int} : ev C (.cI i) ρ = .of (some (.int i)) := rfl
theorem v_cF {i : UInt64} : ev C (.cF i) ρ = .of (some (.flt i)) := rfl
theorem v_cS {i : Str} : ev C (.cS i) ρ = .of (some (.str i)) := rfl
theorem v_bin {op : Operator} {l r : PE} {a b d : D} (h1 : (ev C l ρ).t = some a) (h2 : (ev C r ρ).t = some b) (h3 : dbin op a b = some d) : ev C (.bin op l r) ρ = .of (some d) := by
  show Rs.of ((ev C l ρ).t.bind λ a => (ev C r ρ).t.bind λ b => dbin op a b) = _
  rw [h1, h2, Option.bind_some, Option.bind_some, h3]
theorem v_neg {e : PE} {a d : D} (h1 : (ev C e ρ).t = some a) (h3 : dneg a = some d) : ev C (.neg e) ρ = .of (some d) := by
  show Rs.of ((ev C e ρ).t.bind dneg) = _
  rw [h1, Option.bind_some, h3]
theorem v_sub {e i : PE} {a b d : D} (h1 : (ev C e ρ).t = some a) (h2 : (ev C i ρ).t = some b) (h3 : dsub a b = some d) : ev C (.sub e i) ρ = .of (some d) := by
  show Rs.of ((ev C e ρ).t.bind λ a => (ev C i ρ).t.bind λ b => dsub a b) = _
  rw [h1, h2, Option.bind_some, Option.bind_some, h3]
theorem v_slc {e lo hi : PE} {a d : D} {x y : Option Int} (h1 : (ev C e ρ).t = some a) (h2 : part lo (ev C lo ρ) = some x) (h3 : part hi (ev C hi ρ) = some y) (h4 : dslc a x y = some d) : ev C (.slc e lo hi) ρ = .of (some d) := by
  show Rs.of ((ev C e ρ).t.bind λ a => (part lo (ev C lo ρ)).bind λ x => (part hi (ev C hi ρ)).bind λ y => dslc a x y) = _
  rw [h1, h2, h3, Option.bind_some, Option.bind_some, Option.bind_some, h4]
theorem p_abs : part .abs (ev C .abs ρ) = some none := rfl
theorem p_int {p : PE} {i : Int} (hp : absent p = false) (h : ev C p ρ = .of (some (.int i))) : part p (ev C p ρ) = some (some i) := by
  unfold part; rw [hp, h]; rfl
theorem l_nil : (ev C .nil ρ).l = some [] := rfl
theorem lt_nil : (ev C .nil ρ).lt = some [] := rfl
theorem l_cons {e es : PE} {d : D} {l : List D} (h1 : (ev C e ρ).e = some d) (h2 : (ev C es ρ).l = some l) : (ev C (.cons e es) ρ).l = some (d :: l) := by
  show (ev C e ρ).e.bind (λ d => (ev C es ρ).l.map (d :: ·)) = _
  rw [h1, h2]; rfl
theorem lt_cons {e es : PE} {d : D} {l : List D} (h1 : (ev C e ρ).t = some d) (h2 : (ev C es ρ).lt = some l) : (ev C (.cons e es) ρ).lt = some (d :: l) := by
  show (ev C e ρ).t.bind (λ d => (ev C es ρ).lt.map (d :: ·)) = _
  rw [h1, h2]; rfl
theorem v_tup {es : PE} {l : List D} (h1 : (ev C es ρ).l = some l) (h2 : l.length ≤ 16777216) : ev C (.tup es) ρ = .of (some (.tup l)) := by
  show Rs.of ((ev C es ρ).l.bind λ l => if decide (l.length ≤ 16777216) then some (.tup l) else none) = _
  rw [h1, Option.bind_some, if_pos (decide_eq_true h2)]
theorem v_lst {es : PE} {l : List D} (h1 : (ev C es ρ).l = some l) (h2 : l.length ≤ 16777216) : ev C (.lst es) ρ = .of (some (.lst l)) := by
  show Rs.of ((ev C es ρ).l.bind λ l => if decide (l.length ≤ 16777216) then some (.lst l) else none) = _
  rw [h1, Option.bind_some, if_pos (decide_eq_true h2)]
theorem v_call {f : Str} {args : PE} {l : List D} {d : D} (h1 : (ev C args ρ).l = some l) (h2 : C.fn f l = some d) : ev C (.call f args) ρ = .of (some d) := by
  show Rs.of ((ev C args ρ).l.bind (C.fn f)) = _
  rw [h1, Option.bind_some, h2]
theorem v_bi {f : Bi} {args : PE} {l : List D} {d : D} (h1 : (ev C args ρ).lt = some l) (h2 : dbi f l = some d) : ev C (.bi f args) ρ = .of (some d) := by
  show Rs.of ((ev C args ρ).lt.bind (dbi f)) = _
  rw [h1, Option.bind_some, h2]
theorem v_len {e : PE} {l : List D} (h1 : (ev C e ρ).t = some (.lst l)) (h2 : l.length ≤ 16777216) : ev C (.bi .len (.cons e .nil)) ρ = .of (some (.int (l.length : Int))) := v_bi (lt_cons h1 lt_nil) (blen_lst' h2)
where blen_lst' {l : List D} (h : l.length ≤ 16777216) : dbi .len [.lst l] = some (.int (l.length : Int)) := by
        show blen [.lst l] = _
        exact blen_L h
theorem v_join {sep : Str} {e : PE} {a d : D} (h1 : (ev C e ρ).t = some a) (h2 : djoin sep a = some d) : ev C (.join sep e) ρ = .of (some d) := by
  show Rs.of ((ev C e ρ).t.bind (djoin sep)) = _
  rw [h1, Option.bind_some, h2]
theorem e_ite {c a b : PE} {t : Bool} {d : D} (h1 : (ev C c ρ).b = some t) (h2 : (if t then (ev C a ρ).e else (ev C b ρ).e) = some d) : (ev C (.ite c a b) ρ).e = some d := by
  show ((ev C c ρ).b.bind λ t => if t then (ev C a ρ).e else (ev C b ρ).e) = _
  rw [h1, Option.bind_some, h2]
theorem b_cmp {op : CmpOp} {l r : PE} {a b : D} {c : Bool} (h1 : (ev C l ρ).t = some a) (h2 : (ev C r ρ).t = some b) (h3 : dcmp op a b = some c) : (ev C (.cmp op l r) ρ).b = some c := by
  show ((ev C l ρ).t.bind λ a => (ev C r ρ).t.bind λ b => dcmp op a b) = _
  rw [h1, h2, Option.bind_some, Option.bind_some, h3]
theorem b_and {a b : PE} {x y : Bool} (h1 : (ev C a ρ).b = some x) (h2 : x = true → (ev C b ρ).b = some y) : (ev C (.and_ a b) ρ).b = some (x && y) := by
  show ((ev C a ρ).b.bind λ t => if t then (ev C b ρ).b else some false) = _
  rw [h1, Option.bind_some]
  cases x
  · rfl
  · rw [if_pos rfl, h2 rfl]; rfl
theorem b_or {a b : PE} {x y : Bool} (h1 : (ev C a ρ).b = some x) (h2 : x = false → (ev C b ρ).b = some y) : (ev C (.or_ a b) ρ).b = some (x || y) := by
  show ((ev C a ρ).b.bind λ t => if t then some true else (ev C b ρ).b) = _
  rw [h1, Option.bind_some]
  cases x
  · rw [if_neg Bool.false_ne_true, h2 rfl]; rfl
  · rfl
theorem b_not {a : PE} {x : Bool} (h1 : (ev C a ρ).b = some x) : (ev C (.not_ a) ρ).b = some (!x) := by
  show (ev C a ρ).b.map not = _
  rw [h1]; rfl
theorem it_rng {args : PE} {l xs : List D} (h1 : (ev C args ρ).lt = some l) (h2 : drange l = some xs) : (ev C (.rng args) ρ).it = some xs := by
  show (ev C args ρ).lt.bind drange = _
  rw [h1, Option.bind_some, h2]
theorem it_of {p : PE} {l : List D} (h : ev C p ρ = .of (some (.lst l))) (hl : l.length ≤ 16777216) : (ev C p ρ).it = some l := by
  rw [h]; exact if_pos (decide_eq_true hl)
end
theorem runs_range' {body : List Slot → Option (Fl × List Slot)} {i : Nat} {f : Nat → D} (I : Nat → List Slot → Prop) : ∀ (m s : Nat) (ρ : List Slot), (∀ k, s ≤ k → k < s + m → ∀ ρ, I k ρ → ∃ ρ2, body (ρ.set i (.fro (f k))) = some (.next, ρ2) ∧ I (k + 1) ρ2) → I s ρ →
    ∃ ρ', Runs body (.one i) ((List.range' s m).map f) ρ ρ' ∧ I (s + m) ρ'
  | 0, s, ρ, _, h => ⟨ρ, rfl, h⟩
  | m + 1, s, ρ, step, h => by
    obtain ⟨ρ2, h1, h2⟩ := step s (Nat.le_refl _) (by lia) ρ h
    obtain ⟨ρ', h3, h4⟩ := runs_range' I m (s + 1) ρ2 (λ k a b => step k (by lia) (by lia)) h2
    refine ⟨ρ', ⟨_, ρ2, rfl, h1, h3⟩, ?_⟩
    rw [show s + (m + 1) = s + 1 + m by lia]; exact h4
theorem runs_range {body : List Slot → Option (Fl × List Slot)} {i : Nat} {f : Nat → D} {n : Nat} {ρ : List Slot} (I : Nat → List Slot → Prop) (step : ∀ k, k < n → ∀ ρ, I k ρ → ∃ ρ2, body (ρ.set i (.fro (f k))) = some (.next, ρ2) ∧ I (k + 1) ρ2) (h : I 0 ρ) :
    ∃ ρ', Runs body (.one i) ((List.range n).map f) ρ ρ' ∧ I n ρ' := by
  rw [List.range_eq_range']
  obtain ⟨ρ', h1, h2⟩ := runs_range' (body := body) (i := i) (f := f) I n 0 ρ (λ k _ b => step k (by lia)) h
  exact ⟨ρ', h1, by rw [Nat.zero_add] at h2; exact h2⟩
theorem drange_n {n : Nat} (h : n ≤ 100000) : drange [.int (n : Int)] = some ((List.range n).map λ (i : Nat) => .int (i : Int)) := by
  rw [drange_1]
  unfold drange1
  rw [small_nat h, decide_eq_true (by omega)]; rfl
theorem drange_ab {a b : Nat} (ha : a ≤ 100000) (hb : b ≤ 100000) : drange [.int (a : Int), .int (b : Int)] = some ((List.range (b - a)).map λ (i : Nat) => .int ((a + i : Nat) : Int)) := by
  rw [drange_2]
  unfold drange2
  rw [small_nat ha, small_nat hb, decide_eq_true (by omega), show ((b : Int) - (a : Int)).toNat = b - a by omega]; rfl
theorem dsub_nat {l : List D} {k : Nat} {d : D} (hk : k ≤ 100000) (h : l[k]? = some d) : dsub (.lst l) (.int (k : Int)) = some d := by
  exact dsubL_at hk h
noncomputable def chkT : Nat → List Tk → Option Nat
  | o, [] => some o
  | o, .op :: r => chkT (o + 1) r
  | o, .cl :: r => if o = 0 then none else chkT (o - 1) r
  | o, _ :: r => chkT o r
theorem chk_append : ∀ (a b : List Nat) (e : Bool) (o : Nat), chk e o (a ++ b) = (chk e o a).bind λ o' => chk (escEnd e a) o' b
  | [], b, e, o => rfl
  | c :: a, b, e, o => by
    cases e
    · simp only [List.cons_append, chk, escEnd, Bool.false_eq_true, if_false]
      by_cases h : c = 92
      · simp only [h, if_true]; exact chk_append a b true o
      · simp only [h, if_false]
        by_cases h1 : c = 40
        · simp only [h1, if_true]; exact chk_append a b false (o + 1)
        · simp only [h1, if_false]
          by_cases h2 : c = 41
          · simp only [h2, if_true]
            by_cases h3 : o = 0
            · simp only [h3, if_true]; rfl
            · simp only [h3, if_false]; exact chk_append a b false (o - 1)
          · simp only [h2, if_false]; exact chk_append a b false o
    · simp only [List.cons_append, chk, escEnd, if_true]; exact chk_append a b false o
theorem chk_plain : ∀ (l : List Nat) (o : Nat), (∀ c ∈ l, c ≠ 92 ∧ c ≠ 40 ∧ c ≠ 41) → chk false o l = some o
  | [], o, _ => rfl
  | c :: l, o, h => by
    obtain ⟨h1, h2, h3⟩ := h c List.mem_cons_self
    simp only [chk, Bool.false_eq_true, if_false, h1, h2, h3]
    exact chk_plain l o λ d hd => h d (List.mem_cons_of_mem _ hd)
theorem chk_text : ∀ (ts : List Tk) (o : Nat), (∀ t ∈ ts, t.okB = true) → chk false o (tkText ts) = chkT o ts
  | [], o, _ => rfl
  | t :: ts, o, h => by
    have e0 : tkText (t :: ts) = tkc t ++ tkText ts := rfl
    have ht := h t List.mem_cons_self
    have ih := λ o => chk_text ts o λ u hu => h u (List.mem_cons_of_mem _ hu)
    rw [e0, chk_append, (tk_pcs ht).2.1]
    cases t with
    | op => show chk false (o + 1) (tkText ts) = chkT (o + 1) ts; exact ih _
    | cl =>
      show (if o = 0 then none else some (o - 1)).bind _ = (if o = 0 then none else chkT (o - 1) ts)
      by_cases h3 : o = 0
      · rw [if_pos h3, if_pos h3]; rfl
      · rw [if_neg h3, if_neg h3]; exact ih _
    | lf c => show chk false o (tkText ts) = chkT o ts; exact ih _
    | kd k =>
      have K := op_ok (of_decide_eq_true ht)
      show (chk false o (opc k)).bind _ = chkT o ts
      rw [chk_plain _ _ λ c hc => let ⟨a, _, d, e⟩ := K.no c hc; ⟨a, d, e⟩]
      exact ih _
noncomputable def Tk.isOp : Tk → Bool | .op => true | _ => false
noncomputable def Tk.isCl : Tk → Bool | .cl => true | _ => false
noncomputable def shut (ts : List Tk) (t u : Nat) : Bool := (match ts[u]? with | some x => x.isCl | none => true) && ((decide (ts.length ≤ u)) || chkT 0 ((ts.drop t).take (u + 1 - t)) == some 0)
noncomputable def findU (ts : List Tk) (t : Nat) : Nat → Nat → Nat
  | 0, u => u
  | n + 1, u => if shut ts t u then u else findU ts t n (u + 1)
noncomputable def prT (ts : List Tk) (A : List Int) : Nat → List (Int × Int)
  | 0 => []
  | k + 1 => prT ts A k ++ (match ts[k]? with | some .op => [(A.getD k 0, A.getD (findU ts k (ts.length - (k + 1)) (k + 1)) 0)] | _ => [])
noncomputable def pD (p : Int × Int) : D := .tup [.int p.1, .int p.2]
noncomputable def prSt (ts : List Tk) (A : List Int) (R : List (Int × Int)) (t u : Slot) : List Slot :=
  [.undef, .fro (.lst ((ts.map tkc).map strD)), .fro (.lst ((ts.map tks ++ [0]).map .int)), .fro (.lst (A.map .int)), .own (R.map pD), t, u]
noncomputable def prTest : PE := (.and_ (.cmp .Lt (.var 6) (.bi .len (.cons (.var 1) .nil))) (.or_ (.cmp .NotEq (.sub (.var 2) (.var 6)) (.cI 8)) (.not_ (.call "_check_parenthesis" (.cons (.join "" (.slc (.var 1) (.var 5) (.bin .Add (.var 6) (.cI 1)))) .nil)))))
noncomputable def prBody : PS :=
    (.seq (.ifs (.cmp .Eq (.sub (.var 2) (.var 5)) (.cI 7))
      (.seq (.asg 6 (.bin .Add (.var 5) (.cI 1)))
      (.seq (.while_ prTest
        (.seq (.aug 6 .Add (.cI 1))
        .nil))
      (.seq (.app 4 (.tup (.cons (.sub (.var 3) (.var 5)) (.cons (.sub (.var 3) (.var 6)) .nil))))
      .nil)))
      .nil)
    .nil)
theorem tks_7 {t : Tk} : (tks t == 7) = t.isOp := by
  cases t with
  | op => rfl
  | cl => rfl
  | lf c => show ((222 + (c : Int)) == 7) = false; exact beq_eq_false_iff_ne.mpr (by lia)
  | kd k => show (((k : Int) + 9) == 7) = false; exact beq_eq_false_iff_ne.mpr (by lia)
theorem tks_8 {t : Tk} : (tks t != 8) = !t.isCl := by
  cases t with
  | op => rfl
  | cl => rfl
  | lf c => show ((222 + (c : Int)) != 8) = true; exact bne_iff_ne.mpr (by lia)
  | kd k => show (((k : Int) + 9) != 8) = true; exact bne_iff_ne.mpr (by lia)
theorem tkc_len {t : Tk} (h : t.okB = true) : (tkc t).length ≤ 3 := by
  cases t with
  | op => decide
  | cl => decide
  | lf c => simp [tkc]
  | kd k => exact (op_ok (of_decide_eq_true h)).three
theorem tkText_len : ∀ (ts : List Tk), (∀ t ∈ ts, t.okB = true) → (tkText ts).length ≤ 3 * ts.length
  | [], _ => Nat.le_refl _
  | t :: ts, h => by
    have e0 : tkText (t :: ts) = tkc t ++ tkText ts := rfl
    have h1 := tkc_len (h t List.mem_cons_self)
    have h2 := tkText_len ts λ u hu => h u (List.mem_cons_of_mem _ hu)
    rw [e0]; simp only [List.length_append, List.length_cons]; lia
section
variable {C : Cx} {ts : List Tk} {A : List Int} {R : List (Int × Int)}
theorem pr_test (hck : ∀ us : List Tk, (∀ t ∈ us, t.okB = true) → us.length ≤ 1000 → C.fn "_check_parenthesis" [.str (S (tkText us))] = some (.bool (chk false 0 (tkText us) == some 0))) (hok : ∀ t ∈ ts, t.okB = true) (hl : ts.length ≤ 1000) {t u : Nat} (htu : t < u) :
    (ev C prTest (prSt ts A R (.fro (.int (t : Int))) (.fro (.int (u : Int))))).b = some (decide (u < ts.length) && !shut ts t u) := by
  have h1 : (ev C (.cmp .Lt (.var 6) (.bi .len (.cons (.var 1) .nil))) (prSt ts A R (.fro (.int (t : Int))) (.fro (.int (u : Int))))).b = some (decide (u < ts.length)) := by
    refine b_cmp (tOf (v_var rfl)) (tOf (v_len (tOf (v_var rfl)) (by simp; lia))) ?_
    show some (decide ((u : Int) < ((((ts.map tkc).map strD).length : Nat) : Int))) = _
    simp
  refine b_and h1 λ hu => ?_
  have hu : u < ts.length := of_decide_eq_true hu
  have hget : ts[u]? = some ts[u] := List.getElem?_eq_getElem hu
  have hs : shut ts t u = (ts[u].isCl && chkT 0 ((ts.drop t).take (u + 1 - t)) == some 0) := by
    unfold shut
    rw [hget, decide_eq_false (by lia)]
    rfl
  rw [hs, Bool.not_and]
  refine b_or ?_ λ _ => ?_
  · refine b_cmp (tOf (v_sub (tOf (v_var rfl)) (tOf (v_var rfl)) (dsub_nat (d := .int (tks ts[u])) (by lia) (by simp [List.getElem?_append, hu])))) (tOf v_cI) ?_
    show some (tks ts[u] != 8) = _
    rw [tks_8]
  · have hsub : ∀ x ∈ (ts.drop t).take (u + 1 - t), x.okB = true := λ x hx => hok x (List.mem_of_mem_drop (List.mem_of_mem_take hx))
    have hlen : ((ts.drop t).take (u + 1 - t)).length ≤ ts.length := by rw [List.length_take, List.length_drop]; omega
    refine b_not (bOf (v_call (l_cons (eOf (v_join (tOf (v_slc (tOf (v_var rfl)) (p_int rfl (v_var rfl)) (p_int (i := ((u + 1 : Nat) : Int)) rfl (v_bin (tOf (v_var rfl)) (tOf v_cI) ?_)) (slc_lst (by simp; lia) (by simp; lia)))) (d := .str (S (tkText ((ts.drop t).take (u + 1 - t))))) ?_)) l_nil) ?_))
    · show some (D.int ((u : Int) + 1)) = _
      rfl
    · rw [← List.map_drop, ← List.map_take, ← List.map_drop, ← List.map_take, empty_S, djoin_S]
      · congr 3
      · have := tkText_len _ hsub
        unfold tkText at this
        rw [List.flatMap_def] at this
        lia
    · rw [hck _ hsub (by lia), chk_text _ _ hsub]
theorem findU_le : ∀ (n u t : Nat), u ≤ findU ts t n u ∧ findU ts t n u ≤ u + n
  | 0, u, t => ⟨Nat.le_refl _, Nat.le_refl _⟩
  | n + 1, u, t => by
    unfold findU
    split
    · lia
    · have := findU_le n (u + 1) t; lia
theorem pr_while (hck : ∀ us : List Tk, (∀ t ∈ us, t.okB = true) → us.length ≤ 1000 → C.fn "_check_parenthesis" [.str (S (tkText us))] = some (.bool (chk false 0 (tkText us) == some 0))) (hok : ∀ t ∈ ts, t.okB = true) (hl : ts.length ≤ 1000) {t : Nat} (ht : t < ts.length) :
    run C 4000 (.while_ prTest (.seq (.aug 6 .Add (.cI 1)) .nil)) (prSt ts A R (.fro (.int (t : Int))) (.fro (.int ((t + 1 : Nat) : Int)))) = some (.next, prSt ts A R (.fro (.int (t : Int))) (.fro (.int (findU ts t (ts.length - (t + 1)) (t + 1) : Int)))) := by
  obtain ⟨ρ', h1, h2⟩ := run_while (C := C) (f := 4000) (c := prTest) (a := .seq (.aug 6 .Add (.cI 1)) .nil)
    (λ n ρ => ∃ u, n = ts.length - u ∧ t < u ∧ u ≤ ts.length ∧ ρ = prSt ts A R (.fro (.int (t : Int))) (.fro (.int (u : Int))) ∧ findU ts t (ts.length - u) u = findU ts t (ts.length - (t + 1)) (t + 1))
    (λ ρ => ρ = prSt ts A R (.fro (.int (t : Int))) (.fro (.int (findU ts t (ts.length - (t + 1)) (t + 1) : Int)))) (λ n ρ hI => by
      obtain ⟨u, rfl, g1, g2, rfl, g3⟩ := hI
      rw [pr_test hck hok hl g1]
      by_cases hu : u < ts.length
      · cases hs : shut ts t u with
        | true =>
          refine .inr ⟨by simp, ?_⟩
          rw [← g3]
          have : ts.length - u = (ts.length - u - 1) + 1 := by lia
          rw [this]; unfold findU; rw [hs, if_pos rfl]
        | false =>
          refine .inl ⟨prSt ts A R (.fro (.int (t : Int))) (.fro (.int ((u + 1 : Nat) : Int))), by simp [hu], run_seq (b := .nil) (run_aug rfl rfl (r := ((u + 1 : Nat) : Int)) ?_), ts.length - (u + 1), by lia, u + 1, rfl, by lia, by lia, rfl, ?_⟩
          · show some ((u : Int) + 1) = _
            congr 1
          · rw [← g3]
            have : ts.length - u = (ts.length - (u + 1)) + 1 := by lia
            rw [this]
            conv => rhs; unfold findU
            rw [hs, if_neg Bool.false_ne_true]
      · refine .inr ⟨by simp [hu], ?_⟩
        have : ts.length - u = 0 := by lia
        rw [this] at g3
        rw [← g3]; rfl) (ts.length - (t + 1)) _ ⟨t + 1, rfl, by lia, by lia, rfl, rfl⟩ (by omega)
  rw [h2] at h1; exact h1
theorem pr_len : ∀ k, (prT ts A k).length ≤ k
  | 0 => Nat.le_refl _
  | k + 1 => by
    unfold prT
    have := pr_len k
    split <;> simp <;> lia
theorem pr_turn (hck : ∀ us : List Tk, (∀ t ∈ us, t.okB = true) → us.length ≤ 1000 → C.fn "_check_parenthesis" [.str (S (tkText us))] = some (.bool (chk false 0 (tkText us) == some 0))) (hok : ∀ t ∈ ts, t.okB = true) (hl : ts.length ≤ 1000) (hA : A.length = ts.length + 1) {t : Nat} (ht : t < ts.length) {u : Slot} :
    ∃ u', run C 4000 prBody (prSt ts A (prT ts A t) (.fro (.int (t : Int))) u) = some (.next, prSt ts A (prT ts A (t + 1)) (.fro (.int (t : Int))) u') := by
  have hget : ts[t]? = some ts[t] := List.getElem?_eq_getElem ht
  have e1 : (ev C (.cmp .Eq (.sub (.var 2) (.var 5)) (.cI 7)) (prSt ts A (prT ts A t) (.fro (.int (t : Int))) u)).b = some ts[t].isOp := by
    refine b_cmp (tOf (v_sub (tOf (v_var rfl)) (tOf (v_var rfl)) (dsub_nat (d := .int (tks ts[t])) (by lia) (by simp [List.getElem?_append, ht])))) (tOf v_cI) ?_
    show some (tks ts[t] == 7) = _
    rw [tks_7]
  cases h : ts[t].isOp with
  | false =>
    refine ⟨u, run_seq ((run_if e1).trans ?_)⟩
    rw [h, if_neg Bool.false_ne_true]
    have : prT ts A (t + 1) = prT ts A t := by
      conv => lhs; unfold prT
      rw [hget]
      cases e : ts[t] with
      | op => rw [e] at h; cases h
      | cl => simp
      | lf c => simp
      | kd k => simp
    rw [this]; rfl
  | true =>
    have hop : ts[t] = .op := by cases e : ts[t] <;> rw [e] at h <;> first | rfl | cases h
    obtain ⟨f1, f2⟩ := findU_le (ts := ts) (ts.length - (t + 1)) (t + 1) t
    refine ⟨.fro (.int (findU ts t (ts.length - (t + 1)) (t + 1) : Int)), run_seq ((run_if e1).trans ?_)⟩
    rw [h, if_pos rfl]
    refine (run_seq (ρ' := prSt ts A (prT ts A t) (.fro (.int (t : Int))) (.fro (.int ((t + 1 : Nat) : Int)))) (run_asg (d := .int ((t + 1 : Nat) : Int)) ?_)).trans ?_
    · show some (D.int ((t : Int) + 1)) = _
      rfl
    refine (run_seq (pr_while hck hok hl ht)).trans ?_
    refine run_seq (b := .nil) ((run_app rfl (d := pD (A.getD t 0, A.getD (findU ts t (ts.length - (t + 1)) (t + 1)) 0)) ?_ (by simp; have := pr_len (ts := ts) (A := A) t; lia)).trans ?_)
    · have g : ∀ k, k ≤ ts.length → dsub (.lst (A.map .int)) (.int (k : Int)) = some (.int (A.getD k 0)) := by
        intro k hk
        refine dsub_nat (by lia) ?_
        rw [List.getElem?_map, List.getElem?_eq_getElem (by lia), List.getD_eq_getElem?_getD, List.getElem?_eq_getElem (by lia)]
        rfl
      exact eOf (v_tup (l_cons (eOf (v_sub (tOf (v_var rfl)) (tOf (v_var rfl)) (g t (by lia)))) (l_cons (eOf (v_sub (tOf (v_var rfl)) (tOf (v_var rfl)) (g _ (by lia)))) l_nil)) (show 2 ≤ 16777216 by decide))
    · have : prT ts A (t + 1) = prT ts A t ++ [(A.getD t 0, A.getD (findU ts t (ts.length - (t + 1)) (t + 1)) 0)] := by
        conv => lhs; unfold prT
        rw [hget, hop]
      rw [this]
      simp [prSt]
theorem pairs_ok (hck : ∀ us : List Tk, (∀ t ∈ us, t.okB = true) → us.length ≤ 1000 → C.fn "_check_parenthesis" [.str (S (tkText us))] = some (.bool (chk false 0 (tkText us) == some 0))) (hok : ∀ t ∈ ts, t.okB = true) (hl : ts.length ≤ 1000) (hA : A.length = ts.length + 1) :
    specR C nm_law_pairs ["words", "row", "ahead"] ps_law_pairs [.lst ((ts.map tkc).map strD), .lst ((ts.map tks ++ [0]).map .int), .lst (A.map .int)] = some (.lst ((prT ts A ts.length).map pD)) := by
  have hit : (ev C (.rng (.cons (.bi .len (.cons (.var 1) .nil)) .nil)) (prSt ts A [] .undef .undef)).it = some ((List.range ts.length).map λ (i : Nat) => .int (i : Int)) := by
    refine it_rng (lt_cons (tOf (v_len (tOf (v_var rfl)) (by simp; lia))) lt_nil) ?_
    rw [List.length_map, List.length_map, drange_n (by lia)]
  obtain ⟨ρ', h1, t', u', rfl⟩ := runs_range (body := run C 4000 prBody) (i := 5) (f := λ (i : Nat) => .int (i : Int)) (n := ts.length) (ρ := prSt ts A [] .undef .undef) (λ k ρ => ∃ t u, ρ = prSt ts A (prT ts A k) t u) (by
    rintro k hk ρ ⟨t, u, rfl⟩
    obtain ⟨u', h⟩ := pr_turn (C := C) hck hok hl hA hk (u := u)
    exact ⟨_, h, _, _, rfl⟩) ⟨_, _, rfl⟩
  refine specR_of (ρ' := (prSt ts A (prT ts A ts.length) t' u').set 4 (.fro (.lst ((prT ts A ts.length).map pD)))) rfl ?_
  exact (run_seq (run_asgO (l := []) rfl)).trans ((run_seq (run_for hit h1)).trans ((run_seq (run_frz rfl)).trans (run_ret (run_retE rfl))))
end
noncomputable def goF : Nat → Nat → List Nat → List Nat
  | 0, _, F => F
  | k + 1, m, F => if m = 0 then F else goF k (m / 64) ((64 + m % 64) :: F)
noncomputable def figs (n : Nat) : List Nat := goF 5 (n / 64) [n % 64]
noncomputable def enc (n : Nat) : List Nat := match figs n with | x :: r => (x + 128) :: r | [] => []
noncomputable def Fig : List Nat → Prop
  | [] => False
  | [d] => d < 64
  | x :: y :: r => 64 ≤ x ∧ x < 128 ∧ Fig (y :: r)
theorem fig_cons {x : Nat} {F : List Nat} (h1 : 64 ≤ x) (h2 : x < 128) (h : Fig F) : Fig (x :: F) := by
  cases F with
  | nil => exact h.elim
  | cons y r => exact ⟨h1, h2, h⟩
theorem fig_go : ∀ (k m : Nat) (F : List Nat), Fig F → Fig (goF k m F)
  | 0, _, F, h => h
  | k + 1, m, F, h => by
    unfold goF
    split
    · exact h
    · exact fig_go k _ _ (fig_cons (by lia) (by lia) h)
noncomputable def vl (v : Nat) (F : List Nat) : Nat := F.foldl (λ v y => v * 64 + y % 64) v
theorem vl_eq : ∀ (F : List Nat) (v : Nat), vl v F = v * 64 ^ F.length + vl 0 F
  | [], v => by simp [vl]
  | y :: F, v => by
    have h1 : vl v (y :: F) = vl (v * 64 + y % 64) F := rfl
    have h2 : vl 0 (y :: F) = vl (0 * 64 + y % 64) F := rfl
    rw [h1, h2, vl_eq F (v * 64 + y % 64), vl_eq F (0 * 64 + y % 64), List.length_cons, Nat.pow_succ, Nat.add_mul]
    have : v * 64 * 64 ^ F.length = v * (64 ^ F.length * 64) := by rw [Nat.mul_assoc, Nat.mul_comm 64]
    rw [show 0 * 64 + y % 64 = y % 64 by lia] at *
    lia
theorem vl_go : ∀ (k m : Nat) (F : List Nat), m < 64 ^ k → vl 0 (goF k m F) = m * 64 ^ F.length + vl 0 F
  | 0, m, F, h => by
    have : m = 0 := by simpa using h
    subst this; simp [goF]
  | k + 1, m, F, h => by
    unfold goF
    split
    · rename_i hm; subst hm; simp
    · have hk : m / 64 < 64 ^ k := by rw [Nat.pow_succ] at h; exact Nat.div_lt_of_lt_mul (by lia)
      rw [vl_go k _ _ hk]
      have h2 : vl 0 ((64 + m % 64) :: F) = vl (0 * 64 + (64 + m % 64) % 64) F := rfl
      rw [h2, vl_eq F, List.length_cons, Nat.pow_succ]
      have e1 : (0 * 64 + (64 + m % 64) % 64) = m % 64 := by lia
      rw [e1]
      have e2 : m * 64 ^ F.length = (m / 64) * (64 ^ F.length * 64) + (m % 64) * 64 ^ F.length := by
        have h3 : m = m / 64 * 64 + m % 64 := by lia
        conv => lhs; rw [h3]
        rw [Nat.add_mul, Nat.mul_assoc, Nat.mul_comm 64]
      lia
theorem go_len : ∀ (k m : Nat) (F : List Nat), (goF k m F).length ≤ F.length + k
  | 0, _, F => Nat.le_refl _
  | k + 1, m, F => by
    unfold goF
    split
    · lia
    · have := go_len k (m / 64) ((64 + m % 64) :: F)
      simp only [List.length_cons] at this; lia
theorem fig_lt : ∀ (F : List Nat), Fig F → ∀ x ∈ F, x < 128
  | [], h, _, _ => h.elim
  | [d], h, x, hx => by
    have : x = d := by simpa using hx
    subst this; exact Nat.lt_trans h (by decide)
  | y :: z :: r, h, x, hx => by
    rcases List.mem_cons.mp hx with rfl | hx
    · exact h.2.1
    · exact fig_lt (z :: r) h.2.2 x hx
theorem u8 {x : Nat} (h : x < 256) : (x.toUInt8).toNat = x := by
  show x % 256 = x
  lia
theorem pvGo_fig {bs : List UInt8} : ∀ (r : List Nat) (x v : Nat) (b : UInt8), Fig (x :: r) → (b.toNat = x ∨ b.toNat = x + 128) → (v + 1) * 64 ^ r.length ≤ 1099511627776 → pvGo b v (r.map (·.toUInt8) ++ bs) = some (vl v r, bs)
  | [], x, v, b, h, hb, _ => by
    have h : x < 64 := h
    have hbit : ¬ b.toNat / 64 % 2 = 1 := by rcases hb with hb | hb <;> rw [hb] <;> lia
    show pvGo b v bs = some (v, bs)
    cases bs with
    | nil => unfold pvGo; rw [if_neg hbit]
    | cons c cs => unfold pvGo; rw [if_neg hbit]
  | y :: r, x, v, b, h, hb, hv => by
    obtain ⟨h1, h2, h3⟩ := h
    have hbit : b.toNat / 64 % 2 = 1 := by rcases hb with hb | hb <;> rw [hb] <;> lia
    have hy := fig_lt _ h3 y List.mem_cons_self
    have hy8 : (y.toUInt8).toNat = y := u8 (by lia)
    show pvGo b v (y.toUInt8 :: (r.map (·.toUInt8) ++ bs)) = _
    rw [List.length_cons, Nat.pow_succ] at hv
    have hpos : 0 < 64 ^ r.length := Nat.pow_pos (by decide)
    have hv2 : v < 1099511627776 := by
      have : (v + 1) * 1 ≤ (v + 1) * (64 ^ r.length * 64) := Nat.mul_le_mul_left _ (by lia)
      lia
    unfold pvGo
    rw [if_pos hbit, if_pos hv2, hy8]
    refine pvGo_fig r y _ _ h3 (.inl hy8) ?_
    have : (v * 64 + y % 64 + 1) * 64 ^ r.length ≤ ((v + 1) * 64) * 64 ^ r.length := Nat.mul_le_mul_right _ (by lia)
    have e : ((v + 1) * 64) * 64 ^ r.length = (v + 1) * (64 ^ r.length * 64) := by rw [Nat.mul_assoc, Nat.mul_comm 64]
    lia
theorem enc_shape {n : Nat} (h : n < 1073741824) : ∃ x r, figs n = x :: r ∧ enc n = (x + 128) :: r ∧ Fig (x :: r) ∧ r.length ≤ 5 ∧ vl (x % 64) r = n := by
  have hF : Fig (figs n) := fig_go _ _ _ (show n % 64 < 64 from Nat.mod_lt _ (by decide))
  have hl : (figs n).length ≤ 6 := go_len _ _ _
  have hv : vl 0 (figs n) = n := by
    unfold figs
    have hk : n / 64 < 64 ^ 5 := by
      have : (64 : Nat) ^ 5 = 1073741824 := by decide
      lia
    rw [vl_go 5 _ _ hk]
    show n / 64 * 64 ^ 1 + (0 * 64 + n % 64 % 64) = n
    lia
  cases e : figs n with
  | nil => rw [e] at hF; exact hF.elim
  | cons x r =>
    rw [e] at hF hl hv
    refine ⟨x, r, rfl, by unfold enc; rw [e], hF, by simp only [List.length_cons] at hl; lia, ?_⟩
    have : vl 0 (x :: r) = vl (0 * 64 + x % 64) r := rfl
    rw [this] at hv
    rw [← hv]; congr 1; lia
theorem enc_lt {n : Nat} (h : n < 1073741824) : ∀ x ∈ enc n, x < 256 := by
  obtain ⟨x, r, _, e, hF, _, _⟩ := enc_shape h
  rw [e]
  intro y hy
  have hx := fig_lt _ hF x List.mem_cons_self
  rcases List.mem_cons.mp hy with rfl | hy
  · lia
  · have := fig_lt _ hF y (List.mem_cons_of_mem _ hy); lia
theorem pv_enc {n : Nat} (h : n < 1073741824) {bs : List UInt8} : pv ((enc n).map (·.toUInt8) ++ bs) = some (n, bs) := by
  obtain ⟨x, r, _, e, hF, hl, hv⟩ := enc_shape h
  have hx := fig_lt _ hF x List.mem_cons_self
  have h8 : ((x + 128).toUInt8).toNat = x + 128 := u8 (by lia)
  rw [e]
  show pvGo (x + 128).toUInt8 (((x + 128).toUInt8).toNat % 64) (r.map (·.toUInt8) ++ bs) = _
  rw [h8, show (x + 128) % 64 = x % 64 by lia, pvGo_fig r x _ _ hF (.inr h8) ?_, hv]
  have h1 : x % 64 + 1 ≤ 64 := by lia
  have h2 : 64 ^ r.length ≤ 64 ^ 5 := Nat.pow_le_pow_right (by decide) hl
  have h3 : (64 : Nat) ^ 5 = 1073741824 := by decide
  calc (x % 64 + 1) * 64 ^ r.length ≤ 64 * 1073741824 := Nat.mul_le_mul h1 (by omega)
    _ ≤ 1099511627776 := by decide
theorem told_enc : ∀ (cs : List Nat), (∀ c ∈ cs, c < 1073741824) → Told ((cs.flatMap enc).map (·.toUInt8)) cs
  | [], _ => rfl
  | c :: cs, h => by
    refine ⟨(cs.flatMap enc).map (·.toUInt8), ?_, told_enc cs λ d hd => h d (List.mem_cons_of_mem _ hd)⟩
    rw [List.flatMap_cons, List.map_append]
    exact pv_enc (h c List.mem_cons_self)
theorem intsOf_map : ∀ (l : List Int), intsOf (l.map .int) = some l
  | [] => rfl
  | i :: l => by simp [intsOf, intsOf_map l]
theorem run_augL {C : Cx} {f i j : Nat} {ρ : List Slot} {ds es : List D} (h0 : ρ[i]? = some (.own ds)) (h1 : ρ[j]? = some (.own es)) (hij : j ≠ i) (hl : ds.length + es.length ≤ 16777216) : run C f (.augL i (.var j)) ρ = some (.next, ρ.set i (.own (ds ++ es))) := by
  have e : augSrc C i (.var j) ρ = some es := by
    exact bnd h1 (if_pos hij)
  exact bnd (congrArg ownOf h0) (bnd e (if_pos hl))
theorem fmod_n (n k : Nat) : (n : Int).fmod (k : Int) = ((n % k : Nat) : Int) := by rw [Int.fmod_eq_emod_of_nonneg _ (by lia)]; rfl
theorem fdiv_n (n k : Nat) : (n : Int).fdiv (k : Int) = ((n / k : Nat) : Int) := by rw [Int.fdiv_eq_ediv_of_nonneg _ (by lia)]; rfl
theorem bin_mod (n k : Nat) (hk : k ≠ 0) : dbin .Mod (.int (n : Int)) (.int (k : Int)) = some (.int ((n % k : Nat) : Int)) := by
  show (if (k : Int) != 0 then some (D.int ((n : Int).fmod (k : Int))) else none) = _
  rw [if_pos (bne_iff_ne.mpr (by lia)), fmod_n]
theorem bin_div (n k : Nat) (hk : k ≠ 0) (hk2 : k ≤ 1000000) : dbin .FloorDiv (.int (n : Int)) (.int (k : Int)) = some (.int ((n / k : Nat) : Int)) := by
  show (if smallI (k : Int) && (k : Int) != 0 then some (D.int ((n : Int).fdiv (k : Int))) else none) = _
  rw [if_pos (by rw [smallI_of (by lia) (by lia)]; simp; omega), fdiv_n]
theorem aug_div (n k : Nat) (hk : k ≠ 0) (hk2 : k ≤ 1000000) : augI .FloorDiv (n : Int) (k : Int) = some ((n / k : Nat) : Int) := by
  show (if smallI (k : Int) && (k : Int) != 0 then some ((n : Int).fdiv (k : Int)) else none) = _
  rw [if_pos (by rw [smallI_of (by lia) (by lia)]; simp; omega), fdiv_n]
theorem bin_add (a b : Int) : dbin .Add (.int a) (.int b) = some (.int (a + b)) := rfl
theorem bin_sb (a b : Int) : dbin .Sub (.int a) (.int b) = some (.int (a - b)) := rfl
theorem bin_mul (a b : Int) (h1 : -4611686018427387904 < a) (h2 : a < 4611686018427387904) : dbin .Mult (.int a) (.int b) = some (.int (a * b)) := by
  show (if smallI a then some (D.int (a * b)) else none) = _
  rw [if_pos (smallI_of h1 h2)]
theorem bin_app {l m : List D} (h : l.length + m.length ≤ 16777216) : dbin .Add (.lst l) (.lst m) = some (.lst (l ++ m)) := by
  show dbinLL .Add l m = _
  unfold dbinLL; dsimp only; exact if_pos (decide_eq_true h)
noncomputable def ocSt (cs : List Nat) (O : List Nat) (n : Slot) (F : Slot) : List Slot := [.undef, .fro (.lst (cs.map λ (k : Nat) => D.int (k : Int))), .own (O.map λ (k : Nat) => D.int (k : Int)), n, F]
noncomputable def ocWhile : PS := (.while_ (.cmp .Gt (.var 3) (.cI 0))
      (.seq (.asgO 4 (.bin .Add (.lst (.cons (.bin .Add (.cI 64) (.bin .Mod (.var 3) (.cI 64))) .nil)) (.var 4)))
      (.seq (.aug 3 .FloorDiv (.cI 64))
      .nil)))
noncomputable def ocBody : PS :=
    (.seq (.asgO 4 (.lst (.cons (.bin .Mod (.var 3) (.cI 64)) .nil)))
    (.seq (.aug 3 .FloorDiv (.cI 64))
    (.seq ocWhile
    (.seq (.augI 4 .Add (.cI 0) (.cI 128))
    (.seq (.augL 2 (.var 4))
    .nil)))))
section
variable {C : Cx} {cs O : List Nat}
noncomputable abbrev nD (k : Nat) : D := .int (k : Int)
theorem oc_while : ∀ (k m : Nat) (F : List Nat), m < 64 ^ k → k ≤ 10 → F.length ≤ 100 → ∃ m', run C 4000 ocWhile (ocSt cs O (.fro (nD m)) (.own (F.map nD))) = some (.next, ocSt cs O (.fro (nD m')) (.own ((goF k m F).map nD))) := by
  intro k m F hm hk hF
  obtain ⟨ρ', h1, m', h2⟩ := run_while (C := C) (f := 4000) (c := .cmp .Gt (.var 3) (.cI 0)) (a := (.seq (.asgO 4 (.bin .Add (.lst (.cons (.bin .Add (.cI 64) (.bin .Mod (.var 3) (.cI 64))) .nil)) (.var 4)))
      (.seq (.aug 3 .FloorDiv (.cI 64))
      .nil)))
    (λ j ρ => ∃ m' F', ρ = ocSt cs O (.fro (nD m')) (.own (F'.map nD)) ∧ m' < 64 ^ j ∧ goF j m' F' = goF k m F ∧ F'.length + j ≤ F.length + k)
    (λ ρ => ∃ m', ρ = ocSt cs O (.fro (nD m')) (.own ((goF k m F).map nD))) (λ j ρ hI => by
      obtain ⟨m', F', rfl, g1, g2, g3⟩ := hI
      have ht : (ev C (.cmp .Gt (.var 3) (.cI 0)) (ocSt cs O (.fro (nD m')) (.own (F'.map nD)))).b = some (decide (0 < m')) := by
        refine b_cmp (tOf (v_var rfl)) (tOf v_cI) ?_
        show some (decide ((0 : Int) < (m' : Int))) = _
        simp
      rw [ht]
      by_cases hm : m' = 0
      · subst hm
        refine .inr ⟨rfl, 0, ?_⟩
        have : goF j 0 F' = F' := by cases j <;> simp [goF]
        rw [← g2, this]
      · cases j with
        | zero => exfalso; simp at g1; exact hm g1
        | succ j =>
          refine .inl ⟨ocSt cs O (.fro (nD (m' / 64))) (.own (((64 + m' % 64) :: F').map nD)), by rw [decide_eq_true (by lia)], ?_, j, by lia, m' / 64, (64 + m' % 64) :: F', rfl, by rw [Nat.pow_succ] at g1; exact Nat.div_lt_of_lt_mul (by lia), ?_, by simp only [List.length_cons]; lia⟩
          · refine (run_seq (run_asgO (l := nD (64 + m' % 64) :: F'.map nD) ?_)).trans (run_seq (run_aug rfl rfl (aug_div m' 64 (by decide) (by decide))))
            exact eOf (v_bin (tOf (v_lst (l_cons (eOf (v_bin (tOf v_cI) (tOf (v_bin (tOf (v_var rfl)) (tOf v_cI) (bin_mod m' 64 (by decide)))) (d := nD (64 + m' % 64)) rfl)) l_nil) (show 1 ≤ 16777216 by decide))) (t_own rfl) (bin_app (by simp; lia)))
          · rw [← g2]
            conv => rhs; unfold goF
            rw [if_neg hm]) k _ ⟨m, F, rfl, hm, rfl, Nat.le_refl _⟩ (by lia)
  exact ⟨m', by rw [← h2]; exact h1⟩
theorem oc_turn {n : Nat} (hn : n < 1073741824) (hO : O.length ≤ 10000) {F : Slot} : ∃ n' F', run C 4000 ocBody (ocSt cs O (.fro (nD n)) F) = some (.next, ocSt cs (O ++ enc n) n' F') := by
  obtain ⟨x, r, e1, e2, hF, hl, _⟩ := enc_shape hn
  obtain ⟨m', hw⟩ := oc_while (C := C) (cs := cs) (O := O) 5 (n / 64) [n % 64] (Nat.lt_of_lt_of_eq (show n / 64 < 1073741824 by lia) (by decide)) (by decide) (show 1 ≤ 100 by decide)
  have hw' : run C 4000 ocWhile (ocSt cs O (.fro (nD (n / 64))) (.own ([n % 64].map nD))) = some (.next, ocSt cs O (.fro (nD m')) (.own ((x :: r).map nD))) := by
    rw [hw]; unfold figs at e1; rw [e1]
  refine ⟨.fro (nD m'), .own (((x + 128) :: r).map nD), ?_⟩
  refine (run_seq (run_asgO (l := [nD (n % 64)]) ?_)).trans ?_
  · exact eOf (v_lst (l_cons (eOf (v_bin (tOf (v_var rfl)) (tOf v_cI) (bin_mod n 64 (by decide)))) l_nil) (show 1 ≤ 16777216 by decide))
  refine (run_seq (ρ' := ocSt cs O (.fro (nD (n / 64))) (.own ([n % 64].map nD))) (run_aug rfl rfl (aug_div n 64 (by decide) (by decide)))).trans ?_
  refine (run_seq hw').trans ?_
  refine (run_seq (ρ' := ocSt cs O (.fro (nD m')) (.own (((x + 128) :: r).map nD))) (run_augI rfl rfl rfl (o := (x : Int)) (r := ((x + 128 : Nat) : Int)) ?_ rfl ?_)).trans ?_
  · exact dsub_nat (k := 0) (by decide) rfl
  · unfold setNat
    rw [if_pos (smallI_of (by decide) (by decide)), if_pos (by decide), if_pos (by simp)]
    rfl
  refine run_seq (b := .nil) ((run_augL rfl rfl (by decide) (by simp; lia)).trans ?_)
  simp [ocSt, e2]
  rfl
theorem enc_len {n : Nat} (hn : n < 1073741824) : (enc n).length ≤ 6 := by
  obtain ⟨x, r, e1, e2, hF, hl, _⟩ := enc_shape hn
  rw [e2]; simp only [List.length_cons]; lia
theorem encs_len : ∀ (cs : List Nat), (∀ c ∈ cs, c < 1073741824) → (cs.flatMap enc).length ≤ 6 * cs.length
  | [], _ => Nat.le_refl _
  | c :: cs, h => by
    have h1 := enc_len (h c List.mem_cons_self)
    have h2 := encs_len cs λ d hd => h d (List.mem_cons_of_mem _ hd)
    rw [List.flatMap_cons, List.length_append, List.length_cons]; lia
theorem octets_ok (hcs : ∀ c ∈ cs, c < 1073741824) (hl : cs.length ≤ 100) : ∃ bs, specR C nm_law_octets ["corners"] ps_law_octets [.lst (cs.map nD)] = some (.bytes bs) ∧ Told bs.toList cs := by
  obtain ⟨ρ', h1, O', n', F', rfl, hO⟩ := runs_inv (body := run C 4000 ocBody) (tg := .one 3) (λ xs ρ => ∃ O n F, ρ = ocSt cs O n F ∧ ∃ done rest, cs = done ++ rest ∧ xs = rest.map nD ∧ O = done.flatMap enc) (by
    rintro x xs ρ ⟨O, n, F, rfl, done, rest, hc, hx, hO⟩
    cases rest with
    | nil => cases hx
    | cons c rest =>
      cases hx
      have hcn := hcs c (by rw [hc]; simp)
      have hOl : O.length ≤ 10000 := by
        rw [hO]
        have h1 := encs_len done λ d hd => hcs d (by rw [hc]; simp [hd])
        have h2 := congrArg List.length hc
        simp at h2; lia
      obtain ⟨n', F', h⟩ := oc_turn (C := C) (cs := cs) (O := O) hcn hOl (F := F)
      exact ⟨_, _, rfl, h, _, _, _, rfl, done ++ [c], rest, by rw [hc]; simp, rfl, by rw [hO]; simp⟩) (cs.map nD) _ ⟨[], .undef, .undef, rfl, [], cs, rfl, rfl, rfl⟩
  obtain ⟨done, rest, hc, hr, rfl⟩ := hO
  have : rest = [] := by cases rest with | nil => rfl | cons => cases hr
  subst this
  rw [List.append_nil] at hc
  subst hc
  have e1 := encs_len cs hcs
  have hall : ((cs.flatMap enc).map λ (k : Nat) => (k : Int)).all (λ n => decide (0 ≤ n) && decide (n < 256)) = true := by
    rw [List.all_eq_true]
    intro y hy
    obtain ⟨k, hk, rfl⟩ := List.mem_map.mp hy
    obtain ⟨c, hc, hk⟩ := List.mem_flatMap.mp hk
    have := enc_lt (hcs c hc) k hk
    simp; lia
  have hmap : (cs.flatMap enc).map nD = ((cs.flatMap enc).map λ (k : Nat) => (k : Int)).map .int := by rw [List.map_map]; rfl
  refine ⟨PySem.byteArr ((cs.flatMap enc).map λ (k : Nat) => (k : Int)), ?_, ?_⟩
  · refine specR_of (ρ' := ocSt cs (cs.flatMap enc) n' F') rfl ?_
    refine (run_seq (run_asgO (l := []) rfl)).trans ((run_seq (run_for (it_of (v_var rfl) (by simp; lia)) h1)).trans (run_ret (run_retE ?_)))
    refine eOf (v_bi (lt_cons (t_own rfl) lt_nil) ?_)
    show bbytes [.lst ((cs.flatMap enc).map nD)] = _
    rw [hmap]
    refine bnd (intsOf_map _) (if_pos ?_)
    rw [hall, Bool.true_and]
    exact decide_eq_true (by rw [List.length_map]; lia)
  · have : (PySem.byteArr ((cs.flatMap enc).map λ (k : Nat) => (k : Int))).toList = (cs.flatMap enc).map (·.toUInt8) := by
      unfold PySem.byteArr
      rw [List.map_map]
      rfl
    rw [this]
    exact told_enc cs hcs
end
noncomputable def sgTab : List Nat := [40, 41, 34, 92, 97, 43]
noncomputable def remTab : List (List Nat) := [[], [34, 41, 34], [34, 40, 92, 34, 34], [34, 92, 92, 40, 34]]
noncomputable def remc (r : Nat) : List Nat := remTab.getD r []
noncomputable def before (ns : List Nat) (c : Nat) : Nat := if c = 0 then ns.getLastD 0 else ns.getD (c - 1) 0
noncomputable def sgn (ns : List Nat) (c : Nat) : Nat := sgTab.getD ((before ns c / 11040 + c) % 6) 0
abbrev Th := Nat × Nat × List Nat
noncomputable def thD (t : Th) : D := .tup [.int (t.1 : Int), .int (t.2.1 : Int), .str (S t.2.2)]
noncomputable def addAt (co : List Nat) (i v : Nat) : List Nat := co.set i (co.getD i 0 + v)
noncomputable def joined (x : Nat) (fr bk : List Nat) : List Nat := [40] ++ fr ++ opc (x / 60 % 46) ++ remc (x / 2760 % 4) ++ bk ++ [41]
noncomputable def drSt (ns : List Nat) (co : List Nat) (th : List Th) (g : List Slot) : List Slot :=
  .undef :: .fro (.lst (ns.map nD)) :: .fro (.lst (opTab.map strD)) :: .fro (.lst (remTab.map strD)) :: .fro (.int ((ns.length + 1 : Nat) : Int)) :: .own (co.map nD) :: .own (th.map thD) :: g
noncomputable def drBody1 : PS :=
    (.seq (.asg 8 (.sub (.cS "()\"\\a+") (.bin .Mod (.bin .Add (.bin .FloorDiv (.sub (.var 1) (.bin .Sub (.var 7) (.cI 1))) (.cI 11040)) (.var 7)) (.cI 6))))
    (.seq (.setI 5 (.var 7) (.bin .Mult (.cI 4096) (.bi .ord (.cons (.var 8) .nil))))
    (.seq (.app 6 (.tup (.cons (.var 7) (.cons (.bin .Add (.var 7) (.cI 1)) (.cons (.bin .Add (.cS "\\") (.var 8)) .nil)))))
    .nil)))
noncomputable def drBody2 : PS :=
    (.seq (.asg 10 (.bin .Mod (.var 9) (.bin .Sub (.bi .len (.cons (.var 6) .nil)) (.cI 1))))
    (.seq (.asgT [11, 12, 13] (.sub (.var 6) (.var 10)))
    (.seq (.asgT [12, 14, 15] (.sub (.var 6) (.bin .Add (.var 10) (.cI 1))))
    (.seq (.asg 16 (.bin .Mod (.bin .FloorDiv (.var 9) (.cI 60)) (.cI 46)))
    (.seq (.asg 17 (.bin .Add (.bin .Add (.bin .Add (.bin .Add (.bin .Add (.cS "(") (.var 13)) (.sub (.var 2) (.var 16))) (.sub (.var 3) (.bin .Mod (.bin .FloorDiv (.var 9) (.cI 2760)) (.cI 4)))) (.var 15)) (.cS ")")))
    (.seq (.augI 5 .Add (.var 11) (.cI 1))
    (.seq (.augI 5 .Add (.var 12) (.bin .Add (.bin .Mult (.cI 64) (.bin .Add (.var 16) (.cI 9))) (.cI 1)))
    (.seq (.augI 5 .Add (.var 14) (.cI 1))
    (.seq (.asgO 6 (.bin .Add (.bin .Add (.slc (.var 6) .abs (.var 10)) (.lst (.cons (.tup (.cons (.var 11) (.cons (.var 14) (.cons (.var 17) .nil)))) .nil))) (.slc (.var 6) (.bin .Add (.var 10) (.cI 2)) .abs)))
    .nil)))))))))
theorem signs_S : (("()\"\\a+" : Str)) = S [40, 41, 34, 92, 97, 43] := by decide +kernel
theorem back_S : (("\\" : Str)) = S [92] := by decide +kernel
theorem rem1_S : (("\")\"" : Str)) = S [34, 41, 34] := by decide +kernel
theorem rem2_S : (("\"(\\\"\"" : Str)) = S [34, 40, 92, 34, 34] := by decide +kernel
theorem rem3_S : (("\"\\\\(\"" : Str)) = S [34, 92, 92, 40, 34] := by decide +kernel
noncomputable def opText : Str := "[ ] : , ; + - * / | & < > = . % { } == != <= >= ~ ^ << >> ** += -= *= /= %= &= |= ^= <<= >>= **= // //= @ @= -> ... := !"
theorem words_S : (Txt.words opText).map (λ x => x.cps.toList) = opTab := by decide +kernel
theorem split_S : dsplit opText = some (.lst (opTab.map strD)) := by
  have e : (Txt.words opText).map D.str = opTab.map strD := by
    rw [← words_S, List.map_map]
    refine List.map_congr_left λ x _ => ?_
    show D.str x = D.str (S x.cps.toList)
    rw [← S_of]
  unfold dsplit
  rw [if_pos (by decide +kernel), e]
section
variable {C : Cx}
theorem v_splt {s : Str} {ρ : List Slot} {d : D} (h : dsplit s = some d) : ev C (.splt s) ρ = .of (some d) := by
  show Rs.of (dsplit s) = _
  rw [h]
theorem bin_ss {a b : List Nat} (h : a.length + b.length ≤ 16777216) : dbin .Add (.str (S a)) (.str (S b)) = some (.str (S (a ++ b))) := by
  show (if decide ((S a).length + (S b).length ≤ 16777216) then some (D.str (S a ++ S b)) else none) = _
  rw [S_len, S_len, if_pos (decide_eq_true h), S_app]
theorem dsub_str {l : List Nat} {k : Nat} {c : Nat} (hk : k ≤ 100000) (h : l[k]? = some c) : dsub (.str (S l)) (.int (k : Int)) = some (.str (S [c])) := by
  exact dsubS_at hk h
theorem setNat_nat {l : List D} {k : Nat} {d : D} (hk : k ≤ 100000) (h : k < l.length) : setNat l (k : Int) d = some (l.set k d) := by
  unfold setNat
  rw [if_pos (smallI_of (by lia) (by lia)), if_pos (by lia), if_pos (by simpa using h)]
  simp
theorem bord_S {c : Nat} : bord [.str (S [c])] = some (.int (c : Int)) := rfl
theorem run_asgT {f : Nat} {is : List Nat} {e : PE} {ρ ρ' : List Slot} {d : D} (h1 : (ev C e ρ).e = some d) (h2 : bindT (.many is) d ρ = some ρ') : run C f (.asgT is e) ρ = some (.next, ρ') := by
  show ((ev C e ρ).e.bind λ d => (bindT (.many is) d ρ).bind λ ρ' => some (Fl.next, ρ')) = _
  rw [h1, Option.bind_some, h2]; rfl
noncomputable def dr1 (ns : List Nat) (c : Nat) : List Nat := (List.range c).map (λ c => 4096 * sgn ns c) ++ List.replicate (ns.length + 2 - c) 0
noncomputable def dr2 (ns : List Nat) (c : Nat) : List Th := (List.range c).map λ c => (c, c + 1, [92, sgn ns c])
theorem dr_sign {ns : List Nat} (hns : ∀ x ∈ ns, x < 1000000) (h0 : 0 < ns.length) (hl : ns.length ≤ 1000) {co th} {c : Nat} (hc : c ≤ ns.length) {g : List Slot} :
    run C 4000 (.asg 8 (.sub (.cS "()\"\\a+") (.bin .Mod (.bin .Add (.bin .FloorDiv (.sub (.var 1) (.bin .Sub (.var 7) (.cI 1))) (.cI 11040)) (.var 7)) (.cI 6)))) (drSt ns co th (.fro (nD c) :: .undef :: g)) = some (.next, drSt ns co th (.fro (nD c) :: .fro (.str (S [sgn ns c])) :: g)) ∧
    run C 4000 (.asg 8 (.sub (.cS "()\"\\a+") (.bin .Mod (.bin .Add (.bin .FloorDiv (.sub (.var 1) (.bin .Sub (.var 7) (.cI 1))) (.cI 11040)) (.var 7)) (.cI 6)))) (drSt ns co th (.fro (nD c) :: .fro d :: g)) = some (.next, drSt ns co th (.fro (nD c) :: .fro (.str (S [sgn ns c])) :: g)) := by
  have hb : dsub (.lst (ns.map nD)) (.int ((c : Int) - 1)) = some (nD (before ns c)) := by
    unfold before
    by_cases h : c = 0
    · subst h
      rw [if_pos rfl]
      obtain ⟨l, x, e⟩ : ∃ l x, ns = l ++ [x] := ⟨ns.dropLast, ns.getLast (by intro e; rw [e] at h0; simp at h0), (List.dropLast_concat_getLast _).symm⟩
      have hx : ns.getLastD 0 = x := by rw [e]; simp
      rw [hx, e, List.map_append]
      exact dsub_last (by rw [e] at hl; simp at hl ⊢; lia)
    · rw [if_neg h, show (c : Int) - 1 = ((c - 1 : Nat) : Int) by lia]
      refine dsub_nat (by lia) ?_
      rw [List.getElem?_map, List.getElem?_eq_getElem (by lia), List.getD_eq_getElem?_getD, List.getElem?_eq_getElem (by lia)]
      rfl
  have hs : [40, 41, 34, 92, 97, 43][(before ns c / 11040 + c) % 6]? = some (sgn ns c) := by
    have : (before ns c / 11040 + c) % 6 < 6 := Nat.mod_lt _ (by decide)
    unfold sgn
    generalize (before ns c / 11040 + c) % 6 = k at this
    match k, this with
    | 0, _ => rfl
    | 1, _ => rfl
    | 2, _ => rfl
    | 3, _ => rfl
    | 4, _ => rfl
    | 5, _ => rfl
  have key : ∀ s : Slot, (ev C (.sub (.cS "()\"\\a+") (.bin .Mod (.bin .Add (.bin .FloorDiv (.sub (.var 1) (.bin .Sub (.var 7) (.cI 1))) (.cI 11040)) (.var 7)) (.cI 6))) (drSt ns co th (.fro (nD c) :: s :: g))).e = some (.str (S [sgn ns c])) := by
    intro s
    refine eOf (v_sub (a := .str (S [40, 41, 34, 92, 97, 43])) (tOf (by rw [← signs_S]; exact v_cS)) (tOf (v_bin (tOf (v_bin (tOf (v_bin (tOf (v_sub (tOf (v_var rfl)) (tOf (v_bin (tOf (v_var rfl)) (tOf v_cI) (bin_sb _ _))) hb)) (tOf v_cI) (bin_div _ 11040 (by decide) (by decide)))) (tOf (v_var rfl)) (d := nD (before ns c / 11040 + c)) rfl)) (tOf v_cI) (bin_mod _ 6 (by decide)))) (dsub_str ?_ hs))
    have : (before ns c / 11040 + c) % 6 < 6 := Nat.mod_lt _ (by decide)
    lia
  exact ⟨run_asg (key _), run_asg (key _)⟩
theorem sgn_lt (ns : List Nat) (c : Nat) : sgn ns c < 128 := by
  have : (before ns c / 11040 + c) % 6 < 6 := Nat.mod_lt _ (by decide)
  unfold sgn
  generalize (before ns c / 11040 + c) % 6 = k at this
  match k, this with
  | 0, _ => decide
  | 1, _ => decide
  | 2, _ => decide
  | 3, _ => decide
  | 4, _ => decide
  | 5, _ => decide
theorem sgn_ge (ns : List Nat) (c : Nat) : 34 ≤ sgn ns c := by
  have : (before ns c / 11040 + c) % 6 < 6 := Nat.mod_lt _ (by decide)
  unfold sgn
  generalize (before ns c / 11040 + c) % 6 = k at this
  match k, this with
  | 0, _ => decide
  | 1, _ => decide
  | 2, _ => decide
  | 3, _ => decide
  | 4, _ => decide
  | 5, _ => decide
end
section
variable {C : Cx} {ns : List Nat}
theorem dr1_len {c : Nat} (hc : c ≤ ns.length + 1) : (dr1 ns c).length = ns.length + 2 := by
  unfold dr1; rw [List.length_append, List.length_map, List.length_range, List.length_replicate]; exact Nat.add_sub_cancel' (Nat.le_succ_of_le hc)
theorem dr1_set {c : Nat} (hc : c ≤ ns.length) : (dr1 ns c).set c (4096 * sgn ns c) = dr1 ns (c + 1) := by
  unfold dr1
  have e : ns.length + 2 - c = (ns.length + 2 - (c + 1)) + 1 := (Nat.succ_pred_eq_of_pos (Nat.sub_pos_of_lt (Nat.lt_succ_of_le (Nat.le_succ_of_le hc)))).symm
  rw [e, List.replicate_succ, List.set_append_right _ _ (by simp), List.range_succ, List.map_append]
  simp
theorem dr_turn1 (hns : ∀ x ∈ ns, x < 1000000) (h0 : 0 < ns.length) (hl : ns.length ≤ 1000) {c : Nat} (hc : c ≤ ns.length) {s : Slot} (hs : s = .undef ∨ ∃ d, s = .fro d) {g : List Slot} :
    run C 4000 drBody1 (drSt ns (dr1 ns c) (dr2 ns c) (.fro (nD c) :: s :: g)) = some (.next, drSt ns (dr1 ns (c + 1)) (dr2 ns (c + 1)) (.fro (nD c) :: .fro (.str (S [sgn ns c])) :: g)) := by
  have e1 : run C 4000 (.asg 8 (.sub (.cS "()\"\\a+") (.bin .Mod (.bin .Add (.bin .FloorDiv (.sub (.var 1) (.bin .Sub (.var 7) (.cI 1))) (.cI 11040)) (.var 7)) (.cI 6)))) (drSt ns (dr1 ns c) (dr2 ns c) (.fro (nD c) :: s :: g)) = some (.next, drSt ns (dr1 ns c) (dr2 ns c) (.fro (nD c) :: .fro (.str (S [sgn ns c])) :: g)) := by
    rcases hs with rfl | ⟨d, rfl⟩
    · exact (dr_sign (d := .none) hns h0 hl hc).1
    · exact (dr_sign hns h0 hl hc).2
  refine (run_seq e1).trans ?_
  have hlen := dr1_len (ns := ns) (c := c) (by lia)
  refine (run_seq (run_setI (ds' := (dr1 ns (c + 1)).map nD) rfl (eOf (v_var rfl)) (eOf (v_bin (tOf v_cI) (tOf (v_bi (f := .ord) (d := nD (sgn ns c)) (lt_cons (tOf (v_var (d := .str (S [sgn ns c])) rfl)) lt_nil) bord_S)) (d := nD (4096 * sgn ns c)) ?_)) ?_)).trans ?_
  · rw [bin_mul _ _ (by decide) (by decide)]; rfl
  · rw [setNat_nat (by lia) (by rw [List.length_map, hlen]; lia), ← List.map_set, dr1_set hc]
  refine run_seq (b := .nil) ((run_app rfl (d := thD (c, c + 1, [92, sgn ns c])) ?_ ?_).trans ?_)
  · refine eOf (v_tup (l := [nD c, nD (c + 1), .str (S [92, sgn ns c])]) (l_cons (eOf (v_var rfl)) (l_cons (eOf (v_bin (tOf (v_var rfl)) (tOf v_cI) rfl)) (l_cons (eOf (v_bin (a := .str (S [92])) (tOf (by rw [← back_S]; exact v_cS)) (tOf (v_var rfl)) ?_)) l_nil))) (show 3 ≤ 16777216 by decide))
    exact bin_ss (show 1 + 1 ≤ 16777216 by decide)
  · rw [List.length_map]; unfold dr2; rw [List.length_map, List.length_range]; lia
  · have e2 : dr2 ns (c + 1) = dr2 ns c ++ [(c, c + 1, [92, sgn ns c])] := by unfold dr2; rw [List.range_succ, List.map_append]; rfl
    rw [e2]
    simp [drSt]
structure Dr where
  th : List Th
  co : List Nat
noncomputable def drStep (d : Dr) (x a : Nat) : Dr := match d.th[a]?, d.th[a + 1]? with
  | some (i, _, fr), some (k, j, bk) => ⟨d.th.take a ++ [(i, j, joined x fr bk)] ++ d.th.drop (a + 2), addAt (addAt (addAt d.co i 1) k (64 * (x / 60 % 46 + 9) + 1)) j 1⟩
  | _, _ => d
theorem aug_at {ρ : List Slot} {co : List Nat} {i v : Nat} {k e : PE} (h0 : ρ[5]? = some (.own (co.map nD))) (hi : i < co.length) (hc : co.length ≤ 1000) (hk : (ev C k ρ).e = some (nD i)) (he : (ev C e ρ).e = some (nD v)) : run C 4000 (.augI 5 .Add k e) ρ = some (.next, ρ.set 5 (.own ((addAt co i v).map nD))) := by
  refine run_augI h0 hk he (o := ((co.getD i 0 : Nat) : Int)) (r := ((co.getD i 0 + v : Nat) : Int)) (dsub_nat (by lia) ?_) rfl ?_
  · rw [List.getElem?_map, List.getElem?_eq_getElem hi, List.getD_eq_getElem?_getD, List.getElem?_eq_getElem hi]; rfl
  · rw [setNat_nat (by lia) (by simpa using hi)]
    unfold addAt
    rw [List.map_set]
theorem slc_to {l : List D} {b : Nat} (hl : l.length ≤ 16777216) : dslc (.lst l) none (some (b : Int)) = some (.lst (l.take b)) :=
  (if_pos (and_true2 (and_true2 rfl (nonneg_nat b)) (decide_eq_true hl))).trans (congrArg (λ x => some (D.lst x)) (take_cut l 0 b l.length rfl))
theorem drop_cut {α : Type} (l : List α) (a : Nat) : (l.drop (min a l.length)).take (l.length - min a l.length) = l.drop a := by
  rw [List.take_of_length_le (Nat.le_of_eq List.length_drop)]
  rcases Nat.le_total a l.length with h | h
  · rw [Nat.min_eq_left h]
  · rw [Nat.min_eq_right h, List.drop_length, List.drop_eq_nil_of_le h]
theorem slc_from {l : List D} {a : Nat} (hl : l.length ≤ 16777216) : dslc (.lst l) (some (a : Int)) none = some (.lst (l.drop a)) :=
  (if_pos (and_true2 (and_true2 (nonneg_nat a) rfl) (decide_eq_true hl))).trans (congrArg (λ x => some (D.lst x)) (drop_cut l a))
theorem mark40' : ev C (.cS "(") ρ = .of (some (.str (S [40]))) := by rw [← mark40]; exact v_cS
theorem mark41' : ev C (.cS ")") ρ = .of (some (.str (S [41]))) := by rw [← mark41]; exact v_cS
theorem remc_len (r : Nat) : (remc r).length ≤ 5 := by
  unfold remc
  match r with
  | 0 => decide
  | 1 => decide
  | 2 => decide
  | 3 => decide
  | r + 4 => simp [remTab]
theorem addAt_len (co : List Nat) (i v : Nat) : (addAt co i v).length = co.length := by unfold addAt; exact List.length_set
section
variable {co : List Nat} {th : List Th} {x a i k k' j : Nat} {fr bk : List Nat} {g7 g8 g10 g11 g12 g13 g14 g15 g16 g17 : Slot}
theorem th_len (h : th.length ≤ 1000) : (th.map thD).length ≤ 16777216 := by rw [List.length_map]; exact Nat.le_trans h (by decide)
theorem th_cut1 (h : th.length ≤ 1000) (a : Nat) (d : D) : ((th.map thD).take a).length + [d].length ≤ 16777216 := by
  rw [List.length_take, List.length_map]; exact Nat.le_trans (Nat.add_le_add_right (Nat.le_trans (Nat.min_le_right ..) h) 1) (by decide)
theorem th_cut2 (h : th.length ≤ 1000) (a b : Nat) (d : D) : ((th.map thD).take a ++ [d]).length + ((th.map thD).drop b).length ≤ 16777216 := by
  rw [List.length_append, List.length_drop, List.length_take, List.length_map]
  exact Nat.le_trans (Nat.add_le_add (Nat.add_le_add_right (Nat.le_trans (Nat.min_le_right ..) h) 1) (Nat.le_trans (Nat.sub_le ..) h)) (by decide)
theorem at_le {t : Th} (htl : th.length ≤ 1000) (h : th[a]? = some t) : a ≤ 100000 := Nat.le_trans (Nat.le_of_lt (List.getElem?_eq_some_iff.mp h).1) (Nat.le_trans htl (by decide))
theorem th_at {t : Th} (h : th[a]? = some t) : (th.map thD)[a]? = some (thD t) := by rw [List.getElem?_map, h]; rfl
theorem dr_s1 (ha : a = x % (th.length - 1)) (hth : 2 ≤ th.length) (htl : th.length ≤ 1000) : run C 4000 (.asg 10 (.bin .Mod (.var 9) (.bin .Sub (.bi .len (.cons (.var 6) .nil)) (.cI 1)))) (drSt ns co th [g7, g8, .fro (nD x), g10, g11, g12, g13, g14, g15, g16, g17]) = some (.next, drSt ns co th [g7, g8, .fro (nD x), .fro (nD a), g11, g12, g13, g14, g15, g16, g17]) := by
  refine run_asg (eOf (v_bin (tOf (v_var rfl)) (tOf (v_bin (tOf (v_len (t_own rfl) (th_len htl))) (tOf v_cI) (d := nD (th.length - 1)) ?_)) ?_))
  · rw [bin_sb, List.length_map]; exact congrArg (λ x => some (D.int x)) (Int.ofNat_sub (Nat.le_of_succ_le hth)).symm
  · rw [bin_mod _ _ (Nat.sub_ne_zero_of_lt hth), ha]
theorem dr_s2 (h1 : th[a]? = some (i, k', fr)) (htl : th.length ≤ 1000) : run C 4000 (.asgT [11, 12, 13] (.sub (.var 6) (.var 10))) (drSt ns co th [g7, g8, .fro (nD x), .fro (nD a), g11, g12, g13, g14, g15, g16, g17]) = some (.next, drSt ns co th [g7, g8, .fro (nD x), .fro (nD a), .fro (nD i), .fro (nD k'), .fro (strD fr), g14, g15, g16, g17]) :=
  run_asgT (d := thD (i, k', fr)) (eOf (v_sub (t_own rfl) (tOf (v_var rfl)) (dsub_nat (at_le htl h1) (th_at h1)))) rfl
theorem dr_s3 (h2 : th[a + 1]? = some (k, j, bk)) (htl : th.length ≤ 1000) : run C 4000 (.asgT [12, 14, 15] (.sub (.var 6) (.bin .Add (.var 10) (.cI 1)))) (drSt ns co th [g7, g8, .fro (nD x), .fro (nD a), g11, g12, g13, g14, g15, g16, g17]) = some (.next, drSt ns co th [g7, g8, .fro (nD x), .fro (nD a), g11, .fro (nD k), g13, .fro (nD j), .fro (strD bk), g16, g17]) :=
  run_asgT (d := thD (k, j, bk)) (eOf (v_sub (t_own rfl) (tOf (v_bin (tOf (v_var rfl)) (tOf v_cI) (d := nD (a + 1)) rfl)) (dsub_nat (at_le htl h2) (th_at h2)))) rfl
theorem dr_s4 : run C 4000 (.asg 16 (.bin .Mod (.bin .FloorDiv (.var 9) (.cI 60)) (.cI 46))) (drSt ns co th [g7, g8, .fro (nD x), g10, g11, g12, g13, g14, g15, g16, g17]) = some (.next, drSt ns co th [g7, g8, .fro (nD x), g10, g11, g12, g13, g14, g15, .fro (nD (x / 60 % 46)), g17]) :=
  run_asg (eOf (v_bin (tOf (v_bin (tOf (v_var rfl)) (tOf v_cI) (bin_div x 60 (by decide) (by decide)))) (tOf v_cI) (bin_mod _ 46 (by decide))))
theorem tab_at {l : List (List Nat)} {m : Nat} (h : m < l.length) : (l.map strD)[m]? = some (strD (l.getD m [])) := by
  rw [List.getElem?_map, List.getElem?_eq_getElem h, List.getD_eq_getElem?_getD, List.getElem?_eq_getElem h]; rfl
theorem jn_le {a b c d : Nat} (ha : a ≤ 100000) (hb : b ≤ 3) (hc : c ≤ 5) (hd : d ≤ 100000) : 1 + a + b + c + d + 1 ≤ 16777216 :=
  Nat.le_trans (Nat.succ_le_succ (Nat.add_le_add (Nat.add_le_add (Nat.add_le_add (Nat.add_le_add (Nat.le_refl 1) ha) hb) hc) hd)) (by decide)
theorem joined_le {a b c d : List Nat} (ha : a.length ≤ 100000) (hb : b.length ≤ 3) (hc : c.length ≤ 5) (hd : d.length ≤ 100000) : ([40] ++ a ++ b ++ c ++ d).length + 1 ≤ 16777216 ∧ ([40] ++ a ++ b ++ c).length + d.length ≤ 16777216 ∧ ([40] ++ a ++ b).length + c.length ≤ 16777216 ∧ ([40] ++ a).length + b.length ≤ 16777216 ∧ 1 + a.length ≤ 16777216 := by
  simp only [List.length_append, List.length_cons, List.length_nil, Nat.zero_add]
  have q4 := Nat.le_of_succ_le (jn_le ha hb hc hd)
  have q3 := Nat.le_trans (Nat.le_add_right _ _) q4
  have q2 := Nat.le_trans (Nat.le_add_right _ _) q3
  exact ⟨jn_le ha hb hc hd, q4, q3, q2, Nat.le_trans (Nat.le_add_right _ _) q2⟩
theorem dr_s5 (hfr : fr.length ≤ 100000) (hbk : bk.length ≤ 100000) : run C 4000 (.asg 17 (.bin .Add (.bin .Add (.bin .Add (.bin .Add (.bin .Add (.cS "(") (.var 13)) (.sub (.var 2) (.var 16))) (.sub (.var 3) (.bin .Mod (.bin .FloorDiv (.var 9) (.cI 2760)) (.cI 4)))) (.var 15)) (.cS ")"))) (drSt ns co th [g7, g8, .fro (nD x), g10, g11, g12, .fro (strD fr), g14, .fro (strD bk), .fro (nD (x / 60 % 46)), g17]) = some (.next, drSt ns co th [g7, g8, .fro (nD x), g10, g11, g12, .fro (strD fr), g14, .fro (strD bk), .fro (nD (x / 60 % 46)), .fro (strD (joined x fr bk))]) := by
  have hkind : x / 60 % 46 < 46 := Nat.mod_lt _ (by decide)
  have hrem : x / 2760 % 4 < 4 := Nat.mod_lt _ (by decide)
  have q := joined_le hfr (op_ok hkind).three (remc_len (x / 2760 % 4)) hbk
  exact run_asg (eOf (v_bin (a := .str (S ([40] ++ fr ++ opc (x / 60 % 46) ++ remc (x / 2760 % 4) ++ bk))) (tOf (v_bin (a := .str (S ([40] ++ fr ++ opc (x / 60 % 46) ++ remc (x / 2760 % 4)))) (tOf (v_bin (a := .str (S ([40] ++ fr ++ opc (x / 60 % 46)))) (tOf (v_bin (a := .str (S ([40] ++ fr))) (tOf (v_bin (tOf mark40') (tOf (v_var rfl)) (bin_ss q.2.2.2.2))) (tOf (v_sub (tOf (v_var rfl)) (tOf (v_var rfl)) (dsub_nat (Nat.le_trans (Nat.le_of_lt hkind) (by decide)) (tab_at (l := opTab) hkind)))) (bin_ss q.2.2.2.1))) (tOf (v_sub (tOf (v_var rfl)) (tOf (v_bin (tOf (v_bin (tOf (v_var rfl)) (tOf v_cI) (bin_div x 2760 (by decide) (by decide)))) (tOf v_cI) (bin_mod _ 4 (by decide)))) (dsub_nat (Nat.le_trans (Nat.le_of_lt hrem) (by decide)) (tab_at (l := remTab) hrem)))) (bin_ss q.2.2.1))) (tOf (v_var rfl)) (bin_ss q.2.1))) (tOf mark41') (bin_ss q.1)))
noncomputable def coAt (co : List Nat) (x i k j : Nat) : List Nat := addAt (addAt (addAt co i 1) k (64 * (x / 60 % 46 + 9) + 1)) j 1
noncomputable def thAt (th : List Th) (x a i j : Nat) (fr bk : List Nat) : List Th := th.take a ++ [(i, j, joined x fr bk)] ++ th.drop (a + 2)
theorem drStep_eq (h1 : th[a]? = some (i, k', fr)) (h2 : th[a + 1]? = some (k, j, bk)) : drStep ⟨th, co⟩ x a = ⟨thAt th x a i j fr bk, coAt co x i k j⟩ := by
  unfold drStep; dsimp only; rw [h1, h2]; rfl
theorem dr_s6 (hi : i < co.length) (hk : k < co.length) (hj : j < co.length) (hco : co.length ≤ 1000) {b : PS} : run C 4000 (.seq (.augI 5 .Add (.var 11) (.cI 1)) (.seq (.augI 5 .Add (.var 12) (.bin .Add (.bin .Mult (.cI 64) (.bin .Add (.var 16) (.cI 9))) (.cI 1))) (.seq (.augI 5 .Add (.var 14) (.cI 1)) b))) (drSt ns co th [g7, g8, .fro (nD x), g10, .fro (nD i), .fro (nD k), g13, .fro (nD j), g15, .fro (nD (x / 60 % 46)), g17]) = run C 4000 b (drSt ns (coAt co x i k j) th [g7, g8, .fro (nD x), g10, .fro (nD i), .fro (nD k), g13, .fro (nD j), g15, .fro (nD (x / 60 % 46)), g17]) := by
  have c1 := addAt_len co i 1
  have c2 := (addAt_len (addAt co i 1) k (64 * (x / 60 % 46 + 9) + 1)).trans c1
  exact (run_seq (aug_at (co := co) (i := i) (v := 1) rfl hi hco (eOf (v_var rfl)) (eOf v_cI))).trans
    ((run_seq (aug_at (co := addAt co i 1) (i := k) (v := 64 * (x / 60 % 46 + 9) + 1) rfl (c1 ▸ hk) (c1 ▸ hco) (eOf (v_var rfl)) (eOf (v_bin (tOf (v_bin (tOf v_cI) (tOf (v_bin (tOf (v_var rfl)) (tOf v_cI) rfl)) (bin_mul _ _ (by decide) (by decide)))) (tOf v_cI) rfl)))).trans
    (run_seq (aug_at (co := addAt (addAt co i 1) k (64 * (x / 60 % 46 + 9) + 1)) (i := j) (v := 1) rfl (c2 ▸ hj) (c2 ▸ hco) (eOf (v_var rfl)) (eOf v_cI))))
theorem thAt_map : (th.map thD).take a ++ [thD (i, j, joined x fr bk)] ++ (th.map thD).drop (a + 2) = (thAt th x a i j fr bk).map thD := by
  unfold thAt; rw [List.map_append, List.map_append, List.map_take, List.map_drop]; rfl
theorem dr_s7 (htl : th.length ≤ 1000) : run C 4000 (.asgO 6 (.bin .Add (.bin .Add (.slc (.var 6) .abs (.var 10)) (.lst (.cons (.tup (.cons (.var 11) (.cons (.var 14) (.cons (.var 17) .nil)))) .nil))) (.slc (.var 6) (.bin .Add (.var 10) (.cI 2)) .abs))) (drSt ns co th [g7, g8, g10, .fro (nD a), .fro (nD i), g12, g13, .fro (nD j), g15, g16, .fro (strD (joined x fr bk))]) = some (.next, drSt ns co (thAt th x a i j fr bk) [g7, g8, g10, .fro (nD a), .fro (nD i), g12, g13, .fro (nD j), g15, g16, .fro (strD (joined x fr bk))]) := by
  exact (run_asgO (eOf (v_bin (tOf (v_bin (tOf (v_slc (t_own rfl) p_abs (p_int rfl (v_var rfl)) (slc_to (th_len htl)))) (tOf (v_lst (l := [thD (i, j, joined x fr bk)]) (l_cons (eOf (v_tup (l_cons (eOf (v_var rfl)) (l_cons (eOf (v_var rfl)) (l_cons (eOf (v_var rfl)) l_nil))) (show 3 ≤ 16777216 by decide))) l_nil) (show 1 ≤ 16777216 by decide))) (bin_app (th_cut1 htl _ _)))) (tOf (v_slc (t_own rfl) (p_int (i := ((a + 2 : Nat) : Int)) rfl (v_bin (tOf (v_var rfl)) (tOf v_cI) rfl)) p_abs (slc_from (th_len htl)))) (bin_app (th_cut2 htl _ _ _))))).trans (congrArg (λ l => some (Fl.next, (drSt ns co th [g7, g8, g10, .fro (nD a), .fro (nD i), g12, g13, .fro (nD j), g15, g16, .fro (strD (joined x fr bk))]).set 6 (Slot.own l))) thAt_map)
theorem dr_body (ha : a = x % (th.length - 1)) (h1 : th[a]? = some (i, k', fr)) (h2 : th[a + 1]? = some (k, j, bk)) (hth : 2 ≤ th.length) (htl : th.length ≤ 1000) (hi : i < co.length) (hk : k < co.length) (hj : j < co.length) (hco : co.length ≤ 1000)
    (hfr : fr.length ≤ 100000) (hbk : bk.length ≤ 100000) :
    run C 4000 drBody2 (drSt ns co th [g7, g8, .fro (nD x), g10, g11, g12, g13, g14, g15, g16, g17]) = some (.next, drSt ns (coAt co x i k j) (thAt th x a i j fr bk) [g7, g8, .fro (nD x), .fro (nD a), .fro (nD i), .fro (nD k), .fro (strD fr), .fro (nD j), .fro (strD bk), .fro (nD (x / 60 % 46)), .fro (strD (joined x fr bk))]) :=
  (run_seq (dr_s1 ha hth htl)).trans ((run_seq (dr_s2 h1 htl)).trans ((run_seq (dr_s3 h2 htl)).trans ((run_seq dr_s4).trans ((run_seq (dr_s5 hfr hbk)).trans ((dr_s6 hi hk hj hco).trans (run_seq (b := .nil) (dr_s7 htl)))))))
end
noncomputable def gs (g : Nat → Slot) : List Slot := [g 7, g 8, g 9, g 10, g 11, g 12, g 13, g 14, g 15, g 16, g 17]
noncomputable def drF (ns co : List Nat) (th : List Th) (ρ : List Slot) : Prop := ∃ g : Nat → Slot, ρ = drSt ns co th (gs g)
theorem dr_turn2 {co : List Nat} {th : List Th} {x a : Nat} (ha : a = x % (th.length - 1)) {i k k' j : Nat} {fr bk : List Nat} (h1 : th[a]? = some (i, k', fr)) (h2 : th[a + 1]? = some (k, j, bk)) (hth : 2 ≤ th.length) (htl : th.length ≤ 1000) (hi : i < co.length) (hk : k < co.length) (hj : j < co.length) (hco : co.length ≤ 1000)
    (hfr : fr.length ≤ 100000) (hbk : bk.length ≤ 100000) {ρ : List Slot} (h : drF ns co th ρ) : ∃ ρ1 ρ2, bindT (.one 9) (nD x) ρ = some ρ1 ∧ run C 4000 drBody2 ρ1 = some (.next, ρ2) ∧ drF ns (drStep ⟨th, co⟩ x a).co (drStep ⟨th, co⟩ x a).th ρ2 := by
  rw [drStep_eq h1 h2]
  exact h.elim λ g e => ⟨_, _, congrArg _ e, dr_body (g7 := g 7) (g8 := g 8) (g10 := g 10) (g11 := g 11) (g12 := g 12) (g13 := g 13) (g14 := g 14) (g15 := g 15) (g16 := g 16) (g17 := g 17) ha h1 h2 hth htl hi hk hj hco hfr hbk, λ n => (drSt ns co th [g 7, g 8, .fro (nD x), .fro (nD a), .fro (nD i), .fro (nD k), .fro (strD fr), .fro (nD j), .fro (strD bk), .fro (nD (x / 60 % 46)), .fro (strD (joined x fr bk))]).getD n .undef, rfl⟩
end
noncomputable def drGo : Dr → List Nat → Dr
  | d, [] => d
  | d, x :: xs => drGo (drStep d x (x % (d.th.length - 1))) xs
noncomputable def dr0 (ns : List Nat) : Dr := ⟨dr2 ns (ns.length + 1), dr1 ns (ns.length + 1)⟩
structure DrOk (N L : Nat) (d : Dr) : Prop where
  co : d.co.length = N
  th : ∀ t ∈ d.th, t.1 < N ∧ t.2.1 < N ∧ t.2.2.length ≤ L
theorem joined_len {x : Nat} {fr bk : List Nat} {L : Nat} (h1 : fr.length ≤ L) (h2 : bk.length ≤ L) : (joined x fr bk).length ≤ 2 * L + 10 := by
  have hkind : x / 60 % 46 < 46 := Nat.mod_lt _ (by decide)
  have h3 := (op_ok hkind).three
  have h4 := remc_len (x / 2760 % 4)
  unfold joined
  simp only [List.length_append, List.length_cons, List.length_nil]; lia
theorem drStep_of {d : Dr} {x a : Nat} (ha : a + 1 < d.th.length) : ∃ i k' fr k j bk, d.th[a]? = some (i, k', fr) ∧ d.th[a + 1]? = some (k, j, bk) ∧ drStep d x a = ⟨d.th.take a ++ [(i, j, joined x fr bk)] ++ d.th.drop (a + 2), addAt (addAt (addAt d.co i 1) k (64 * (x / 60 % 46 + 9) + 1)) j 1⟩ := by
  have h1 : d.th[a]? = some d.th[a] := List.getElem?_eq_getElem (Nat.lt_of_succ_lt ha)
  have h2 : d.th[a + 1]? = some d.th[a + 1] := List.getElem?_eq_getElem ha
  refine ⟨d.th[a].1, d.th[a].2.1, d.th[a].2.2, d.th[a + 1].1, d.th[a + 1].2.1, d.th[a + 1].2.2, h1, h2, ?_⟩
  unfold drStep; rw [h1, h2]
theorem le_grow (L : Nat) : L ≤ 2 * L + 10 := Nat.le_trans (Nat.le_mul_of_pos_left L (by decide)) (Nat.le_add_right _ _)
theorem cut_len {a n : Nat} (h : a + 1 < n) : min a n + (0 + 1) + (n - (a + 2)) + 1 = n := by
  rw [Nat.min_eq_left (Nat.le_of_lt (Nat.lt_of_succ_lt h)), Nat.add_right_comm]; exact Nat.add_sub_cancel' h
theorem DrOk.step {N L : Nat} {d : Dr} (h : DrOk N L d) {x a : Nat} (ha : a + 1 < d.th.length) : DrOk N (2 * L + 10) (drStep d x a) ∧ (drStep d x a).th.length + 1 = d.th.length := by
  obtain ⟨i, k', fr, k, j, bk, h1, h2, e⟩ := drStep_of (x := x) ha
  have g1 := h.th _ (List.mem_of_getElem? h1)
  have g2 := h.th _ (List.mem_of_getElem? h2)
  rw [e]
  refine ⟨⟨by simp only [addAt_len]; exact h.co, λ t ht => ?_⟩, ?_⟩
  · rcases List.mem_append.mp ht with ht | ht
    · rcases List.mem_append.mp ht with ht | ht
      · exact (h.th t (List.mem_of_mem_take ht)).imp id λ q => q.imp id λ q => Nat.le_trans q (le_grow L)
      · have : t = (i, j, joined x fr bk) := by simpa using ht
        subst this
        exact ⟨g1.1, g2.2.1, joined_len g1.2.2 g2.2.2⟩
    · exact (h.th t (List.mem_of_mem_drop ht)).imp id λ q => q.imp id λ q => Nat.le_trans q (le_grow L)
  · simp only [List.length_append, List.length_take, List.length_drop, List.length_cons, List.length_nil]; exact cut_len ha
section
variable {C : Cx} {ns : List Nat}
theorem pow_step {L m : Nat} (h : (L + 10) * 2 ^ (m + 1) ≤ 100000) : L ≤ 100000 ∧ (2 * L + 10 + 10) * 2 ^ m ≤ 100000 :=
  ⟨Nat.le_trans (Nat.le_add_right L 10) (Nat.le_trans (Nat.le_mul_of_pos_right _ (Nat.two_pow_pos _)) h), by
    rwa [Nat.pow_succ', ← Nat.mul_assoc, Nat.add_mul, Nat.mul_comm L 2] at h⟩
theorem dr_turn3 {N L : Nat} {d : Dr} {x : Nat} (hN : N ≤ 1000) (h : DrOk N L d) (ha : x % (d.th.length - 1) + 1 < d.th.length) (hl : d.th.length ≤ 1000) (hL : L ≤ 100000) {ρ : List Slot} (hρ : drF ns d.co d.th ρ) :
    ∃ ρ1 ρ2, bindT (.one 9) (nD x) ρ = some ρ1 ∧ run C 4000 drBody2 ρ1 = some (.next, ρ2) ∧ drF ns (drStep d x (x % (d.th.length - 1))).co (drStep d x (x % (d.th.length - 1))).th ρ2 := by
  obtain ⟨i, k', fr, k, j, bk, h1, h2, e⟩ := drStep_of (x := x) ha
  have q1 := h.th _ (List.mem_of_getElem? h1)
  have q2 := h.th _ (List.mem_of_getElem? h2)
  have hco := h.co
  exact dr_turn2 (co := d.co) rfl h1 h2 (Nat.lt_of_le_of_lt (Nat.succ_le_succ (Nat.zero_le _)) ha) hl (hco ▸ q1.1) (hco ▸ q2.1) (hco ▸ q2.2.1) (hco ▸ hN) (Nat.le_trans q1.2.2 hL) (Nat.le_trans q2.2.2 hL) hρ
theorem dr_run2 {N : Nat} (hN : N ≤ 1000) : ∀ (xs : List Nat) (d : Dr) (L : Nat) (ρ : List Slot), drF ns d.co d.th ρ → DrOk N L d → d.th.length = xs.length + 1 → xs.length ≤ 500 → (L + 10) * 2 ^ xs.length ≤ 100000 →
    ∃ ρ', Runs (run C 4000 drBody2) (.one 9) (xs.map nD) ρ ρ' ∧ drF ns (drGo d xs).co (drGo d xs).th ρ' ∧ (drGo d xs).th.length = 1 ∧ DrOk N 100000 (drGo d xs)
  | [], d, L, ρ, hρ, h, hl, _, hL => ⟨ρ, rfl, hρ, hl, ⟨h.co, λ t ht => have q := h.th t ht; ⟨q.1, q.2.1, Nat.le_trans q.2.2 (Nat.le_trans (Nat.le_add_right L 10) (Nat.le_trans (Nat.le_of_eq (Nat.mul_one _).symm) hL))⟩⟩⟩
  | x :: xs, d, L, ρ, hρ, h, hl, hx, hL =>
    have hp := pow_step hL
    have ha : x % (d.th.length - 1) + 1 < d.th.length := by
      rw [hl]; exact Nat.succ_lt_succ (Nat.mod_lt _ (Nat.succ_pos _))
    have st := h.step (x := x) ha
    (dr_turn3 hN h ha (hl ▸ Nat.le_trans (Nat.succ_le_succ hx) (by decide)) hp.1 hρ).elim λ ρ1 q => q.elim λ ρ2 q =>
    (dr_run2 hN xs (drStep d x (x % (d.th.length - 1))) (2 * L + 10) ρ2 q.2.2 st.1 (Nat.succ.inj (st.2.trans hl)) (Nat.le_of_succ_le hx) hp.2).imp λ _ r => ⟨⟨_, _, q.1, q.2.1, r.1⟩, r.2⟩
theorem dr0_ok : DrOk (ns.length + 2) 2 (dr0 ns) ∧ (dr0 ns).th.length = ns.length + 1 := by
  refine ⟨⟨dr1_len (by lia), λ t ht => ?_⟩, by unfold dr0 dr2; simp⟩
  obtain ⟨c, hc, rfl⟩ := List.mem_map.mp (show t ∈ (List.range (ns.length + 1)).map _ from ht)
  have := List.mem_range.mp hc
  refine ⟨by show c < _; lia, by show c + 1 < _; lia, Nat.le_refl 2⟩
theorem drawn_ok (hns : ∀ x ∈ ns, x < 1000000) (h0 : 0 < ns.length) (hl : ns.length ≤ 10) : ∃ i j text, (drGo (dr0 ns) ns).th = [(i, j, text)] ∧ text.length ≤ 100000 ∧
    specR C nm_law_drawn ["numbers"] ps_law_drawn [.lst (ns.map nD)] = some (.tup [.str (S text), .lst ((drGo (dr0 ns) ns).co.map nD)]) := by
  obtain ⟨ok0, l0⟩ := dr0_ok (ns := ns)
  obtain ⟨ρ1, r1, c1, s1, hs1, rfl⟩ := runs_range (body := run C 4000 drBody1) (i := 7) (f := λ (i : Nat) => nD i) (n := ns.length + 1) (ρ := drSt ns (dr1 ns 0) (dr2 ns 0) [.undef, .undef, .undef, .undef, .undef, .undef, .undef, .undef, .undef, .undef, .undef])
    (λ k ρ => ∃ c s, (s = .undef ∨ ∃ d, s = .fro d) ∧ ρ = drSt ns (dr1 ns k) (dr2 ns k) [c, s, .undef, .undef, .undef, .undef, .undef, .undef, .undef, .undef, .undef]) (by
      rintro k hk ρ ⟨c, s, hs, rfl⟩
      exact ⟨_, dr_turn1 (C := C) hns h0 (by lia) (by lia) hs, _, _, .inr ⟨_, rfl⟩, rfl⟩) ⟨.undef, .undef, .inl rfl, rfl⟩
  obtain ⟨ρ2, r2, ⟨g, rfl⟩, hth, ok⟩ := dr_run2 (C := C) (ns := ns) (N := ns.length + 2) (by lia) ns (dr0 ns) 2 _ ⟨λ n => [c1, s1].getD (n - 7) .undef, rfl⟩ ok0 l0 (by lia) (by
    have : 2 ^ ns.length ≤ 2 ^ 10 := Nat.pow_le_pow_right (by decide) hl
    have e : (2 : Nat) ^ 10 = 1024 := by decide
    lia)
  obtain ⟨⟨i, j, text⟩, hone⟩ : ∃ t, (drGo (dr0 ns) ns).th = [t] := by
    match h : (drGo (dr0 ns) ns).th, hth with
    | [t], _ => exact ⟨t, rfl⟩
  refine ⟨i, j, text, hone, ?_, ?_⟩
  · exact (ok.th (i, j, text) (by rw [hone]; exact List.mem_cons_self)).2.2
  · refine specR_of (ρ' := (drSt ns (drGo (dr0 ns) ns).co (drGo (dr0 ns) ns).th (gs g)).set 5 (.fro (.lst ((drGo (dr0 ns) ns).co.map nD)))) rfl ?_
    refine (run_seq (run_asg (eOf (v_splt (s := opText) split_S)))).trans ?_
    refine (run_seq (run_asg (d := .lst (remTab.map strD)) (eOf (v_lst (l := remTab.map strD) ?_ (show 4 ≤ 16777216 by decide))))).trans ?_
    · have e : remTab.map strD = [.str ("" : Str), .str ("\")\"" : Str), .str ("\"(\\\"\"" : Str), .str ("\"\\\\(\"" : Str)] := by
        rw [empty_S, rem1_S, rem2_S, rem3_S]; rfl
      rw [e]; rfl
    refine (run_seq (run_asg (d := nD (ns.length + 1)) (eOf (v_bin (tOf (v_len (tOf (v_var rfl)) (by rw [List.length_map]; lia))) (tOf v_cI) ?_)))).trans ?_
    · rw [bin_add, List.length_map]; rfl
    refine (run_seq (run_asgO (l := (dr1 ns 0).map nD) (eOf (v_bin (tOf (v_lst (l_cons (eOf v_cI) l_nil) (show 1 ≤ 16777216 by decide))) (tOf (v_bin (tOf (v_var rfl)) (tOf v_cI) (d := nD (ns.length + 2)) rfl)) ?_)))).trans ?_
    · show dbinLI .Mult [.int 0] (((ns.length + 2 : Nat) : Int)) = _
      unfold dbinLI
      dsimp only
      rw [if_pos (by rw [smallI_of (by lia) (by lia)]; simp; lia)]
      have : (((ns.length + 2 : Nat) : Int)).toNat = ns.length + 2 := by lia
      rw [this]
      unfold dr1
      have e : ∀ n : Nat, (List.replicate n [D.int 0]).flatten = (List.replicate n 0).map nD := by
        intro n
        induction n with
        | zero => rfl
        | succ n ih => rw [List.replicate_succ, List.replicate_succ, List.flatten_cons, ih]; rfl
      rw [e]; rfl
    refine (run_seq (run_asgO (l := []) rfl)).trans ?_
    refine (run_seq (run_for (it_rng (lt_cons (tOf (v_var rfl)) lt_nil) (drange_n (by lia))) r1)).trans ?_
    refine (run_seq (run_for (it_of (v_var rfl) (by rw [List.length_map]; lia)) r2)).trans ?_
    refine (run_seq (run_frz rfl)).trans (run_ret (run_retE ?_))
    refine eOf (v_tup (l_cons (eOf (v_sub (a := thD (i, j, text)) (tOf (v_sub (t_own rfl) (tOf v_cI) (dsub_nat (k := 0) (by decide) ?_))) (tOf v_cI) ?_)) (l_cons (eOf (v_var rfl)) l_nil)) (show 2 ≤ 16777216 by decide))
    · rw [hone]; rfl
    · show (if smallI 2 then (if (0 : Int) ≤ 2 then [nD i, nD j, .str (S text)][(2 : Int).toNat]? else none) else none) = _
      rw [if_pos (smallI_of (by decide) (by decide))]; rfl
end
noncomputable def frLine (cnt : List Nat) (i : Nat) : Nat → List Int
  | 0 => List.replicate (i + 1) 0 ++ [1]
  | k + 1 => frLine cnt i k ++ [(cnt.getD (i + 1 + k) 0 : Int) * (frLine cnt i k).getD (i + 1 + k) 0 - (frLine cnt i k).getD (i + k) 0]
noncomputable def friezeP (cnt : List Nat) : List (List Int) := (List.range (cnt.length - 1)).map λ i => frLine cnt i (cnt.length - 1 - (i + 1))
theorem frLine_len (cnt : List Nat) (i : Nat) : ∀ k, (frLine cnt i k).length = i + 2 + k
  | 0 => by simp [frLine]
  | k + 1 => by simp [frLine, frLine_len cnt i k]; lia
noncomputable abbrev lnD (l : List Int) : D := .lst (l.map .int)
noncomputable def frSt (cnt : List Nat) (T : List (List Int)) (i : Slot) (ln : Slot) (j : Slot) : List Slot := [.undef, .fro (.lst (cnt.map nD)), .fro (.int ((cnt.length - 1 : Nat) : Int)), .own (T.map lnD), i, ln, j]
noncomputable def frBody1 : PS := (.seq (.app 5 (.bin .Sub (.bin .Mult (.sub (.var 1) (.var 6)) (.sub (.var 5) (.var 6))) (.sub (.var 5) (.bin .Sub (.var 6) (.cI 1)))))
      .nil)
noncomputable def frBody2 : PS :=
    (.seq (.asgO 5 (.bin .Add (.bin .Mult (.lst (.cons (.cI 0) .nil)) (.bin .Add (.var 4) (.cI 1))) (.lst (.cons (.cI 1) .nil))))
    (.seq (.for_ (.one 6) (.rng (.cons (.bin .Add (.var 4) (.cI 1)) (.cons (.var 2) .nil))) frBody1)
    (.seq (.frz 5)
    (.seq (.app 3 (.var 5))
    .nil))))
theorem rep_eq {d : D} : ∀ n : Nat, (List.replicate n [d]).flatten = List.replicate n d
  | 0 => rfl
  | n + 1 => by rw [List.replicate_succ, List.replicate_succ, List.flatten_cons, rep_eq n]; rfl
theorem bin_rep {d : D} {n : Nat} (h : n ≤ 100000) : dbin .Mult (.lst [d]) (.int (n : Int)) = some (.lst (List.replicate n d)) := by
  show dbinLI .Mult [d] (n : Int) = _
  unfold dbinLI
  dsimp only
  rw [if_pos (by rw [smallI_of (by lia) (by lia)]; simp; lia)]
  have : ((n : Int)).toNat = n := by lia
  rw [this, rep_eq]
section
variable {C : Cx} {cnt : List Nat}
theorem fr_get {l : List Int} {k : Nat} (h : k < l.length) (hk : k ≤ 100000) : dsub (.lst (l.map .int)) (.int (k : Int)) = some (.int (l.getD k 0)) := by
  refine dsub_nat hk ?_
  rw [List.getElem?_map, List.getElem?_eq_getElem h, List.getD_eq_getElem?_getD, List.getElem?_eq_getElem h]; rfl
theorem n_get {l : List Nat} {k : Nat} (h : k < l.length) (hk : k ≤ 100000) : dsub (.lst (l.map nD)) (.int (k : Int)) = some (nD (l.getD k 0)) := by
  refine dsub_nat hk ?_
  rw [List.getElem?_map, List.getElem?_eq_getElem h, List.getD_eq_getElem?_getD, List.getElem?_eq_getElem h]; rfl
theorem fr_turn1 (hl : cnt.length ≤ 1000) (hc : ∀ c ∈ cnt, c < 1000000) {T : List (List Int)} {i k : Nat} (hk : i + 1 + k < cnt.length) {s : Slot} :
    run C 4000 frBody1 (frSt cnt T (.fro (nD i)) (.own ((frLine cnt i k).map .int)) (.fro (nD (i + 1 + k)))) = some (.next, frSt cnt T (.fro (nD i)) (.own ((frLine cnt i (k + 1)).map .int)) (.fro (nD (i + 1 + k)))) := by
  have hlen := frLine_len cnt i k
  have hcl : cnt.getD (i + 1 + k) 0 < 1000000 := by
    rw [List.getD_eq_getElem?_getD, List.getElem?_eq_getElem hk]
    exact hc _ (List.getElem_mem _)
  refine run_seq (b := .nil) ((run_app rfl (d := .int ((cnt.getD (i + 1 + k) 0 : Int) * (frLine cnt i k).getD (i + 1 + k) 0 - (frLine cnt i k).getD (i + k) 0)) ?_ (by rw [List.length_map, hlen]; lia)).trans ?_)
  · refine eOf (v_bin (tOf (v_bin (tOf (v_sub (tOf (v_var rfl)) (tOf (v_var rfl)) (n_get (by omega) (by lia)))) (tOf (v_sub (t_own rfl) (tOf (v_var rfl)) (fr_get (by lia) (by lia)))) (bin_mul _ _ (by lia) (by lia)))) (tOf (v_sub (t_own rfl) (tOf (v_bin (tOf (v_var rfl)) (tOf v_cI) (d := nD (i + k)) ?_)) (fr_get (by lia) (by lia)))) rfl)
    rw [bin_sb]; congr 2; lia
  · show some (Fl.next, frSt cnt T (.fro (nD i)) (.own ((frLine cnt i k).map .int ++ _)) _) = _
    rw [show frLine cnt i (k + 1) = frLine cnt i k ++ [(cnt.getD (i + 1 + k) 0 : Int) * (frLine cnt i k).getD (i + 1 + k) 0 - (frLine cnt i k).getD (i + k) 0] from rfl, List.map_append]
    rfl
theorem fr_turn2 (hl : cnt.length ≤ 1000) (hc : ∀ c ∈ cnt, c < 1000000) {T : List (List Int)} (hT : T.length ≤ 1000) {i : Nat} (hi : i < cnt.length - 1) {a b : Slot} :
    ∃ b', run C 4000 frBody2 (frSt cnt T (.fro (nD i)) a b) = some (.next, frSt cnt (T ++ [frLine cnt i (cnt.length - 1 - (i + 1))]) (.fro (nD i)) (.fro (lnD (frLine cnt i (cnt.length - 1 - (i + 1))))) b') := by
  obtain ⟨ρ', r1, b', rfl⟩ := runs_range (body := run C 4000 frBody1) (i := 6) (f := λ (k : Nat) => D.int ((i + 1 + k : Nat) : Int)) (n := cnt.length - 1 - (i + 1)) (ρ := frSt cnt T (.fro (nD i)) (.own ((frLine cnt i 0).map .int)) b) (λ k ρ => ∃ b, ρ = frSt cnt T (.fro (nD i)) (.own ((frLine cnt i k).map .int)) b) (by
    rintro k hk ρ ⟨b, rfl⟩
    exact ⟨_, fr_turn1 (C := C) (s := .undef) hl hc (by omega), _, rfl⟩) ⟨_, rfl⟩
  refine ⟨b', ?_⟩
  refine (run_seq (run_asgO (l := (frLine cnt i 0).map .int) (eOf (v_bin (tOf (v_bin (tOf (v_lst (l_cons (eOf v_cI) l_nil) (show 1 ≤ 16777216 by decide))) (tOf (v_bin (tOf (v_var rfl)) (tOf v_cI) (d := nD (i + 1)) rfl)) (bin_rep (by lia)))) (tOf (v_lst (l_cons (eOf v_cI) l_nil) (show 1 ≤ 16777216 by decide))) ?_)))).trans ?_
  · rw [bin_app (by simp; lia)]; simp [frLine]
  refine (run_seq (run_for (it_rng (lt_cons (tOf (v_bin (tOf (v_var rfl)) (tOf v_cI) (d := nD (i + 1)) rfl)) (lt_cons (tOf (v_var rfl)) lt_nil)) (drange_ab (by lia) (by lia))) r1)).trans ?_
  refine (run_seq (run_frz rfl)).trans (run_seq (b := .nil) ((run_app rfl (eOf (v_var rfl)) (by rw [List.length_map]; lia)).trans ?_))
  simp [frSt]
theorem frieze_ok (hl : cnt.length ≤ 1000) (h0 : 0 < cnt.length) (hc : ∀ c ∈ cnt, c < 1000000) : specR C nm_law_frieze ["counts"] ps_law_frieze [.lst (cnt.map nD)] = some (.lst ((friezeP cnt).map lnD)) := by
  obtain ⟨ρ', r1, a, b, c, rfl⟩ := runs_range (body := run C 4000 frBody2) (i := 4) (f := λ (k : Nat) => D.int (k : Int)) (n := cnt.length - 1) (ρ := frSt cnt [] .undef .undef .undef) (λ k ρ => ∃ a b c, ρ = frSt cnt ((List.range k).map λ i => frLine cnt i (cnt.length - 1 - (i + 1))) a b c) (by
    rintro k hk ρ ⟨a, b, c, rfl⟩
    obtain ⟨c', h⟩ := fr_turn2 (C := C) hl hc (T := (List.range k).map λ i => frLine cnt i (cnt.length - 1 - (i + 1))) (by simp; lia) hk (a := b) (b := c)
    refine ⟨_, h, .fro (nD k), .fro (lnD (frLine cnt k (cnt.length - 1 - (k + 1)))), c', ?_⟩
    rw [List.range_succ, List.map_append]; rfl) ⟨_, _, _, rfl⟩
  refine specR_of (ρ' := (frSt cnt (friezeP cnt) a b c).set 3 (.fro (.lst ((friezeP cnt).map lnD)))) rfl ?_
  refine (run_seq (run_asg (d := nD (cnt.length - 1)) (eOf (v_bin (tOf (v_len (tOf (v_var rfl)) (by rw [List.length_map]; lia))) (tOf v_cI) ?_)))).trans ?_
  · rw [bin_sb, List.length_map]; congr 2; lia
  refine (run_seq (run_asgO (l := []) rfl)).trans ((run_seq (run_for (it_rng (lt_cons (tOf (v_var rfl)) lt_nil) (drange_n (by lia))) r1)).trans ((run_seq (run_frz rfl)).trans (run_ret (run_retE (eOf (v_var rfl))))))
end
abbrev Pr := Int × Int
noncomputable def thP (ps : List Pr) (t : Nat) : Int × Int × Int := ((ps.getD t (0, 0)).1, (match ps[t + 1]? with | some p => if p.1 = (ps.getD t (0, 0)).1 then p.2 else (ps.getD t (0, 0)).1 + 1 | none => (ps.getD t (0, 0)).1 + 1), (ps.getD t (0, 0)).2)
noncomputable def threesP (ps : List Pr) : List (Int × Int × Int) := (List.range ps.length).map (thP ps)
noncomputable def t3D (t : Int × Int × Int) : D := .tup [.int t.1, .int t.2.1, .int t.2.2]
noncomputable def t3St (ps : List Pr) (T : List (Int × Int × Int)) (t i j inner : Slot) : List Slot := [.undef, .fro (.lst (ps.map pD)), .own (T.map t3D), t, i, j, inner, .undef, .undef]
noncomputable def t3Body : PS :=
    (.seq (.asgT [4, 5] (.sub (.var 1) (.var 3)))
    (.seq (.asgO 6 (.comp (.var 8) (.many [7, 8]) (.slc (.var 1) (.bin .Add (.var 3) (.cI 1)) (.bin .Add (.var 3) (.cI 2))) (.cmp .Eq (.var 7) (.var 4)) [4]))
    (.seq (.frz 6)
    (.seq (.app 2 (.tup (.cons (.var 4) (.cons (.sub (.bin .Add (.var 6) (.lst (.cons (.bin .Add (.var 4) (.cI 1)) .nil))) (.cI 0)) (.cons (.var 5) .nil)))))
    .nil))))
section
variable {C : Cx} {ps : List Pr}
theorem e_comp {elt it cond : PE} {tg : Tg} {caps : List Nat} {ρ : List Slot} {xs r : List D} (hz : needsTup it = false) (h1 : (ev C it ρ).it = some xs) (h2 : compGo (λ x => (bindT tg x (mask caps ρ)).bind λ ρ' => (ev C cond ρ').b.bind λ c => if c then (ev C elt ρ').e.map λ d => [d] else some []) xs = some r) (h3 : r.length ≤ 16777216) :
    ev C (.comp elt tg it cond caps) ρ = .of (some (.lst r)) := by
  show Rs.of (mkComp (needsTup it) caps.isEmpty ((ev C it ρ).it.bind λ xs => compGo (λ x => (bindT tg x (mask caps ρ)).bind λ ρ' => (ev C cond ρ').b.bind λ c => if c then (ev C elt ρ').e.map λ d => [d] else some []) xs)) = _
  rw [h1, Option.bind_some, h2, hz]
  unfold mkComp
  rw [Option.bind_some, if_pos (by simp [h3])]
noncomputable def t3In (ps : List Pr) (t : Nat) (i : Int) : List Int := match ps[t + 1]? with | some p => if p.1 = i then [p.2] else [] | none => []
theorem t3_inner {T : List (Int × Int × Int)} {t : Nat} {i j : Int} (hl : ps.length ≤ 1000) (ht : t < ps.length) {s : Slot} :
    ev C (.comp (.var 8) (.many [7, 8]) (.slc (.var 1) (.bin .Add (.var 3) (.cI 1)) (.bin .Add (.var 3) (.cI 2))) (.cmp .Eq (.var 7) (.var 4)) [4]) (t3St ps T (.fro (nD t)) (.fro (.int i)) (.fro (.int j)) s) = .of (some (.lst ((t3In ps t i).map .int))) := by
  have hsl : ev C (.slc (.var 1) (.bin .Add (.var 3) (.cI 1)) (.bin .Add (.var 3) (.cI 2))) (t3St ps T (.fro (nD t)) (.fro (.int i)) (.fro (.int j)) s) = .of (some (.lst (((ps.map pD).drop (t + 1)).take (t + 2 - (t + 1))))) :=
    v_slc (tOf (v_var rfl)) (p_int (i := ((t + 1 : Nat) : Int)) rfl (v_bin (tOf (v_var rfl)) (tOf v_cI) rfl)) (p_int (i := ((t + 2 : Nat) : Int)) rfl (v_bin (tOf (v_var rfl)) (tOf v_cI) rfl)) (slc_lst (by rw [List.length_map]; lia) (by rw [List.length_map]; lia))
  have e1 : ((ps.map pD).drop (t + 1)).take (t + 2 - (t + 1)) = match ps[t + 1]? with | some p => [pD p] | none => [] := by
    rw [show t + 2 - (t + 1) = 1 by lia]
    cases e : ps[t + 1]? with
    | none =>
      have := List.getElem?_eq_none_iff.mp e
      rw [List.drop_eq_nil_of_le (by simpa using this)]; rfl
    | some p =>
      obtain ⟨h1, h2⟩ := List.getElem?_eq_some_iff.mp e
      rw [← List.map_drop, List.drop_eq_getElem_cons h1, h2]; rfl
  rw [e1] at hsl
  refine e_comp rfl (it_of hsl ?_) ?_ ?_
  · split <;> simp
  · cases e : ps[t + 1]? with
    | none => unfold t3In; rw [e]; rfl
    | some p =>
      have hin : t3In ps t i = if p.1 = i then [p.2] else [] := by unfold t3In; rw [e]
      rw [hin]
      have q : ∀ f : D → Option (List D), f (pD p) = some (if p.1 = i then [.int p.2] else []) → compGo f [pD p] = some ((if p.1 = i then [p.2] else []).map .int) := by
        intro f hf
        simp only [compGo, hf]
        split <;> rfl
      refine q _ ?_
      have hm : mask [4] (t3St ps T (.fro (nD t)) (.fro (.int i)) (.fro (.int j)) s) = [.undef, .undef, .undef, .undef, .fro (.int i), .undef, .undef, .undef, .undef] := by cases s <;> rfl
      rw [hm]
      show (if (p.1 == i) = true then some [D.int p.2] else some []) = _
      by_cases h : p.1 = i
      · rw [if_pos (beq_iff_eq.mpr h), if_pos h]
      · rw [if_neg (by simpa using h), if_neg h]
  · unfold t3In; split
    · split <;> simp
    · simp
theorem t3_turn (hl : ps.length ≤ 1000) {T : List (Int × Int × Int)} (hT : T.length ≤ 1000) {t : Nat} (ht : t < ps.length) {a b c : Slot} :
    ∃ a' b' c', run C 4000 t3Body (t3St ps T (.fro (nD t)) a b c) = some (.next, t3St ps (T ++ [thP ps t]) (.fro (nD t)) a' b' c') := by
  have hp : ps[t]? = some ps[t] := List.getElem?_eq_getElem ht
  have hg : ps.getD t (0, 0) = ps[t] := by rw [List.getD_eq_getElem?_getD, hp]; rfl
  refine ⟨.fro (.int ps[t].1), .fro (.int ps[t].2), .fro (lnD (t3In ps t ps[t].1)), ?_⟩
  refine (run_seq (run_asgT (d := pD ps[t]) (eOf (v_sub (tOf (v_var rfl)) (tOf (v_var rfl)) (dsub_nat (by lia) (by rw [List.getElem?_map, hp]; rfl)))) rfl)).trans ?_
  refine (run_seq (run_asgO (eOf (t3_inner (j := ps[t].2) (T := T) (s := c) hl ht)))).trans ?_
  refine (run_seq (run_frz rfl)).trans ?_
  refine run_seq (b := .nil) ((run_app rfl (d := t3D (thP ps t)) ?_ (by rw [List.length_map]; lia)).trans ?_)
  · have e2 : dsub (.lst ((t3In ps t ps[t].1).map .int ++ [.int (ps[t].1 + 1)])) (.int 0) = some (.int (thP ps t).2.1) := by
      refine dsub_nat (k := 0) (by decide) ?_
      unfold t3In thP
      rw [hg]
      cases e : ps[t + 1]? with
      | none => rfl
      | some p =>
        by_cases h : p.1 = ps[t].1
        · simp [h]
        · simp [h]
    have hlen : (t3In ps t ps[t].1).length ≤ 1 := by
      unfold t3In; split
      · split <;> simp
      · simp
    have e3 : t3D (thP ps t) = .tup [.int ps[t].1, .int (thP ps t).2.1, .int ps[t].2] := by unfold t3D thP; rw [hg]
    rw [e3]
    exact eOf (v_tup (l_cons (eOf (v_var rfl)) (l_cons (eOf (v_sub (tOf (v_bin (tOf (v_var rfl)) (tOf (v_lst (l_cons (eOf (v_bin (tOf (v_var rfl)) (tOf v_cI) rfl)) l_nil) (show 1 ≤ 16777216 by decide))) (bin_app (by simp; lia)))) (tOf v_cI) e2)) (l_cons (eOf (v_var rfl)) l_nil))) (show 3 ≤ 16777216 by decide))
  · simp [t3St]
theorem threes_ok (hl : ps.length ≤ 1000) : specR C nm_law_threes ["pairs"] ps_law_threes [.lst (ps.map pD)] = some (.lst ((threesP ps).map t3D)) := by
  obtain ⟨ρ', r1, a, b, c, d, rfl⟩ := runs_range (body := run C 4000 t3Body) (i := 3) (f := λ (k : Nat) => D.int (k : Int)) (n := ps.length) (ρ := t3St ps [] .undef .undef .undef .undef) (λ k ρ => ∃ a b c d, ρ = t3St ps ((List.range k).map (thP ps)) a b c d) (by
    rintro k hk ρ ⟨a, b, c, d, rfl⟩
    obtain ⟨a', b', c', h⟩ := t3_turn (C := C) hl (T := (List.range k).map (thP ps)) (by simp; lia) hk (a := b) (b := c) (c := d)
    refine ⟨_, h, .fro (nD k), a', b', c', ?_⟩
    rw [List.range_succ, List.map_append]; rfl) ⟨_, _, _, _, rfl⟩
  refine specR_of (ρ' := (t3St ps (threesP ps) a b c d).set 2 (.fro (.lst ((threesP ps).map t3D)))) rfl ?_
  refine (run_seq (run_asgO (l := []) rfl)).trans ?_
  refine (run_seq (run_for (it_rng (lt_cons (tOf (v_len (tOf (v_var rfl)) (by rw [List.length_map]; lia))) lt_nil) (by rw [List.length_map]; exact drange_n (by lia))) r1)).trans ?_
  exact (run_seq (run_frz rfl)).trans (run_ret (run_retE (eOf (v_var rfl))))
end
theorem compGo_map {α : Type} {f : D → Option (List D)} {g : α → D} {h : α → List D} : ∀ (l : List α), (∀ k ∈ l, f (g k) = some (h k)) → compGo f (l.map g) = some (l.flatMap h)
  | [], _ => rfl
  | k :: l, hh => by
    have ih := compGo_map (f := f) (g := g) (h := h) l λ j hj => hh j (List.mem_cons_of_mem _ hj)
    rw [List.map_cons, List.flatMap_cons]
    simp only [compGo, hh k List.mem_cons_self, ih]
theorem elt_of {C : Cx} {tg : Tg} {x : D} {ρ ρ' : List Slot} {cond elt : PE} {c : Bool} {d : D} (h1 : bindT tg x ρ = some ρ') (h2 : (ev C cond ρ').b = some c) (h3 : c = true → (ev C elt ρ').e = some d) :
    ((bindT tg x ρ).bind λ ρ' => (ev C cond ρ').b.bind λ c => if c then (ev C elt ρ').e.map λ d => [d] else some []) = some (if c then [d] else []) := by
  rw [h1, Option.bind_some, h2, Option.bind_some]
  cases c
  · rfl
  · rw [if_pos rfl, h3 rfl]; rfl
theorem run_augF {C : Cx} {f i : Nat} {e : PE} {ρ : List Slot} {ds es : List D} (hf : isFresh e = true) (hv : isVar e = none) (h0 : ρ[i]? = some (.own ds)) (h1 : (ev C e ρ).e = some (.lst es)) (hl : ds.length + es.length ≤ 16777216) : run C f (.augL i e) ρ = some (.next, ρ.set i (.own (ds ++ es))) := by
  have e' : augSrc C i e ρ = some es := by
    unfold augSrc
    rw [hv]
    exact (if_pos hf).trans (bnd h1 rfl)
  exact bnd (congrArg ownOf h0) (bnd e' (if_pos hl))
theorem b_chain {C : Cx} {ρ : List Slot} {o1 o2 : CmpOp} {a b c : PE} {x y z : D} {t u : Bool} (h1 : (ev C a ρ).t = some x) (h2 : (ev C b ρ).t = some y) (h3 : dcmp o1 x y = some t) (h4 : (ev C c ρ).t = some z) (h5 : dcmp o2 y z = some u) : (ev C (.chain o1 o2 a b c) ρ).b = some (t && u) := by
  show ((ev C a ρ).t.bind λ x => (ev C b ρ).t.bind λ y => (dcmp o1 x y).bind λ t => if t then (ev C c ρ).t.bind λ z => dcmp o2 y z else some false) = _
  rw [h1, h2, Option.bind_some, Option.bind_some, h3, Option.bind_some]
  cases t
  · rfl
  · rw [if_pos rfl, h4, Option.bind_some, h5]; rfl
noncomputable def at2 (F : List (List Int)) (i j : Nat) : Int := (F.getD i []).getD j 0
structure FrOk (F : List (List Int)) (n : Nat) : Prop where
  len : F.length = n
  row : ∀ i, i < n → (F.getD i []).length = n + 1
noncomputable def wrCl (F : List (List Int)) (c : Nat) : List Int := (List.range (c - 1)).flatMap λ i => if at2 F i c = 1 then [8] else []
noncomputable def wrOp (F : List (List Int)) (n c : Nat) : List Int := (List.range (n + 1 - (c + 2))).flatMap λ j => if at2 F c (c + 2 + j) = 1 then [7] else []
noncomputable def wrAt (td : List Nat) (F : List (List Int)) (n c : Nat) : List Int :=
  wrCl F c ++ (if 0 < c ∧ c < n then [((td.getD c 0 / 64 % 64 : Nat) : Int)] else []) ++ wrOp F n c ++ (if c < n then [222 + ((td.getD c 0 / 4096 : Nat) : Int)] else [])
noncomputable def writtenP (td : List Nat) (F : List (List Int)) (n : Nat) : List Int := (List.range (n + 1)).flatMap (wrAt td F n) ++ [0]
noncomputable def wrSt (td : List Nat) (F : List (List Int)) (n : Nat) (R : List Int) (c : Slot) : List Slot := [.undef, .fro (.lst (td.map nD)), .fro (.lst (F.map lnD)), .fro (nD n), .own (R.map .int), c, .undef, .undef]
noncomputable def wrBody : PS :=
    (.seq (.augL 4 (.comp (.cI 8) (.one 6) (.rng (.cons (.bin .Sub (.var 5) (.cI 1)) .nil)) (.cmp .Eq (.sub (.sub (.var 2) (.var 6)) (.var 5)) (.cI 1)) [2, 5]))
    (.seq (.ifs (.chain .Lt .Lt (.cI 0) (.var 5) (.var 3))
      (.seq (.app 4 (.bin .Mod (.bin .FloorDiv (.sub (.var 1) (.var 5)) (.cI 64)) (.cI 64)))
      .nil)
      .nil)
    (.seq (.augL 4 (.comp (.cI 7) (.one 7) (.rng (.cons (.bin .Add (.var 5) (.cI 2)) (.cons (.bin .Add (.var 3) (.cI 1)) .nil))) (.cmp .Eq (.sub (.sub (.var 2) (.var 5)) (.var 7)) (.cI 1)) [2, 5]))
    (.seq (.ifs (.cmp .Lt (.var 5) (.var 3))
      (.seq (.app 4 (.bin .Add (.cI 222) (.bin .FloorDiv (.sub (.var 1) (.var 5)) (.cI 4096))))
      .nil)
      .nil)
    .nil))))
section
variable {C : Cx} {td : List Nat} {F : List (List Int)} {n : Nat}
theorem fm_len {f : Nat → List Int} (h : ∀ k, (f k).length ≤ 1) : ∀ l : List Nat, (l.flatMap f).length ≤ l.length
  | [] => Nat.le_refl _
  | k :: l => by
    have h1 := h k
    have h2 := fm_len h l
    rw [List.flatMap_cons, List.length_append, List.length_cons]; lia
theorem wrCl_len {c : Nat} : (wrCl F c).length ≤ c := by
  unfold wrCl
  refine Nat.le_trans (fm_len (λ k => by split <;> simp) _) ?_
  rw [List.length_range]; lia
theorem wrOp_len {c : Nat} : (wrOp F n c).length ≤ n := by
  unfold wrOp
  refine Nat.le_trans (fm_len (λ k => by split <;> simp) _) ?_
  rw [List.length_range]; omega
theorem F_sub (hF : FrOk F n) (hn : n ≤ 1000) {i j : Nat} (hi : i < n) (hj : j ≤ n) {ρ : List Slot} {a b : PE} (h2 : ρ[2]? = some (.fro (.lst (F.map lnD)))) (ha : ev C a ρ = .of (some (nD i))) (hb : ev C b ρ = .of (some (nD j))) : ev C (.sub (.sub (.var 2) a) b) ρ = .of (some (.int (at2 F i j))) := by
  have hl := hF.len
  have hr := hF.row i hi
  have hg : F[i]? = some (F.getD i []) := by rw [List.getD_eq_getElem?_getD, List.getElem?_eq_getElem (by lia)]; rfl
  exact v_sub (tOf (v_sub (a := .lst (F.map lnD)) (d := lnD (F.getD i [])) (tOf (v_var h2)) (tOf ha) (dsub_nat (by lia) (by rw [List.getElem?_map, hg]; rfl)))) (tOf hb) (fr_get (by lia) (by lia))
theorem wr_cl (hF : FrOk F n) (hn : n ≤ 1000) {c : Nat} (hc : c ≤ n) {R : List Int} : ev C (.comp (.cI 8) (.one 6) (.rng (.cons (.bin .Sub (.var 5) (.cI 1)) .nil)) (.cmp .Eq (.sub (.sub (.var 2) (.var 6)) (.var 5)) (.cI 1)) [2, 5]) (wrSt td F n R (.fro (nD c))) = .of (some (.lst ((wrCl F c).map .int))) := by
  have hit : (ev C (.rng (.cons (.bin .Sub (.var 5) (.cI 1)) .nil)) (wrSt td F n R (.fro (nD c)))).it = some ((List.range (c - 1)).map λ (i : Nat) => D.int (i : Int)) := by
    refine it_rng (lt_cons (tOf (v_bin (tOf (v_var rfl)) (tOf v_cI) (bin_sb _ _))) lt_nil) ?_
    by_cases h : c = 0
    · subst h
      rw [drange_1]
      unfold drange1
      rw [if_pos (by decide)]
      rfl
    · rw [show (c : Int) - 1 = ((c - 1 : Nat) : Int) by lia]; exact drange_n (by lia)
  have e : (wrCl F c).map D.int = (List.range (c - 1)).flatMap λ i => if at2 F i c = 1 then [D.int 8] else [] := by
    unfold wrCl
    rw [List.map_flatMap]
    simp only [apply_ite (List.map D.int), List.map_cons, List.map_nil]
  rw [e]
  refine e_comp rfl hit (compGo_map (h := λ i => if at2 F i c = 1 then [D.int 8] else []) _ λ i hi => ?_) ?_
  · have hi := List.mem_range.mp hi
    have hm : mask [2, 5] (wrSt td F n R (.fro (nD c))) = [.undef, .undef, .fro (.lst (F.map lnD)), .undef, .undef, .fro (nD c), .undef, .undef] := rfl
    rw [hm]
    refine (elt_of (ρ' := [.undef, .undef, .fro (.lst (F.map lnD)), .undef, .undef, .fro (nD c), .fro (nD i), .undef]) (c := at2 F i c == 1) (d := .int 8) rfl (b_cmp (tOf (F_sub hF hn (i := i) (j := c) (by lia) hc rfl (v_var rfl) (v_var rfl))) (tOf v_cI) rfl) (λ _ => rfl)).trans ?_
    by_cases h : at2 F i c = 1
    · rw [if_pos h, beq_iff_eq.mpr h, if_pos rfl]
    · rw [if_neg h, beq_eq_false_iff_ne.mpr h, if_neg Bool.false_ne_true]
  · rw [← e, List.length_map]
    have := wrCl_len (F := F) (c := c); lia
theorem wr_op (hF : FrOk F n) (hn : n ≤ 1000) {c : Nat} (hc : c ≤ n) {R : List Int} : ev C (.comp (.cI 7) (.one 7) (.rng (.cons (.bin .Add (.var 5) (.cI 2)) (.cons (.bin .Add (.var 3) (.cI 1)) .nil))) (.cmp .Eq (.sub (.sub (.var 2) (.var 5)) (.var 7)) (.cI 1)) [2, 5]) (wrSt td F n R (.fro (nD c))) = .of (some (.lst ((wrOp F n c).map .int))) := by
  have hit : (ev C (.rng (.cons (.bin .Add (.var 5) (.cI 2)) (.cons (.bin .Add (.var 3) (.cI 1)) .nil))) (wrSt td F n R (.fro (nD c)))).it = some ((List.range (n + 1 - (c + 2))).map λ (i : Nat) => D.int ((c + 2 + i : Nat) : Int)) :=
    it_rng (lt_cons (tOf (v_bin (tOf (v_var rfl)) (tOf v_cI) (d := nD (c + 2)) rfl)) (lt_cons (tOf (v_bin (tOf (v_var rfl)) (tOf v_cI) (d := nD (n + 1)) rfl)) lt_nil)) (drange_ab (by lia) (by lia))
  have e : (wrOp F n c).map D.int = (List.range (n + 1 - (c + 2))).flatMap λ j => if at2 F c (c + 2 + j) = 1 then [D.int 7] else [] := by
    unfold wrOp
    rw [List.map_flatMap]
    simp only [apply_ite (List.map D.int), List.map_cons, List.map_nil]
  rw [e]
  refine e_comp rfl hit (compGo_map (h := λ j => if at2 F c (c + 2 + j) = 1 then [D.int 7] else []) _ λ j hj => ?_) ?_
  · have hj := List.mem_range.mp hj
    have hm : mask [2, 5] (wrSt td F n R (.fro (nD c))) = [.undef, .undef, .fro (.lst (F.map lnD)), .undef, .undef, .fro (nD c), .undef, .undef] := rfl
    rw [hm]
    refine (elt_of (ρ' := [.undef, .undef, .fro (.lst (F.map lnD)), .undef, .undef, .fro (nD c), .undef, .fro (nD (c + 2 + j))]) (c := at2 F c (c + 2 + j) == 1) (d := .int 7) rfl (b_cmp (tOf (F_sub hF hn (i := c) (j := c + 2 + j) (by lia) (by lia) rfl (v_var rfl) (v_var rfl))) (tOf v_cI) rfl) (λ _ => rfl)).trans ?_
    by_cases h : at2 F c (c + 2 + j) = 1
    · rw [if_pos h, beq_iff_eq.mpr h, if_pos rfl]
    · rw [if_neg h, beq_eq_false_iff_ne.mpr h, if_neg Bool.false_ne_true]
  · rw [← e, List.length_map]
    have := wrOp_len (F := F) (n := n) (c := c); lia
theorem wr_turn (hF : FrOk F n) (hn : n ≤ 1000) (htd : td.length = n + 1) {c : Nat} (hc : c ≤ n) {R : List Int} (hR : R.length ≤ 1000000) : run C 4000 wrBody (wrSt td F n R (.fro (nD c))) = some (.next, wrSt td F n (R ++ wrAt td F n c) (.fro (nD c))) := by
  have l1 := wrCl_len (F := F) (c := c)
  have l2 := wrOp_len (F := F) (n := n) (c := c)
  have s1 : run C 4000 (.augL 4 (.comp (.cI 8) (.one 6) (.rng (.cons (.bin .Sub (.var 5) (.cI 1)) .nil)) (.cmp .Eq (.sub (.sub (.var 2) (.var 6)) (.var 5)) (.cI 1)) [2, 5])) (wrSt td F n R (.fro (nD c))) = some (.next, wrSt td F n (R ++ wrCl F c) (.fro (nD c))) :=
    (run_augF rfl rfl rfl (eOf (wr_cl hF hn hc)) (by simp; lia)).trans (by simp [wrSt])
  have s2 : ∀ R : List Int, R.length ≤ 2000000 → run C 4000 (.ifs (.chain .Lt .Lt (.cI 0) (.var 5) (.var 3)) (.seq (.app 4 (.bin .Mod (.bin .FloorDiv (.sub (.var 1) (.var 5)) (.cI 64)) (.cI 64))) .nil) .nil) (wrSt td F n R (.fro (nD c))) = some (.next, wrSt td F n (R ++ (if 0 < c ∧ c < n then [((td.getD c 0 / 64 % 64 : Nat) : Int)] else [])) (.fro (nD c))) := by
    intro R hR
    have hb : (ev C (.chain .Lt .Lt (.cI 0) (.var 5) (.var 3)) (wrSt td F n R (.fro (nD c)))).b = some (decide ((0 : Int) < (c : Int)) && decide ((c : Int) < (n : Int))) := b_chain (tOf v_cI) (tOf (v_var rfl)) rfl (tOf (v_var rfl)) rfl
    refine (run_if hb).trans ?_
    by_cases h : 0 < c ∧ c < n
    · rw [decide_eq_true (show (0 : Int) < c by lia), decide_eq_true (show (c : Int) < n by lia), if_pos h, Bool.and_self, if_pos rfl]
      refine run_seq (b := .nil) ((run_app rfl (eOf (v_bin (tOf (v_bin (tOf (v_sub (tOf (v_var rfl)) (tOf (v_var rfl)) (n_get (by lia) (by lia)))) (tOf v_cI) (bin_div _ 64 (by decide) (by decide)))) (tOf v_cI) (bin_mod _ 64 (by decide)))) (by simp; lia)).trans ?_)
      simp [wrSt]
    · rw [if_neg h]
      have : (decide ((0 : Int) < (c : Int)) && decide ((c : Int) < (n : Int))) = false := by
        rw [Bool.and_eq_false_iff]
        by_cases h0 : 0 < c
        · exact .inr (decide_eq_false (by lia))
        · exact .inl (decide_eq_false (by lia))
      rw [this, if_neg Bool.false_ne_true, List.append_nil]; rfl
  have s3 : ∀ R : List Int, R.length ≤ 2000000 → run C 4000 (.augL 4 (.comp (.cI 7) (.one 7) (.rng (.cons (.bin .Add (.var 5) (.cI 2)) (.cons (.bin .Add (.var 3) (.cI 1)) .nil))) (.cmp .Eq (.sub (.sub (.var 2) (.var 5)) (.var 7)) (.cI 1)) [2, 5])) (wrSt td F n R (.fro (nD c))) = some (.next, wrSt td F n (R ++ wrOp F n c) (.fro (nD c))) := λ R hR =>
    (run_augF rfl rfl rfl (eOf (wr_op hF hn hc)) (by simp; lia)).trans (by simp [wrSt])
  have s4 : ∀ R : List Int, R.length ≤ 2000000 → run C 4000 (.ifs (.cmp .Lt (.var 5) (.var 3)) (.seq (.app 4 (.bin .Add (.cI 222) (.bin .FloorDiv (.sub (.var 1) (.var 5)) (.cI 4096)))) .nil) .nil) (wrSt td F n R (.fro (nD c))) = some (.next, wrSt td F n (R ++ (if c < n then [222 + ((td.getD c 0 / 4096 : Nat) : Int)] else [])) (.fro (nD c))) := by
    intro R hR
    have hb : (ev C (.cmp .Lt (.var 5) (.var 3)) (wrSt td F n R (.fro (nD c)))).b = some (decide ((c : Int) < (n : Int))) := b_cmp (tOf (v_var rfl)) (tOf (v_var rfl)) rfl
    refine (run_if hb).trans ?_
    by_cases h : c < n
    · rw [decide_eq_true (show (c : Int) < n by lia), if_pos h, if_pos rfl]
      refine run_seq (b := .nil) ((run_app rfl (eOf (v_bin (tOf v_cI) (tOf (v_bin (tOf (v_sub (tOf (v_var rfl)) (tOf (v_var rfl)) (n_get (by lia) (by lia)))) (tOf v_cI) (bin_div _ 4096 (by decide) (by decide)))) (bin_add _ _))) (by simp; lia)).trans ?_)
      simp [wrSt]
    · rw [decide_eq_false (show ¬ (c : Int) < n by lia), if_neg h, if_neg Bool.false_ne_true, List.append_nil]; rfl
  refine (run_seq s1).trans ((run_seq (s2 _ ?_)).trans ((run_seq (s3 _ ?_)).trans ((run_seq (s4 _ ?_)).trans ?_)))
  · simp only [List.length_append]; lia
  · simp only [List.length_append]; split <;> simp <;> lia
  · simp only [List.length_append]; split <;> simp <;> lia
  · unfold wrAt
    simp only [List.append_assoc]
    rfl
theorem wrAt_len {c : Nat} (hc : c ≤ n) : (wrAt td F n c).length ≤ 2 * n + 2 := by
  have l1 := wrCl_len (F := F) (c := c)
  have l2 := wrOp_len (F := F) (n := n) (c := c)
  unfold wrAt
  simp only [List.length_append]
  split <;> split <;> simp <;> lia
theorem wr_len (hn : n ≤ 100) : ∀ k, k ≤ n + 1 → ((List.range k).flatMap (wrAt td F n)).length ≤ k * (2 * n + 2)
  | 0, _ => by simp
  | k + 1, h => by
    have := wr_len hn k (by lia)
    have h2 := wrAt_len (td := td) (F := F) (n := n) (c := k) (by lia)
    rw [List.range_succ, List.flatMap_append, List.length_append]
    simp only [List.flatMap_cons, List.flatMap_nil, List.append_nil]
    rw [Nat.add_mul]; lia
theorem written_ok (hF : FrOk F n) (hn : n ≤ 100) (htd : td.length = n + 1) : specR C nm_law_written ["told", "frieze"] ps_law_written [.lst (td.map nD), .lst (F.map lnD)] = some (.lst ((writtenP td F n).map .int)) := by
  have hbnd : ∀ k, k ≤ n + 1 → ((List.range k).flatMap (wrAt td F n)).length ≤ 1000000 := λ k hk => by
    have h1 := wr_len (td := td) (F := F) hn k hk
    have h2 : k * (2 * n + 2) ≤ 101 * 202 := Nat.mul_le_mul (by lia) (by lia)
    lia
  obtain ⟨ρ', r1, c, rfl⟩ := runs_range (body := run C 4000 wrBody) (i := 5) (f := λ (k : Nat) => D.int (k : Int)) (n := n + 1) (ρ := wrSt td F n [] .undef) (λ k ρ => ∃ c, ρ = wrSt td F n ((List.range k).flatMap (wrAt td F n)) c) (by
    rintro k hk ρ ⟨c, rfl⟩
    refine ⟨_, wr_turn (C := C) hF (by lia) htd (c := k) (by lia) (hbnd k (by lia)), .fro (nD k), ?_⟩
    rw [List.range_succ, List.flatMap_append]; simp) ⟨_, rfl⟩
  refine specR_of (ρ' := wrSt td F n ((List.range (n + 1)).flatMap (wrAt td F n)) c) rfl ?_
  refine (run_seq (run_asg (d := nD n) (eOf (v_bin (tOf (v_len (tOf (v_var rfl)) (by rw [List.length_map]; lia))) (tOf v_cI) ?_)))).trans ?_
  · rw [bin_sb, List.length_map, htd]; congr 2; lia
  refine (run_seq (run_asgO (l := []) rfl)).trans ?_
  refine (run_seq (run_for (it_rng (lt_cons (tOf (v_bin (tOf (v_var rfl)) (tOf v_cI) (d := nD (n + 1)) rfl)) lt_nil) (drange_n (by lia))) r1)).trans (run_ret (run_retE ?_))
  refine eOf (v_bin (t_own rfl) (tOf (v_lst (l_cons (eOf v_cI) l_nil) (show 1 ≤ 16777216 by decide))) ?_)
  have := hbnd (n + 1) (Nat.le_refl _)
  rw [bin_app (by rw [List.length_map, List.length_singleton]; lia)]
  unfold writtenP; simp
end
theorem e_comp2 {C : Cx} {elt it1 it2 cond : PE} {tg1 tg2 : Tg} {caps : List Nat} {ρ : List Slot} {xs r : List D} (h1 : (ev C it1 ρ).it = some xs)
    (h2 : compGo (λ x => (bindT tg1 x (mask caps ρ)).bind λ ρ1 => (ev C it2 ρ1).it.bind λ ys => compGo (λ y => (bindT tg2 y ρ1).bind λ ρ' => (ev C cond ρ').b.bind λ c => if c then (ev C elt ρ').e.map λ d => [d] else some []) ys) xs = some r) (h3 : r.length ≤ 16777216) :
    ev C (.comp2 elt tg1 it1 tg2 it2 cond caps) ρ = .of (some (.lst r)) := by
  show Rs.of (mkComp false false ((ev C it1 ρ).it.bind λ xs => compGo (λ x => (bindT tg1 x (mask caps ρ)).bind λ ρ1 => (ev C it2 ρ1).it.bind λ ys => compGo (λ y => (bindT tg2 y ρ1).bind λ ρ' => (ev C cond ρ').b.bind λ c => if c then (ev C elt ρ').e.map λ d => [d] else some []) ys) xs)) = _
  rw [h1, Option.bind_some, h2]
  unfold mkComp
  rw [Option.bind_some, if_pos (by simp [h3])]
theorem inner_of {C : Cx} {tg1 tg2 : Tg} {x : D} {ρ ρ1 : List Slot} {it2 cond elt : PE} {ys r : List D} (h1 : bindT tg1 x ρ = some ρ1) (h2 : (ev C it2 ρ1).it = some ys) (h3 : compGo (λ y => (bindT tg2 y ρ1).bind λ ρ' => (ev C cond ρ').b.bind λ c => if c then (ev C elt ρ').e.map λ d => [d] else some []) ys = some r) :
    ((bindT tg1 x ρ).bind λ ρ1 => (ev C it2 ρ1).it.bind λ ys => compGo (λ y => (bindT tg2 y ρ1).bind λ ρ' => (ev C cond ρ').b.bind λ c => if c then (ev C elt ρ').e.map λ d => [d] else some []) ys) = some r := by
  rw [h1, Option.bind_some, h2, Option.bind_some, h3]
abbrev T3 := Int × Int × Int
noncomputable def inT (t : T3) (j : Nat) : Bool := [t.1, t.2.1, t.2.2].contains (j : Int)
noncomputable def wayStep (ths : List T3) (j : Nat) (ways : List Nat) : List Nat := ways.flatMap λ u => (List.range ths.length).flatMap λ t => if inT (ths.getD t (0, 0, 0)) j && (u / 2 ^ t % 2 == 0) then [u + 2 ^ t] else []
noncomputable def wyN (ths : List T3) (i : Nat) : Nat → List Nat
  | 0 => [0]
  | k + 1 => wayStep ths (i + 1 + k) (wyN ths i k)
noncomputable def wyLine (ths : List T3) (i k : Nat) : List Int := List.replicate (i + 1) 0 ++ (List.range k).map λ m => ((wyN ths i m).length : Int)
noncomputable def waysP (ths : List T3) (n : Nat) : List (List Int) := (List.range n).map λ i => wyLine ths i (n + 1 - (i + 1))
theorem fm_len2 {α β : Type} {f : α → List β} {b : Nat} (h : ∀ k, (f k).length ≤ b) : ∀ l : List α, (l.flatMap f).length ≤ l.length * b
  | [] => by simp
  | k :: l => by
    have h1 := h k
    have h2 := fm_len2 h l
    rw [List.flatMap_cons, List.length_append, List.length_cons, Nat.add_mul]; lia
theorem wyN_len {ths : List T3} (h : ths.length ≤ 6) (i : Nat) : ∀ k, (wyN ths i k).length ≤ 6 ^ k
  | 0 => by simp [wyN]
  | k + 1 => by
    have ih := wyN_len h i k
    have h1 : (wyN ths i (k + 1)).length ≤ (wyN ths i k).length * 6 := by
      refine fm_len2 (λ u => ?_) _
      have := fm_len2 (b := 1) (f := λ t => if inT (ths.getD t (0, 0, 0)) (i + 1 + k) && (u / 2 ^ t % 2 == 0) then [u + 2 ^ t] else []) (λ t => by split <;> simp) (List.range ths.length)
      rw [List.length_range] at this; lia
    rw [Nat.pow_succ]; lia
noncomputable def wSt (ths : List T3) (n : Nat) (T : List (List Int)) (i ln wy j : Slot) : List Slot := [.undef, .fro (.lst (ths.map t3D)), .fro (nD n), .own (T.map lnD), i, ln, wy, j, .undef, .undef]
noncomputable def wComp : PE := (.comp2 (.bin .Add (.var 8) (.bin .Pow (.cI 2) (.var 9))) (.one 8) (.var 6) (.one 9) (.rng (.cons (.bi .len (.cons (.var 1) .nil)) .nil)) (.and_ (.cmp .In (.var 7) (.sub (.var 1) (.var 9))) (.cmp .Eq (.bin .Mod (.bin .FloorDiv (.var 8) (.bin .Pow (.cI 2) (.var 9))) (.cI 2)) (.cI 0))) [1, 7])
noncomputable def wBody1 : PS :=
      (.seq (.app 5 (.bi .len (.cons (.var 6) .nil)))
      (.seq (.asgO 6 wComp)
      (.seq (.frz 6)
      .nil)))
noncomputable def wBody2 : PS :=
    (.seq (.asgO 5 (.bin .Mult (.lst (.cons (.cI 0) .nil)) (.bin .Add (.var 4) (.cI 1))))
    (.seq (.asg 6 (.lst (.cons (.cI 0) .nil)))
    (.seq (.for_ (.one 7) (.rng (.cons (.bin .Add (.var 4) (.cI 1)) (.cons (.bin .Add (.var 2) (.cI 1)) .nil))) wBody1)
    (.seq (.frz 5)
    (.seq (.app 3 (.var 5))
    .nil)))))
section
variable {C : Cx} {ths : List T3} {n : Nat}
theorem two_pow (t : Nat) (h : t ≤ 60) : dbin .Pow (.int 2) (.int (t : Int)) = some (nD (2 ^ t)) := by
  show (if smallI 2 && decide (0 ≤ (t : Int)) && decide ((t : Int) ≤ 1000) then some (D.int (2 ^ (t : Int).toNat)) else none) = _
  rw [if_pos (by rw [smallI_of (by decide) (by decide)]; simp; lia)]
  have : ((t : Int)).toNat = t := by lia
  rw [this]
  congr 2
theorem w_comp (hl : ths.length ≤ 6) {T : List (List Int)} {i ln : Slot} (hi : ∃ d, i = .fro d) (hln : ∃ l, ln = .own l) {ways : List Nat} (hw : ways.length ≤ 1000000) {j : Nat} :
    ev C wComp (wSt ths n T i ln (.fro (.lst (ways.map nD))) (.fro (nD j))) = .of (some (.lst ((wayStep ths j ways).map nD))) := by
  obtain ⟨di, rfl⟩ := hi
  obtain ⟨l, rfl⟩ := hln
  have hm : mask [1, 7] (wSt ths n T (.fro di) (.own l) (.fro (.lst (ways.map nD))) (.fro (nD j))) = [.undef, .fro (.lst (ths.map t3D)), .undef, .undef, .undef, .undef, .undef, .fro (nD j), .undef, .undef] := rfl
  have hlen : (wayStep ths j ways).length ≤ ways.length * 6 := by
    refine fm_len2 (λ u => ?_) _
    have := fm_len2 (b := 1) (f := λ t => if inT (ths.getD t (0, 0, 0)) j && (u / 2 ^ t % 2 == 0) then [u + 2 ^ t] else []) (λ t => by split <;> simp) (List.range ths.length)
    rw [List.length_range] at this; lia
  have e : (wayStep ths j ways).map nD = ways.flatMap λ u => (List.range ths.length).flatMap λ t => if inT (ths.getD t (0, 0, 0)) j && (u / 2 ^ t % 2 == 0) then [nD (u + 2 ^ t)] else [] := by
    unfold wayStep
    rw [List.map_flatMap]
    simp only [List.map_flatMap, apply_ite (List.map nD), List.map_cons, List.map_nil]
  rw [e]
  refine e_comp2 (it_of (v_var rfl) (by rw [List.length_map]; lia)) (compGo_map _ λ u hu => ?_) (by rw [← e, List.length_map]; lia)
  rw [hm]
  refine inner_of (ρ1 := [.undef, .fro (.lst (ths.map t3D)), .undef, .undef, .undef, .undef, .undef, .fro (nD j), .fro (nD u), .undef]) rfl (it_rng (lt_cons (tOf (v_len (tOf (v_var rfl)) (by rw [List.length_map]; lia))) lt_nil) (by rw [List.length_map]; exact drange_n (by lia))) (compGo_map _ λ t ht => ?_)
  have ht := List.mem_range.mp ht
  have hpos : 2 ^ t ≤ 64 := by
    have : 2 ^ t ≤ 2 ^ 6 := Nat.pow_le_pow_right (by decide) (by lia)
    have e : (2 : Nat) ^ 6 = 64 := by decide
    omega
  have hne : 2 ^ t ≠ 0 := Nat.pos_iff_ne_zero.mp (Nat.pow_pos (by decide))
  have hget : ths[t]? = some (ths.getD t (0, 0, 0)) := by rw [List.getD_eq_getElem?_getD, List.getElem?_eq_getElem ht]; rfl
  refine (elt_of (ρ' := [.undef, .fro (.lst (ths.map t3D)), .undef, .undef, .undef, .undef, .undef, .fro (nD j), .fro (nD u), .fro (nD t)]) (c := inT (ths.getD t (0, 0, 0)) j && (u / 2 ^ t % 2 == 0)) (d := nD (u + 2 ^ t)) rfl (b_and (b_cmp (tOf (v_var rfl)) (tOf (v_sub (tOf (v_var rfl)) (tOf (v_var rfl)) (dsub_nat (d := t3D (ths.getD t (0, 0, 0))) (by lia) (by rw [List.getElem?_map, hget]; rfl)))) rfl) (λ _ => ?_)) (λ _ => ?_)).trans ?_
  · refine b_cmp (tOf (v_bin (tOf (v_bin (tOf (v_var rfl)) (tOf (v_bin (tOf v_cI) (tOf (v_var rfl)) (two_pow t (by lia)))) (bin_div u (2 ^ t) hne (by lia)))) (tOf v_cI) (bin_mod _ 2 (by decide)))) (tOf v_cI) ?_
    show some (((u / 2 ^ t % 2 : Nat) : Int) == 0) = _
    congr 1
    cases h : u / 2 ^ t % 2 with
    | zero => rfl
    | succ m => rfl
  · exact eOf (v_bin (tOf (v_var rfl)) (tOf (v_bin (tOf v_cI) (tOf (v_var rfl)) (two_pow t (by lia)))) (bin_add _ _))
  · split <;> rfl
theorem w_turn1 (hl : ths.length ≤ 6) {T : List (List Int)} {i k : Nat} (hk : k ≤ 7) (hi : i ≤ 100) : run C 4000 wBody1 (wSt ths n T (.fro (nD i)) (.own ((wyLine ths i k).map .int)) (.fro (.lst ((wyN ths i k).map nD))) (.fro (nD (i + 1 + k)))) = some (.next, wSt ths n T (.fro (nD i)) (.own ((wyLine ths i (k + 1)).map .int)) (.fro (.lst ((wyN ths i (k + 1)).map nD))) (.fro (nD (i + 1 + k)))) := by
  have hw := wyN_len hl i k
  have h6 : 6 ^ k ≤ 6 ^ 7 := Nat.pow_le_pow_right (by decide) hk
  have e6 : (6 : Nat) ^ 7 = 279936 := by decide
  have hll : (wyLine ths i k).length = i + 1 + k := by unfold wyLine; simp
  have s1 : run C 4000 (.app 5 (.bi .len (.cons (.var 6) .nil))) (wSt ths n T (.fro (nD i)) (.own ((wyLine ths i k).map .int)) (.fro (.lst ((wyN ths i k).map nD))) (.fro (nD (i + 1 + k)))) = some (.next, wSt ths n T (.fro (nD i)) (.own ((wyLine ths i (k + 1)).map .int)) (.fro (.lst ((wyN ths i k).map nD))) (.fro (nD (i + 1 + k)))) := by
    refine (run_app rfl (eOf (v_len (tOf (v_var rfl)) (by rw [List.length_map]; lia))) (by rw [List.length_map, hll]; lia)).trans ?_
    have : wyLine ths i (k + 1) = wyLine ths i k ++ [((wyN ths i k).length : Int)] := by
      unfold wyLine
      rw [List.range_succ, List.map_append, List.append_assoc]; rfl
    rw [this, List.length_map]
    simp [wSt]
  refine (run_seq s1).trans ((run_seq (run_asgO (eOf (w_comp hl ⟨_, rfl⟩ ⟨_, rfl⟩ (by lia))))).trans (run_seq (b := .nil) ((run_frz rfl).trans ?_)))
  rfl
theorem w_turn2 (hl : ths.length ≤ 6) (hn : n ≤ 7) {T : List (List Int)} (hT : T.length ≤ 1000) {i : Nat} (hi : i < n) {a b c : Slot} :
    ∃ a' b' c', run C 4000 wBody2 (wSt ths n T (.fro (nD i)) a b c) = some (.next, wSt ths n (T ++ [wyLine ths i (n + 1 - (i + 1))]) (.fro (nD i)) a' b' c') := by
  obtain ⟨ρ', r1, c', rfl⟩ := runs_range (body := run C 4000 wBody1) (i := 7) (f := λ (k : Nat) => D.int ((i + 1 + k : Nat) : Int)) (n := n + 1 - (i + 1)) (ρ := wSt ths n T (.fro (nD i)) (.own ((wyLine ths i 0).map .int)) (.fro (.lst ((wyN ths i 0).map nD))) c) (λ k ρ => ∃ c, ρ = wSt ths n T (.fro (nD i)) (.own ((wyLine ths i k).map .int)) (.fro (.lst ((wyN ths i k).map nD))) c) (by
    rintro k hk ρ ⟨c, rfl⟩
    exact ⟨_, w_turn1 (C := C) hl (by lia) (by lia), _, rfl⟩) ⟨_, rfl⟩
  refine ⟨.fro (lnD (wyLine ths i (n + 1 - (i + 1)))), .fro (.lst ((wyN ths i (n + 1 - (i + 1))).map nD)), c', ?_⟩
  refine (run_seq (run_asgO (l := (wyLine ths i 0).map .int) (eOf (v_bin (tOf (v_lst (l_cons (eOf v_cI) l_nil) (show 1 ≤ 16777216 by decide))) (tOf (v_bin (tOf (v_var rfl)) (tOf v_cI) (d := nD (i + 1)) rfl)) ?_)))).trans ?_
  · rw [bin_rep (by lia)]; unfold wyLine; simp
  refine (run_seq (run_asg (eOf (v_lst (l := [.int 0]) (l_cons (eOf v_cI) l_nil) (show 1 ≤ 16777216 by decide))))).trans ?_
  refine (run_seq (run_for (it_rng (lt_cons (tOf (v_bin (tOf (v_var rfl)) (tOf v_cI) (d := nD (i + 1)) rfl)) (lt_cons (tOf (v_bin (tOf (v_var rfl)) (tOf v_cI) (d := nD (n + 1)) rfl)) lt_nil)) (drange_ab (by lia) (by lia))) r1)).trans ?_
  refine (run_seq (run_frz rfl)).trans (run_seq (b := .nil) ((run_app rfl (eOf (v_var rfl)) (by rw [List.length_map]; lia)).trans ?_))
  simp [wSt]
theorem ways_ok (hl : ths.length ≤ 6) (hn : n ≤ 7) : specR C nm_law_ways ["threes", "size"] ps_law_ways [.lst (ths.map t3D), nD n] = some (.lst ((waysP ths n).map lnD)) := by
  obtain ⟨ρ', r1, a, b, c, d, rfl⟩ := runs_range (body := run C 4000 wBody2) (i := 4) (f := λ (k : Nat) => D.int (k : Int)) (n := n) (ρ := wSt ths n [] .undef .undef .undef .undef) (λ k ρ => ∃ a b c d, ρ = wSt ths n ((List.range k).map λ i => wyLine ths i (n + 1 - (i + 1))) a b c d) (by
    rintro k hk ρ ⟨a, b, c, d, rfl⟩
    obtain ⟨a', b', c', h⟩ := w_turn2 (C := C) hl hn (T := (List.range k).map λ i => wyLine ths i (n + 1 - (i + 1))) (by simp; lia) hk (a := b) (b := c) (c := d)
    refine ⟨_, h, .fro (nD k), a', b', c', ?_⟩
    rw [List.range_succ, List.map_append]; rfl) ⟨_, _, _, _, rfl⟩
  refine specR_of (ρ' := (wSt ths n (waysP ths n) a b c d).set 3 (.fro (.lst ((waysP ths n).map lnD)))) rfl ?_
  exact (run_seq (run_asgO (l := []) rfl)).trans ((run_seq (run_for (it_rng (lt_cons (tOf (v_var rfl)) lt_nil) (drange_n (by lia))) r1)).trans ((run_seq (run_frz rfl)).trans (run_ret (run_retE (eOf (v_var rfl))))))
end
noncomputable def light (s l c : Nat) : List Nat := [if 0 = c then 4 * l else l * (4 - s), if 1 = c then 4 * l else l * (4 - s), if 2 = c then 4 * l else l * (4 - s)]
noncomputable def F32 (n : Nat) : UInt64 := Float64.ofFrac false n 32
noncomputable def F4 (n : Nat) : UInt64 := Float64.ofFrac false n 4
noncomputable def lpart (s l c p : Nat) : Nat := if p = c then 4 * l else l * (4 - s)
noncomputable def mixD (s l a b : Nat) : List D := [.flt (F32 (lpart s l a 0 + lpart s l b 0)), .flt (F32 (lpart s l a 1 + lpart s l b 1)), .flt (F32 (lpart s l a 2 + lpart s l b 2))]
noncomputable def hsvD (l : List D) : Option D := specR (k4 cE) nm_rgb_to_hsv ["r", "g", "b"] ps_rgb_to_hsv l
noncomputable def rgbD (l : List D) : Option D := specR (k5 cE) nm_hsv_to_rgb ["h", "s", "v"] ps_hsv_to_rgb l
noncomputable def hlsD (l : List D) : Option D := specR (k3 cE) nm_rgb_to_hls ["r", "g", "b"] ps_rgb_to_hls l
noncomputable def tupOf (o : Option D) : Option (List D) := o.bind λ d => match d with | .tup l => some l | _ => none
noncomputable def getH (o : Option D) : Option UInt64 := (tupOf o).bind λ l => arg3 l λ a _ _ => atFlt a some
noncomputable def get3 (o : Option D) : Option (UInt64 × UInt64 × UInt64) := (tupOf o).bind λ l => arg3 l λ a b c => atFlt a λ x => atFlt b λ y => atFlt c λ z => some (x, y, z)
noncomputable def half : UInt64 := 0x3fe0000000000000
noncomputable def toI (p : UInt64) : Option Int := truncF (Float64.add (Float64.mul (Float64.ofInt 16) p) half)
noncomputable def nextL (s l a b : Nat) : Option (List (Option Int)) := (getH (hsvD (mixD s l a b))).bind λ h => (get3 (rgbD [.flt (Float64.add h half), .flt (F4 s), .flt (F4 l)])).map λ p => [toI p.1, toI p.2.1, toI p.2.2]
noncomputable def midL (s l a b : Nat) : Option Bool := (get3 (hlsD (mixD s l a b))).map λ p => Float64.cmpInt (Float64.mul (Float64.ofInt 64) p.2.1) (if a = b then 2 * ((4 * l : Nat) : Int) + 2 * ((l * (4 - s) : Nat) : Int) else ((4 * l : Nat) : Int) + 3 * ((l * (4 - s) : Nat) : Int)) == some Ordering.eq
noncomputable def okA (s l a b : Nat) : Bool := nextL s l a b == some ((light s l (3 - a - b)).map λ (n : Nat) => some (n : Int))
noncomputable def okB (s l a b : Nat) : Bool := midL s l a b == some true
noncomputable def okS (s : Nat) : Bool := [1, 2, 3, 4].all λ l => [(0, 0), (1, 1), (2, 2), (0, 1), (0, 2), (1, 2)].all λ p => okB s l p.1 p.2 && (p.1 == p.2 || okA s l p.1 p.2)
theorem ok1 : okS 1 = true := by decide +kernel
theorem ok2 : okS 2 = true := by decide +kernel
theorem ok3 : okS 3 = true := by decide +kernel
theorem ok4 : okS 4 = true := by decide +kernel
theorem div32_all : ((List.range 65).all λ n => !Float64.isInf (F32 n)) = true := by decide +kernel
theorem div4_all : ((List.range 5).all λ n => !Float64.isInf (F4 n)) = true := by decide +kernel
theorem mixD_comm (s l a b : Nat) : mixD s l a b = mixD s l b a := by unfold mixD; rw [Nat.add_comm (lpart s l a 0), Nat.add_comm (lpart s l a 1), Nat.add_comm (lpart s l a 2)]
theorem nextL_comm (s l a b : Nat) : nextL s l a b = nextL s l b a := by unfold nextL; rw [mixD_comm]
theorem midL_comm (s l a b : Nat) : midL s l a b = midL s l b a := by
  unfold midL; rw [mixD_comm]
  by_cases h : a = b
  · subst h; rfl
  · rw [if_neg h, if_neg (Ne.symm h)]
theorem mem4 : ∀ l, l < 5 → 1 ≤ l → l ∈ [1, 2, 3, 4] := by decide
theorem mem6 (a : Nat) (ha : a < 3) (b : Nat) (hb : b < 3) (h : a ≤ b) : (a, b) ∈ [(0, 0), (1, 1), (2, 2), (0, 1), (0, 2), (1, 2)] :=
  List.contains_iff_mem.mp ((by decide : ∀ a, a < 3 → ∀ b, b < 3 → (!decide (a ≤ b) || [(0, 0), (1, 1), (2, 2), (0, 1), (0, 2), (1, 2)].contains (a, b)) = true) a ha b hb |> λ q => by rwa [decide_eq_true h, Bool.not_true, Bool.false_or] at q)
theorem okS_all : ∀ s ∈ [1, 2, 3, 4], okS s = true := List.forall_mem_cons.mpr ⟨ok1, List.forall_mem_cons.mpr ⟨ok2, List.forall_mem_cons.mpr ⟨ok3, List.forall_mem_singleton.mpr ok4⟩⟩⟩
theorem ok_of {s l a b : Nat} (hs : 1 ≤ s ∧ s ≤ 4) (hl : 1 ≤ l ∧ l ≤ 4) (ha : a < 3) (hb : b < 3) (hab : a ≤ b) : okB s l a b = true ∧ (a == b || okA s l a b) = true :=
  band (List.all_eq_true.mp (List.all_eq_true.mp (okS_all s (mem4 s (Nat.lt_succ_of_le hs.2) hs.1)) l (mem4 l (Nat.lt_succ_of_le hl.2) hl.1)) (a, b) (mem6 a ha b hb hab))
theorem litA {s l a b : Nat} (hs : 1 ≤ s ∧ s ≤ 4) (hl : 1 ≤ l ∧ l ≤ 4) (ha : a < 3) (hb : b < 3) (hab : a ≠ b) : nextL s l a b = some ((light s l (3 - a - b)).map λ (n : Nat) => some (n : Int)) := by
  have key : ∀ a b, a < 3 → b < 3 → a < b → nextL s l a b = some ((light s l (3 - a - b)).map λ (n : Nat) => some (n : Int)) := λ a b ha hb hlt =>
    eq_of_beq ((Bool.or_eq_true_iff.mp (ok_of hs hl ha hb (Nat.le_of_lt hlt)).2).resolve_left λ h => Nat.ne_of_lt hlt (eq_of_beq h))
  rcases Nat.lt_or_gt_of_ne hab with hlt | hlt
  · exact key a b ha hb hlt
  · rw [nextL_comm, Nat.sub_right_comm]
    exact key b a hb ha hlt
theorem litB {s l a b : Nat} (hs : 1 ≤ s ∧ s ≤ 4) (hl : 1 ≤ l ∧ l ≤ 4) (ha : a < 3) (hb : b < 3) : midL s l a b = some true := by
  rcases Nat.le_total a b with hlt | hlt
  · exact eq_of_beq (ok_of hs hl ha hb hlt).1
  · rw [midL_comm]; exact eq_of_beq (ok_of hs hl hb ha hlt).1
theorem div32 {n : Nat} (h : n < 65) : dbin .Div (.int (n : Int)) (.int 32) = some (.flt (F32 n)) := by
  have q := List.all_eq_true.mp div32_all n (List.mem_range.mpr h)
  have e1 : decide ((n : Int) < 0) = false := decide_eq_false (by lia)
  show (if (32 : Int) != 0 && !Float64.isInf (Float64.ofFrac (decide ((n : Int) < 0) != decide ((32 : Int) < 0)) (n : Int).natAbs (32 : Int).natAbs) then some (D.flt (Float64.ofFrac (decide ((n : Int) < 0) != decide ((32 : Int) < 0)) (n : Int).natAbs (32 : Int).natAbs)) else none) = _
  rw [e1]
  exact if_pos q
theorem div4 {n : Nat} (h : n < 5) : dbin .Div (.int (n : Int)) (.int 4) = some (.flt (F4 n)) := by
  have q := List.all_eq_true.mp div4_all n (List.mem_range.mpr h)
  have e1 : decide ((n : Int) < 0) = false := decide_eq_false (by lia)
  show (if (4 : Int) != 0 && !Float64.isInf (Float64.ofFrac (decide ((n : Int) < 0) != decide ((4 : Int) < 0)) (n : Int).natAbs (4 : Int).natAbs) then some (D.flt (Float64.ofFrac (decide ((n : Int) < 0) != decide ((4 : Int) < 0)) (n : Int).natAbs (4 : Int).natAbs)) else none) = _
  rw [e1]
  exact if_pos q
theorem mask_nil : ∀ (ρ : List Slot) (n : Nat), maskFrom [] n ρ = List.replicate ρ.length .undef
  | [], _ => rfl
  | s :: ρ, n => by
    have ih := mask_nil ρ (n + 1)
    cases s with
    | undef => show Slot.undef :: maskFrom [] (n + 1) ρ = _; rw [ih]; rfl
    | own l => show Slot.undef :: maskFrom [] (n + 1) ρ = _; rw [ih]; rfl
    | fro d => show Slot.undef :: maskFrom [] (n + 1) ρ = _; rw [ih]; rfl
theorem e_compZ {C : Cx} {elt it cond : PE} {tg : Tg} {ρ : List Slot} {xs r : List D} (h1 : (ev C it ρ).it = some xs) (h2 : compGo (λ x => (bindT tg x (mask [] ρ)).bind λ ρ' => (ev C cond ρ').b.bind λ c => if c then (ev C elt ρ').e.map λ d => [d] else some []) xs = some r) (h3 : r.length ≤ 16777216) (h4 : flatL r = true) :
    ev C (.comp elt tg it cond []) ρ = .of (some (.lst r)) := by
  show Rs.of (mkComp (needsTup it) true ((ev C it ρ).it.bind λ xs => compGo (λ x => (bindT tg x (mask [] ρ)).bind λ ρ' => (ev C cond ρ').b.bind λ c => if c then (ev C elt ρ').e.map λ d => [d] else some []) xs)) = _
  rw [h1, Option.bind_some, h2]
  unfold mkComp
  rw [Option.bind_some, if_pos]
  rw [h4, decide_eq_true h3]
  simp
theorem it_zip {C : Cx} {a b : PE} {ρ : List Slot} {x y : List D} (h1 : (ev C a ρ).e = some (.lst x)) (h2 : (ev C b ρ).e = some (.lst y)) (hx : flatL x = true) (hy : flatL y = true) : (ev C (.zip a b) ρ).it = some ((x.zip y).map λ p => .tup [p.1, p.2]) := by
  show ((ev C a ρ).e.bind λ x => (ev C b ρ).e.bind λ y => match x, y with
      | .lst x, .lst y => if flatL x && flatL y then some ((x.zip y).map λ p => D.tup [p.1, p.2]) else none
      | _, _ => none) = _
  rw [h1, h2, Option.bind_some, Option.bind_some]
  show (if flatL x && flatL y then _ else _) = _
  rw [hx, hy]; rfl
theorem it_tup {C : Cx} {p : PE} {ρ : List Slot} {l : List D} (h : ev C p ρ = .of (some (.tup l))) (hl : l.length ≤ 16777216) : (ev C p ρ).it = some l := by
  rw [h]; exact if_pos (decide_eq_true hl)
noncomputable def colD (s l : Nat) : Option Nat → D
  | none => .lst []
  | some c => .lst ((light s l c).map nD)
noncomputable def ltSt (ths : List T3) (F : List (List Int)) (n dr s l tu st : Nat) (L : List (Option Nat)) (g : List Slot) : List Slot :=
  .undef :: .fro (.lst (ths.map t3D)) :: .fro (.lst (F.map lnD)) :: .fro (nD n) :: .fro (nD dr) :: .fro (nD s) :: .fro (nD l) :: .fro (nD tu) :: .fro (nD st) :: .fro (nD (4 * l)) :: .fro (nD (l * (4 - s))) :: .own (L.map (colD s l)) :: g
structure LtCx (C : Cx) : Prop where
  hsv : ∀ l, C.fn "rgb_to_hsv" l = hsvD l
  rgb : ∀ l, C.fn "hsv_to_rgb" l = rgbD l
  hls : ∀ l, C.fn "rgb_to_hls" l = hlsD l
structure LtOk (s l : Nat) : Prop where
  s : 1 ≤ s ∧ s ≤ 4
  l : 1 ≤ l ∧ l ≤ 4
theorem lpart_le {s l : Nat} (h : LtOk s l) (c p : Nat) : lpart s l c p ≤ 16 := by
  have h1 := h.s
  have h2 := h.l
  unfold lpart
  split
  · lia
  · have : l * (4 - s) ≤ 4 * 4 := Nat.mul_le_mul (by lia) (by omega)
    omega
noncomputable def mixE : PE := (.comp (.bin .Div (.bin .Add (.var 22) (.var 23)) (.cI 32)) (.many [22, 23]) (.zip (.sub (.var 11) (.var 12)) (.sub (.var 11) (.var 14))) (.cB true) [])
section
variable {C : Cx} {ths : List T3} {F : List (List Int)} {n dr s l tu st : Nat} {L : List (Option Nat)}
theorem lt_get (hL : L.length ≤ 1000) {i a : Nat} {g : List Slot} {e : PE} (hi : L[i]? = some (some a)) (he : ev C e (ltSt ths F n dr s l tu st L g) = .of (some (nD i))) : ev C (.sub (.var 11) e) (ltSt ths F n dr s l tu st L g) = .of (some (.lst ((light s l a).map nD))) := by
  have hlt := (List.getElem?_eq_some_iff.mp hi).1
  exact v_sub (t_own rfl) (tOf he) (dsub_nat (by lia) (by rw [List.getElem?_map, hi]; rfl))
theorem lt_mix (hk : LtOk s l) (hL : L.length ≤ 1000) {i j a b : Nat} (hi : L[i]? = some (some a)) (hj : L[j]? = some (some b)) {g : List Slot} {k : Slot} (hg : g.length = 9) :
    ev C mixE (ltSt ths F n dr s l tu st L (.fro (nD i) :: k :: .fro (nD j) :: g)) = .of (some (.lst (mixD s l a b))) := by
  have h1 := lt_get (C := C) (ths := ths) (F := F) (n := n) (dr := dr) (s := s) (l := l) (tu := tu) (st := st) hL (g := .fro (nD i) :: k :: .fro (nD j) :: g) (e := .var 12) hi (v_var rfl)
  have h2 := lt_get (C := C) (ths := ths) (F := F) (n := n) (dr := dr) (s := s) (l := l) (tu := tu) (st := st) hL (g := .fro (nD i) :: k :: .fro (nD j) :: g) (e := .var 14) hj (v_var rfl)
  have hm : mask [] (ltSt ths F n dr s l tu st L (.fro (nD i) :: k :: .fro (nD j) :: g)) = List.replicate 24 .undef := by
    unfold mask
    rw [mask_nil]
    congr 1
    unfold ltSt
    simp [hg]
  have hz := it_zip (eOf h1) (eOf h2) rfl rfl
  have ez : (((light s l a).map nD).zip ((light s l b).map nD)).map (λ p => D.tup [p.1, p.2]) = [0, 1, 2].map λ p => D.tup [nD (lpart s l a p), nD (lpart s l b p)] := rfl
  rw [ez] at hz
  have em : mixD s l a b = [0, 1, 2].flatMap λ p => [D.flt (F32 (lpart s l a p + lpart s l b p))] := rfl
  rw [em]
  refine e_compZ hz (compGo_map _ λ p _ => ?_) (by simp) rfl
  rw [hm]
  have b1 := lpart_le hk a p
  have b2 := lpart_le hk b p
  exact elt_of (ρ' := List.replicate 22 .undef ++ [.fro (nD (lpart s l a p)), .fro (nD (lpart s l b p))]) (c := true) (d := .flt (F32 (lpart s l a p + lpart s l b p))) rfl rfl λ _ => eOf (v_bin (tOf (v_bin (tOf (v_var rfl)) (tOf (v_var rfl)) (d := nD (lpart s l a p + lpart s l b p)) rfl)) (tOf v_cI) (div32 (by lia)))
noncomputable def nextE : PE := (.comp (.bi .int (.cons (.bin .Add (.bin .Mult (.cI 16) (.var 21)) (.cF 0x3fe0000000000000)) .nil)) (.one 21) (.call "hsv_to_rgb" (.cons (.bin .Add (.var 18) (.cF 0x3fe0000000000000)) (.cons (.bin .Div (.var 5) (.cI 4)) (.cons (.bin .Div (.var 6) (.cI 4)) .nil)))) (.cB true) [])
noncomputable def ltBody1 : PS :=
    (.seq (.asgT [15, 16, 17] mixE)
    (.seq (.asg 18 (.sub (.call "rgb_to_hsv" (.cons (.var 15) (.cons (.var 16) (.cons (.var 17) .nil)))) (.cI 0)))
    (.seq (.setI 11 (.var 13) nextE)
    .nil)))
theorem tupOf_ok {o : Option D} {l : List D} (h : tupOf o = some l) : o = some (.tup l) := bindE h λ d e h => by
  cases d with
  | tup l => cases h; exact e
  | _ => exact nos h
theorem getH_some {o : Option D} {h : UInt64} (e : getH o = some h) : ∃ x y, o = some (.tup [.flt h, x, y]) :=
  bindE e λ l e1 e => arg3_ok (P := λ l => o = some (.tup l) → _) e (λ a b c e => atFlt_ok (P := λ a => o = some (.tup [a, b, c]) → _) e λ k e q => ⟨b, c, som e ▸ q⟩) (tupOf_ok e1)
theorem get3_some {o : Option D} {p : UInt64 × UInt64 × UInt64} (e : get3 o = some p) : o = some (.tup [.flt p.1, .flt p.2.1, .flt p.2.2]) :=
  bindE e λ l e1 e => arg3_ok (P := λ l => o = some (.tup l) → _) e (λ a b c e => atFlt_ok (P := λ a => o = some (.tup [a, b, c]) → _) e λ x e => atFlt_ok (P := λ b => o = some (.tup [.flt x, b, c]) → _) e λ y e => atFlt_ok (P := λ c => o = some (.tup [.flt x, .flt y, c]) → _) e λ z e q => by cases e; exact q) (tupOf_ok e1)
theorem dsub_tup0 {l : List D} {d : D} {k : Nat} (hk : k ≤ 1000) (h : l[k]? = some d) : dsub (.tup l) (.int (k : Int)) = some d := by
  exact dsubT_at (Nat.le_trans hk (by decide)) h
theorem lt_turn1 (K : LtCx C) (hk : LtOk s l) (hL : L.length ≤ 1000) {i j k a b : Nat} (hi : L[i]? = some (some a)) (hj : L[j]? = some (some b)) (hkl : k < L.length) (ha : a < 3) (hb : b < 3) (hab : a ≠ b) {r g b' h d c p x y : Slot} :
    ∃ r' g' b'' h', run C 4000 ltBody1 (ltSt ths F n dr s l tu st L [.fro (nD i), .fro (nD k), .fro (nD j), r, g, b', h, d, c, p, x, y]) = some (.next, ltSt ths F n dr s l tu st (L.set k (some (3 - a - b))) [.fro (nD i), .fro (nD k), .fro (nD j), r', g', b'', h', d, c, p, x, y]) := by
  have hA := litA hk.s hk.l ha hb hab
  unfold nextL at hA
  obtain ⟨hh, e1, hA⟩ := Option.bind_eq_some_iff.mp hA
  obtain ⟨q, e2, e3⟩ := Option.map_eq_some_iff.mp hA
  obtain ⟨y1, y2, e1⟩ := getH_some e1
  have e2 := get3_some e2
  have e3' : [toI q.1, toI q.2.1, toI q.2.2] = [some ((lpart s l (3 - a - b) 0 : Nat) : Int), some ((lpart s l (3 - a - b) 1 : Nat) : Int), some ((lpart s l (3 - a - b) 2 : Nat) : Int)] := e3
  simp only [List.cons.injEq, and_true] at e3'
  obtain ⟨t0, t1, t2⟩ := e3'
  refine ⟨.fro (.flt (F32 (lpart s l a 0 + lpart s l b 0))), .fro (.flt (F32 (lpart s l a 1 + lpart s l b 1))), .fro (.flt (F32 (lpart s l a 2 + lpart s l b 2))), .fro (.flt hh), ?_⟩
  refine (run_seq (ρ' := ltSt ths F n dr s l tu st L [.fro (nD i), .fro (nD k), .fro (nD j), .fro (.flt (F32 (lpart s l a 0 + lpart s l b 0))), .fro (.flt (F32 (lpart s l a 1 + lpart s l b 1))), .fro (.flt (F32 (lpart s l a 2 + lpart s l b 2))), h, d, c, p, x, y]) (run_asgT (eOf (lt_mix hk hL hi hj rfl)) rfl)).trans ?_
  refine (run_seq (ρ' := ltSt ths F n dr s l tu st L [.fro (nD i), .fro (nD k), .fro (nD j), .fro (.flt (F32 (lpart s l a 0 + lpart s l b 0))), .fro (.flt (F32 (lpart s l a 1 + lpart s l b 1))), .fro (.flt (F32 (lpart s l a 2 + lpart s l b 2))), .fro (.flt hh), d, c, p, x, y]) (run_asg (eOf (v_sub (tOf (v_call (l_cons (eOf (v_var rfl)) (l_cons (eOf (v_var rfl)) (l_cons (eOf (v_var rfl)) l_nil))) ((K.hsv _).trans e1))) (tOf v_cI) (dsub_tup0 (k := 0) (by decide) rfl))))).trans ?_
  refine run_seq (b := .nil) ((run_setI (n := (k : Int)) (ds' := (L.set k (some (3 - a - b))).map (colD s l)) rfl (eOf (v_var rfl)) (d := colD s l (some (3 - a - b))) ?_ ?_).trans ?_)
  · have hcall : ∀ ρ : List Slot, ρ[18]? = some (.fro (.flt hh)) → ρ[5]? = some (.fro (nD s)) → ρ[6]? = some (.fro (nD l)) → ev C (.call "hsv_to_rgb" (.cons (.bin .Add (.var 18) (.cF 0x3fe0000000000000)) (.cons (.bin .Div (.var 5) (.cI 4)) (.cons (.bin .Div (.var 6) (.cI 4)) .nil)))) ρ = .of (some (.tup [.flt q.1, .flt q.2.1, .flt q.2.2])) := λ ρ h1 h2 h3 =>
      v_call (l_cons (eOf (v_bin (tOf (v_var h1)) (tOf v_cF) (d := .flt (Float64.add hh half)) rfl)) (l_cons (eOf (v_bin (tOf (v_var h2)) (tOf v_cI) (div4 (by have := hk.s; lia)))) (l_cons (eOf (v_bin (tOf (v_var h3)) (tOf v_cI) (div4 (by have := hk.l; lia)))) l_nil))) ((K.rgb _).trans e2)
    have hit := it_tup (hcall (ltSt ths F n dr s l tu st L [.fro (nD i), .fro (nD k), .fro (nD j), .fro (.flt (F32 (lpart s l a 0 + lpart s l b 0))), .fro (.flt (F32 (lpart s l a 1 + lpart s l b 1))), .fro (.flt (F32 (lpart s l a 2 + lpart s l b 2))), .fro (.flt hh), d, c, p, x, y]) rfl rfl rfl) (show 3 ≤ 16777216 by decide)
    have hm : mask [] (ltSt ths F n dr s l tu st L [.fro (nD i), .fro (nD k), .fro (nD j), .fro (.flt (F32 (lpart s l a 0 + lpart s l b 0))), .fro (.flt (F32 (lpart s l a 1 + lpart s l b 1))), .fro (.flt (F32 (lpart s l a 2 + lpart s l b 2))), .fro (.flt hh), d, c, p, x, y]) = List.replicate 24 .undef := by
      unfold mask
      rw [mask_nil]; rfl
    have hel : ∀ (f : UInt64) (v : Nat), toI f = some (v : Int) → ((bindT (.one 21) (.flt f) (List.replicate 24 .undef)).bind λ ρ' => (ev C (.cB true) ρ').b.bind λ c => if c then (ev C (.bi .int (.cons (.bin .Add (.bin .Mult (.cI 16) (.var 21)) (.cF 0x3fe0000000000000)) .nil)) ρ').e.map λ d => [d] else some []) = some [nD v] := λ f v hv => by
      refine elt_of (ρ' := List.replicate 21 .undef ++ [.fro (.flt f), .undef, .undef]) (c := true) (d := nD v) rfl rfl λ _ => ?_
      refine eOf (v_bi (lt_cons (tOf (v_bin (tOf (v_bin (tOf v_cI) (tOf (v_var rfl)) (d := .flt (Float64.mul (Float64.ofInt 16) f)) ?_)) (tOf v_cF) (d := .flt (Float64.add (Float64.mul (Float64.ofInt 16) f) half)) rfl)) lt_nil) ?_)
      · show (if smallI 16 then some (D.flt (Float64.mul (Float64.ofInt 16) f)) else none) = _
        exact if_pos (smallI_of (by decide) (by decide))
      · show (truncF (Float64.add (Float64.mul (Float64.ofInt 16) f) half)).map D.int = _
        rw [show truncF (Float64.add (Float64.mul (Float64.ofInt 16) f) half) = some (v : Int) from hv]; rfl
    refine eOf (e_comp rfl hit ?_ (show 3 ≤ 16777216 by decide))
    rw [hm]
    show compGo _ [.flt q.1, .flt q.2.1, .flt q.2.2] = some [nD (lpart s l (3 - a - b) 0), nD (lpart s l (3 - a - b) 1), nD (lpart s l (3 - a - b) 2)]
    simp only [compGo, hel _ _ t0, hel _ _ t1, hel _ _ t2]
    rfl
  · rw [setNat_nat (by lia) (by rw [List.length_map]; exact hkl), List.map_set]
  · rfl
end
noncomputable def litAt (L : List (Option Nat)) (i : Nat) : Option Nat := (L[i]?).bind id
theorem litAt_ok {L : List (Option Nat)} {i a : Nat} (h : litAt L i = some a) : L[i]? = some (some a) := bindE h λ _ e q => e.trans (congrArg some q)
noncomputable def colStep (L : List (Option Nat)) (t : T3) : Option (List (Option Nat)) :=
  if decide (0 ≤ t.1) && decide (0 ≤ t.2.1) && decide (0 ≤ t.2.2) then
    (litAt L t.1.toNat).bind λ a => (litAt L t.2.2.toNat).bind λ b => if decide (a < 3) && decide (b < 3) && (a != b) && decide (t.2.1.toNat < L.length) then some (L.set t.2.1.toNat (some (3 - a - b))) else none
  else none
noncomputable def colRun : List (Option Nat) → List T3 → Option (List (Option Nat))
  | L, [] => some L
  | L, t :: ts => (colStep L t).bind λ L' => colRun L' ts
noncomputable def anyO (o : Option Nat) (p : Nat → Bool) : Bool := (o.map p).getD false
theorem anyO_ok {o : Option Nat} {p : Nat → Bool} {P : Prop} (h : anyO o p = true) (H : ∀ a, o = some a → p a = true → P) : P := by
  cases o with
  | none => exact no_eq h
  | some a => exact H a rfl h
noncomputable def litAll (F : List (List Int)) (n : Nat) (L : List (Option Nat)) : Bool := (List.range n).all λ i => (List.range (n + 1 - (i + 1))).all λ k => anyO (litAt L i) λ a => anyO (litAt L (i + 1 + k)) λ b => decide (a < 3) && decide (b < 3) && (((at2 F i (i + 1 + k)).fmod 2 == 1) == (a != b))
theorem t3D_nat {t : T3} (h1 : 0 ≤ t.1) (h2 : 0 ≤ t.2.1) (h3 : 0 ≤ t.2.2) : t3D t = .tup [nD t.1.toNat, nD t.2.1.toNat, nD t.2.2.toNat] := by
  show _ = D.tup [D.int ((t.1.toNat : Nat) : Int), D.int ((t.2.1.toNat : Nat) : Int), D.int ((t.2.2.toNat : Nat) : Int)]
  rw [Int.toNat_of_nonneg h1, Int.toNat_of_nonneg h2, Int.toNat_of_nonneg h3]; rfl
theorem colStep_ok {P : Prop} {L L' : List (Option Nat)} {t : T3} (h : colStep L t = some L') (H : ∀ i k j a b : Nat, t3D t = .tup [nD i, nD k, nD j] → L[i]? = some (some a) → L[j]? = some (some b) → a < 3 → b < 3 → a ≠ b → k < L.length → L.set k (some (3 - a - b)) = L' → P) : P :=
  have q := iteE h
  have p := band q.1
  have p1 := band p.1
  bindE q.2 λ _ ha e => bindE e λ _ hb e =>
    have r := iteE e
    have r1 := band r.1
    have r2 := band r1.1
    have r3 := band r2.1
    H _ _ _ _ _ (t3D_nat (of_decide_eq_true p1.1) (of_decide_eq_true p1.2) (of_decide_eq_true p.2)) (litAt_ok ha) (litAt_ok hb) (of_decide_eq_true r3.1) (of_decide_eq_true r3.2) (bne_iff_ne.mp r2.2) (of_decide_eq_true r1.2) (som r.2)
theorem colStep_len {L L' : List (Option Nat)} {t : T3} (h : colStep L t = some L') : L'.length = L.length := colStep_ok h λ _ _ _ _ _ _ _ _ _ _ _ _ e => e ▸ List.length_set
noncomputable def ltBody2 : PS :=
      (.seq (.asgT [15, 16, 17] mixE)
      (.seq (.asg 19 (.ite (.cmp .Eq (.bin .Mod (.sub (.sub (.var 2) (.var 12)) (.var 14)) (.cI 2)) (.cI 1)) (.bin .Add (.var 9) (.bin .Mult (.cI 3) (.var 10))) (.bin .Add (.bin .Mult (.cI 2) (.var 9)) (.bin .Mult (.cI 2) (.var 10)))))
      (.seq (.ifs (.cmp .NotEq (.bin .Mult (.cI 64) (.sub (.call "rgb_to_hls" (.cons (.var 15) (.cons (.var 16) (.cons (.var 17) .nil)))) (.cI 1))) (.var 19))
        (.seq (.ret (.cB false))
        .nil)
        .nil)
      .nil)))
section
variable {C : Cx} {ths : List T3} {F : List (List Int)} {n dr s l tu st : Nat} {L : List (Option Nat)}
noncomputable def lt8 (g : Nat → Slot) : List Slot := [g 12, g 13, g 14, g 15, g 16, g 17, g 18, g 19, .undef, .undef, .undef, .undef]
theorem lt_step1 (K : LtCx C) (hk : LtOk s l) {L L' : List (Option Nat)} {t : T3} (e : colStep L t = some L') (hL : L.length ≤ 1000) (g : Nat → Slot) :
    ∃ ρ1 g', bindT (.many [12, 13, 14]) (t3D t) (ltSt ths F n dr s l tu st L (lt8 g)) = some ρ1 ∧ run C 4000 ltBody1 ρ1 = some (.next, ltSt ths F n dr s l tu st L' (lt8 g')) :=
  colStep_ok e λ i k j _ _ ht hi hj ha hb hab hkl hL' => by
    obtain ⟨r1, g1, b1, h1, hr⟩ := lt_turn1 (C := C) (ths := ths) (F := F) (n := n) (dr := dr) (tu := tu) (st := st) K hk hL hi hj hkl ha hb hab (r := g 15) (g := g 16) (b' := g 17) (h := g 18) (d := g 19) (c := .undef) (p := .undef) (x := .undef) (y := .undef)
    rw [ht]
    exact ⟨_, λ m => [.fro (nD i), .fro (nD k), .fro (nD j), r1, g1, b1, h1, g 19].getD (m - 12) .undef, rfl, hL' ▸ hr⟩
theorem lt_run1 (K : LtCx C) (hk : LtOk s l) : ∀ (xs : List T3) (L L' : List (Option Nat)) (g : Nat → Slot), colRun L xs = some L' → L.length ≤ 1000 →
    ∃ g', Runs (run C 4000 ltBody1) (.many [12, 13, 14]) (xs.map t3D) (ltSt ths F n dr s l tu st L (lt8 g)) (ltSt ths F n dr s l tu st L' (lt8 g')) ∧ L'.length = L.length
  | [], L, L', g, e, _ => by cases e; exact ⟨g, rfl, rfl⟩
  | t :: xs, L, L', g, e, hL => bindE e λ L1 e1 e2 =>
    have hl := colStep_len e1
    (lt_step1 K hk e1 hL g).elim λ _ q => q.elim λ g1 q => (lt_run1 K hk xs L1 L' g1 e2 (hl ▸ hL)).imp λ _ r => ⟨⟨_, _, q.1, q.2, r.1⟩, r.2.trans hl⟩
theorem lt_turn2 (K : LtCx C) (hk : LtOk s l) (hF : FrOk F n) (hn : n ≤ 100) (hL : L.length = n + 1) {i j a b : Nat} (hij : i < n) (hjn : j ≤ n) (hi : L[i]? = some (some a)) (hj : L[j]? = some (some b)) (ha : a < 3) (hb : b < 3) (hp : ((at2 F i j).fmod 2 == 1) = (a != b)) {k r g b' h d : Slot} :
    ∃ r' g' b'' d', run C 4000 ltBody2 (ltSt ths F n dr s l tu st L [.fro (nD i), k, .fro (nD j), r, g, b', h, d, .undef, .undef, .undef, .undef]) = some (.next, ltSt ths F n dr s l tu st L [.fro (nD i), k, .fro (nD j), r', g', b'', h, d', .undef, .undef, .undef, .undef]) := by
  have hB := litB hk.s hk.l ha hb
  unfold midL at hB
  obtain ⟨q, e1, e2⟩ := Option.map_eq_some_iff.mp hB
  have e1 := get3_some e1
  have e2 := beq_iff_eq.mp e2
  have hl4 : l * (4 - s) ≤ 16 := by
    have h1 := hk.s
    have h2 := hk.l
    have : l * (4 - s) ≤ 4 * 4 := Nat.mul_le_mul (by lia) (by lia)
    omega
  have hl1 := hk.l
  refine ⟨.fro (.flt (F32 (lpart s l a 0 + lpart s l b 0))), .fro (.flt (F32 (lpart s l a 1 + lpart s l b 1))), .fro (.flt (F32 (lpart s l a 2 + lpart s l b 2))), .fro (.int (if a = b then 2 * ((4 * l : Nat) : Int) + 2 * ((l * (4 - s) : Nat) : Int) else ((4 * l : Nat) : Int) + 3 * ((l * (4 - s) : Nat) : Int))), ?_⟩
  refine (run_seq (ρ' := ltSt ths F n dr s l tu st L [.fro (nD i), k, .fro (nD j), .fro (.flt (F32 (lpart s l a 0 + lpart s l b 0))), .fro (.flt (F32 (lpart s l a 1 + lpart s l b 1))), .fro (.flt (F32 (lpart s l a 2 + lpart s l b 2))), h, d, .undef, .undef, .undef, .undef]) (run_asgT (eOf (lt_mix hk (by lia) hi hj rfl)) rfl)).trans ?_
  have hdue : (ev C (.ite (.cmp .Eq (.bin .Mod (.sub (.sub (.var 2) (.var 12)) (.var 14)) (.cI 2)) (.cI 1)) (.bin .Add (.var 9) (.bin .Mult (.cI 3) (.var 10))) (.bin .Add (.bin .Mult (.cI 2) (.var 9)) (.bin .Mult (.cI 2) (.var 10)))) (ltSt ths F n dr s l tu st L [.fro (nD i), k, .fro (nD j), .fro (.flt (F32 (lpart s l a 0 + lpart s l b 0))), .fro (.flt (F32 (lpart s l a 1 + lpart s l b 1))), .fro (.flt (F32 (lpart s l a 2 + lpart s l b 2))), h, d, .undef, .undef, .undef, .undef])).e = some (.int (if a = b then 2 * ((4 * l : Nat) : Int) + 2 * ((l * (4 - s) : Nat) : Int) else ((4 * l : Nat) : Int) + 3 * ((l * (4 - s) : Nat) : Int))) := by
    refine e_ite (t := (a != b)) (b_cmp (tOf (v_bin (tOf (F_sub hF (by lia) (i := i) (j := j) hij hjn rfl (v_var rfl) (v_var rfl))) (tOf v_cI) (d := .int ((at2 F i j).fmod 2)) rfl)) (tOf v_cI) ?_) ?_
    · show some ((at2 F i j).fmod 2 == 1) = _
      rw [hp]
    · by_cases hab : a = b
      · rw [if_pos hab]
        have : (a != b) = false := by simp [hab]
        rw [this, if_neg Bool.false_ne_true]
        exact eOf (v_bin (tOf (v_bin (tOf v_cI) (tOf (v_var rfl)) (bin_mul _ _ (by decide) (by decide)))) (tOf (v_bin (tOf v_cI) (tOf (v_var rfl)) (bin_mul _ _ (by decide) (by decide)))) (bin_add _ _))
      · rw [if_neg hab]
        have : (a != b) = true := by simp [hab]
        rw [this, if_pos rfl]
        exact eOf (v_bin (tOf (v_var rfl)) (tOf (v_bin (tOf v_cI) (tOf (v_var rfl)) (bin_mul _ _ (by decide) (by decide)))) (bin_add _ _))
  refine (run_seq (run_asg hdue)).trans ?_
  have ht : ∀ ρ : List Slot, ρ[15]? = some (.fro (.flt (F32 (lpart s l a 0 + lpart s l b 0)))) → ρ[16]? = some (.fro (.flt (F32 (lpart s l a 1 + lpart s l b 1)))) → ρ[17]? = some (.fro (.flt (F32 (lpart s l a 2 + lpart s l b 2)))) → ρ[19]? = some (.fro (.int (if a = b then 2 * ((4 * l : Nat) : Int) + 2 * ((l * (4 - s) : Nat) : Int) else ((4 * l : Nat) : Int) + 3 * ((l * (4 - s) : Nat) : Int)))) →
      (ev C (.cmp .NotEq (.bin .Mult (.cI 64) (.sub (.call "rgb_to_hls" (.cons (.var 15) (.cons (.var 16) (.cons (.var 17) .nil)))) (.cI 1))) (.var 19)) ρ).b = some false := λ ρ h1 h2 h3 h4 => by
    refine b_cmp (tOf (v_bin (tOf v_cI) (tOf (v_sub (tOf (v_call (l_cons (eOf (v_var h1)) (l_cons (eOf (v_var h2)) (l_cons (eOf (v_var h3)) l_nil))) ((K.hls _).trans e1))) (tOf v_cI) (dsub_tup0 (k := 1) (by decide) rfl))) (d := .flt (Float64.mul (Float64.ofInt 64) q.2.1)) ?_)) (tOf (v_var h4)) ?_
    · show (if smallI 64 then some (D.flt (Float64.mul (Float64.ofInt 64) q.2.1)) else none) = _
      exact if_pos (smallI_of (by decide) (by decide))
    · show some (Float64.cmpInt (Float64.mul (Float64.ofInt 64) q.2.1) _ != some Ordering.eq) = _
      rw [e2]; rfl
  refine run_seq (b := .nil) ((run_if (ht _ rfl rfl rfl rfl)).trans ?_)
  rfl
noncomputable def col0 (n tu st : Nat) : List (Option Nat) := ((List.replicate (n + 1) none).set 0 (some tu)).set n (some ((tu + st) % 3))
theorem lit_light {caps : List Nat} {cond : PE} {ρ : List Slot} {c : Nat} (hm : ∀ p : Nat, p < 3 → ∃ ρ', bindT (.one 21) (nD p) (mask caps ρ) = some ρ' ∧ (ev C cond ρ').b = some ((p : Int) == (c : Int)) ∧ ρ'[9]? = some (.fro (nD (4 * l))) ∧ ρ'[10]? = some (.fro (nD (l * (4 - s))))) :
    ev C (.comp (.ite cond (.var 9) (.var 10)) (.one 21) (.rng (.cons (.cI 3) .nil)) (.cB true) caps) ρ = .of (some (colD s l (some c))) := by
  have hit : (ev C (.rng (.cons (.cI 3) .nil)) ρ).it = some ((List.range 3).map λ (i : Nat) => D.int (i : Int)) := it_rng (lt_cons (tOf v_cI) lt_nil) (drange_n (n := 3) (by decide))
  have e : colD s l (some c) = .lst ((List.range 3).flatMap λ p => [nD (lpart s l c p)]) := rfl
  rw [e]
  refine e_comp rfl hit (compGo_map _ λ p hp => ?_) (show 3 ≤ 16777216 by decide)
  obtain ⟨ρ', h1, h2, h3, h4⟩ := hm p (List.mem_range.mp hp)
  refine elt_of (ρ' := ρ') (c := true) (d := nD (lpart s l c p)) h1 rfl λ _ => e_ite h2 ?_
  unfold lpart
  by_cases h : p = c
  · subst h
    rw [if_pos rfl]
    have : ((p : Int) == (p : Int)) = true := by simp
    rw [this, if_pos rfl]
    exact eOf (v_var h3)
  · rw [if_neg h]
    have : ((p : Int) == (c : Int)) = false := by simp; lia
    rw [this, if_neg Bool.false_ne_true]
    exact eOf (v_var h4)
theorem col_set {i : Nat} {c : Nat} (hi : i < L.length) (hL : L.length ≤ 1000) : setNat (L.map (colD s l)) (i : Int) (colD s l (some c)) = some ((L.set i (some c)).map (colD s l)) := by
  rw [setNat_nat (by lia) (by rw [List.length_map]; exact hi), List.map_set]
noncomputable def ltI (ths : List T3) (F : List (List Int)) (n dr s l tu st : Nat) (L : List (Option Nat)) (i : Nat) (ρ : List Slot) : Prop := ∃ g : Nat → Slot, ρ = ltSt ths F n dr s l tu st L (.fro (nD i) :: (lt8 g).tail)
noncomputable def ltJ (ths : List T3) (F : List (List Int)) (n dr s l tu st : Nat) (L : List (Option Nat)) (ρ : List Slot) : Prop := ∃ g : Nat → Slot, ρ = ltSt ths F n dr s l tu st L (lt8 g)
theorem ltI.j {i : Nat} {ρ : List Slot} (h : ltI ths F n dr s l tu st L i ρ) : ltJ ths F n dr s l tu st L ρ := h.elim λ g e => ⟨λ m => if m = 12 then .fro (nD i) else g m, e⟩
theorem ltJ.i {i : Nat} {ρ : List Slot} (h : ltJ ths F n dr s l tu st L ρ) : ltI ths F n dr s l tu st L i (ρ.set 12 (.fro (nD i))) := h.imp λ _ e => congrArg (λ ρ : List Slot => ρ.set 12 (.fro (nD i))) e
theorem lt_step2 (K : LtCx C) (hk : LtOk s l) (hF : FrOk F n) (hn : n ≤ 100) (hL : L.length = n + 1) (ha : litAll F n L = true) {i m : Nat} (hi : i < n) (hm : m < n + 1 - (i + 1)) {ρ : List Slot} (h : ltI ths F n dr s l tu st L i ρ) :
    ∃ ρ2, run C 4000 ltBody2 (ρ.set 14 (.fro (D.int ((i + 1 + m : Nat) : Int)))) = some (.next, ρ2) ∧ ltI ths F n dr s l tu st L i ρ2 :=
  anyO_ok (List.all_eq_true.mp (List.all_eq_true.mp ha i (List.mem_range.mpr hi)) m (List.mem_range.mpr hm)) λ _ e1 q => anyO_ok q λ _ e2 q => h.elim λ g e => by
    have q1 := band q
    have q2 := band q1.1
    obtain ⟨r', g', b', d', hr⟩ := lt_turn2 (C := C) (ths := ths) (dr := dr) (tu := tu) (st := st) K hk hF hn hL hi (Nat.le_of_lt_succ (Nat.add_lt_of_lt_sub' hm)) (litAt_ok e1) (litAt_ok e2) (of_decide_eq_true q2.1) (of_decide_eq_true q2.2) (eq_of_beq q1.2) (k := g 13) (r := g 15) (g := g 16) (b' := g 17) (h := g 18) (d := g 19)
    exact ⟨_, (congrArg (λ ρ : List Slot => run C 4000 ltBody2 (ρ.set 14 (.fro (D.int ((i + 1 + m : Nat) : Int))))) e).trans hr, λ m' => [g 13, .fro (nD (i + 1 + m)), r', g', b', g 18, d'].getD (m' - 13) .undef, rfl⟩
theorem lt_step3 (K : LtCx C) (hk : LtOk s l) (hF : FrOk F n) (hn : n ≤ 100) (hL : L.length = n + 1) (ha : litAll F n L = true) {i : Nat} (hi : i < n) {ρ : List Slot} (h : ltI ths F n dr s l tu st L i ρ) :
    ∃ ρ2, run C 4000 (.seq (.for_ (.one 14) (.rng (.cons (.bin .Add (.var 12) (.cI 1)) (.cons (.bin .Add (.var 3) (.cI 1)) .nil))) ltBody2) .nil) ρ = some (.next, ρ2) ∧ ltJ ths F n dr s l tu st L ρ2 :=
  (runs_range (body := run C 4000 ltBody2) (i := 14) (f := λ (k : Nat) => D.int ((i + 1 + k : Nat) : Int)) (λ _ => ltI ths F n dr s l tu st L i) (λ _ hm _ => lt_step2 K hk hF hn hL ha hi hm) h).imp λ _ R => by
    obtain ⟨g, rfl⟩ := h
    have hn1 : n + 1 ≤ 100000 := Nat.le_trans (Nat.succ_le_succ hn) (by decide)
    exact ⟨run_seq (b := .nil) (run_for (it_rng (lt_cons (tOf (v_bin (tOf (v_var rfl)) (tOf v_cI) (d := nD (i + 1)) rfl)) (lt_cons (tOf (v_bin (tOf (v_var rfl)) (tOf v_cI) (d := nD (n + 1)) rfl)) lt_nil)) (drange_ab (Nat.le_trans (Nat.succ_le_succ (Nat.le_of_lt hi)) hn1) hn1)) R.1), R.2.j⟩
noncomputable def ltRest : PS := (.seq (.for_ (.many [12, 13, 14]) (.var 1) ltBody1)
  (.seq (.for_ (.one 12) (.rng (.cons (.var 3) .nil)) (.seq (.for_ (.one 14) (.rng (.cons (.bin .Add (.var 12) (.cI 1)) (.cons (.bin .Add (.var 3) (.cI 1)) .nil))) ltBody2) .nil))
  (.seq (.ret (.cB true)) .nil)))
theorem lit_rest (K : LtCx C) (hk : LtOk s l) (hF : FrOk F n) (hn : n ≤ 100) (hths : ths.length ≤ 1000) {L' : List (Option Nat)} (hL : L.length = n + 1) (hc : colRun L ths = some L') (ha : litAll F n L' = true) (g : Nat → Slot) :
    ∃ ρ', run C 4000 ltRest (ltSt ths F n dr s l tu st L (lt8 g)) = some (.ret (.bool true), ρ') := by
  obtain ⟨g1, R1, hL1⟩ := lt_run1 (C := C) (F := F) (n := n) (dr := dr) (tu := tu) (st := st) K hk ths L L' g hc (hL ▸ Nat.le_trans (Nat.succ_le_succ hn) (by decide))
  obtain ⟨ρ2, R2, g2, rfl⟩ := runs_range (body := run C 4000 (.seq (.for_ (.one 14) (.rng (.cons (.bin .Add (.var 12) (.cI 1)) (.cons (.bin .Add (.var 3) (.cI 1)) .nil))) ltBody2) .nil)) (i := 12) (f := λ (k : Nat) => D.int (k : Int)) (n := n)
    (λ _ => ltJ ths F n dr s l tu st L') (λ i hi ρ h => lt_step3 K hk hF hn (hL1.trans hL) ha hi h.i) ⟨g1, rfl⟩
  exact ⟨_, (run_seq (run_for (it_of (v_var rfl) (by rw [List.length_map]; exact Nat.le_trans hths (by decide))) R1)).trans ((run_seq (run_for (it_rng (lt_cons (tOf (v_var rfl)) lt_nil) (drange_n (Nat.le_trans hn (by decide)))) R2)).trans (run_ret (run_retE rfl)))⟩
theorem col_none (m : Nat) : (List.replicate m none).map (colD s l) = (List.range m).flatMap λ _ => [D.lst []] := by
  induction m with
  | zero => rfl
  | succ m ih => rw [List.range_succ, List.flatMap_append, ← ih, List.replicate_succ', List.map_append]; rfl
theorem lit_ini (hn : n ≤ 100) : ∀ ρ : List Slot, ρ = (ltSt ths F n dr s l tu st [] (lt8 λ _ => .undef)).set 11 .undef → run C 4000 (.seq (.asgO 11 (.comp (.lst .nil) (.one 20) (.rng (.cons (.bin .Add (.var 3) (.cI 1)) .nil)) (.cB true) []))
  (.seq (.setI 11 (.cI 0) (.comp (.ite (.cmp .Eq (.var 21) (.var 7)) (.var 9) (.var 10)) (.one 21) (.rng (.cons (.cI 3) .nil)) (.cB true) [7, 9, 10]))
  (.seq (.setI 11 (.var 3) (.comp (.ite (.cmp .Eq (.var 21) (.bin .Mod (.bin .Add (.var 7) (.var 8)) (.cI 3))) (.var 9) (.var 10)) (.one 21) (.rng (.cons (.cI 3) .nil)) (.cB true) [7, 8, 9, 10])) ltRest))) ρ = run C 4000 ltRest (ltSt ths F n dr s l tu st (col0 n tu st) (lt8 λ _ => .undef)) := by
  rintro _ rfl
  have h1 : n + 1 ≤ 1000 := Nat.le_trans (Nat.succ_le_succ hn) (by decide)
  have h2 : ∀ c : Option Nat, (List.replicate (n + 1) (none : Option Nat)).length = n + 1 ∧ ((List.replicate (n + 1) none).set 0 c).length = n + 1 := λ c => ⟨List.length_replicate, List.length_set.trans List.length_replicate⟩
  refine (run_seq (ρ' := ltSt ths F n dr s l tu st (List.replicate (n + 1) none) (lt8 λ _ => .undef)) ((run_asgO (l := (List.replicate (n + 1) none).map (colD s l)) (eOf (e_comp rfl (it_rng (lt_cons (tOf (v_bin (tOf (v_var rfl)) (tOf v_cI) (d := nD (n + 1)) rfl)) lt_nil) (drange_n (Nat.le_trans h1 (by decide)))) ?_ (by rw [List.length_map, (h2 none).1]; exact Nat.le_trans h1 (by decide))))).trans rfl)).trans ?_
  · rw [col_none]
    exact compGo_map _ λ k _ => elt_of (c := true) (d := .lst []) rfl rfl λ _ => rfl
  refine (run_seq (ρ' := ltSt ths F n dr s l tu st ((List.replicate (n + 1) none).set 0 (some tu)) (lt8 λ _ => .undef)) ((run_setI (n := ((0 : Nat) : Int)) rfl rfl (eOf (lit_light (c := tu) λ p _ => ⟨_, rfl, b_cmp (tOf (v_var rfl)) (tOf (v_var rfl)) rfl, rfl, rfl⟩)) (col_set (Nat.lt_of_lt_of_eq (Nat.succ_pos n) (h2 none).1.symm) (Nat.le_trans (Nat.le_of_eq (h2 none).1) h1))).trans rfl)).trans ?_
  exact run_seq (ρ' := ltSt ths F n dr s l tu st (col0 n tu st) (lt8 λ _ => .undef)) ((run_setI (n := (n : Int)) rfl (eOf (v_var rfl)) (eOf (lit_light (c := (tu + st) % 3) λ p _ => ⟨_, rfl, b_cmp (tOf (v_var rfl)) (tOf (v_bin (tOf (v_bin (tOf (v_var rfl)) (tOf (v_var rfl)) (d := nD (tu + st)) rfl)) (tOf v_cI) (bin_mod (tu + st) 3 (by decide)))) rfl, rfl, rfl⟩)) (col_set (Nat.lt_of_lt_of_eq (Nat.lt_succ_self n) (h2 _).2.symm) (Nat.le_trans (Nat.le_of_eq (h2 _).2) h1))).trans rfl)
theorem lit_pre (hn : n ≤ 100) : run C 4000 ps_law_lit (initSlots nm_law_lit [.lst (ths.map t3D), .lst (F.map lnD), nD n, nD dr]) = run C 4000 ltRest (ltSt ths F n dr (1 + dr % 4) (1 + dr / 4 % 4) (dr / 16 % 3) (1 + dr / 48 % 2) (col0 n (dr / 16 % 3) (1 + dr / 48 % 2)) (lt8 λ _ => .undef)) := by
  have hs : 1 + dr % 4 ≤ 4 := Nat.add_le_add_left (Nat.le_of_lt_succ (Nat.mod_lt dr (by decide : 4 > 0))) 1
  have hl : 1 + dr / 4 % 4 ≤ 4 := Nat.add_le_add_left (Nat.le_of_lt_succ (Nat.mod_lt _ (by decide : 4 > 0))) 1
  refine (run_seq (run_asg (d := nD (1 + dr % 4)) (eOf (v_bin (tOf v_cI) (tOf (v_bin (tOf (v_var rfl)) (tOf v_cI) (bin_mod dr 4 (by decide)))) rfl)))).trans ?_
  refine (run_seq (run_asg (d := nD (1 + dr / 4 % 4)) (eOf (v_bin (tOf v_cI) (tOf (v_bin (tOf (v_bin (tOf (v_var rfl)) (tOf v_cI) (bin_div dr 4 (by decide) (by decide)))) (tOf v_cI) (bin_mod _ 4 (by decide)))) rfl)))).trans ?_
  refine (run_seq (run_asg (d := nD (dr / 16 % 3)) (eOf (v_bin (tOf (v_bin (tOf (v_var rfl)) (tOf v_cI) (bin_div dr 16 (by decide) (by decide)))) (tOf v_cI) (bin_mod _ 3 (by decide)))))).trans ?_
  refine (run_seq (run_asg (d := nD (1 + dr / 48 % 2)) (eOf (v_bin (tOf v_cI) (tOf (v_bin (tOf (v_bin (tOf (v_var rfl)) (tOf v_cI) (bin_div dr 48 (by decide) (by decide)))) (tOf v_cI) (bin_mod _ 2 (by decide)))) rfl)))).trans ?_
  refine (run_seq (run_asg (d := nD (4 * (1 + dr / 4 % 4))) (eOf (v_bin (tOf v_cI) (tOf (v_var rfl)) (bin_mul _ _ (by decide) (by decide)))))).trans ?_
  refine (run_seq (run_asg (d := nD ((1 + dr / 4 % 4) * (4 - (1 + dr % 4)))) (eOf (v_bin (tOf (v_var rfl)) (tOf (v_bin (tOf v_cI) (tOf (v_var rfl)) (d := nD (4 - (1 + dr % 4))) ?_)) ?_)))).trans ?_
  · rw [bin_sb]; exact congrArg (λ x => some (D.int x)) (Int.ofNat_sub hs).symm
  · exact bin_mul _ _ (Int.lt_of_lt_of_le (by decide) (Int.natCast_nonneg _)) (Int.lt_of_le_of_lt (Int.ofNat_le.mpr hl) (by decide))
  exact lit_ini hn _ rfl
theorem lit_ok (K : LtCx C) (hF : FrOk F n) (hn : n ≤ 100) (hths : ths.length ≤ 1000) (hs : s = 1 + dr % 4) (hl : l = 1 + dr / 4 % 4) (htu : tu = dr / 16 % 3) (hst : st = 1 + dr / 48 % 2)
    {L' : List (Option Nat)} (hc : colRun (col0 n tu st) ths = some L') (ha : litAll F n L' = true) :
    specR C nm_law_lit ["threes", "frieze", "size", "draw"] ps_law_lit [.lst (ths.map t3D), .lst (F.map lnD), nD n, nD dr] = some (.bool true) := by
  subst hs hl htu hst
  have m4 : ∀ m : Nat, 1 ≤ 1 + m % 4 ∧ 1 + m % 4 ≤ 4 := λ m => ⟨Nat.le_add_right 1 _, Nat.add_le_add_left (Nat.le_of_lt_succ (Nat.mod_lt m (by decide : 4 > 0))) 1⟩
  exact (lit_rest K ⟨m4 _, m4 _⟩ hF hn hths (List.length_set.trans (List.length_set.trans List.length_replicate)) hc ha _).elim λ _ e => specR_of rfl ((lit_pre hn).trans e)
end
inductive Tr where
  | lf (c : Nat) | nd (l : Tr) (m : Nat) (r : Tr)
inductive At where
  | op | cl | lf (c : Nat) | kd (m : Nat)
noncomputable def At.code : At → Nat × Nat
  | .op => (0, 0) | .cl => (1, 0) | .lf c => (2, c) | .kd m => (3, m)
theorem At.code_inj {a b : At} (h : a.code = b.code) : a = b := by
  cases a <;> cases b <;> simp [At.code] at h <;> first | rfl | (subst h; rfl)
theorem code_inj : ∀ {l l' : List At}, l.map At.code = l'.map At.code → l = l'
  | [], [], _ => rfl
  | [], _ :: _, h => by cases h
  | _ :: _, [], h => by cases h
  | a :: l, b :: l', h => by
    rw [List.map_cons, List.map_cons] at h
    injection h with h1 h2
    rw [At.code_inj h1, code_inj h2]
noncomputable def ats : Tr → List At
  | .lf c => [.lf c]
  | .nd l m r => .op :: (ats l ++ .kd m :: (ats r ++ [.cl]))
structure Ab where
  th : List (Nat × Nat × Tr)
  cnt : List Nat
  kix : List (Option Nat)
noncomputable def abStep (A : Ab) (m a : Nat) : Ab := match A.th[a]?, A.th[a + 1]? with
  | some (i, _, l), some (k, j, r) => ⟨A.th.take a ++ [(i, j, .nd l m r)] ++ A.th.drop (a + 2), addAt (addAt (addAt A.cnt i 1) k 1) j 1, A.kix.set k (some m)⟩
  | _, _ => A
noncomputable def abWf (A : Ab) (a : Nat) : Bool := match A.th[a]?, A.th[a + 1]? with
  | some (i, _, _), some (k, j, _) => decide (i < A.cnt.length) && decide (k < A.cnt.length) && decide (j < A.cnt.length) && (A.kix[k]? == some none)
  | _, _ => false
noncomputable def allP (chk : Ab → Bool) : Nat → Nat → Ab → Bool
  | 0, _, A => chk A
  | s + 1, m, A => (List.range (A.th.length - 1)).all λ a => abWf A a && allP chk s (m + 1) (abStep A m a)
noncomputable def ab0 (n : Nat) : Ab := ⟨(List.range (n + 1)).map λ c => (c, c + 1, .lf c), List.replicate (n + 2) 0, List.replicate (n + 2) none⟩
noncomputable def kdv (ns : List Nat) (m : Nat) : Nat := ns.getD m 0 / 60 % 46
noncomputable def txt (ns : List Nat) : Tr → List Nat
  | .lf c => [92, sgn ns c]
  | .nd l m r => joined (ns.getD m 0) (txt ns l) (txt ns r)
noncomputable def kval (ns : List Nat) : Option Nat → Nat
  | some m => 64 * (kdv ns m + 9)
  | none => 0
noncomputable def abVal (ns : List Nat) (A : Ab) (c : Nat) : Nat := (if c ≤ ns.length then 4096 * sgn ns c else 0) + kval ns (A.kix.getD c none) + A.cnt.getD c 0
noncomputable def abDr (ns : List Nat) (A : Ab) : Dr := ⟨A.th.map λ t => (t.1, t.2.1, txt ns t.2.2), (List.range (ns.length + 2)).map (abVal ns A)⟩
theorem getD_addAt {l : List Nat} {i v c : Nat} (h : i < l.length) : (addAt l i v).getD c 0 = l.getD c 0 + if c = i then v else 0 := by
  unfold addAt
  rw [List.getD_eq_getElem?_getD, List.getElem?_set]
  by_cases hc : i = c
  · subst hc
    rw [if_pos rfl, if_pos h, if_pos rfl]; rfl
  · rw [if_neg hc, if_neg (Ne.symm hc), Nat.add_zero, List.getD_eq_getElem?_getD]
theorem getD_setO {l : List (Option Nat)} {k c : Nat} {x : Option Nat} (h : k < l.length) : (l.set k x).getD c none = if c = k then x else l.getD c none := by
  rw [List.getD_eq_getElem?_getD, List.getElem?_set]
  by_cases hc : k = c
  · subst hc
    rw [if_pos rfl, if_pos h, if_pos rfl]; rfl
  · rw [if_neg hc, if_neg (Ne.symm hc), List.getD_eq_getElem?_getD]
theorem ext_getD {l l' : List Nat} (h : l.length = l'.length) (k : ∀ c, c < l.length → l.getD c 0 = l'.getD c 0) : l = l' := by
  refine List.ext_getElem h λ c h1 h2 => ?_
  have := k c h1
  rw [List.getD_eq_getElem?_getD, List.getD_eq_getElem?_getD, List.getElem?_eq_getElem h1, List.getElem?_eq_getElem h2] at this
  exact this
theorem getD_map_range {f : Nat → Nat} {n c : Nat} (h : c < n) : ((List.range n).map f).getD c 0 = f c := by
  rw [List.getD_eq_getElem?_getD, List.getElem?_map, List.getElem?_range h]; rfl
structure AbOk (n : Nat) (A : Ab) : Prop where
  cnt : A.cnt.length = n + 2
  kix : A.kix.length = n + 2
section
variable {ns : List Nat}
theorem ab_step {A : Ab} {m a : Nat} (ok : AbOk ns.length A) (hw : abWf A a = true) : abDr ns (abStep A m a) = drStep (abDr ns A) (ns.getD m 0) a ∧ AbOk ns.length (abStep A m a) ∧ (abStep A m a).th.length + 1 = A.th.length := by
  unfold abWf at hw
  split at hw
  · rename_i i k' l k j r h1 h2
    simp only [Bool.and_eq_true, decide_eq_true_eq, beq_iff_eq] at hw
    obtain ⟨⟨⟨hi, hk⟩, hj⟩, hx⟩ := hw
    have hcnt := ok.cnt
    have hkix := ok.kix
    have e1 : abStep A m a = ⟨A.th.take a ++ [(i, j, .nd l m r)] ++ A.th.drop (a + 2), addAt (addAt (addAt A.cnt i 1) k 1) j 1, A.kix.set k (some m)⟩ := by unfold abStep; rw [h1, h2]
    have hlt := (List.getElem?_eq_some_iff.mp h2).1
    have d1 : (abDr ns A).th[a]? = some (i, k', txt ns l) := by unfold abDr; rw [List.getElem?_map, h1]; rfl
    have d2 : (abDr ns A).th[a + 1]? = some (k, j, txt ns r) := by unfold abDr; rw [List.getElem?_map, h2]; rfl
    have e2 : drStep (abDr ns A) (ns.getD m 0) a = ⟨(abDr ns A).th.take a ++ [(i, j, joined (ns.getD m 0) (txt ns l) (txt ns r))] ++ (abDr ns A).th.drop (a + 2), addAt (addAt (addAt (abDr ns A).co i 1) k (64 * (ns.getD m 0 / 60 % 46 + 9) + 1)) j 1⟩ := by unfold drStep; rw [d1, d2]
    refine ⟨?_, ?_, ?_⟩
    · rw [e1, e2]
      unfold abDr
      dsimp only
      congr 1
      · simp only [List.map_append, List.map_take, List.map_drop, List.map_cons, List.map_nil]
        rfl
      · have hco : ((List.range (ns.length + 2)).map (abVal ns A)).length = ns.length + 2 := by simp
        refine ext_getD (by simp only [addAt_len, List.length_map, List.length_range]) λ c hc => ?_
        rw [List.length_map, List.length_range] at hc
        rw [getD_map_range hc, getD_addAt (by rw [addAt_len, addAt_len, hco]; lia), getD_addAt (by rw [addAt_len, hco]; lia), getD_addAt (by rw [hco]; lia), getD_map_range hc]
        unfold abVal
        dsimp only
        rw [getD_addAt (by rw [addAt_len, addAt_len]; omega), getD_addAt (by rw [addAt_len]; omega), getD_addAt (by omega), getD_setO (by lia)]
        by_cases hck : c = k
        · subst hck
          have hn : A.kix.getD c none = none := by rw [List.getD_eq_getElem?_getD, hx]; rfl
          rw [if_pos rfl, hn]
          simp only [kval, kdv, if_true]
          lia
        · rw [if_neg hck]
          simp only [if_neg hck]
          lia
    · rw [e1]; exact ⟨by simp only [addAt_len]; exact hcnt, by simpa using hkix⟩
    · rw [e1]; simp only [List.length_append, List.length_take, List.length_drop, List.length_cons, List.length_nil]; lia
  · cases hw
theorem ab_all {chk : Ab → Bool} : ∀ (xs : List Nat) (m : Nat) (A : Ab), ns.drop m = xs → AbOk ns.length A → A.th.length = xs.length + 1 → allP chk xs.length m A = true → ∃ A', chk A' = true ∧ abDr ns A' = drGo (abDr ns A) xs ∧ AbOk ns.length A'
  | [], m, A, _, ok, _, h => ⟨A, h, rfl, ok⟩
  | x :: xs, m, A, hd, ok, hl, h => by
    have hx : ns.getD m 0 = x := by
      have : ns[m]? = some x := by
        have := congrArg (λ l : List Nat => l[0]?) hd
        simpa using this
      rw [List.getD_eq_getElem?_getD, this]; rfl
    have hd' : ns.drop (m + 1) = xs := by
      have := congrArg List.tail hd
      simpa using this
    have hlen : (abDr ns A).th.length = A.th.length := by unfold abDr; simp
    have ha : x % ((abDr ns A).th.length - 1) < A.th.length - 1 := by
      rw [hlen]; simp only [List.length_cons] at hl; exact Nat.mod_lt _ (by lia)
    have q := List.all_eq_true.mp (show ((List.range (A.th.length - 1)).all λ a => abWf A a && allP chk xs.length (m + 1) (abStep A m a)) = true from h) _ (List.mem_range.mpr ha)
    simp only [Bool.and_eq_true] at q
    obtain ⟨s1, s2, s3⟩ := ab_step (m := m) ok q.1
    obtain ⟨A', h1, h2, h3⟩ := ab_all xs (m + 1) (abStep A m (x % ((abDr ns A).th.length - 1))) hd' s2 (by simp only [List.length_cons] at hl; lia) q.2
    exact ⟨A', h1, by rw [h2, s1, hx]; rfl, h3⟩
theorem ab_start : abDr ns (ab0 ns.length) = dr0 ns ∧ AbOk ns.length (ab0 ns.length) ∧ (ab0 ns.length).th.length = ns.length + 1 := by
  refine ⟨?_, ⟨by simp [ab0], by simp [ab0]⟩, by simp [ab0]⟩
  unfold abDr dr0
  congr 1
  · unfold ab0 dr2; dsimp only; rw [List.map_map]; rfl
  · refine ext_getD (by rw [dr1_len (by lia)]; simp) λ c hc => ?_
    rw [List.length_map, List.length_range] at hc
    rw [getD_map_range hc]
    have g1 : (List.replicate (ns.length + 2) (none : Option Nat)).getD c none = none := by rw [List.getD_eq_getElem?_getD, List.getElem?_replicate]; split <;> rfl
    have g2 : (List.replicate (ns.length + 2) (0 : Nat)).getD c 0 = 0 := by rw [List.getD_eq_getElem?_getD, List.getElem?_replicate]; split <;> rfl
    unfold abVal ab0
    dsimp only
    rw [g1, g2]
    show (if c ≤ ns.length then 4096 * sgn ns c else 0) + 0 + 0 = _
    unfold dr1
    rw [List.getD_eq_getElem?_getD]
    by_cases h : c ≤ ns.length
    · rw [if_pos h, List.getElem?_append_left (by simp; lia), List.getElem?_map, List.getElem?_range (by lia)]; rfl
    · rw [if_neg h, List.getElem?_append_right (by simp; lia), List.getElem?_replicate]
      split <;> rfl
theorem ab_run {chk : Ab → Bool} (h : allP chk ns.length 0 (ab0 ns.length) = true) : ∃ A, chk A = true ∧ abDr ns A = drGo (dr0 ns) ns ∧ AbOk ns.length A := by
  obtain ⟨s1, s2, s3⟩ := ab_start (ns := ns)
  obtain ⟨A, h1, h2, h3⟩ := ab_all (chk := chk) ns 0 (ab0 ns.length) (by simp) s2 s3 h
  exact ⟨A, h1, by rw [h2, s1], h3⟩
end
noncomputable def rep : At → Tk
  | .op => .op | .cl => .cl | .lf _ => .lf 40 | .kd _ => .kd 0
noncomputable def awCl (F : List (List Int)) (c : Nat) : List At := (List.range (c - 1)).flatMap λ i => if at2 F i c = 1 then [.cl] else []
noncomputable def awOp (F : List (List Int)) (n c : Nat) : List At := (List.range (n + 1 - (c + 2))).flatMap λ j => if at2 F c (c + 2 + j) = 1 then [.op] else []
noncomputable def awAt (kix : List (Option Nat)) (F : List (List Int)) (n c : Nat) : List At :=
  awCl F c ++ (if 0 < c ∧ c < n then [.kd ((kix.getD c none).getD 0)] else []) ++ awOp F n c ++ (if c < n then [.lf c] else [])
noncomputable def pairsP (F : List (List Int)) (n : Nat) : List (Int × Int) := (List.range n).flatMap λ i => (List.range (n - (i + 1))).flatMap λ k => if at2 F i (n - k) = 1 then [((i : Int), ((n - k : Nat) : Int))] else []
noncomputable def chkRow (A : Ab) (F : List (List Int)) (n : Nat) (T : Tr) : Bool :=
  (List.range (n + 1)).all (λ c => (c == 0) || (c == n) || (A.kix.getD c none).isSome) && (((List.range (n + 1)).flatMap (awAt A.kix F n)).map At.code == (ats T).map At.code)
noncomputable def chkGap (A : Ab) (R : Rd) : Bool := (R.G ++ [R.g]) == A.cnt.map λ (k : Nat) => (k : Int)
noncomputable def chkLit (F : List (List Int)) (n : Nat) (ths : List T3) (tu st : Nat) : Bool := match colRun (col0 n tu st) ths with | some L => litAll F n L | none => false
noncomputable def chkT0 (A : Ab) (n : Nat) (T : Tr) : Bool :=
  A.cnt.all (λ k => decide (k < 64)) && adj ((ats T).map rep) && decide ((ats T).length ≤ 100) && chkGap A (((ats T).map rep).foldl rdStep rd0) && chkRow A (friezeP A.cnt) n T
  && (prT ((ats T).map rep) ((((ats T).map rep).foldl rdStep rd0).ahead ++ [-1]) ((ats T).map rep).length == pairsP (friezeP A.cnt) n)
  && decide ((pairsP (friezeP A.cnt) n).length ≤ 6)
  && (waysP (threesP (pairsP (friezeP A.cnt) n)) n == friezeP A.cnt)
  && (List.range 3).all (λ tu => chkLit (friezeP A.cnt) n (threesP (pairsP (friezeP A.cnt) n)) tu 1 && chkLit (friezeP A.cnt) n (threesP (pairsP (friezeP A.cnt) n)) tu 2)
noncomputable def chkA (n : Nat) (A : Ab) : Bool := match A.th with
  | [(_, _, T)] => chkT0 A n T
  | _ => false
theorem allP_step {chk : Ab → Bool} {s m k : Nat} {A : Ab} (hk : A.th.length - 1 = k) (h : ∀ a, a < k → (abWf A a && allP chk s (m + 1) (abStep A m a)) = true) : allP chk (s + 1) m A = true :=
  List.all_eq_true.mpr λ a ha => h a (by rw [← hk]; exact List.mem_range.mp ha)
theorem and_mk {a b : Bool} (h1 : a = true) (h2 : b = true) : (a && b) = true := by rw [h1, h2]; rfl
theorem all4 : allP (chkA 5) 4 0 (ab0 4) = true := by decide +kernel
theorem all5_00 : (abWf (abStep (ab0 5) 0 0) 0 && allP (chkA 6) 3 2 (abStep (abStep (ab0 5) 0 0) 1 0)) = true := by decide +kernel
theorem all5_01 : (abWf (abStep (ab0 5) 0 0) 1 && allP (chkA 6) 3 2 (abStep (abStep (ab0 5) 0 0) 1 1)) = true := by decide +kernel
theorem all5_02 : (abWf (abStep (ab0 5) 0 0) 2 && allP (chkA 6) 3 2 (abStep (abStep (ab0 5) 0 0) 1 2)) = true := by decide +kernel
theorem all5_03 : (abWf (abStep (ab0 5) 0 0) 3 && allP (chkA 6) 3 2 (abStep (abStep (ab0 5) 0 0) 1 3)) = true := by decide +kernel
theorem all5_0 : (abWf (ab0 5) 0 && allP (chkA 6) 4 1 (abStep (ab0 5) 0 0)) = true := and_mk (by decide +kernel) (allP_step (k := 4) (by decide +kernel) λ b hb => match b, hb with
  | 0, _ => all5_00
  | 1, _ => all5_01
  | 2, _ => all5_02
  | 3, _ => all5_03)
theorem all5_10 : (abWf (abStep (ab0 5) 0 1) 0 && allP (chkA 6) 3 2 (abStep (abStep (ab0 5) 0 1) 1 0)) = true := by decide +kernel
theorem all5_11 : (abWf (abStep (ab0 5) 0 1) 1 && allP (chkA 6) 3 2 (abStep (abStep (ab0 5) 0 1) 1 1)) = true := by decide +kernel
theorem all5_12 : (abWf (abStep (ab0 5) 0 1) 2 && allP (chkA 6) 3 2 (abStep (abStep (ab0 5) 0 1) 1 2)) = true := by decide +kernel
theorem all5_13 : (abWf (abStep (ab0 5) 0 1) 3 && allP (chkA 6) 3 2 (abStep (abStep (ab0 5) 0 1) 1 3)) = true := by decide +kernel
theorem all5_1 : (abWf (ab0 5) 1 && allP (chkA 6) 4 1 (abStep (ab0 5) 0 1)) = true := and_mk (by decide +kernel) (allP_step (k := 4) (by decide +kernel) λ b hb => match b, hb with
  | 0, _ => all5_10
  | 1, _ => all5_11
  | 2, _ => all5_12
  | 3, _ => all5_13)
theorem all5_20 : (abWf (abStep (ab0 5) 0 2) 0 && allP (chkA 6) 3 2 (abStep (abStep (ab0 5) 0 2) 1 0)) = true := by decide +kernel
theorem all5_21 : (abWf (abStep (ab0 5) 0 2) 1 && allP (chkA 6) 3 2 (abStep (abStep (ab0 5) 0 2) 1 1)) = true := by decide +kernel
theorem all5_22 : (abWf (abStep (ab0 5) 0 2) 2 && allP (chkA 6) 3 2 (abStep (abStep (ab0 5) 0 2) 1 2)) = true := by decide +kernel
theorem all5_23 : (abWf (abStep (ab0 5) 0 2) 3 && allP (chkA 6) 3 2 (abStep (abStep (ab0 5) 0 2) 1 3)) = true := by decide +kernel
theorem all5_2 : (abWf (ab0 5) 2 && allP (chkA 6) 4 1 (abStep (ab0 5) 0 2)) = true := and_mk (by decide +kernel) (allP_step (k := 4) (by decide +kernel) λ b hb => match b, hb with
  | 0, _ => all5_20
  | 1, _ => all5_21
  | 2, _ => all5_22
  | 3, _ => all5_23)
theorem all5_30 : (abWf (abStep (ab0 5) 0 3) 0 && allP (chkA 6) 3 2 (abStep (abStep (ab0 5) 0 3) 1 0)) = true := by decide +kernel
theorem all5_31 : (abWf (abStep (ab0 5) 0 3) 1 && allP (chkA 6) 3 2 (abStep (abStep (ab0 5) 0 3) 1 1)) = true := by decide +kernel
theorem all5_32 : (abWf (abStep (ab0 5) 0 3) 2 && allP (chkA 6) 3 2 (abStep (abStep (ab0 5) 0 3) 1 2)) = true := by decide +kernel
theorem all5_33 : (abWf (abStep (ab0 5) 0 3) 3 && allP (chkA 6) 3 2 (abStep (abStep (ab0 5) 0 3) 1 3)) = true := by decide +kernel
theorem all5_3 : (abWf (ab0 5) 3 && allP (chkA 6) 4 1 (abStep (ab0 5) 0 3)) = true := and_mk (by decide +kernel) (allP_step (k := 4) (by decide +kernel) λ b hb => match b, hb with
  | 0, _ => all5_30
  | 1, _ => all5_31
  | 2, _ => all5_32
  | 3, _ => all5_33)
theorem all5_40 : (abWf (abStep (ab0 5) 0 4) 0 && allP (chkA 6) 3 2 (abStep (abStep (ab0 5) 0 4) 1 0)) = true := by decide +kernel
theorem all5_41 : (abWf (abStep (ab0 5) 0 4) 1 && allP (chkA 6) 3 2 (abStep (abStep (ab0 5) 0 4) 1 1)) = true := by decide +kernel
theorem all5_42 : (abWf (abStep (ab0 5) 0 4) 2 && allP (chkA 6) 3 2 (abStep (abStep (ab0 5) 0 4) 1 2)) = true := by decide +kernel
theorem all5_43 : (abWf (abStep (ab0 5) 0 4) 3 && allP (chkA 6) 3 2 (abStep (abStep (ab0 5) 0 4) 1 3)) = true := by decide +kernel
theorem all5_4 : (abWf (ab0 5) 4 && allP (chkA 6) 4 1 (abStep (ab0 5) 0 4)) = true := and_mk (by decide +kernel) (allP_step (k := 4) (by decide +kernel) λ b hb => match b, hb with
  | 0, _ => all5_40
  | 1, _ => all5_41
  | 2, _ => all5_42
  | 3, _ => all5_43)
theorem all5 : allP (chkA 6) 5 0 (ab0 5) = true := allP_step (k := 5) (by decide +kernel) λ a ha => match a, ha with
  | 0, _ => all5_0
  | 1, _ => all5_1
  | 2, _ => all5_2
  | 3, _ => all5_3
  | 4, _ => all5_4
noncomputable def sk : Tk → Tk
  | .op => .op | .cl => .cl | .lf _ => .lf 40 | .kd _ => .kd 0
theorem chkT_sk : ∀ (ts : List Tk) (o : Nat), chkT o (ts.map sk) = chkT o ts
  | [], o => rfl
  | t :: ts, o => by
    have ih := λ o => chkT_sk ts o
    cases t with
    | op => exact ih (o + 1)
    | cl =>
      show (if o = 0 then none else chkT (o - 1) (ts.map sk)) = (if o = 0 then none else chkT (o - 1) ts)
      rw [ih]
    | lf c => exact ih o
    | kd k => exact ih o
theorem adj_sk : ∀ (ts : List Tk), adj (ts.map sk) = adj ts
  | [] => rfl
  | t :: ts => by
    have ih := adj_sk ts
    cases t with
    | op => simpa [adj, sk] using ih
    | cl => simpa [adj, sk] using ih
    | lf c => simpa [adj, sk] using ih
    | kd k =>
      cases ts with
      | nil => rfl
      | cons u us =>
        cases u with
        | op => simpa [adj, sk] using ih
        | lf c => simpa [adj, sk] using ih
        | cl => simp [adj, sk]
        | kd k => simp [adj, sk]
theorem sk_isCl (t : Tk) : (sk t).isCl = t.isCl := by cases t <;> rfl
theorem shut_sk (ts : List Tk) (t u : Nat) : shut (ts.map sk) t u = shut ts t u := by
  unfold shut
  rw [List.getElem?_map, List.length_map, ← List.map_drop, ← List.map_take, chkT_sk]
  cases ts[u]? with
  | none => rfl
  | some x => simp [sk_isCl]
theorem findU_sk (ts : List Tk) (t : Nat) : ∀ n u, findU (ts.map sk) t n u = findU ts t n u
  | 0, u => rfl
  | n + 1, u => by unfold findU; rw [shut_sk, findU_sk ts t n]
theorem prT_sk (ts : List Tk) (A : List Int) : ∀ k, prT (ts.map sk) A k = prT ts A k
  | 0 => rfl
  | k + 1 => by
    unfold prT
    rw [prT_sk ts A k, List.getElem?_map, List.length_map]
    cases h : ts[k]? with
    | none => rfl
    | some x =>
      cases x with
      | op =>
        show _ ++ [(A.getD k 0, A.getD (findU (ts.map sk) k _ _) 0)] = _ ++ [(A.getD k 0, A.getD (findU ts k _ _) 0)]
        rw [findU_sk]
      | cl => rfl
      | lf c => rfl
      | kd c => rfl
theorem tks_lt {t : Tk} (h : t.okB = true) : (tks t < 256) ↔ (tks (sk t) < 256) := by
  cases t with
  | op => exact Iff.rfl
  | cl => exact Iff.rfl
  | lf c =>
    simp only [Tk.okB, Bool.and_eq_true, decide_eq_true_eq] at h
    refine ⟨λ q => ?_, λ q => ?_⟩
    · exfalso; have : 222 + (c : Int) < 256 := q; lia
    · exfalso; have : (222 + 40 : Int) < 256 := q; lia
  | kd k =>
    have h := of_decide_eq_true h
    refine ⟨λ _ => (show (0 + 9 : Int) < 256 by decide), λ _ => ?_⟩
    show (k : Int) + 9 < 256
    lia
structure RdSim (r r' : Rd) : Prop where
  G : r.G = r'.G
  g : r.g = r'.g
  ahead : r.ahead = r'.ahead
theorem rd_sim : ∀ (ts : List Tk) (r r' : Rd), (∀ t ∈ ts, t.okB = true) → RdSim r r' → RdSim (ts.foldl rdStep r) ((ts.map sk).foldl rdStep r')
  | [], _, _, _, h => h
  | t :: ts, r, r', hok, h => by
    refine rd_sim ts _ _ (λ u hu => hok u (List.mem_cons_of_mem _ hu)) ?_
    have q := tks_lt (hok t List.mem_cons_self)
    unfold rdStep
    refine ⟨?_, ?_, ?_⟩
    · dsimp only
      rw [h.G, h.g]
      by_cases x : tks t < 256
      · rw [if_pos x, if_pos (q.mp x)]
      · rw [if_neg x, if_neg (λ y => x (q.mpr y))]
    · dsimp only
      rw [h.g]
      by_cases x : tks t < 256
      · rw [if_pos x, if_pos (q.mp x)]
      · rw [if_neg x, if_neg (λ y => x (q.mpr y))]
    · dsimp only; rw [h.G, h.ahead]
theorem rd_rows : ∀ (ts : List Tk) (r : Rd), (ts.foldl rdStep r).W = r.W ++ ts.map tkc ∧ (ts.foldl rdStep r).row = r.row ++ ts.map tks
  | [], r => by simp
  | t :: ts, r => by
    obtain ⟨h1, h2⟩ := rd_rows ts (rdStep r t)
    refine ⟨?_, ?_⟩
    · rw [List.foldl_cons, h1]; unfold rdStep; simp
    · rw [List.foldl_cons, h2]; unfold rdStep; simp
section
variable (ns : List Nat)
noncomputable def conc : At → Tk
  | .op => .op | .cl => .cl | .lf c => .lf (sgn ns c) | .kd m => .kd (kdv ns m)
theorem sk_conc (a : At) : sk (conc ns a) = rep a := by cases a <;> rfl
theorem conc_ok (a : At) : (conc ns a).okB = true := by
  cases a with
  | op => rfl
  | cl => rfl
  | lf c =>
    show (decide (sgn ns c < 128) && decide (34 ≤ sgn ns c)) = true
    rw [decide_eq_true (sgn_lt ns c), decide_eq_true (sgn_ge ns c)]; rfl
  | kd m => exact decide_eq_true (Nat.mod_lt _ (by decide))
noncomputable def toks (T : Tr) : List Tk := (ats T).map (conc ns)
theorem toks_sk (T : Tr) : (toks ns T).map sk = (ats T).map rep := by
  unfold toks; rw [List.map_map]; exact List.map_congr_left λ a _ => sk_conc ns a
theorem toks_ok (T : Tr) : ∀ t ∈ toks ns T, t.okB = true := by
  intro t ht
  obtain ⟨a, _, rfl⟩ := List.mem_map.mp ht
  exact conc_ok ns a
noncomputable def remW (r : Nat) : Wd := (r != 0, remc r)
theorem remW_ok {r : Nat} (h : r < 4) : WdOk (remW r) := by
  match r, h with
  | 0, _ => exact ⟨rfl, rfl⟩
  | 1, _ => exact ⟨[41], rfl, rfl, rfl⟩
  | 2, _ => exact ⟨[40, 92, 34], rfl, rfl, rfl⟩
  | 3, _ => exact ⟨[92, 92, 40], rfl, rfl, rfl⟩
theorem tkW_ok {t : Tk} (h : t.okB = true) : WdOk (false, tkc t) := by
  obtain ⟨_, a, b⟩ := tk_pcs h
  exact ⟨b, a⟩
noncomputable def wds : Tr → List Wd
  | .lf c => [(false, [92, sgn ns c])]
  | .nd l m r => (false, [40]) :: (wds l ++ (false, opc (kdv ns m)) :: remW (ns.getD m 0 / 2760 % 4) :: (wds r ++ [(false, [41])]))
theorem wds_ok : ∀ T, ∀ w ∈ wds ns T, WdOk w := by
  intro T
  induction T with
  | lf c =>
    intro w hw
    rw [List.mem_singleton.mp hw]; exact tkW_ok (conc_ok ns (.lf c))
  | nd l m r h1 h2 =>
    intro w hw
    simp only [wds, List.mem_cons, List.mem_append, List.not_mem_nil, or_false] at hw
    rcases hw with rfl | hw | rfl | rfl | hw | rfl
    · exact tkW_ok (t := .op) rfl
    · exact h1 w hw
    · exact tkW_ok (conc_ok ns (.kd m))
    · exact remW_ok (Nat.mod_lt _ (by decide))
    · exact h2 w hw
    · exact tkW_ok (t := .cl) rfl
theorem wds_text : ∀ T, wdText (wds ns T) = txt ns T := by
  intro T
  induction T with
  | lf c => rfl
  | nd l m r h1 h2 =>
    unfold wdText at h1 h2 ⊢
    simp only [wds, List.flatMap_cons, List.flatMap_append, List.flatMap_nil, h1, h2, txt, joined, remW, kdv, List.append_assoc, List.append_nil]
theorem remW_keep (r : Nat) (h : r < 4) : (if (remW r).1 = true then [] else (remW r).2) = [] := by
  match r, h with
  | 0, _ => rfl
  | 1, _ => rfl
  | 2, _ => rfl
  | 3, _ => rfl
theorem wds_keep : ∀ T, wdKeep (wds ns T) = tkText (toks ns T) := by
  intro T
  induction T with
  | lf c => rfl
  | nd l m r h1 h2 =>
    have e : toks ns (.nd l m r) = .op :: (toks ns l ++ .kd (kdv ns m) :: (toks ns r ++ [.cl])) := by
      unfold toks; simp [ats, conc]
    rw [e]
    unfold wdKeep tkText at h1 h2 ⊢
    simp only [wds, List.flatMap_cons, List.flatMap_append, List.flatMap_nil, h1, h2, remW_keep _ (Nat.mod_lt _ (by decide : 0 < 4)), tkc, Bool.false_eq_true, if_false, List.nil_append, List.append_nil]
end
structure GoodT (ns : List Nat) (T : Tr) (co cnt : List Nat) : Prop where
  colen : co.length = ns.length + 2
  colt : ∀ c ∈ co, c < 1073741824
  cm : co.map (· % 64) = cnt
  cntlen : cnt.length = ns.length + 2
  cntlt : ∀ c ∈ cnt, c < 64
  tl : (toks ns T).length ≤ 100
  adjT : adj (toks ns T) = true
  gaps : ((toks ns T).foldl rdStep rd0).G ++ [((toks ns T).foldl rdStep rd0).g] = cnt.map λ (k : Nat) => (k : Int)
  row : writtenP co (friezeP cnt) (ns.length + 1) = (toks ns T).map tks ++ [0]
  pairs : prT (toks ns T) (((toks ns T).foldl rdStep rd0).ahead ++ [-1]) (toks ns T).length = pairsP (friezeP cnt) (ns.length + 1)
  plen : (pairsP (friezeP cnt) (ns.length + 1)).length ≤ 6
  ways : waysP (threesP (pairsP (friezeP cnt) (ns.length + 1))) (ns.length + 1) = friezeP cnt
  lit : ∀ tu st, tu < 3 → (st = 1 ∨ st = 2) → chkLit (friezeP cnt) (ns.length + 1) (threesP (pairsP (friezeP cnt) (ns.length + 1))) tu st = true
section
variable {ns : List Nat} {A : Ab}
theorem fig_div {a b : Nat} (h : b < 64) : (64 * a + b) / 64 = a := by rw [Nat.mul_add_div (by decide), Nat.div_eq_of_lt h, Nat.add_zero]
theorem fig_mod {a b : Nat} (h : b < 64) : (64 * a + b) % 64 = b := by rw [Nat.mul_add_mod, Nat.mod_eq_of_lt h]
noncomputable def sgF (ns : List Nat) (c : Nat) : Nat := if c ≤ ns.length then sgn ns c else 0
noncomputable def kF (ns : List Nat) : Option Nat → Nat
  | some m => kdv ns m + 9
  | none => 0
theorem kF_lt (o : Option Nat) : kF ns o < 64 := by
  cases o with
  | none => exact (by decide : 0 < 64)
  | some m => exact Nat.lt_trans (Nat.add_lt_add_right (Nat.mod_lt _ (by decide)) 9) (by decide : 46 + 9 < 64)
theorem abVal_eq (c : Nat) : abVal ns A c = 64 * (64 * sgF ns c + kF ns (A.kix.getD c none)) + A.cnt.getD c 0 := by
  have h1 : (if c ≤ ns.length then 4096 * sgn ns c else 0) = 64 * (64 * sgF ns c) := by
    unfold sgF; rw [← Nat.mul_assoc]; split <;> rfl
  have h2 : ∀ o, kval ns o = 64 * kF ns o := λ o => by cases o <;> rfl
  rw [abVal, h1, h2, ← Nat.mul_add]
theorem val_mod {c : Nat} (h : A.cnt.getD c 0 < 64) : abVal ns A c % 64 = A.cnt.getD c 0 := by
  rw [abVal_eq, fig_mod h]
theorem val_sign {c : Nat} (h : A.cnt.getD c 0 < 64) (hc : c ≤ ns.length) : abVal ns A c / 4096 = sgn ns c := by
  rw [show 4096 = 64 * 64 from rfl, ← Nat.div_div_eq_div_mul, abVal_eq, fig_div h, fig_div (kF_lt _), sgF, if_pos hc]
theorem val_kind {c m : Nat} (h : A.cnt.getD c 0 < 64) (hk : A.kix.getD c none = some m) : abVal ns A c / 64 % 64 = kdv ns m + 9 := by
  rw [abVal_eq, fig_div h, fig_mod (kF_lt _), hk]; rfl
theorem figs_lt {a k b : Nat} (ha : a < 100000) (hk : k < 64) (hb : b < 64) : 64 * (64 * a + k) + b < 1073741824 := by omega
theorem val_lt {c : Nat} (h : A.cnt.getD c 0 < 64) : abVal ns A c < 1073741824 := by
  rw [abVal_eq]
  refine figs_lt ?_ (kF_lt _) h
  unfold sgF
  split
  · exact Nat.lt_of_lt_of_le (sgn_lt ns c) (by decide)
  · decide
theorem map_fm {α β : Type} (f : α → β) (l : List Nat) (g : Nat → List α) : (l.flatMap g).map f = l.flatMap λ i => (g i).map f := by rw [List.map_flatMap]
theorem fm_congr {α : Type} {l : List Nat} {f g : Nat → List α} (h : ∀ i ∈ l, f i = g i) : l.flatMap f = l.flatMap g := by
  induction l with
  | nil => rfl
  | cons x l ih =>
    rw [List.flatMap_cons, List.flatMap_cons, h x List.mem_cons_self, ih λ i hi => h i (List.mem_cons_of_mem _ hi)]
theorem aw_tks {F : List (List Int)} {c : Nat} (hc : c < ns.length + 2) (h1 : A.cnt.getD c 0 < 64) (h2 : 0 < c → c < ns.length + 1 → (A.kix.getD c none).isSome = true) :
    ((awAt A.kix F (ns.length + 1) c).map (conc ns)).map tks = wrAt ((List.range (ns.length + 2)).map (abVal ns A)) F (ns.length + 1) c := by
  unfold awAt wrAt
  rw [List.map_append, List.map_append, List.map_append, List.map_append, List.map_append, List.map_append, getD_map_range hc]
  congr 1
  · congr 1
    · congr 1
      · unfold awCl wrCl
        rw [map_fm, map_fm]
        exact fm_congr λ i _ => by split <;> rfl
      · by_cases h : 0 < c ∧ c < ns.length + 1
        · rw [if_pos h, if_pos h]
          obtain ⟨m, hm⟩ := Option.isSome_iff_exists.mp (h2 h.1 h.2)
          rw [val_kind h1 hm, hm]
          show [((kdv ns m : Nat) : Int) + 9] = _
          rfl
        · rw [if_neg h, if_neg h]; rfl
    · unfold awOp wrOp
      rw [map_fm, map_fm]
      exact fm_congr λ i _ => by split <;> rfl
  · by_cases h : c < ns.length + 1
    · rw [if_pos h, if_pos h, val_sign h1 (by omega)]; rfl
    · rw [if_neg h, if_neg h]; rfl
theorem good_of (ok : AbOk ns.length A) (h : chkA (ns.length + 1) A = true) : ∃ i j T, A.th = [(i, j, T)] ∧ GoodT ns T ((List.range (ns.length + 2)).map (abVal ns A)) A.cnt := by
  unfold chkA at h
  split at h
  case h_2 => cases h
  rename_i i j T hth
  refine ⟨i, j, T, hth, ?_⟩
  unfold chkT0 at h
  simp only [Bool.and_eq_true, List.all_eq_true, decide_eq_true_eq, beq_iff_eq, List.mem_range] at h
  obtain ⟨⟨⟨⟨⟨⟨⟨⟨h1, h2⟩, h3⟩, h4⟩, h5⟩, h6⟩, h7⟩, h8⟩, h9⟩ := h
  have hc : ∀ c, A.cnt.getD c 0 < 64 := by
    intro c
    rw [List.getD_eq_getElem?_getD]
    cases q : A.cnt[c]? with
    | none => exact (by decide : 0 < 64)
    | some k => exact h1 k (List.mem_of_getElem? q)
  have sim := rd_sim (toks ns T) rd0 rd0 (toks_ok ns T) ⟨rfl, rfl, rfl⟩
  rw [toks_sk] at sim
  refine ⟨by simp, ?_, ?_, ok.cnt, h1, by unfold toks; simpa using h3, ?_, ?_, ?_, ?_, h7, h8, ?_⟩
  · intro c hcm
    obtain ⟨k, _, rfl⟩ := List.mem_map.mp hcm
    exact val_lt (hc k)
  · refine ext_getD (by simp [ok.cnt]) λ c hlt => ?_
    rw [List.length_map, List.length_map, List.length_range] at hlt
    rw [List.map_map, getD_map_range hlt]
    exact val_mod (hc c)
  · rw [← adj_sk, toks_sk]; exact h2
  · rw [sim.G, sim.g]
    unfold chkGap at h4
    exact beq_iff_eq.mp h4
  · unfold chkRow at h5
    simp only [Bool.and_eq_true, List.all_eq_true, beq_iff_eq, List.mem_range, Bool.or_eq_true] at h5
    obtain ⟨g1, g2⟩ := h5
    unfold writtenP toks
    rw [← code_inj g2, map_fm, map_fm]
    congr 1
    refine fm_congr λ c hm => (aw_tks (by have := List.mem_range.mp hm; omega) (hc c) λ a b => ?_).symm
    rcases g1 c (by omega) with q | q
    · rcases q with q | q <;> omega
    · exact q
  · rw [sim.ahead, ← prT_sk, toks_sk, ← h6]
    unfold toks; simp
  · intro tu st a b
    obtain ⟨x, y⟩ := h9 tu a
    rcases b with rfl | rfl
    · exact x
    · exact y
end
theorem good_all {ns : List Nat} (hn : ns.length = 4 ∨ ns.length = 5) : ∃ i j T cnt, (drGo (dr0 ns) ns).th = [(i, j, txt ns T)] ∧ GoodT ns T (drGo (dr0 ns) ns).co cnt := by
  have h : allP (chkA (ns.length + 1)) ns.length 0 (ab0 ns.length) = true := by
    rcases hn with h | h
    · rw [h]; exact all4
    · rw [h]; exact all5
  obtain ⟨A, h1, h2, h3⟩ := ab_run h
  obtain ⟨i, j, T, h4, h5⟩ := good_of h3 h1
  refine ⟨i, j, T, A.cnt, ?_, ?_⟩
  · rw [← h2]; unfold abDr; rw [h4]; rfl
  · rw [← h2]; exact h5
theorem add_eq {C : Cx} {f : Str} {s : List D → Option D} : (C.add f s).fn f = s := if_pos rfl
theorem add_ne {C : Cx} {f g : Str} {s : List D → Option D} (h : (g == f) = false) : (C.add f s).fn g = C.fn g := if_neg (by simpa using h)
theorem add_gn {C : Cx} {f : Str} {s : List D → Option D} : (C.add f s).gn = C.gn := rfl
theorem addG_eq {C : Cx} {f : Str} {s : List D → Option (List D)} : (C.addG f s).gn f = s := if_pos rfl
section
variable {B : Cx}
theorem fn17_3 : (k17 B).fn "ISEOF" = specR (k2 B) nm_ISEOF ["x"] ps_ISEOF :=
  (add_ne (C := k16 B) (f := "_law_lit") (g := "ISEOF") (by decide +kernel)).trans ((add_ne (C := k15 B) (f := "_law_ways") (g := "ISEOF") (by decide +kernel)).trans ((add_ne (C := k14 B) (f := "_law_written") (g := "ISEOF") (by decide +kernel)).trans ((add_ne (C := k13 B) (f := "_law_frieze") (g := "ISEOF") (by decide +kernel)).trans ((add_ne (C := k12 B) (f := "_law_threes") (g := "ISEOF") (by decide +kernel)).trans ((add_ne (C := k11 B) (f := "_law_pairs") (g := "ISEOF") (by decide +kernel)).trans ((add_ne (C := k10 B) (f := "_law_read") (g := "ISEOF") (by decide +kernel)).trans ((add_ne (C := k9 B) (f := "_law_octets") (g := "ISEOF") (by decide +kernel)).trans ((add_ne (C := k8 B) (f := "_law_drawn") (g := "ISEOF") (by decide +kernel)).trans ((add_ne (C := k7 B) (f := "_check_parenthesis") (g := "ISEOF") (by decide +kernel)).trans ((add_ne (C := k6 B) (f := "_strip_quoted_realnames") (g := "ISEOF") (by decide +kernel)).trans ((add_ne (C := k5 B) (f := "hsv_to_rgb") (g := "ISEOF") (by decide +kernel)).trans ((add_ne (C := k4 B) (f := "rgb_to_hsv") (g := "ISEOF") (by decide +kernel)).trans ((add_ne (C := k3 B) (f := "rgb_to_hls") (g := "ISEOF") (by decide +kernel)).trans (add_eq (C := k2 B) (f := "ISEOF")))))))))))))))
theorem fn17_9 : (k17 B).fn "_law_drawn" = specR (k8 B) nm_law_drawn ["numbers"] ps_law_drawn :=
  (add_ne (C := k16 B) (f := "_law_lit") (g := "_law_drawn") (by decide +kernel)).trans ((add_ne (C := k15 B) (f := "_law_ways") (g := "_law_drawn") (by decide +kernel)).trans ((add_ne (C := k14 B) (f := "_law_written") (g := "_law_drawn") (by decide +kernel)).trans ((add_ne (C := k13 B) (f := "_law_frieze") (g := "_law_drawn") (by decide +kernel)).trans ((add_ne (C := k12 B) (f := "_law_threes") (g := "_law_drawn") (by decide +kernel)).trans ((add_ne (C := k11 B) (f := "_law_pairs") (g := "_law_drawn") (by decide +kernel)).trans ((add_ne (C := k10 B) (f := "_law_read") (g := "_law_drawn") (by decide +kernel)).trans ((add_ne (C := k9 B) (f := "_law_octets") (g := "_law_drawn") (by decide +kernel)).trans (add_eq (C := k8 B) (f := "_law_drawn")))))))))
theorem fn17_10 : (k17 B).fn "_law_octets" = specR (k9 B) nm_law_octets ["corners"] ps_law_octets :=
  (add_ne (C := k16 B) (f := "_law_lit") (g := "_law_octets") (by decide +kernel)).trans ((add_ne (C := k15 B) (f := "_law_ways") (g := "_law_octets") (by decide +kernel)).trans ((add_ne (C := k14 B) (f := "_law_written") (g := "_law_octets") (by decide +kernel)).trans ((add_ne (C := k13 B) (f := "_law_frieze") (g := "_law_octets") (by decide +kernel)).trans ((add_ne (C := k12 B) (f := "_law_threes") (g := "_law_octets") (by decide +kernel)).trans ((add_ne (C := k11 B) (f := "_law_pairs") (g := "_law_octets") (by decide +kernel)).trans ((add_ne (C := k10 B) (f := "_law_read") (g := "_law_octets") (by decide +kernel)).trans (add_eq (C := k9 B) (f := "_law_octets"))))))))
theorem fn17_11 : (k17 B).fn "_law_read" = specR (k10 B) nm_law_read ["text"] ps_law_read :=
  (add_ne (C := k16 B) (f := "_law_lit") (g := "_law_read") (by decide +kernel)).trans ((add_ne (C := k15 B) (f := "_law_ways") (g := "_law_read") (by decide +kernel)).trans ((add_ne (C := k14 B) (f := "_law_written") (g := "_law_read") (by decide +kernel)).trans ((add_ne (C := k13 B) (f := "_law_frieze") (g := "_law_read") (by decide +kernel)).trans ((add_ne (C := k12 B) (f := "_law_threes") (g := "_law_read") (by decide +kernel)).trans ((add_ne (C := k11 B) (f := "_law_pairs") (g := "_law_read") (by decide +kernel)).trans (add_eq (C := k10 B) (f := "_law_read")))))))
theorem fn17_12 : (k17 B).fn "_law_pairs" = specR (k11 B) nm_law_pairs ["words", "row", "ahead"] ps_law_pairs :=
  (add_ne (C := k16 B) (f := "_law_lit") (g := "_law_pairs") (by decide +kernel)).trans ((add_ne (C := k15 B) (f := "_law_ways") (g := "_law_pairs") (by decide +kernel)).trans ((add_ne (C := k14 B) (f := "_law_written") (g := "_law_pairs") (by decide +kernel)).trans ((add_ne (C := k13 B) (f := "_law_frieze") (g := "_law_pairs") (by decide +kernel)).trans ((add_ne (C := k12 B) (f := "_law_threes") (g := "_law_pairs") (by decide +kernel)).trans (add_eq (C := k11 B) (f := "_law_pairs"))))))
theorem fn17_13 : (k17 B).fn "_law_threes" = specR (k12 B) nm_law_threes ["pairs"] ps_law_threes :=
  (add_ne (C := k16 B) (f := "_law_lit") (g := "_law_threes") (by decide +kernel)).trans ((add_ne (C := k15 B) (f := "_law_ways") (g := "_law_threes") (by decide +kernel)).trans ((add_ne (C := k14 B) (f := "_law_written") (g := "_law_threes") (by decide +kernel)).trans ((add_ne (C := k13 B) (f := "_law_frieze") (g := "_law_threes") (by decide +kernel)).trans (add_eq (C := k12 B) (f := "_law_threes")))))
theorem fn17_14 : (k17 B).fn "_law_frieze" = specR (k13 B) nm_law_frieze ["counts"] ps_law_frieze :=
  (add_ne (C := k16 B) (f := "_law_lit") (g := "_law_frieze") (by decide +kernel)).trans ((add_ne (C := k15 B) (f := "_law_ways") (g := "_law_frieze") (by decide +kernel)).trans ((add_ne (C := k14 B) (f := "_law_written") (g := "_law_frieze") (by decide +kernel)).trans (add_eq (C := k13 B) (f := "_law_frieze"))))
theorem fn17_15 : (k17 B).fn "_law_written" = specR (k14 B) nm_law_written ["told", "frieze"] ps_law_written :=
  (add_ne (C := k16 B) (f := "_law_lit") (g := "_law_written") (by decide +kernel)).trans ((add_ne (C := k15 B) (f := "_law_ways") (g := "_law_written") (by decide +kernel)).trans (add_eq (C := k14 B) (f := "_law_written")))
theorem fn17_16 : (k17 B).fn "_law_ways" = specR (k15 B) nm_law_ways ["threes", "size"] ps_law_ways :=
  (add_ne (C := k16 B) (f := "_law_lit") (g := "_law_ways") (by decide +kernel)).trans (add_eq (C := k15 B) (f := "_law_ways"))
theorem fn17_17 : (k17 B).fn "_law_lit" = specR (k16 B) nm_law_lit ["threes", "frieze", "size", "draw"] ps_law_lit :=
  add_eq (C := k16 B) (f := "_law_lit")
theorem fn10_1 : (k10 B).fn "ISTERMINAL" = specR (k0 B) nm_ISTERMINAL ["x"] ps_ISTERMINAL :=
  (add_ne (C := k9 B) (f := "_law_octets") (g := "ISTERMINAL") (by decide +kernel)).trans ((add_ne (C := k8 B) (f := "_law_drawn") (g := "ISTERMINAL") (by decide +kernel)).trans ((add_ne (C := k7 B) (f := "_check_parenthesis") (g := "ISTERMINAL") (by decide +kernel)).trans ((add_ne (C := k6 B) (f := "_strip_quoted_realnames") (g := "ISTERMINAL") (by decide +kernel)).trans ((add_ne (C := k5 B) (f := "hsv_to_rgb") (g := "ISTERMINAL") (by decide +kernel)).trans ((add_ne (C := k4 B) (f := "rgb_to_hsv") (g := "ISTERMINAL") (by decide +kernel)).trans ((add_ne (C := k3 B) (f := "rgb_to_hls") (g := "ISTERMINAL") (by decide +kernel)).trans ((add_ne (C := k2 B) (f := "ISEOF") (g := "ISTERMINAL") (by decide +kernel)).trans ((add_ne (C := k1 B) (f := "ISNONTERMINAL") (g := "ISTERMINAL") (by decide +kernel)).trans (add_eq (C := k0 B) (f := "ISTERMINAL"))))))))))
theorem fn10_2 : (k10 B).fn "ISNONTERMINAL" = specR (k1 B) nm_ISNONTERMINAL ["x"] ps_ISNONTERMINAL :=
  (add_ne (C := k9 B) (f := "_law_octets") (g := "ISNONTERMINAL") (by decide +kernel)).trans ((add_ne (C := k8 B) (f := "_law_drawn") (g := "ISNONTERMINAL") (by decide +kernel)).trans ((add_ne (C := k7 B) (f := "_check_parenthesis") (g := "ISNONTERMINAL") (by decide +kernel)).trans ((add_ne (C := k6 B) (f := "_strip_quoted_realnames") (g := "ISNONTERMINAL") (by decide +kernel)).trans ((add_ne (C := k5 B) (f := "hsv_to_rgb") (g := "ISNONTERMINAL") (by decide +kernel)).trans ((add_ne (C := k4 B) (f := "rgb_to_hsv") (g := "ISNONTERMINAL") (by decide +kernel)).trans ((add_ne (C := k3 B) (f := "rgb_to_hls") (g := "ISNONTERMINAL") (by decide +kernel)).trans ((add_ne (C := k2 B) (f := "ISEOF") (g := "ISNONTERMINAL") (by decide +kernel)).trans (add_eq (C := k1 B) (f := "ISNONTERMINAL")))))))))
theorem fn10_7 : (k10 B).fn "_strip_quoted_realnames" = specR (k6 B) nm_strip_quoted_realnames ["addr"] ps_strip_quoted_realnames :=
  (add_ne (C := k9 B) (f := "_law_octets") (g := "_strip_quoted_realnames") (by decide +kernel)).trans ((add_ne (C := k8 B) (f := "_law_drawn") (g := "_strip_quoted_realnames") (by decide +kernel)).trans ((add_ne (C := k7 B) (f := "_check_parenthesis") (g := "_strip_quoted_realnames") (by decide +kernel)).trans (add_eq (C := k6 B) (f := "_strip_quoted_realnames"))))
theorem fn7_7 : (k7 B).fn "_strip_quoted_realnames" = specR (k6 B) nm_strip_quoted_realnames ["addr"] ps_strip_quoted_realnames :=
  add_eq (C := k6 B) (f := "_strip_quoted_realnames")
theorem fn11_8 : (k11 B).fn "_check_parenthesis" = specR (k7 B) nm_check_parenthesis ["addr"] ps_check_parenthesis :=
  (add_ne (C := k10 B) (f := "_law_read") (g := "_check_parenthesis") (by decide +kernel)).trans ((add_ne (C := k9 B) (f := "_law_octets") (g := "_check_parenthesis") (by decide +kernel)).trans ((add_ne (C := k8 B) (f := "_law_drawn") (g := "_check_parenthesis") (by decide +kernel)).trans (add_eq (C := k7 B) (f := "_check_parenthesis"))))
theorem fn16_4 : (k16 B).fn "rgb_to_hls" = specR (k3 B) nm_rgb_to_hls ["r", "g", "b"] ps_rgb_to_hls :=
  (add_ne (C := k15 B) (f := "_law_ways") (g := "rgb_to_hls") (by decide +kernel)).trans ((add_ne (C := k14 B) (f := "_law_written") (g := "rgb_to_hls") (by decide +kernel)).trans ((add_ne (C := k13 B) (f := "_law_frieze") (g := "rgb_to_hls") (by decide +kernel)).trans ((add_ne (C := k12 B) (f := "_law_threes") (g := "rgb_to_hls") (by decide +kernel)).trans ((add_ne (C := k11 B) (f := "_law_pairs") (g := "rgb_to_hls") (by decide +kernel)).trans ((add_ne (C := k10 B) (f := "_law_read") (g := "rgb_to_hls") (by decide +kernel)).trans ((add_ne (C := k9 B) (f := "_law_octets") (g := "rgb_to_hls") (by decide +kernel)).trans ((add_ne (C := k8 B) (f := "_law_drawn") (g := "rgb_to_hls") (by decide +kernel)).trans ((add_ne (C := k7 B) (f := "_check_parenthesis") (g := "rgb_to_hls") (by decide +kernel)).trans ((add_ne (C := k6 B) (f := "_strip_quoted_realnames") (g := "rgb_to_hls") (by decide +kernel)).trans ((add_ne (C := k5 B) (f := "hsv_to_rgb") (g := "rgb_to_hls") (by decide +kernel)).trans ((add_ne (C := k4 B) (f := "rgb_to_hsv") (g := "rgb_to_hls") (by decide +kernel)).trans (add_eq (C := k3 B) (f := "rgb_to_hls")))))))))))))
theorem fn16_5 : (k16 B).fn "rgb_to_hsv" = specR (k4 B) nm_rgb_to_hsv ["r", "g", "b"] ps_rgb_to_hsv :=
  (add_ne (C := k15 B) (f := "_law_ways") (g := "rgb_to_hsv") (by decide +kernel)).trans ((add_ne (C := k14 B) (f := "_law_written") (g := "rgb_to_hsv") (by decide +kernel)).trans ((add_ne (C := k13 B) (f := "_law_frieze") (g := "rgb_to_hsv") (by decide +kernel)).trans ((add_ne (C := k12 B) (f := "_law_threes") (g := "rgb_to_hsv") (by decide +kernel)).trans ((add_ne (C := k11 B) (f := "_law_pairs") (g := "rgb_to_hsv") (by decide +kernel)).trans ((add_ne (C := k10 B) (f := "_law_read") (g := "rgb_to_hsv") (by decide +kernel)).trans ((add_ne (C := k9 B) (f := "_law_octets") (g := "rgb_to_hsv") (by decide +kernel)).trans ((add_ne (C := k8 B) (f := "_law_drawn") (g := "rgb_to_hsv") (by decide +kernel)).trans ((add_ne (C := k7 B) (f := "_check_parenthesis") (g := "rgb_to_hsv") (by decide +kernel)).trans ((add_ne (C := k6 B) (f := "_strip_quoted_realnames") (g := "rgb_to_hsv") (by decide +kernel)).trans ((add_ne (C := k5 B) (f := "hsv_to_rgb") (g := "rgb_to_hsv") (by decide +kernel)).trans (add_eq (C := k4 B) (f := "rgb_to_hsv"))))))))))))
theorem fn16_6 : (k16 B).fn "hsv_to_rgb" = specR (k5 B) nm_hsv_to_rgb ["h", "s", "v"] ps_hsv_to_rgb :=
  (add_ne (C := k15 B) (f := "_law_ways") (g := "hsv_to_rgb") (by decide +kernel)).trans ((add_ne (C := k14 B) (f := "_law_written") (g := "hsv_to_rgb") (by decide +kernel)).trans ((add_ne (C := k13 B) (f := "_law_frieze") (g := "hsv_to_rgb") (by decide +kernel)).trans ((add_ne (C := k12 B) (f := "_law_threes") (g := "hsv_to_rgb") (by decide +kernel)).trans ((add_ne (C := k11 B) (f := "_law_pairs") (g := "hsv_to_rgb") (by decide +kernel)).trans ((add_ne (C := k10 B) (f := "_law_read") (g := "hsv_to_rgb") (by decide +kernel)).trans ((add_ne (C := k9 B) (f := "_law_octets") (g := "hsv_to_rgb") (by decide +kernel)).trans ((add_ne (C := k8 B) (f := "_law_drawn") (g := "hsv_to_rgb") (by decide +kernel)).trans ((add_ne (C := k7 B) (f := "_check_parenthesis") (g := "hsv_to_rgb") (by decide +kernel)).trans ((add_ne (C := k6 B) (f := "_strip_quoted_realnames") (g := "hsv_to_rgb") (by decide +kernel)).trans (add_eq (C := k5 B) (f := "hsv_to_rgb")))))))))))
theorem gnk0 : (k0 B).gn "_iter_escaped_chars" = escG := addG_eq (C := B) (f := "_iter_escaped_chars") (s := escG)
theorem gk1 : (k1 B).gn = (k0 B).gn := add_gn (C := k0 B)
theorem gk2 : (k2 B).gn = (k0 B).gn := (add_gn (C := k1 B)).trans gk1
theorem gk3 : (k3 B).gn = (k0 B).gn := (add_gn (C := k2 B)).trans gk2
theorem gk4 : (k4 B).gn = (k0 B).gn := (add_gn (C := k3 B)).trans gk3
theorem gk5 : (k5 B).gn = (k0 B).gn := (add_gn (C := k4 B)).trans gk4
theorem gk6 : (k6 B).gn = (k0 B).gn := (add_gn (C := k5 B)).trans gk5
theorem gk7 : (k7 B).gn = (k0 B).gn := (add_gn (C := k6 B)).trans gk6
theorem gk8 : (k8 B).gn = (k0 B).gn := (add_gn (C := k7 B)).trans gk7
theorem gk9 : (k9 B).gn = (k0 B).gn := (add_gn (C := k8 B)).trans gk8
theorem gk10 : (k10 B).gn = (k0 B).gn := (add_gn (C := k9 B)).trans gk9
theorem gnk6 : (k6 B).gn "_iter_escaped_chars" = escG := (congrFun gk6 _).trans gnk0
theorem gnk7 : (k7 B).gn "_iter_escaped_chars" = escG := (congrFun gk7 _).trans gnk0
theorem gnk10 : (k10 B).gn "_iter_escaped_chars" = escG := (congrFun gk10 _).trans gnk0
end
theorem nt_gd : gdP "NT_OFFSET" = some (.int 256) := if_pos rfl
theorem em_gd : gdP "ENDMARKER" = some (.int 0) := (if_neg (by decide +kernel)).trans (if_pos rfl)
theorem v_glob {C : Cx} {x : Str} {ρ : List Slot} {d : D} (h : C.gd x = some d) : ev C (.glob x) ρ = .of (some d) := by
  show Rs.of (C.gd x) = _
  rw [h]
theorem e_cmp {C : Cx} {ρ : List Slot} {op : CmpOp} {l r : PE} {a b : D} {c : Bool} (h1 : (ev C l ρ).t = some a) (h2 : (ev C r ρ).t = some b) (h3 : dcmp op a b = some c) : (ev C (.cmp op l r) ρ).e = some (.bool c) := by
  show (((ev C l ρ).t.bind λ a => (ev C r ρ).t.bind λ b => dcmp op a b).map D.bool) = _
  rw [h1, h2, Option.bind_some, Option.bind_some, h3]; rfl
theorem rdCx : RdCx (k10 cE) where
  tok := rfl
  term y := by
    rw [fn10_1]
    exact specR_of rfl (run_ret (run_retE (e_cmp (tOf (v_var rfl)) (tOf (v_glob (C := k0 cE) nt_gd)) rfl)))
  non y := by
    rw [fn10_2]
    refine specR_of rfl (run_ret (run_retE (e_cmp (tOf (v_var rfl)) (tOf (v_glob (C := k1 cE) nt_gd)) ?_)))
    show some (decide (256 ≤ y)) = _
    rfl
theorem eof_ok (y : Int) : (k17 cE).fn "ISEOF" [.int y] = some (.bool (y == 0)) := by
  rw [fn17_3]
  exact specR_of rfl (run_ret (run_retE (e_cmp (tOf (v_var rfl)) (tOf (v_glob (C := k2 cE) em_gd)) rfl)))
theorem ltCx : LtCx (k16 cE) where
  hsv l := by rw [fn16_5]; rfl
  rgb l := by rw [fn16_6]; rfl
  hls l := by rw [fn16_4]; rfl
theorem strip_toks {ns : List Nat} {T : Tr} (hl : (txt ns T).length ≤ 100000) : (k10 cE).fn "_strip_quoted_realnames" [.str (S (txt ns T))] = some (.str (S (tkText (toks ns T)))) := by
  have h := strip_ok (C := k6 cE) gnk6 (wds ns T) (wds_ok ns T) (by rw [wds_text]; exact hl)
  rw [wds_text, wds_keep] at h
  rw [fn10_7]; exact h
theorem tkText_noQ (us : List Tk) (h : ∀ t ∈ us, t.okB = true) : WdOk (false, tkText us) := by
  obtain ⟨_, a, b⟩ := tks_pcs us h
  exact ⟨b, a⟩
theorem check_toks (us : List Tk) (h : ∀ t ∈ us, t.okB = true) (hl : us.length ≤ 1000) : (k11 cE).fn "_check_parenthesis" [.str (S (tkText us))] = some (.bool (chk false 0 (tkText us) == some 0)) := by
  have e1 : wdText [(false, tkText us)] = tkText us := by simp [wdText]
  have e2 : wdKeep [(false, tkText us)] = tkText us := by simp [wdKeep]
  have h1 := strip_ok (C := k6 cE) gnk6 [(false, tkText us)] (λ w hw => by rw [List.mem_singleton.mp hw]; exact tkText_noQ us h) (by
    rw [e1]; have := tkText_len us h; lia)
  rw [e1, e2] at h1
  rw [fn11_8]
  exact check_ok (C := k7 cE) gnk7 (by rw [fn7_7]; exact h1) (tks_pcs us h).2.1
noncomputable def OkPy (k : Nat) (d : D) : Prop := ∃ p, toPy d = some p ∧ p.canLay0 = true ∧ p.depth ≤ k
theorem okPy_int {k : Nat} (i : Int) : OkPy k (.int i) := ⟨.int i, rfl, rfl, Nat.zero_le _⟩
theorem okPy_all {k : Nat} : ∀ {l : List D}, (∀ d ∈ l, OkPy k d) → ∃ ps, toPyL l = some ps ∧ PyData.canLayAll0 ps = true ∧ PyData.depthAll ps ≤ k
  | [], _ => ⟨[], rfl, rfl, Nat.zero_le _⟩
  | d :: l, h => by
    obtain ⟨p, h1, h2, h3⟩ := h d List.mem_cons_self
    obtain ⟨ps, g1, g2, g3⟩ := okPy_all λ e he => h e (List.mem_cons_of_mem _ he)
    refine ⟨p :: ps, bnd h1 (congrArg (Option.map (p :: ·)) g1), by simp only [PyData.canLayAll0, h2, g2, Bool.and_self], ?_⟩
    simp only [PyData.depthAll]; lia
theorem okPy_lst {k : Nat} {l : List D} (h : ∀ d ∈ l, OkPy k d) : OkPy (k + 1) (.lst l) := by
  obtain ⟨ps, g1, g2, g3⟩ := okPy_all h
  exact ⟨.list ps, congrArg (Option.map PyData.list) g1, by simpa only [PyData.canLay0] using g2, by simp only [PyData.depth]; lia⟩
theorem okPy_tup {k : Nat} {l : List D} (h : ∀ d ∈ l, OkPy k d) : OkPy (k + 1) (.tup l) := by
  obtain ⟨ps, g1, g2, g3⟩ := okPy_all h
  exact ⟨.tuple ps, congrArg (Option.map PyData.tuple) g1, by simpa only [PyData.canLay0] using g2, by simp only [PyData.depth]; lia⟩
theorem ne_self {l : List D} (h : ∀ d ∈ l, OkPy 10 d) : dcmp .NotEq (.lst l) (.lst l) = some false := by
  obtain ⟨ps, g1, g2, g3⟩ := okPy_all h
  have c : (PyData.list ps).canLay0 = true := by simpa only [PyData.canLay0] using g2
  have sh : SeqAt.shaped (.list ps) = true := by
    unfold SeqAt.shaped
    rw [c, decide_eq_true (by simp only [PyData.depth]; lia)]; rfl
  refine bnd g1 (bnd g1 ?_)
  rw [sh, SeqAt.eqv_refl _ c]; rfl
theorem ne_ints {l : List Int} : dcmp .NotEq (.lst (l.map .int)) (.lst (l.map .int)) = some false := ne_self λ d hd => by
  obtain ⟨i, _, rfl⟩ := List.mem_map.mp hd
  exact okPy_int i
theorem ne_nats {l : List Nat} : dcmp .NotEq (.lst (l.map nD)) (.lst (l.map nD)) = some false := ne_self λ d hd => by
  obtain ⟨i, _, rfl⟩ := List.mem_map.mp hd
  exact okPy_int _
theorem ne_lists {F : List (List Int)} : dcmp .NotEq (.lst (F.map lnD)) (.lst (F.map lnD)) = some false := ne_self λ d hd => by
  obtain ⟨l, _, rfl⟩ := List.mem_map.mp hd
  exact okPy_lst (k := 9) λ d hd => by
    obtain ⟨i, _, rfl⟩ := List.mem_map.mp hd
    exact okPy_int i
theorem ne_pairs {P : List Pr} : dcmp .NotEq (.lst (P.map pD)) (.lst (P.map pD)) = some false := ne_self λ d hd => by
  obtain ⟨l, _, rfl⟩ := List.mem_map.mp hd
  exact okPy_tup (k := 9) λ d hd => by
    simp only [List.mem_cons, List.not_mem_nil, or_false] at hd
    rcases hd with rfl | rfl <;> exact okPy_int _
noncomputable def defs : List Nat := [4320, 13561, 62881, 2580]
noncomputable def given (script : List Int) : List Nat := (script.take 5).map λ x => (x % 1000000).toNat
noncomputable def numbers (script : List Int) : List Nat := given script ++ defs.drop (given script).length
theorem given_len (script : List Int) : (given script).length ≤ 5 := by unfold given; rw [List.length_map, List.length_take]; lia
theorem numbers_len (script : List Int) : (numbers script).length = 4 ∨ (numbers script).length = 5 := by
  have h := given_len script
  unfold numbers
  rw [List.length_append, List.length_drop]
  show _ + (4 - _) = 4 ∨ _ + (4 - _) = 5
  lia
theorem numbers_lt (script : List Int) : ∀ x ∈ numbers script, x < 1000000 := by
  intro x hx
  rcases List.mem_append.mp hx with hx | hx
  · obtain ⟨y, _, rfl⟩ := List.mem_map.mp hx
    have h1 := Int.emod_lt_of_pos y (show (0 : Int) < 1000000 by decide)
    have h2 := Int.emod_nonneg y (show (1000000 : Int) ≠ 0 by decide)
    lia
  · have := List.mem_of_mem_drop hx
    simp only [defs, List.mem_cons, List.not_mem_nil, or_false] at this
    lia
theorem mod_m (y : Int) : dbin .Mod (.int y) (.int 1000000) = some (nD (y % 1000000).toNat) := by
  have h2 := Int.emod_nonneg y (show (1000000 : Int) ≠ 0 by decide)
  show some (D.int (y.fmod 1000000)) = some (D.int (((y % 1000000).toNat : Nat) : Int))
  rw [Int.toNat_of_nonneg h2, Int.fmod_eq_emod_of_nonneg _ (by decide)]
noncomputable def lwSt (script : List Int) (a b c d e f g h i j k l m n : Slot) : List Slot :=
  [.undef, .fro (.lst (script.map .int)), a, b, c, d, e, f, g, h, i, j, k, l, m, n, .undef, .undef, .undef, .undef, .undef]
section
variable {C : Cx} {script : List Int}
theorem pre_comp {ρ : List Slot} (h1 : ρ[1]? = some (.fro (.lst (script.map .int)))) (hl : script.length ≤ 16777216) (hm : ∀ x : D, ∃ ρ', bindT (.one 16) x (mask [] ρ) = some ρ' ∧ ρ'[16]? = some (.fro x)) :
    ev C (.comp (.bin .Mod (.var 16) (.cI 1000000)) (.one 16) (.slc (.var 1) .abs (.cI 5)) (.cB true) []) ρ = .of (some (.lst ((given script).map nD))) := by
  have hs : ev C (.slc (.var 1) .abs (.cI 5)) ρ = .of (some (.lst (((script.map .int) : List D).take 5))) :=
    v_slc (tOf (v_var h1)) p_abs (p_int (i := ((5 : Nat) : Int)) rfl v_cI) (slc_to (by rw [List.length_map]; exact hl))
  have e : (given script).map nD = ((script.take 5).flatMap λ x => [nD (x % 1000000).toNat]) := by
    unfold given; rw [List.map_map]
    induction script.take 5 with
    | nil => rfl
    | cons x l ih => rw [List.map_cons, ih]; rfl
  rw [e]
  refine e_comp rfl (it_of hs (by rw [List.length_take]; lia)) ?_ ?_
  · rw [← List.map_take]
    refine compGo_map (g := λ (x : Int) => D.int x) (h := λ x => [nD (x % 1000000).toNat]) _ λ x _ => ?_
    obtain ⟨ρ', m1, m2⟩ := hm (.int x)
    exact elt_of (c := true) m1 rfl λ _ => eOf (v_bin (tOf (v_var m2)) (tOf v_cI) (mod_m x))
  · rw [← e, List.length_map]; have := given_len script; lia
end
section
variable {C : Cx} {script : List Int}
theorem defs_lst {ρ : List Slot} : ev C (.lst (.cons (.cI 4320) (.cons (.cI 13561) (.cons (.cI 62881) (.cons (.cI 2580) .nil))))) ρ = .of (some (.lst (defs.map nD))) :=
  v_lst (l_cons (eOf v_cI) (l_cons (eOf v_cI) (l_cons (eOf v_cI) (l_cons (eOf v_cI) l_nil)))) (show 4 ≤ 16777216 by decide)
theorem pre_ok (hl : script.length ≤ 16777216) {text : Str} {co : List Nat} (hd : C.fn "_law_drawn" [.lst ((numbers script).map nD)] = some (.tup [.str text, .lst (co.map nD)])) :
    run C 4000 ps_law_pre (initSlots nm_law [.lst (script.map .int)]) = some (.next, lwSt script (.fro (.lst ((given script).map nD))) (.fro (.lst ((numbers script).map nD))) (.fro (nD ((numbers script).length + 1))) (.fro (.str text)) (.fro (.lst (co.map nD))) .undef .undef .undef .undef .undef .undef .undef .undef .undef) := by
  have hg := given_len script
  have hnl : (numbers script).length ≤ 5 := by rcases numbers_len script with h | h <;> lia
  refine (run_seq (run_asgO (eOf (pre_comp (script := script) rfl hl λ x => ⟨_, rfl, rfl⟩)))).trans ((run_seq (run_frz rfl)).trans ?_)
  refine (run_seq (run_asg (d := .lst ((numbers script).map nD)) (eOf (v_bin (tOf (v_var rfl)) (tOf (v_slc (tOf defs_lst) (p_int rfl (v_len (tOf (v_var rfl)) (by rw [List.length_map]; lia))) p_abs (slc_from (show 4 ≤ 16777216 by decide)))) ?_)))).trans ?_
  · rw [bin_app (by rw [List.length_map, List.length_drop]; show _ + (4 - _) ≤ _; omega)]
    unfold numbers
    rw [List.map_append, List.length_map, List.map_drop]
  refine (run_seq (run_asg (d := nD ((numbers script).length + 1)) (eOf (v_bin (tOf (v_len (tOf (v_var rfl)) (by rw [List.length_map]; lia))) (tOf v_cI) ?_)))).trans ?_
  · rw [List.length_map, bin_add]; rfl
  exact (run_seq (run_asgT (eOf (v_call (l_cons (eOf (v_var rfl)) l_nil) hd)) rfl))
theorem oct_ok {a b c d : Slot} {co : List Nat} {bs : Array UInt8} (h : C.fn "_law_octets" [.lst (co.map nD)] = some (.bytes bs)) : (ev C octE (lwSt script a b c d (.fro (.lst (co.map nD))) .undef .undef .undef .undef .undef .undef .undef .undef .undef)).e = some (.bytes bs) :=
  eOf (v_call (l_cons (eOf (v_var rfl)) l_nil) h)
theorem pre_noOwn {d1 d2 d3 d4 d5 : D} (i : Nat) (ds : List D) : (lwSt script (.fro d1) (.fro d2) (.fro d3) (.fro d4) (.fro d5) .undef .undef .undef .undef .undef .undef .undef .undef .undef)[i]? ≠ some (.own ds) := by
  intro h
  have := List.mem_of_getElem? h
  simp [lwSt] at this
end
section
variable {C : Cx} {F : List (List Int)} {n : Nat}
theorem F_sub9 {v : Nat} (hF : FrOk F n) (hn : n ≤ 1000) {i j : Nat} (hi : i < n) (hj : j ≤ n) {ρ : List Slot} {a b : PE} (h2 : ρ[v]? = some (.fro (.lst (F.map lnD)))) (ha : ev C a ρ = .of (some (nD i))) (hb : ev C b ρ = .of (some (nD j))) : ev C (.sub (.sub (.var v) a) b) ρ = .of (some (.int (at2 F i j))) := by
  have hl := hF.len
  have hr := hF.row i hi
  have hg : F[i]? = some (F.getD i []) := by rw [List.getD_eq_getElem?_getD, List.getElem?_eq_getElem (by lia)]; rfl
  exact v_sub (tOf (v_sub (a := .lst (F.map lnD)) (d := lnD (F.getD i [])) (tOf (v_var h2)) (tOf ha) (dsub_nat (by lia) (by rw [List.getElem?_map, hg]; rfl)))) (tOf hb) (fr_get (by lia) (by lia))
theorem drange_down {a b : Nat} (ha : a ≤ 100000) (hb : b ≤ 100000) : drange [nD a, nD b, .int (-1)] = some ((List.range (a - b)).map λ (k : Nat) => nD (a - k)) := by
  rw [drange_3]
  unfold drange3
  rw [small_nat ha, small_nat hb, decide_eq_true (by omega), show ((a : Int) - (b : Int)).toNat = a - b by omega]
  refine congrArg some ?_
  refine List.map_congr_left λ k hk => ?_
  have := List.mem_range.mp hk
  show D.int ((a : Int) - (k : Int)) = D.int ((a - k : Nat) : Int)
  congr 1; lia
theorem pairs_comp (hF : FrOk F n) (hn : n ≤ 100) {ρ : List Slot} (hm : ∀ x y : D, ∃ ρ1 ρ2, bindT (.one 19) x (mask [4, 9] ρ) = some ρ1 ∧ ρ1[4]? = some (.fro (nD n)) ∧ ρ1[19]? = some (.fro x) ∧ bindT (.one 20) y ρ1 = some ρ2 ∧ ρ2[9]? = some (.fro (.lst (F.map lnD))) ∧ ρ2[19]? = some (.fro x) ∧ ρ2[20]? = some (.fro y)) (h4 : ρ[4]? = some (.fro (nD n))) :
    ev C (.comp2 (.tup (.cons (.var 19) (.cons (.var 20) .nil))) (.one 19) (.rng (.cons (.var 4) .nil)) (.one 20) (.rng (.cons (.var 4) (.cons (.bin .Add (.var 19) (.cI 1)) (.cons (.neg (.cI 1)) .nil)))) (.cmp .Eq (.sub (.sub (.var 9) (.var 19)) (.var 20)) (.cI 1)) [4, 9]) ρ = .of (some (.lst ((pairsP F n).map pD))) := by
  have len : ((pairsP F n).map pD).length ≤ 16777216 := by
    rw [List.length_map]
    have : (pairsP F n).length ≤ (List.range n).length * 100 := by
      refine fm_len2 (λ i => ?_) _
      have := fm_len2 (b := 1) (f := λ k => if at2 F i (n - k) = 1 then [((i : Int), ((n - k : Nat) : Int))] else []) (λ k => by split <;> simp) (List.range (n - (i + 1)))
      rw [List.length_range] at this; omega
    rw [List.length_range] at this; lia
  refine e_comp2 (it_rng (lt_cons (tOf (v_var h4)) lt_nil) (drange_n (by lia))) ?_ len
  unfold pairsP
  rw [List.map_flatMap]
  refine compGo_map (g := λ (i : Nat) => nD i) (h := λ i => ((List.range (n - (i + 1))).flatMap λ k => if at2 F i (n - k) = 1 then [((i : Int), ((n - k : Nat) : Int))] else []).map pD) _ λ i hi => ?_
  have hi := List.mem_range.mp hi
  obtain ⟨ρ1, _, m1, m2, m3, _⟩ := hm (nD i) (nD 0)
  refine inner_of m1 (it_rng (lt_cons (tOf (v_var m2)) (lt_cons (tOf (v_bin (d := nD (i + 1)) (tOf (v_var m3)) (tOf v_cI) rfl)) (lt_cons (tOf (v_neg (tOf v_cI) rfl)) lt_nil))) (drange_down (by lia) (by lia))) ?_
  rw [List.map_flatMap]
  refine compGo_map (g := λ (k : Nat) => nD (n - k)) (h := λ k => (if at2 F i (n - k) = 1 then [((i : Int), ((n - k : Nat) : Int))] else []).map pD) _ λ k hk => ?_
  obtain ⟨ρ1', ρ2, e1, _, _, e2, e3, e4, e5⟩ := hm (nD i) (nD (n - k))
  rw [m1] at e1
  cases e1
  have := elt_of (C := C) (cond := .cmp .Eq (.sub (.sub (.var 9) (.var 19)) (.var 20)) (.cI 1)) (elt := .tup (.cons (.var 19) (.cons (.var 20) .nil))) (d := pD ((i : Int), ((n - k : Nat) : Int))) (c := at2 F i (n - k) == 1) e2
    (b_cmp (tOf (F_sub9 hF (by lia) hi (by omega) e3 (v_var e4) (v_var e5))) (tOf v_cI) rfl) (λ _ => eOf (v_tup (l_cons (eOf (v_var e4)) (l_cons (eOf (v_var e5)) l_nil)) (show 2 ≤ 16777216 by decide)))
  rw [this]
  by_cases h : at2 F i (n - k) = 1
  · rw [if_pos (beq_iff_eq.mpr h), if_pos h]; rfl
  · rw [if_neg (by simpa using h), if_neg h]; rfl
theorem last_end {r : List Int} (h : ∀ x ∈ r, x ≠ 0) : ((List.range (r.length + 1)).flatMap λ k => if ((r ++ [0]).getD k 0 == 0) = true then [nD k] else []) = [nD r.length] := by
  rw [List.range_succ, List.flatMap_append]
  have e1 : ((List.range r.length).flatMap λ k => if ((r ++ [0]).getD k 0 == 0) = true then [nD k] else []) = [] := by
    refine List.flatMap_eq_nil_iff.mpr λ k hk => ?_
    have hk := List.mem_range.mp hk
    rw [if_neg]
    rw [List.getD_eq_getElem?_getD, List.getElem?_append_left hk, List.getElem?_eq_getElem hk]
    simpa using h _ (List.getElem_mem hk)
  rw [e1]
  simp
theorem eof_comp {r : List Int} (h : ∀ x ∈ r, x ≠ 0) (hl : r.length ≤ 1000) (heof : ∀ y : Int, C.fn "ISEOF" [.int y] = some (.bool (y == 0))) {ρ : List Slot} (h1 : ρ[11]? = some (.fro (.lst ((r ++ [0]).map .int)))) (hm : ∀ x : D, ∃ ρ1, bindT (.one 18) x (mask [11] ρ) = some ρ1 ∧ ρ1[18]? = some (.fro x) ∧ ρ1[11]? = some (.fro (.lst ((r ++ [0]).map .int)))) :
    (ev C (.cmp .NotEq (.comp (.var 18) (.one 18) (.rng (.cons (.bi .len (.cons (.var 11) .nil)) .nil)) (.call "ISEOF" (.cons (.sub (.var 11) (.var 18)) .nil)) [11]) (.lst (.cons (.bin .Sub (.bi .len (.cons (.var 11) .nil)) (.cI 1)) .nil))) ρ).b = some false := by
  have ll : ((r ++ [0]).map D.int).length = r.length + 1 := by simp
  refine b_cmp (a := .lst [nD r.length]) (b := .lst [nD r.length]) ?_ ?_ (ne_nats (l := [r.length]))
  · rw [← last_end h]
    refine tOf (e_comp rfl (it_rng (lt_cons (tOf (v_len (tOf (v_var h1)) (by rw [ll]; lia))) lt_nil) (by rw [ll]; exact drange_n (by lia))) ?_ ?_)
    · refine compGo_map (g := λ (k : Nat) => nD k) (h := λ k => if ((r ++ [0]).getD k 0 == 0) = true then [nD k] else []) _ λ k hk => ?_
      have hk := List.mem_range.mp hk
      obtain ⟨ρ1, m1, m2, m3⟩ := hm (nD k)
      exact elt_of (c := (r ++ [0]).getD k 0 == 0) m1 (bOf (v_call (l_cons (eOf (v_sub (tOf (v_var m3)) (tOf (v_var m2)) (fr_get (by simp; omega) (by lia)))) l_nil) (heof _))) λ _ => eOf (v_var m2)
    · rw [last_end h]; exact (by decide : 1 ≤ 16777216)
  · refine tOf (v_lst (l_cons (eOf (v_bin (tOf (v_len (tOf (v_var h1)) (by rw [ll]; lia))) (tOf v_cI) ?_)) l_nil) (show 1 ≤ 16777216 by decide))
    rw [ll, bin_sb]
    show some (D.int (((r.length + 1 : Nat) : Int) - 1)) = some (D.int (r.length : Int))
    congr 2; lia
theorem sum_nats : ∀ l : List Nat, (l.map λ (k : Nat) => (k : Int)).sum = ((l.sum : Nat) : Int)
  | [] => rfl
  | x :: l => by rw [List.map_cons, List.sum_cons, List.sum_cons, sum_nats l]; lia
theorem nD_map (l : List Nat) : l.map nD = (l.map λ (k : Nat) => (k : Int)).map .int := by rw [List.map_map]; rfl
theorem v_sum {l : List Nat} {p : PE} {ρ : List Slot} (h : (ev C p ρ).t = some (.lst (l.map nD))) : ev C (.bi .sum (.cons p .nil)) ρ = .of (some (nD l.sum)) := by
  refine v_bi (lt_cons h lt_nil) ?_
  show (intsOf (l.map nD)).map _ = _
  rw [nD_map, intsOf_map, Option.map_some, sum_nats]
end
section
variable {C : Cx} {script : List Int}
theorem counts_comp {co : List Nat} {ρ : List Slot} (h7 : ρ[7]? = some (.fro (.lst (co.map nD)))) (hl : co.length ≤ 1000) (hm : ∀ x : D, ∃ ρ1, bindT (.one 17) x (mask [] ρ) = some ρ1 ∧ ρ1[17]? = some (.fro x)) :
    ev C (.comp (.bin .Mod (.var 17) (.cI 64)) (.one 17) (.var 7) (.cB true) []) ρ = .of (some (.lst ((co.map (· % 64)).map nD))) := by
  have e : (co.map (· % 64)).map nD = co.flatMap λ k => [nD (k % 64)] := by
    rw [List.map_map]
    induction co with
    | nil => rfl
    | cons x l ih =>
      rw [List.map_cons, List.flatMap_cons]
      have : l.map (nD ∘ (· % 64)) = l.flatMap λ k => [nD (k % 64)] := by
        clear ih hl h7
        induction l with
        | nil => rfl
        | cons y l ih => rw [List.map_cons, ih]; rfl
      rw [this]; rfl
  rw [e]
  refine e_comp rfl (it_of (v_var h7) (by rw [List.length_map]; lia)) ?_ ?_
  · refine compGo_map (g := λ (k : Nat) => nD k) (h := λ k => [nD (k % 64)]) _ λ k _ => ?_
    obtain ⟨ρ1, m1, m2⟩ := hm (nD k)
    exact elt_of (c := true) m1 rfl λ _ => eOf (v_bin (tOf (v_var m2)) (tOf v_cI) (bin_mod k 64 (by decide)))
  · rw [← e, List.length_map, List.length_map]; lia
set_option maxHeartbeats 4000000 in
theorem post_ok {ns dr : List Nat} {n : Nat} {text : Str} {co cnt : List Nat} {F : List (List Int)} {W : D} {r : List Int} {A : D} {P : List Pr} {ths : List T3}
    (hcm : co.map (· % 64) = cnt) (hco : co.length ≤ 1000) (hn : n ≤ 100) (hF : FrOk F n) (hr : ∀ x ∈ r, x ≠ 0) (hrl : r.length ≤ 1000) (hP : P = pairsP F n)
    (hfz : C.fn "_law_frieze" [.lst (cnt.map nD)] = some (.lst (F.map lnD)))
    (hrd : C.fn "_law_read" [.str text] = some (.tup [W, .lst ((r ++ [0]).map .int), .lst (cnt.map nD), A]))
    (hwr : C.fn "_law_written" [.lst (co.map nD), .lst (F.map lnD)] = some (.lst ((r ++ [0]).map .int)))
    (heof : ∀ y : Int, C.fn "ISEOF" [.int y] = some (.bool (y == 0)))
    (hpr : C.fn "_law_pairs" [W, .lst ((r ++ [0]).map .int), A] = some (.lst (P.map pD)))
    (hth : C.fn "_law_threes" [.lst (P.map pD)] = some (.lst (ths.map t3D)))
    (hwy : C.fn "_law_ways" [.lst (ths.map t3D), nD n] = some (.lst (F.map lnD)))
    (hlt : C.fn "_law_lit" [.lst (ths.map t3D), .lst (F.map lnD), nD n, nD ns.sum] = some (.bool true)) :
    ∃ ρ2, run C 4000 ps_law_post (lwSt script (.fro (.lst (dr.map nD))) (.fro (.lst (ns.map nD))) (.fro (nD n)) (.fro (.str text)) (.fro (.lst (co.map nD))) (.fro (.lst (co.map nD))) .undef .undef .undef .undef .undef .undef .undef .undef) = some (.ret (.bool true), ρ2) := by
  refine ⟨lwSt script (.fro (.lst (dr.map nD))) (.fro (.lst (ns.map nD))) (.fro (nD n)) (.fro (.str text)) (.fro (.lst (co.map nD))) (.fro (.lst (co.map nD))) (.fro (.lst (cnt.map nD))) (.fro (.lst (F.map lnD))) (.fro W) (.fro (.lst ((r ++ [0]).map .int))) (.fro (.lst (cnt.map nD))) (.fro A) (.fro (.lst (P.map pD))) (.fro (.lst (ths.map t3D))), ?_⟩
  refine (run_seq ((run_if (b_cmp (tOf (v_var rfl)) (tOf (v_var rfl)) ne_nats)).trans rfl)).trans ?_
  refine (run_seq (run_asgO (eOf (counts_comp rfl hco λ x => ⟨_, rfl, rfl⟩)))).trans ?_
  rw [hcm]
  refine (run_seq (run_frz rfl)).trans ?_
  refine (run_seq (run_asg (eOf (v_call (l_cons (eOf (v_var rfl)) l_nil) hfz)))).trans ?_
  refine (run_seq (run_asgT (eOf (v_call (l_cons (eOf (v_var rfl)) l_nil) hrd)) rfl)).trans ?_
  refine (run_seq ((run_if (b_or (b_cmp (tOf (v_var rfl)) (tOf (v_var rfl)) ne_nats) λ _ => b_cmp (tOf (v_var rfl)) (tOf (v_call (l_cons (eOf (v_var rfl)) (l_cons (eOf (v_var rfl)) l_nil)) hwr)) ne_ints)).trans rfl)).trans ?_
  refine (run_seq ((run_if (eof_comp hr hrl heof rfl λ x => ⟨_, rfl, rfl, rfl⟩)).trans rfl)).trans ?_
  refine (run_seq (run_asg (eOf (v_call (l_cons (eOf (v_var rfl)) (l_cons (eOf (v_var rfl)) (l_cons (eOf (v_var rfl)) l_nil))) hpr)))).trans ?_
  refine (run_seq (run_asg (eOf (v_call (l_cons (eOf (v_var rfl)) l_nil) hth)))).trans ?_
  refine (run_seq ((run_if (b_cmp (tOf (v_call (l_cons (eOf (v_var rfl)) (l_cons (eOf (v_var rfl)) l_nil)) hwy)) (tOf (v_var rfl)) ne_lists)).trans rfl)).trans ?_
  subst hP
  refine (run_seq ((run_if (b_cmp (tOf (v_var rfl)) (tOf (pairs_comp hF hn (λ x y => ⟨_, _, rfl, rfl, rfl, rfl, rfl, rfl, rfl⟩) rfl)) ne_pairs)).trans rfl)).trans ?_
  exact run_ret (run_retE (eOf (v_call (l_cons (eOf (v_var rfl)) (l_cons (eOf (v_var rfl)) (l_cons (eOf (v_var rfl)) (l_cons (eOf (v_sum (tOf (v_var rfl)))) l_nil)))) hlt)))
end
theorem frieze_fr {cnt : List Nat} {n : Nat} (h : cnt.length = n + 1) : FrOk (friezeP cnt) n := by
  refine ⟨by unfold friezeP; rw [List.length_map, List.length_range]; lia, λ i hi => ?_⟩
  have hg : (friezeP cnt).getD i [] = frLine cnt i (cnt.length - 1 - (i + 1)) := by
    unfold friezeP
    rw [List.getD_eq_getElem?_getD, List.getElem?_map, List.getElem?_range (by lia)]; rfl
  rw [hg, frLine_len]; lia
theorem tks_ne {t : Tk} (h : t.okB = true) : tks t ≠ 0 := by
  cases t with
  | op => exact (by decide : (7 : Int) ≠ 0)
  | cl => exact (by decide : (8 : Int) ≠ 0)
  | lf c => show 222 + (c : Int) ≠ 0; lia
  | kd k => show (k : Int) + 9 ≠ 0; lia
theorem lit_of {F : List (List Int)} {n : Nat} {ths : List T3} {tu st : Nat} (h : chkLit F n ths tu st = true) : ∃ L, colRun (col0 n tu st) ths = some L ∧ litAll F n L = true := by
  unfold chkLit at h
  split at h
  · rename_i L e; exact ⟨L, e, h⟩
  · cases h
theorem law_true {script : List Int} (hl : script.length ≤ 63) : LawTrue (k17 cE) script := by
  obtain ⟨i, j, T, cnt, hth, G⟩ := good_all (numbers_len script)
  have hns : (numbers script).length ≤ 5 := by rcases numbers_len script with h | h <;> lia
  have hn0 : 0 < (numbers script).length := by rcases numbers_len script with h | h <;> lia
  obtain ⟨i', j', text, d1, d2, d3⟩ := drawn_ok (C := k8 cE) (numbers_lt script) hn0 (by lia)
  have ht : text = txt (numbers script) T := by
    rw [hth] at d1
    injection d1 with d1
    injection d1 with _ d1
    injection d1 with _ d1
    exact d1.symm
  subst ht
  have hcl := G.colen
  have hcn := G.cntlen
  have htl := G.tl
  have hpl := G.plen
  have hF : FrOk (friezeP cnt) ((numbers script).length + 1) := frieze_fr (by omega)
  obtain ⟨bs, o1, o2⟩ := octets_ok (C := k9 cE) (cs := (drGo (dr0 (numbers script)) (numbers script)).co) G.colt (by lia)
  obtain ⟨w1, w2⟩ := rd_rows (toks (numbers script) T) rd0
  obtain ⟨l1, l2, l3, l4⟩ := rd_len (toks (numbers script) T) rd0
  obtain ⟨L, c1, c2⟩ := lit_of (G.lit ((numbers script).sum / 16 % 3) (1 + (numbers script).sum / 48 % 2) (Nat.mod_lt _ (by decide)) (by lia))
  have thl : (threesP (pairsP (friezeP cnt) ((numbers script).length + 1))).length = (pairsP (friezeP cnt) ((numbers script).length + 1)).length := by unfold threesP; rw [List.length_map, List.length_range]
  obtain ⟨ρ2, hp⟩ := post_ok (C := k17 cE) (script := script) (ns := numbers script) (dr := given script) (n := (numbers script).length + 1) (text := S (txt (numbers script) T)) (co := (drGo (dr0 (numbers script)) (numbers script)).co) (cnt := cnt) (F := friezeP cnt)
    (W := .lst (((toks (numbers script) T).map tkc).map strD)) (r := (toks (numbers script) T).map tks) (A := .lst ((((toks (numbers script) T).foldl rdStep rd0).ahead ++ [-1]).map .int)) (P := pairsP (friezeP cnt) ((numbers script).length + 1)) (ths := threesP (pairsP (friezeP cnt) ((numbers script).length + 1)))
    G.cm (by lia) (by lia) hF (λ x hx => by
      obtain ⟨t, h1, rfl⟩ := List.mem_map.mp hx
      exact tks_ne (toks_ok _ T t h1)) (by rw [List.length_map]; lia) rfl
    (by rw [fn17_14]; exact frieze_ok (C := k13 cE) (by lia) (by lia) (λ c hc => Nat.lt_trans (G.cntlt c hc) (by decide)))
    (by
      rw [fn17_11, read_ok (C := k10 cE) rdCx gnk10 (strip_toks d2) (toks_ok _ T) G.adjT (by lia), w1, w2, G.gaps, nD_map]
      rfl)
    (by rw [fn17_15, written_ok (C := k14 cE) hF (by lia) (by omega), G.row])
    eof_ok
    (by rw [fn17_12, pairs_ok (C := k11 cE) check_toks (toks_ok _ T) (by lia) (by rw [List.length_append, l3]; show 0 + _ + 1 = _; lia), G.pairs])
    (by rw [fn17_13]; exact threes_ok (C := k12 cE) (by lia))
    (by rw [fn17_16, ways_ok (C := k15 cE) (by lia) (by lia), G.ways])
    (by rw [fn17_17]; exact lit_ok (C := k16 cE) ltCx hF (by lia) (by lia) rfl rfl rfl rfl c1 c2)
  exact ⟨_, bs, _, ρ2, pre_ok (C := k17 cE) (by lia) (by rw [fn17_9]; exact d3), λ i ds => pre_noOwn i ds, oct_ok (C := k17 cE) (by rw [fn17_10]; exact o1), o2, by lia, hp⟩
end Mine
end
section
open PySem PySem.W PyProof.Rows
set_option maxRecDepth 100000
set_option maxHeartbeats 8000000
set_option Elab.async true
namespace Mine
/-- the table's entries, as they stand in the heap: key, its mark, number, its mark -/
noncomputable def tabL : List (List Nat × Nat × Int × Nat) := [([33], 289, 54, 285), ([33, 61], 291, 28, 233), ([37], 293, 24, 225), ([37, 61], 295, 40, 257), ([38], 297, 19, 215), ([38, 61], 299, 41, 259), ([40], 301, 7, 191), ([41], 303, 8, 193), ([42], 305, 16, 209), ([42, 42], 307, 35, 247), ([42, 42, 61], 309, 46, 269), ([42, 61], 311, 38, 253), ([43], 313, 14, 205), ([43, 61], 315, 36, 249), ([44], 317, 12, 201), ([45], 319, 15, 207), ([45, 61], 321, 37, 251), ([45, 62], 323, 51, 279), ([46], 325, 23, 223), ([46, 46, 46], 327, 52, 281), ([47], 329, 17, 211), ([47, 47], 331, 47, 271), ([47, 47, 61], 333, 48, 273), ([47, 61], 335, 39, 255), ([58], 337, 11, 199), ([58, 61], 339, 53, 283), ([59], 341, 13, 203), ([60], 343, 20, 217), ([60, 60], 345, 33, 243), ([60, 60, 61], 347, 44, 265), ([60, 61], 349, 29, 235), ([61], 351, 22, 221), ([61, 61], 353, 27, 231), ([62], 355, 21, 219), ([62, 61], 357, 30, 237), ([62, 62], 358, 34, 245), ([62, 62, 61], 359, 45, 267), ([64], 360, 49, 275), ([64, 61], 361, 50, 277), ([91], 362, 9, 195), ([93], 363, 10, 197), ([94], 364, 32, 241), ([94, 61], 365, 43, 263), ([123], 366, 25, 227), ([124], 367, 18, 213), ([124, 61], 368, 42, 261), ([125], 369, 26, 229), ([126], 370, 31, 239)]
noncomputable def tabE (P : Params) (r : List Nat × Nat × Int × Nat) : DictEntry := ⟨PyData.keyHash P ⟨r.1.toArray⟩, .str ⟨r.1.toArray⟩ r.2.1, .int r.2.2.1 r.2.2.2⟩
noncomputable def tabObj (P : Params) : Obj := ⟨.type "dict", none, .dict (tabL.map (tabE P)).toArray 48, #[]⟩
noncomputable def glook (h : Heap) : Option (Option (Option Value)) := (h.get? 3).map λ o => nsIn [(3, o)] mainGlobals "EXACT_TOKEN_TYPES"
noncomputable def tabHook : Hook where
  α := Option (Option (Option Value)) × Option Obj
  obs s := (glook s.heap, s.heap.get? 15)
  val w := (some (some (some (.ref 15))), some (tabObj w.params))
  says w h := glook h = some (some (some (.ref 15))) ∧ h.get? 15 = some (tabObj w.params)
  of _ _ e := ⟨congrArg Prod.fst e, congrArg Prod.snd e⟩
  keeps w h h' x k := by
    refine ⟨?_, k _ _ x.2⟩
    have x1 := x.1
    unfold glook at x1 ⊢
    cases q : h.get? 3 with
    | none => rw [q] at x1; cases x1
    | some o => rw [k _ _ q]; rw [q] at x1; exact x1
theorem tab_walk (P : Params) : ∀ l : List (List Nat × Nat × Int × Nat), KeysLit P (l.map (tabE P)) ∧ KV (l.map (tabE P)) (l.map λ r => (r.1, r.2.2.1))
  | [] => ⟨trivial, rfl⟩
  | r :: l => ⟨⟨⟨_, _, rfl, rfl⟩, (tab_walk P l).1⟩, ⟨_, _, _, rfl, ⟨_, _, _, rfl, rfl, rfl⟩, (tab_walk P l).2⟩⟩
/-- the table of the tokens, from what the hook says -/
theorem tab_of {h : Heap} {mg : Str → Option Value} {prog : Program} {w : World} (Y : tabHook.says w h) (G : h.Ns mainGlobals mg) :
    ∃ d f, mg "EXACT_TOKEN_TYPES" = some (.ref d) ∧ (d == sysModules) = false ∧ h.MapOf (strKind prog w) d f ∧ ∀ x, (∀ i, tokP x = some i → ∃ t, f x = some (.int i t)) ∧ (tokP x = none → f x = none) := by
  obtain ⟨Y1, Y2⟩ := Y
  unfold glook at Y1
  cases q : h.get? 3 with
  | none => rw [q] at Y1; cases Y1
  | some o =>
    rw [q] at Y1
    refine table_of (K := [(3, o), (15, tabObj w.params)]) (d := 15) (λ a o' e => ?_) G ((Option.some.inj Y1 : nsIn [(3, o)] mainGlobals "EXACT_TOKEN_TYPES" = _)) (by decide) rfl (tab_walk w.params tabL).1 (tab_walk w.params tabL).2
    by_cases h3 : a = 3
    · subst h3; cases e; exact q
    · by_cases h15 : a = 15
      · subst h15; cases e; exact Y2
      · have e : (match a == 3 with | true => some o | false => (match a == 15 with | true => some (tabObj w.params) | false => none)) = some o' := e
        rw [beq_false_of_ne h3, beq_false_of_ne h15] at e
        cases e
/-- the program's statements, by their place -/
def stAt (i : Nat) : Stmt := PySem.Challenge.pw_wf0063_01.main.body.getD i (.Pass ⟨0, 0, 0, 0⟩)
set_option compiler.extract_closed false in
def prog2 : Program := { PySem.Challenge.pw_wf0063_01 with main := { PySem.Challenge.pw_wf0063_01.main with body := [stAt 0, stAt 1, stAt 2, stAt 3, stAt 4, stAt 5, stAt 6, stAt 7, stAt 8, stAt 9, stAt 10, stAt 11, stAt 12, stAt 13, stAt 14, stAt 15, stAt 16, stAt 17, stAt 18, stAt 19, stAt 20, stAt 21, stAt 22, stAt 23, stAt 24, stAt 25, stAt 26, stAt 27, stAt 28, stAt 29, stAt 30, stAt 31, stAt 32, stAt 33, stAt 34, stAt 35, stAt 36, stAt 37, stAt 38, stAt 39, stAt 40, stAt 41, stAt 42, stAt 43, stAt 44, stAt 45, stAt 46, stAt 47, stAt 48, stAt 49, stAt 50, stAt 51, stAt 52, stAt 53, stAt 54, stAt 55, stAt 56, stAt 57, stAt 58, stAt 59, stAt 60, stAt 61, stAt 62, stAt 63, stAt 64, stAt 65, stAt 66, stAt 67, stAt 68, stAt 69, stAt 70, stAt 71, stAt 72, stAt 73, stAt 74, stAt 75, stAt 76] } }
theorem prog2_eq : PySem.Challenge.pw_wf0063_01 = prog2 := by kernel_rfl
def rw2 : OpenLaw := { PySem.Challenge.rw_wf0063_01 with prog := prog2 }
theorem rw2_eq : PySem.Challenge.rw_wf0063_01 = rw2 := by
  show PySem.Challenge.rw_wf0063_01 = { PySem.Challenge.rw_wf0063_01 with prog := prog2 }
  rw [← prog2_eq]; rfl
noncomputable def hd2.tw9459601807968277564 : Nat := 0
noncomputable def hd2.tw16680701539201544741 : Nat := 0
noncomputable def hd2.tw14703004565974578278 : Nat := 0
noncomputable def hd2.tw767523161667480977 : Nat := 0
noncomputable def hd2.tw12397336453873556141 : Nat := 0
noncomputable def hd2.tw6727789753133388713 : Nat := 0
noncomputable def hd2.tw18019478846407220815 : Nat := 0
noncomputable def hd2.tw7290744685163844800 : Nat := 0
noncomputable def hd2.tw7114538484913203130 : Nat := 0
noncomputable def hd2.tw3623368656732710881 : Nat := 0
noncomputable def hd2.tw4346409662881557102 : Nat := 0
noncomputable def hd2.tw13702204863763572363 : Nat := 0
noncomputable def hd2.tw17080132251935120195 : Nat := 0
noncomputable def hd2.tw2348690137466451480 : Nat := 0
noncomputable def hd2.tw5150017175976815442 : Nat := 0
noncomputable def hd2.tw16686898776239975625 : Nat := 0
noncomputable def hd2.tw6009688105174031872 : Nat := 0
noncomputable def hd2.tw14342148964104363333 : Nat := 0
noncomputable def hd2.tw2126447280774793394 : Nat := 0
noncomputable def hd2.tw15215235494914212502 : Nat := 0
noncomputable def hd2.tw11387425415538479326 : Nat := 0
noncomputable def hd2.tw2239638238429186564 : Nat := 0
noncomputable def hd2.tw12484154373126971508 : Nat := 0
noncomputable def hd2.tw12580300788034773645 : Nat := 0
noncomputable def hd2.tw2331008334238325607 : Nat := 0
noncomputable def hd2.tw13635312476280050021 : Nat := 0
noncomputable def hd2.tw8779171860619232142 : Nat := 0
noncomputable def hd2.tw15989832115310774332 : Nat := 0
noncomputable def hd2.tw6094729067435387435 : Nat := 0
noncomputable def hd2.tw9874975876783469125 : Nat := 0
noncomputable def hd2.tw7875540786070732152 : Nat := 0
noncomputable def hd2.tw9250895064746319272 : Nat := 0
noncomputable def hd2.tw13366119217861580157 : Nat := 0
noncomputable def hd2.tw1863054346547387268 : Nat := 0
noncomputable def hd2.tw10041127296896847916 : Nat := 0
noncomputable def hd2.tw175109583173815259 : Nat := 0
noncomputable def hd2.tw4531429069147537543 : Nat := 0
noncomputable def hd2.tw10533107972697636804 : Nat := 0
noncomputable def hd2.tw13808098181718039452 : Nat := 0
noncomputable def hd2.tw3792150083703065982 : Nat := 0
noncomputable def hd2.tw2235074827555887178 : Nat := 0
noncomputable def hd2.tw2087716684499464581 : Nat := 0
noncomputable def hd2.tw1520809361914864758 : Nat := 0
noncomputable def hd2.tw14023998935749123435 : Nat := 0
noncomputable def hd2.tw3428949384659299139 : Nat := 0
theorem law_true' {script : List Int} (hl : script.length ≤ 63) : LawTrue (kL cE) script := law_true hl
theorem hd2 : rw2.Holds := by
  w_on; o_law; o_head tabHook
  case hw => w_witness2
  intro w s₀ s₁ mg mb G Y fa o pm cd doc dV kV ho hd hcd hD hmg hg args vals as hpre hlay hrd hwl hlo
  have T := G.T
  have ht := tab_of (prog := rw2.row.prog) Y T.g
  have hmg' : mg "law" = some (.ref fa) := hmg
  clear hd hcd hD hmg
  wrow_args hpre hlay hrd hwl hlo
  rename_i hL _ _ _ hI _ hlen _
  refine law_run T ?chain ht (law_plain (law_true' (by omega)) _ _ _ _ _) hmg' rfl (AllBare.of_eq hg) (has_script hL hI) λ s' k1 k2 k3 => ?_
  case chain => constructor <;> decide +kernel
  exact ⟨.inl ⟨.bool true, _, [], rfl, raisesW_false (by wrow_none_raised), ReadsW.bool true, postW_of (by wrow_shape) (by wtm_val) (by str_meet; first | done | w_fin), λ _ => ⟨List.nodup_nil, λ _ h => nomatch h⟩⟩, .of_keep k1, k2, k3⟩
theorem x_holds : PySem.Challenge.rw_wf0063_01.Holds := rw2_eq ▸ hd2
end Mine
end
theorem PySem.Challenge.cw_wf0063_01_holds : PySem.Challenge.rw_wf0063_01.Holds := by
  exact Mine.x_holds
