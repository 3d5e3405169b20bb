import PyProof.Rows.All
import Wide.All
import OpenK.AllK
import Wide.FinOn
import PySem.Challenge.RW_sc0027_01
set_option Elab.async false
set_option linter.unusedVariables false
set_option genSizeOf false
set_option genInjectivity false
set_option maxRecDepth 100000
namespace Mine
open PySem PySem.W PyProof.Rows

inductive PV where
  | none
  | bool (b : Bool)
  | int (i : Int)
  | flt (x : UInt64)
  | tup (l : List PV)
  | lst (l : List PV)

/-- the addresses that no plain value reaches (lists in the making), and which float each token was made with -/
structure Wd where
  O : Addr → Prop
  T : Tok → Option UInt64

mutual
noncomputable def Rep (W : Wd) (h : Heap) : PV → Value → Prop
  | .none, v => v = .none
  | .bool b, v => v = .bool b
  | .int i, v => ∃ t, v = .int i t
  | .flt x, v => ∃ t, v = .float x t ∧ W.T t = some x
  | .tup l, v => ∃ a items, v = .ref a ∧ ¬ W.O a ∧ h.IsTuple a items ∧ RepL W h l items.toList
  | .lst l, v => ∃ a items, v = .ref a ∧ ¬ W.O a ∧ h.IsList a items ∧ RepL W h l items.toList
noncomputable def RepL (W : Wd) (h : Heap) : List PV → List Value → Prop
  | [], vs => vs = []
  | p :: ps, vs => ∃ v r, vs = v :: r ∧ Rep W h p v ∧ RepL W h ps r
end

noncomputable def Ext (h h' : Heap) : Prop := ∀ b o, h.get? b = some o → h'.get? b = some o

theorem Ext.refl (h : Heap) : Ext h h := fun _ _ e => e
theorem Ext.trans {a b c : Heap} (x : Ext a b) (y : Ext b c) : Ext a c := fun _ _ e => y _ _ (x _ _ e)

/-- the objects that a statement leaves alone, whatever it turns of the frame's own -/
noncomputable def Stays (o : Obj) : Prop := match o.data with | .dict .. => False | .cell _ => False | _ => True
noncomputable def IsSeq (o : Obj) : Prop := match o.data with | .seq .. => True | _ => False
theorem IsSeq.stays {o : Obj} (x : IsSeq o) : Stays o := by
  unfold IsSeq at x; unfold Stays
  split at x
  · rename_i e; rw [e]; trivial
  · exact x.elim

structure Mod (O : Addr → Prop) (h h' : Heap) : Prop where
  keep : ∀ b o, h.get? b = some o → ¬ O b → Stays o → h'.get? b = some o
  alive : ∀ b o, h.get? b = some o → ∃ o', h'.get? b = some o'

/-- lists and tuples outside O stand as they stood -/
noncomputable def ModS (O : Addr → Prop) (h h' : Heap) : Prop := ∀ b o, h.get? b = some o → ¬ O b → IsSeq o → h'.get? b = some o

/-- nothing is forbidden -/
noncomputable def NoO : Addr → Prop := fun _ => False
theorem Mod.any {O : Addr → Prop} {h h' : Heap} (m : Mod NoO h h') : Mod O h h' := ⟨fun b o e _ hs => m.keep b o e (fun x => x) hs, m.alive⟩

theorem Mod.refl (O : Addr → Prop) (h : Heap) : Mod O h h := ⟨fun _ _ e _ _ => e, fun _ o e => ⟨o, e⟩⟩
theorem Ext.mod {O : Addr → Prop} {h h' : Heap} (x : Ext h h') : Mod O h h' := ⟨fun _ _ e _ _ => x _ _ e, fun _ o e => ⟨o, x _ _ e⟩⟩
theorem Mod.seq {O : Addr → Prop} {h h' : Heap} (x : Mod O h h') : ModS O h h' := fun b o e hO hs => x.keep b o e hO hs.stays
theorem Ext.modS {O : Addr → Prop} {h h' : Heap} (x : Ext h h') : ModS O h h' := fun _ _ e _ _ => x _ _ e

/-- the new forbidden addresses are fresh ones -/
noncomputable def OGrow (O O' : Addr → Prop) (h : Heap) : Prop := (∀ a, O a → O' a) ∧ ∀ a, O' a → O a ∨ h.get? a = Option.none

theorem OGrow.refl (O : Addr → Prop) (h : Heap) : OGrow O O h := ⟨fun _ x => x, fun _ x => .inl x⟩

theorem OGrow.trans {O O' O'' : Addr → Prop} {h h' : Heap} (x : OGrow O O' h) (y : OGrow O' O'' h') (m : Mod O h h') : OGrow O O'' h :=
  ⟨fun a q => y.1 a (x.1 a q), fun a q => (y.2 a q).elim (x.2 a) fun hn => by
    cases e : h.get? a with
    | none => exact .inr rfl
    | some o => obtain ⟨o', e'⟩ := m.alive a o e; rw [hn] at e'; cases e'⟩

theorem Mod.trans {O O' : Addr → Prop} {h h' h'' : Heap} (x : Mod O h h') (gr : OGrow O O' h) (y : Mod O' h' h'') : Mod O h h'' :=
  ⟨fun b o e hO hs => y.keep b o (x.keep b o e hO hs) (fun q => (gr.2 b q).elim hO fun hn => by rw [e] at hn; cases hn) hs,
   fun b o e => let ⟨o', e'⟩ := x.alive b o e; y.alive b o' e'⟩

/-- a later world: more forbidden (fresh) addresses, more tokens -/
structure Grow (W W' : Wd) (h : Heap) : Prop where
  o : OGrow W.O W'.O h
  t : ∀ t x, W.T t = some x → W'.T t = some x

theorem Grow.refl (W : Wd) (h : Heap) : Grow W W h := ⟨OGrow.refl _ _, fun _ _ e => e⟩
theorem Grow.trans {W W' W'' : Wd} {h h' : Heap} (x : Grow W W' h) (y : Grow W' W'' h') (m : Mod W.O h h') : Grow W W'' h := ⟨x.o.trans y.o m, fun t u e => y.t t u (x.t t u e)⟩

mutual
theorem Rep.mono {W W' : Wd} {h h' : Heap} (hm : ModS W.O h h') (hg : Grow W W' h) : ∀ {p : PV} {v : Value}, Rep W h p v → Rep W' h' p v
  | .none, v, x => by unfold Rep at x ⊢; exact x
  | .bool b, v, x => by unfold Rep at x ⊢; exact x
  | .int b, v, x => by unfold Rep at x ⊢; exact x
  | .flt b, v, x => by unfold Rep at x ⊢; exact let ⟨t, e, k⟩ := x; ⟨t, e, hg.t t b k⟩
  | .tup l, v, x => by
    unfold Rep at x ⊢
    obtain ⟨a, items, hv, ha, ⟨o, ho, hc, n, hd⟩, hr⟩ := x
    exact ⟨a, items, hv, fun hO => (hg.o.2 a hO).elim ha (fun hn => by rw [ho] at hn; cases hn), ⟨o, hm a o ho ha (by unfold IsSeq; rw [hd]; trivial), hc, n, hd⟩, RepL.mono hm hg hr⟩
  | .lst l, v, x => by
    unfold Rep at x ⊢
    obtain ⟨a, items, hv, ha, ⟨o, ho, hc, n, hd⟩, hr⟩ := x
    exact ⟨a, items, hv, fun hO => (hg.o.2 a hO).elim ha (fun hn => by rw [ho] at hn; cases hn), ⟨o, hm a o ho ha (by unfold IsSeq; rw [hd]; trivial), hc, n, hd⟩, RepL.mono hm hg hr⟩
theorem RepL.mono {W W' : Wd} {h h' : Heap} (hm : ModS W.O h h') (hg : Grow W W' h) : ∀ {ps : List PV} {vs : List Value}, RepL W h ps vs → RepL W' h' ps vs
  | [], vs, x => by unfold RepL at x ⊢; exact x
  | p :: ps, vs, x => by
    unfold RepL at x ⊢
    obtain ⟨v, r, hv, hp, hr⟩ := x
    exact ⟨v, r, hv, Rep.mono hm hg hp, RepL.mono hm hg hr⟩
end

mutual
theorem Rep.weaken {W W' : Wd} {h : Heap} (hs : ∀ a, W'.O a → W.O a) (ht : ∀ t, W'.T t = W.T t) : ∀ {p : PV} {v : Value}, Rep W h p v → Rep W' h p v
  | .none, v, x => by unfold Rep at x ⊢; exact x
  | .bool b, v, x => by unfold Rep at x ⊢; exact x
  | .int b, v, x => by unfold Rep at x ⊢; exact x
  | .flt b, v, x => by unfold Rep at x ⊢; exact let ⟨t, e, k⟩ := x; ⟨t, e, (ht t).trans k⟩
  | .tup l, v, x => by
    unfold Rep at x ⊢
    obtain ⟨a, items, hv, ha, hi, hr⟩ := x
    exact ⟨a, items, hv, fun hO => ha (hs a hO), hi, RepL.weaken hs ht hr⟩
  | .lst l, v, x => by
    unfold Rep at x ⊢
    obtain ⟨a, items, hv, ha, hi, hr⟩ := x
    exact ⟨a, items, hv, fun hO => ha (hs a hO), hi, RepL.weaken hs ht hr⟩
theorem RepL.weaken {W W' : Wd} {h : Heap} (hs : ∀ a, W'.O a → W.O a) (ht : ∀ t, W'.T t = W.T t) : ∀ {ps : List PV} {vs : List Value}, RepL W h ps vs → RepL W' h ps vs
  | [], vs, x => by unfold RepL at x ⊢; exact x
  | p :: ps, vs, x => by
    unfold RepL at x ⊢
    obtain ⟨v, r, hv, hp, hr⟩ := x
    exact ⟨v, r, hv, Rep.weaken hs ht hp, RepL.weaken hs ht hr⟩
end

theorem Rep.ext {W : Wd} {h h' : Heap} {p : PV} {v : Value} (x : Rep W h p v) (e : Ext h h') : Rep W h' p v := x.mono e.modS (Grow.refl _ _)
theorem RepL.ext {W : Wd} {h h' : Heap} {p : List PV} {v : List Value} (x : RepL W h p v) (e : Ext h h') : RepL W h' p v := x.mono e.modS (Grow.refl _ _)

section inv
variable {W : Wd} {h : Heap}
theorem rep_none {v : Value} : Rep W h .none v ↔ v = .none := by unfold Rep; rfl
theorem rep_bool {b : Bool} {v : Value} : Rep W h (.bool b) v ↔ v = .bool b := by unfold Rep; rfl
theorem rep_int {i : Int} {v : Value} : Rep W h (.int i) v ↔ ∃ t, v = .int i t := by unfold Rep; rfl
theorem rep_flt {i : UInt64} {v : Value} : Rep W h (.flt i) v ↔ ∃ t, v = .float i t ∧ W.T t = some i := by unfold Rep; rfl
theorem rep_tup {l : List PV} {v : Value} : Rep W h (.tup l) v ↔ ∃ a items, v = .ref a ∧ ¬ W.O a ∧ h.IsTuple a items ∧ RepL W h l items.toList := by rw [Rep]
theorem rep_lst {l : List PV} {v : Value} : Rep W h (.lst l) v ↔ ∃ a items, v = .ref a ∧ ¬ W.O a ∧ h.IsList a items ∧ RepL W h l items.toList := by rw [Rep]
theorem repL_nil {vs : List Value} : RepL W h [] vs ↔ vs = [] := by rw [RepL]
theorem repL_cons {p : PV} {ps : List PV} {vs : List Value} : RepL W h (p :: ps) vs ↔ ∃ v r, vs = v :: r ∧ Rep W h p v ∧ RepL W h ps r := by rw [RepL]

theorem RepL.length : ∀ {ps : List PV} {vs : List Value}, RepL W h ps vs → vs.length = ps.length
  | [], vs, x => by rw [repL_nil] at x; rw [x]; rfl
  | p :: ps, vs, x => by
    rw [repL_cons] at x
    obtain ⟨v, r, rfl, _, hr⟩ := x
    simp [RepL.length hr]

theorem RepL.get : ∀ {ps : List PV} {vs : List Value} (_ : RepL W h ps vs) (i : Nat) (p : PV), ps[i]? = some p → ∃ v, vs[i]? = some v ∧ Rep W h p v
  | [], vs, x, i, p, e => by simp at e
  | q :: ps, vs, x, i, p, e => by
    rw [repL_cons] at x
    obtain ⟨v, r, rfl, hq, hr⟩ := x
    cases i with
    | zero => simp at e; subst e; exact ⟨v, by simp, hq⟩
    | succ i => simp at e; simpa using RepL.get hr i p e

theorem RepL.getV : ∀ {ps : List PV} {vs : List Value} (_ : RepL W h ps vs) (i : Nat) (v : Value), vs[i]? = some v → ∃ p, ps[i]? = some p ∧ Rep W h p v
  | [], vs, x, i, p, e => by rw [repL_nil] at x; subst x; simp at e
  | q :: ps, vs, x, i, p, e => by
    rw [repL_cons] at x
    obtain ⟨v, r, rfl, hq, hr⟩ := x
    cases i with
    | zero => simp at e; subst e; exact ⟨q, by simp, hq⟩
    | succ i => simp at e; simpa using RepL.getV hr i p e

theorem RepL.append : ∀ {ps qs : List PV} {vs ws : List Value}, RepL W h ps vs → RepL W h qs ws → RepL W h (ps ++ qs) (vs ++ ws)
  | [], qs, vs, ws, x, y => by rw [repL_nil] at x; subst x; simpa using y
  | p :: ps, qs, vs, ws, x, y => by
    rw [repL_cons] at x
    obtain ⟨v, r, rfl, hp, hr⟩ := x
    rw [List.cons_append, repL_cons]
    exact ⟨v, r ++ ws, rfl, hp, RepL.append hr y⟩

theorem RepL.of_get : ∀ {ps : List PV} {vs : List Value}, vs.length = ps.length → (∀ (i : Nat) (p : PV) (v : Value), ps[i]? = some p → vs[i]? = some v → Rep W h p v) → RepL W h ps vs
  | [], vs, e, _ => by rw [repL_nil]; exact List.length_eq_zero_iff.mp e
  | p :: ps, vs, e, f => by
    cases vs with
    | nil => simp at e
    | cons v r =>
      rw [repL_cons]
      refine ⟨v, r, rfl, f 0 p v rfl rfl, RepL.of_get (by simpa using e) fun i q u hq hu => f (i + 1) q u (by simpa using hq) (by simpa using hu)⟩
end inv

theorem fresh_not {O : Addr → Prop} {h : Heap} (hv : ∀ a, O a → ∃ o, h.get? a = some o) : ¬ O h.objs.size := fun hO => by
  obtain ⟨o, ho⟩ := hv _ hO
  exact Nat.lt_irrefl _ (Heap.lt_size ho)

theorem get_fresh (h : Heap) : h.get? h.objs.size = Option.none := by
  cases e : h.get? h.objs.size with
  | none => rfl
  | some o => exact absurd (Heap.lt_size e) (Nat.lt_irrefl _)

theorem ext_push (h : Heap) (o : Obj) : Ext h (h.push o) := fun _ _ e => Heap.get?_push_of_some _ e

end Mine

namespace Mine
open PySem PySem.W PyProof.Rows

noncomputable abbrev Kn := List (Str × NameKind)
noncomputable abbrev Sig := List (Str × PV)
noncomputable abbrev Own := List (Str × List PV)

structure Cx where
  env : Env
  base : Heap
  O : Addr → Prop

structure Pg where
  prog : Program
  w : World
  defs : List DefItem
  consts : List (Str × PyData)
  names : List Str

noncomputable def Pg.Ok (g : Pg) (h : Heap) : Prop := (∃ N mg mb, Glob N mg mb g.defs g.consts [] g.names h) ∧ NoneBooked h
theorem Pg.Ok.ext {g : Pg} {h h' : Heap} (x : g.Ok h) (e : Ext h h') : g.Ok h' :=
  ⟨let ⟨N, mg, mb, G⟩ := x.1; ⟨N, mg, mb, G.keeps e⟩, let ⟨mc, h1, h2⟩ := x.2; ⟨mc, h1.keeps e, h2⟩⟩

noncomputable def Loc (K : Kn) (env : Env) (h : Heap) (x : Str) (v : Value) : Prop :=
  (K.lookup x = some .local ∧ ∃ m, h.Ns env.locals m ∧ m x = some v) ∨
  ((K.lookup x = some .cell ∨ K.lookup x = some .free) ∧ ∃ k, env.cells.lookup x = some k ∧ h.IsCell k (some v))

/-- a list that may be written: nothing hangs at it but its items -/
noncomputable def OwnL (h : Heap) (a : Addr) (items : Array Value) : Prop := ∃ o, h.get? a = some o ∧ ∃ n, o = { cls := .type "list", data := .seq items n }
theorem OwnL.iff {h : Heap} {a : Addr} {items : Array Value} : OwnL h a items ↔ h.PlainList a items :=
  ⟨fun ⟨_, e, n, q⟩ => ⟨n, q ▸ e⟩, fun ⟨n, e⟩ => ⟨_, e, n, rfl⟩⟩

theorem OwnL.isList {h : Heap} {a : Addr} {items : Array Value} (x : OwnL h a items) : h.IsList a items := Heap.PlainList.isList (OwnL.iff.mp x)

theorem OwnL.ext {h h' : Heap} {a : Addr} {items : Array Value} (x : OwnL h a items) (e : Ext h h') : OwnL h' a items := let ⟨o, ho, r⟩ := x; ⟨o, e _ _ ho, r⟩
structure OwnAt (c : Cx) (K : Kn) (W : Wd) (h : Heap) (x : Str) (l : List PV) (a : Addr) : Prop where
  loc : Loc K c.env h x (.ref a)
  inO : W.O a
  side : (K.lookup x = some .free → ∃ o, c.base.get? a = some o) ∧ (K.lookup x ≠ some .free → ¬ c.O a ∧ c.base.get? a = Option.none)
  list : ∃ items, OwnL h a items ∧ RepL W h l items.toList

structure St (g : Pg) (c : Cx) (K : Kn) (W : Wd) (σ : Sig) (ω : Own) (h : Heap) (tk : Nat) : Prop where
  ext : Ext c.base h
  ok : g.Ok c.base
  kind : c.env.scope.kind = .function
  globals : c.env.globals = mainGlobals
  builtins : c.env.builtins = builtinsNs
  ns : ∃ m, h.Ns c.env.locals m
  lfresh : c.base.get? c.env.locals = none
  known : ∀ x kd, K.lookup x = some kd → c.env.kindOf x = some kd ∨ (kd = .free ∧ c.env.kindOf x = some .cell)
  cell : ∀ x, (K.lookup x = some .cell ∨ K.lookup x = some .free) → ∃ k ov, c.env.cells.lookup x = some k ∧ h.IsCell k ov
  cfresh : ∀ x k, K.lookup x = some .cell → c.env.cells.lookup x = some k → c.base.get? k = none
  apart : c.env.cells.Pairwise fun x y => x.2 ≠ y.2
  vars : ∀ x p, σ.lookup x = some p → ∃ v, Loc K c.env h x v ∧ Rep W h p v
  owns : ∃ ad : Str → Addr, (∀ x l, ω.lookup x = some l → OwnAt c K W h x l (ad x)) ∧
    ∀ x y, x ≠ y → (ω.lookup x).isSome = true → (ω.lookup y).isSome = true → ad x ≠ ad y
  sub : ∀ a, c.O a → W.O a
  valid : ∀ a, W.O a → ∃ o, h.get? a = some o
  tok : ∀ t x, W.T t = some x → t ≠ 0 ∧ t < tk
  pos : 0 < tk

theorem Ns.uniq {h : Heap} {a : Addr} {m m' : Str → Option Value} (x : h.Ns a m) (y : h.Ns a m') : m = m' := funext (x.agree y)

theorem ns_ne_cell {h : Heap} {a b : Addr} {m : Str → Option Value} {ov : Option Value} (x : h.Ns a m) (y : h.IsCell b ov) : a ≠ b := by
  rintro rfl
  obtain ⟨o, es, ep, h1, h2, _, _⟩ := x
  obtain ⟨o', h1', h2'⟩ := y
  rw [h1] at h1'; cases h1'
  rw [h2] at h2'; cases h2'

theorem ns_ne_list {h : Heap} {a b : Addr} {m : Str → Option Value} {items : Array Value} (x : h.Ns a m) (y : h.IsList b items) : a ≠ b := by
  rintro rfl
  obtain ⟨o, es, ep, h1, h2, _, _⟩ := x
  obtain ⟨o', h1', _, n, h2'⟩ := y
  rw [h1] at h1'; cases h1'
  rw [h2] at h2'; cases h2'

theorem cell_ne_list {h : Heap} {a b : Addr} {ov : Option Value} {items : Array Value} (x : h.IsCell a ov) (y : h.IsList b items) : a ≠ b := by
  rintro rfl
  obtain ⟨o, h1, h2⟩ := x
  obtain ⟨o', h1', _, n, h2'⟩ := y
  rw [h1] at h1'; cases h1'
  rw [h2] at h2'; cases h2'

theorem Loc.ext {K : Kn} {env : Env} {h h' : Heap} {x : Str} {v : Value} (l : Loc K env h x v) (e : Ext h h') : Loc K env h' x v := by
  rcases l with ⟨hk, m, hn, hm⟩ | ⟨hk, k, hc, hv⟩
  · exact .inl ⟨hk, m, hn.keeps e, hm⟩
  · exact .inr ⟨hk, k, hc, hv.keeps e⟩

theorem isList_ext {h h' : Heap} {a : Addr} {items : Array Value} (x : h.IsList a items) (e : Ext h h') : h'.IsList a items := let ⟨o, ho, r⟩ := x; ⟨o, e _ _ ho, r⟩
section
variable {g : Pg} {c : Cx} {K : Kn} {W W' : Wd} {σ : Sig} {ω : Own} {h h' : Heap} {tk tk' : Nat}

/-- what an expression leaves behind: nothing turned, the same forbidden addresses, more tokens -/
structure Up (W W' : Wd) (h h' : Heap) (tk tk' : Nat) : Prop where
  ext : Ext h h'
  o : W'.O = W.O
  t : ∀ t x, W.T t = some x → W'.T t = some x
  tok : ∀ t x, W'.T t = some x → t ≠ 0 ∧ t < tk'
  le : tk ≤ tk'

theorem Up.refl (S : St g c K W σ ω h tk) : Up W W h h tk tk := ⟨Ext.refl _, rfl, fun _ _ e => e, S.tok, Nat.le_refl _⟩
theorem Up.grow (u : Up W W' h h' tk tk') : Grow W W' h := ⟨by unfold OGrow; rw [u.o]; exact ⟨fun _ x => x, fun _ x => .inl x⟩, u.t⟩
theorem Up.trans {W'' : Wd} {h'' : Heap} {tk'' : Nat} (x : Up W W' h h' tk tk') (y : Up W' W'' h' h'' tk' tk'') : Up W W'' h h'' tk tk'' :=
  ⟨x.ext.trans y.ext, y.o.trans x.o, fun t u e => y.t t u (x.t t u e), y.tok, Nat.le_trans x.le y.le⟩
theorem Rep.up {p : PV} {v : Value} (r : Rep W h p v) (u : Up W W' h h' tk tk') : Rep W' h' p v := r.mono u.ext.modS u.grow
theorem RepL.up {p : List PV} {v : List Value} (r : RepL W h p v) (u : Up W W' h h' tk tk') : RepL W' h' p v := r.mono u.ext.modS u.grow

theorem OwnAt.up {x : Str} {l : List PV} {a : Addr} (y : OwnAt c K W h x l a) (u : Up W W' h h' tk tk') : OwnAt c K W' h' x l a :=
  ⟨y.loc.ext u.ext, u.o ▸ y.inO, y.side, let ⟨items, h1, h2⟩ := y.list; ⟨items, h1.ext u.ext, h2.up u⟩⟩

theorem St.keeps (S : St g c K W σ ω h tk) (u : Up W W' h h' tk tk') : St g c K W' σ ω h' tk' where
  ext := S.ext.trans u.ext
  ok := S.ok
  kind := S.kind
  globals := S.globals
  builtins := S.builtins
  ns := let ⟨m, hm⟩ := S.ns; ⟨m, hm.keeps u.ext⟩
  lfresh := S.lfresh
  known := S.known
  cell := fun x hx => let ⟨k, ov, h1, h2⟩ := S.cell x hx; ⟨k, ov, h1, h2.keeps u.ext⟩
  cfresh := S.cfresh
  apart := S.apart
  vars := fun x p hp => let ⟨v, h1, h2⟩ := S.vars x p hp; ⟨v, h1.ext u.ext, h2.up u⟩
  owns := let ⟨ad, h1, h2⟩ := S.owns; ⟨ad, fun x l hl => (h1 x l hl).up u, h2⟩
  sub := fun a ha => u.o ▸ S.sub a ha
  valid := fun a ha => let ⟨o, ho⟩ := S.valid a (u.o ▸ ha); ⟨o, u.ext _ _ ho⟩
  tok := u.tok
  pos := Nat.lt_of_lt_of_le S.pos u.le

/-- fewer names known -/
theorem St.less {σ' : Sig} {ω' : Own} (S : St g c K W σ ω h tk) (h1 : ∀ x p, σ'.lookup x = some p → σ.lookup x = some p) (h2 : ∀ x l, ω'.lookup x = some l → ω.lookup x = some l) :
    St g c K W σ' ω' h tk where
  ext := S.ext
  ok := S.ok
  kind := S.kind
  globals := S.globals
  builtins := S.builtins
  ns := S.ns
  lfresh := S.lfresh
  known := S.known
  cell := S.cell
  cfresh := S.cfresh
  apart := S.apart
  vars := fun x p hp => S.vars x p (h1 x p hp)
  owns := let ⟨ad, q1, q2⟩ := S.owns; ⟨ad, fun x l hl => q1 x l (h2 x l hl), fun x y hxy hx hy => by
    obtain ⟨l, hl⟩ := Option.isSome_iff_exists.mp hx
    obtain ⟨l', hl'⟩ := Option.isSome_iff_exists.mp hy
    exact q2 x y hxy (by rw [h2 x l hl]; rfl) (by rw [h2 y l' hl']; rfl)⟩
  sub := S.sub
  valid := S.valid
  tok := S.tok
  pos := S.pos

theorem St.toks (S : St g c K W σ ω h tk) (hle : tk ≤ tk') : St g c K W σ ω h tk' where
  ext := S.ext
  ok := S.ok
  kind := S.kind
  globals := S.globals
  builtins := S.builtins
  ns := S.ns
  lfresh := S.lfresh
  known := S.known
  cell := S.cell
  cfresh := S.cfresh
  apart := S.apart
  vars := S.vars
  owns := S.owns
  sub := S.sub
  valid := S.valid
  tok := fun t x e => ⟨(S.tok t x e).1, Nat.lt_of_lt_of_le (S.tok t x e).2 hle⟩
  pos := Nat.lt_of_lt_of_le S.pos hle

theorem St.okNow (S : St g c K W σ ω h tk) : g.Ok h := S.ok.ext S.ext
theorem St.freshO (S : St g c K W σ ω h tk) : ¬ W.O h.objs.size := fresh_not S.valid

/-- what a store into the frame's own names leaves: the objects outside them -/
theorem Loc.stored {env : Env} {x y : Str} {v u : Value} (l : Loc K env h y u) (hy : y ≠ x)
    (hk : (K.lookup x = some .local ∧ ∃ m, h.Ns env.locals m ∧ h'.Ns env.locals (fun z => if z = x then some v else m z) ∧ Heap.SameBut env.locals h h') ∨
      (K.lookup x = some .cell ∧ ∃ k ov, env.cells.lookup x = some k ∧ h.IsCell k ov ∧ h'.IsCell k (some v) ∧ Heap.SameBut k h h'))
    (hap : env.cells.Pairwise fun x y => x.2 ≠ y.2) : Loc K env h' y u := by
  rcases hk with ⟨hkx, m, hm, hm', hs⟩ | ⟨hkx, k, ov, hc, hv, hv', hs⟩
  · rcases l with ⟨hky, m₁, hn, hy1⟩ | ⟨hky, k, hc, hv⟩
    · cases Ns.uniq hn hm
      exact .inl ⟨hky, _, hm', by simp [hy, hy1]⟩
    · exact .inr ⟨hky, k, hc, hv.sameBut hs (ns_ne_cell hm hv).symm⟩
  · rcases l with ⟨hky, m₁, hn, hy1⟩ | ⟨hky, k', hc', hv1⟩
    · exact .inl ⟨hky, m₁, hn.sameBut hs (ns_ne_cell hn hv), hy1⟩
    · have hne : k' ≠ k := fun e => hy (name_of_addr hap (mem_of_lookup hc') (e ▸ mem_of_lookup hc))
      exact .inr ⟨hky, k', hc', hv1.sameBut hs hne⟩

theorem sameBut_mod {O : Addr → Prop} {b : Addr} (hs : Heap.SameBut b h h') (hb : ∀ o, h.get? b = some o → ¬ O b → Stays o → False) (hb' : ∃ o, h'.get? b = some o) : Mod O h h' :=
  ⟨fun x o e hO hst => by
    by_cases hxb : x = b
    · subst hxb; exact (hb o e hO hst).elim
    · rw [hs.2 x hxb]; exact e,
   fun x o e => by
    by_cases hxb : x = b
    · subst hxb; exact hb'
    · exact ⟨o, (hs.2 x hxb).trans e⟩⟩

theorem not_stays_ns {O : Addr → Prop} {m : Str → Option Value} {a : Addr} (x : h.Ns a m) : ∀ o, h.get? a = some o → ¬ O a → Stays o → False := fun o e _ hst => by
  obtain ⟨o', es, ep, h1, h2, _, _⟩ := x
  rw [h1] at e; cases e
  unfold Stays at hst; rw [h2] at hst; exact hst
theorem not_stays_cell {O : Addr → Prop} {ov : Option Value} {a : Addr} (x : h.IsCell a ov) : ∀ o, h.get? a = some o → ¬ O a → Stays o → False := fun o e _ hst => by
  obtain ⟨o', h1, h2⟩ := x
  rw [h1] at e; cases e
  unfold Stays at hst; rw [h2] at hst; exact hst

/-- one address of the frame's own is turned (its names, one of its cells), and the name x holds v behind it -/
theorem St.stored {x : Str} {v : Value} {b : Addr} (S : St g c K W σ ω h tk) (hs : Heap.SameBut b h h') (hbf : c.base.get? b = Option.none) (hle : tk ≤ tk')
    (hbk : (∃ m, h.Ns b m) ∨ ∃ ov, h.IsCell b ov) (hb' : ∃ o, h'.get? b = some o) (hn' : ∃ m, h'.Ns c.env.locals m)
    (hcell' : ∀ y, (K.lookup y = some .cell ∨ K.lookup y = some .free) → ∃ k ov, c.env.cells.lookup y = some k ∧ h'.IsCell k ov)
    (hloc : ∀ y u, y ≠ x → Loc K c.env h y u → Loc K c.env h' y u) (hx : Loc K c.env h' x v) {p : PV} (hp : Rep W h p v) (hω : ω.lookup x = Option.none) :
    St g c K W ((x, p) :: σ) ω h' tk' ∧ Mod NoO h h' := by
  have hmod0 : Mod NoO h h' := sameBut_mod hs (fun o e hO hst => by
    rcases hbk with ⟨m, hm⟩ | ⟨ov, hov⟩
    · exact not_stays_ns (O := NoO) hm o e hO hst
    · exact not_stays_cell (O := NoO) hov o e hO hst) hb'
  have hmod : Mod W.O h h' := hmod0.any
  have hbl : ∀ a items, h.IsList a items → a ≠ b := fun a items ha => by
    rcases hbk with ⟨m, hm⟩ | ⟨ov, hov⟩
    · exact (ns_ne_list hm ha).symm
    · exact (cell_ne_list hov ha).symm
  refine ⟨⟨fun a o e => ?_, S.ok, S.kind, S.globals, S.builtins, hn', S.lfresh, S.known, hcell', S.cfresh, S.apart, ?_, ?_, S.sub, fun a ha => ?_, (S.toks hle).tok, (S.toks hle).pos⟩, hmod0⟩
  · exact (hs.2 a (fun e' => by rw [e', hbf] at e; cases e)).trans (S.ext a o e)
  · intro y q hq
    rw [List.lookup_cons] at hq
    cases hb : y == x with
    | true =>
      rw [hb] at hq; cases hq
      rw [beq_iff_eq.mp hb]
      exact ⟨v, hx, hp.mono hmod.seq (Grow.refl _ _)⟩
    | false =>
      rw [hb] at hq
      obtain ⟨u, hu, hr⟩ := S.vars y q hq
      exact ⟨u, hloc y u (beq_eq_false_iff_ne.mp hb) hu, hr.mono hmod.seq (Grow.refl _ _)⟩
  · obtain ⟨ad, q1, q2⟩ := S.owns
    refine ⟨ad, fun y l hl => ?_, q2⟩
    have hyx : y ≠ x := by rintro rfl; rw [hω] at hl; cases hl
    obtain ⟨a1, a2, a3, items, a5, a6⟩ := q1 y l hl
    obtain ⟨o, ho, hr⟩ := id a5
    exact ⟨hloc y _ hyx a1, a2, a3, items, ⟨o, (hs.2 _ (hbl _ _ a5.isList)).trans ho, hr⟩, a6.mono hmod.seq (Grow.refl _ _)⟩
  · obtain ⟨o, ho⟩ := S.valid a ha
    by_cases hab : a = b
    · exact hab ▸ hb'
    · exact ⟨o, (hs.2 a hab).trans ho⟩

section
variable {M : Model} {A : Around} {E : Value → Shared → Prop} {s : Shared}

theorem not_class (S : St g c K W σ ω h tk) : (c.env.scope.kind == .class || (c.env.scope.kind == .module && c.env.locals != c.env.globals)) = false := by
  rw [S.kind]; rfl

theorem St.store {x : Str} {v : Value} {p : PV} {Q : Unit → Shared → Prop} (S : St g c K W σ ω s.heap s.toks) (hK : K.lookup x = some .local ∨ K.lookup x = some .cell) (hω : ω.lookup x = Option.none)
    (hp : Rep W s.heap p v) (hQ : ∀ h' tk, St g c K W ((x, p) :: σ) ω h' tk → Mod NoO s.heap h' → s.toks ≤ tk → Q () { s with heap := h', toks := tk }) : wpAny M A (storeName c.env x v) Q E s := by
  obtain ⟨m, hm⟩ := S.ns
  rcases hK with hK | hK
  · have hl : c.env.kindOf x = some .local := by rcases S.known x _ hK with h1 | ⟨h1, _⟩; exact h1; cases h1
    refine wpAny_storeName_local hl hm (fun h' hn' hs' => ?_) (not_class S)
    have hk : (K.lookup x = some .local ∧ ∃ m, s.heap.Ns c.env.locals m ∧ h'.Ns c.env.locals (fun z => if z = x then some v else m z) ∧ Heap.SameBut c.env.locals s.heap h') ∨
      (K.lookup x = some .cell ∧ ∃ k ov, c.env.cells.lookup x = some k ∧ s.heap.IsCell k ov ∧ h'.IsCell k (some v) ∧ Heap.SameBut k s.heap h') := .inl ⟨hK, m, hm, hn', hs'⟩
    obtain ⟨S', hmod⟩ := S.stored (v := v) hs' S.lfresh (Nat.le_succ _) (.inl ⟨m, hm⟩) (let ⟨o, _, _, e, _⟩ := hn'; ⟨o, e⟩) ⟨_, hn'⟩
      (fun y hy => let ⟨k, ov, e1, e2⟩ := S.cell y hy; ⟨k, ov, e1, e2.sameBut hs' (ns_ne_cell hm e2).symm⟩)
      (fun y u hy hl => hl.stored hy hk S.apart) (.inl ⟨hK, _, hn', by simp⟩) hp hω
    exact hQ h' _ S' hmod (Nat.le_succ _)
  · have hl : c.env.kindOf x = some .cell := by rcases S.known x _ hK with h1 | ⟨h1, _⟩; exact h1; cases h1
    obtain ⟨k, ov, hc, hov⟩ := S.cell x (.inl hK)
    refine wpAny_storeName_cell S.kind hl hc hov fun h' hv' hs' => ?_
    have hk : (K.lookup x = some .local ∧ ∃ m, s.heap.Ns c.env.locals m ∧ h'.Ns c.env.locals (fun z => if z = x then some v else m z) ∧ Heap.SameBut c.env.locals s.heap h') ∨
      (K.lookup x = some .cell ∧ ∃ k ov, c.env.cells.lookup x = some k ∧ s.heap.IsCell k ov ∧ h'.IsCell k (some v) ∧ Heap.SameBut k s.heap h') := .inr ⟨hK, k, ov, hc, hov, hv', hs'⟩
    obtain ⟨S', hmod⟩ := S.stored (v := v) hs' (S.cfresh x k hK hc) (Nat.le_refl _) (.inr ⟨ov, hov⟩) (let ⟨o, e, _⟩ := hv'; ⟨o, e⟩) ⟨m, hm.sameBut hs' (ns_ne_cell hm hov)⟩
      (fun y hy => by
        obtain ⟨k', ov', e1, e2⟩ := S.cell y hy
        by_cases hkk : k' = k
        · subst hkk; exact ⟨k', _, e1, hv'⟩
        · exact ⟨k', ov', e1, e2.sameBut hs' hkk⟩)
      (fun y u hy hl => hl.stored hy hk S.apart) (.inr ⟨.inl hK, k, hc, hv'⟩) hp hω
    exact hQ h' s.toks S' hmod (Nat.le_refl _)

theorem St.load {x : Str} {v : Value} {Q : Value → Shared → Prop} (S : St g c K W σ ω h tk) (hl : Loc K c.env s.heap x v) (hQ : Q v s) (hn : (x == ("__classdict__" : Str)) = false) :
    wpAny M A (loadName c.env x) Q E s := by
  rcases hl with ⟨hk, m, hn, hm⟩ | ⟨hk, k, hc, hv⟩
  · have hl : c.env.kindOf x = some .local := by rcases S.known x _ hk with h1 | ⟨h1, _⟩; exact h1; cases h1
    exact wpAny_loadName_local S.kind hl hn hm hQ
  · have hl : c.env.kindOf x = some .cell ∨ c.env.kindOf x = some .free := by
      rcases hk with hk | hk
      · rcases S.known x _ hk with h1 | ⟨h1, _⟩
        · exact .inl h1
        · cases h1
      · rcases S.known x _ hk with h1 | ⟨h1, h2⟩
        · exact .inr h1
        · exact .inl h2
    rcases hl with hl | hl
    · exact wpAny_loadName_cell S.kind hl hc hv hQ
    · exact wpAny_loadName_free S.kind hl hc hv hQ hn
end
end

end Mine

namespace Mine
open PySem PySem.W PyProof.Rows

structure Room (d : Nat) (A : Around) : Prop where
  hd : A.handled = Option.none
  dep : A.depth + d < recursionLimit
  un : A.units + 3 * d + 200 < cLine

section
variable {d : Nat} {A : Around}
theorem Room.deeper (r : Room (d + 1) A) (env : Env) : Room d (A.deeper env) :=
  ⟨r.hd, by have := r.dep; show A.depth + 1 + d < _; lia, by have := r.un; show A.units + 3 + 3 * d + 200 < _; lia⟩
theorem Room.unit (r : Room d A) : A.units + 200 < cLine := by have := r.un; lia
theorem Room.zero (R : Room d A) : Room 0 A := ⟨R.hd, by have := R.dep; lia, by have := R.un; lia⟩
end

/-- what an operation asks of the state -/
structure Sok (W : Wd) (h : Heap) (tk : Nat) : Prop where
  valid : ∀ a, W.O a → ∃ o, h.get? a = some o
  tok : ∀ t x, W.T t = some x → t ≠ 0 ∧ t < tk
  pos : 0 < tk
  booked : NoneBooked h
  nolimit : h.NoLimit

theorem St.sok {g : Pg} {c : Cx} {K : Kn} {W : Wd} {σ : Sig} {ω : Own} {h : Heap} {tk : Nat} (S : St g c K W σ ω h tk) : Sok W h tk :=
  ⟨S.valid, S.tok, S.pos, S.okNow.2, let ⟨⟨_, _, _, G⟩, _⟩ := S.okNow; G.nolimit⟩

noncomputable def ValPost (W : Wd) (p : PV) (s : Shared) (v : Value) (s' : Shared) : Prop :=
  ∃ W' h' tk', s' = { s with heap := h', toks := tk' } ∧ Rep W' h' p v ∧ Up W W' s.heap h' s.toks tk'
noncomputable def BoolPost (W : Wd) (b : Bool) (s : Shared) (v : Bool) (s' : Shared) : Prop :=
  ∃ W' h' tk', s' = { s with heap := h', toks := tk' } ∧ v = b ∧ Up W W' s.heap h' s.toks tk'
noncomputable def ListPost (W : Wd) (p : List PV) (s : Shared) (v : List Value) (s' : Shared) : Prop :=
  ∃ W' h' tk', s' = { s with heap := h', toks := tk' } ∧ RepL W' h' p v ∧ Up W W' s.heap h' s.toks tk'

section judge
variable (g : Pg) (d : Nat) (K : Kn) (σ : Sig) (ω : Own)

/-- in every frame of these names the expression gives p, and turns nothing that stood -/
noncomputable def Ev (e : Expr) (p : PV) : Prop :=
  ∀ (c : Cx) (W : Wd) (A : Around) (s : Shared), Room d A → St g c K W σ ω s.heap s.toks →
    wpAny (model g.prog g.w) A (eval e c.env) (ValPost W p s) (fun _ _ => False) s

/-- as a test -/
noncomputable def EvB (e : Expr) (b : Bool) : Prop :=
  ∀ (c : Cx) (W : Wd) (A : Around) (s : Shared), Room d A → St g c K W σ ω s.heap s.toks →
    wpAny (model g.prog g.w) A (isTrue e c.env (eval e c.env)) (BoolPost W b s) (fun _ _ => False) s

noncomputable def EvL (es : List Expr) (ps : List PV) : Prop :=
  ∀ (c : Cx) (W : Wd) (A : Around) (s : Shared) (pos : Pos), Room d A → St g c K W σ ω s.heap s.toks →
    wpAny (model g.prog g.w) A (spliced (backTo pos (starEach es c.env))) (ListPost W ps s) (fun _ _ => False) s
end judge

/-- a binary operation on values that stand for p and q gives one for r -/
noncomputable def Op2 (op : Operator) (p q r : PV) : Prop :=
  ∀ (prog : Program) (w : World) (W : Wd) (A : Around) (s : Shared) (v u : Value), Room 0 A → Sok W s.heap s.toks → Rep W s.heap p v → Rep W s.heap q u →
    wpAny (model prog w) A (binaryOp op v u) (ValPost W r s) (fun _ _ => False) s
noncomputable def Op1 (op : UnaryOp) (p r : PV) : Prop :=
  ∀ (prog : Program) (w : World) (W : Wd) (A : Around) (s : Shared) (v : Value), Room 0 A → Sok W s.heap s.toks → Rep W s.heap p v →
    wpAny (model prog w) A (unaryOp op v) (ValPost W r s) (fun _ _ => False) s
/-- a comparison: it gives the bool b and turns nothing -/
noncomputable def Cm2 (op : CmpOp) (p q : PV) (b : Bool) : Prop :=
  ∀ (prog : Program) (w : World) (W : Wd) (A : Around) (s : Shared) (v u : Value) (Q : Value → Shared → Prop) (E : Value → Shared → Prop), Room 0 A → Sok W s.heap s.toks → Rep W s.heap p v → Rep W s.heap q u →
    Q (.bool b) s → wpAny (model prog w) A (compareOp op v u) Q E s

section
variable {g : Pg} {d : Nat} {K : Kn} {σ : Sig} {ω : Own} {c : Cx} {W : Wd} {A : Around} {s : Shared} {E : Value → Shared → Prop}

theorem Ev.run {e : Expr} {p : PV} {Q : Value → Shared → Prop} (H : Ev g d K σ ω e p) (R : Room d A) (S : St g c K W σ ω s.heap s.toks)
    (hQ : ∀ v W' h' tk', Rep W' h' p v → Up W W' s.heap h' s.toks tk' → Q v { s with heap := h', toks := tk' }) : wpAny (model g.prog g.w) A (eval e c.env) Q E s :=
  wpAny_mono (H c W A s R S) (fun v s' ⟨W', h', tk, e, r, k⟩ => by subst e; exact hQ v W' h' tk r k) fun _ _ f => f.elim
theorem EvB.run {e : Expr} {b : Bool} {Q : Bool → Shared → Prop} (H : EvB g d K σ ω e b) (R : Room d A) (S : St g c K W σ ω s.heap s.toks)
    (hQ : ∀ W' h' tk', Up W W' s.heap h' s.toks tk' → Q b { s with heap := h', toks := tk' }) : wpAny (model g.prog g.w) A (isTrue e c.env (eval e c.env)) Q E s :=
  wpAny_mono (H c W A s R S) (fun v s' ⟨W', h', tk, e, r, k⟩ => by subst e; subst r; exact hQ W' h' tk k) fun _ _ f => f.elim
theorem EvL.run {es : List Expr} {ps : List PV} {pos : Pos} {Q : List Value → Shared → Prop} (H : EvL g d K σ ω es ps) (R : Room d A) (S : St g c K W σ ω s.heap s.toks)
    (hQ : ∀ vs W' h' tk', RepL W' h' ps vs → Up W W' s.heap h' s.toks tk' → Q vs { s with heap := h', toks := tk' }) : wpAny (model g.prog g.w) A (spliced (backTo pos (starEach es c.env))) Q E s :=
  wpAny_mono (H c W A s pos R S) (fun v s' ⟨W', h', tk, e, r, k⟩ => by subst e; exact hQ v W' h' tk r k) fun _ _ f => f.elim

theorem up_toks (S : Sok W s.heap s.toks) {tk : Nat} (h : s.toks ≤ tk) : Up W W s.heap s.heap s.toks tk :=
  ⟨Ext.refl _, rfl, fun _ _ e => e, fun t x e => ⟨(S.tok t x e).1, Nat.lt_of_lt_of_le (S.tok t x e).2 h⟩, h⟩
theorem up_ext (S : Sok W s.heap s.toks) {h' : Heap} (x : Ext s.heap h') {tk : Nat} (h : s.toks ≤ tk) : Up W W s.heap h' s.toks tk :=
  ⟨x, rfl, fun _ _ e => e, fun t x e => ⟨(S.tok t x e).1, Nat.lt_of_lt_of_le (S.tok t x e).2 h⟩, h⟩

theorem val_int (S : Sok W s.heap s.toks) {i : Int} {t : Tok} {tk : Nat} (h : s.toks ≤ tk) : ValPost W (.int i) s (.int i t) { s with toks := tk } :=
  ⟨W, s.heap, tk, rfl, rep_int.mpr ⟨t, rfl⟩, up_toks S h⟩
theorem val_bool (S : Sok W s.heap s.toks) {b : Bool} : ValPost W (.bool b) s (.bool b) s := ⟨W, s.heap, s.toks, rfl, rep_bool.mpr rfl, up_toks S (Nat.le_refl _)⟩
/-- a float just made: its token is new -/
theorem val_flt (S : Sok W s.heap s.toks) {x : UInt64} : ValPost W (.flt x) s (.float x s.toks) { s with toks := s.toks + 1 } := by
  refine ⟨⟨W.O, fun t => if t = s.toks then some x else W.T t⟩, s.heap, s.toks + 1, rfl, rep_flt.mpr ⟨s.toks, rfl, by simp⟩, Ext.refl _, rfl, fun t y e => ?_, fun t y e => ?_, Nat.le_succ _⟩
  · have := (S.tok t y e).2
    simp only
    rw [if_neg (Nat.ne_of_lt this)]; exact e
  · simp only at e
    split at e
    · rename_i h; rw [h]; exact ⟨Nat.ne_of_gt S.pos, Nat.lt_succ_self _⟩
    · exact ⟨(S.tok t y e).1, Nat.lt_succ_of_lt (S.tok t y e).2⟩

theorem ev_int {i : Int} {k : Nat} {pos : Pos} : Ev g d K σ ω (.Constant (.int i) k pos) (.int i) := fun _ _ _ _ _ S =>
  wpAny_Constant_int (val_int S.sok (Nat.le_succ _))
theorem ev_flt {i : UInt64} {k : Nat} {pos : Pos} : Ev g d K σ ω (.Constant (.float i) k pos) (.flt i) := fun _ _ _ _ _ S =>
  AutoFloatOps.wpAny_Constant_float (val_flt S.sok)
theorem ev_bool {b : Bool} {k : Nat} {pos : Pos} : Ev g d K σ ω (.Constant (.bool b) k pos) (.bool b) := fun _ _ _ _ _ S =>
  wpAny_pure (val_bool S.sok)

theorem ev_name {x : Str} {pos : Pos} {p : PV} (h : σ.lookup x = some p) (h1 : (x == ("__debug__" : Str)) = false) (h2 : (x == ("__classdict__" : Str)) = false) :
    Ev g d K σ ω (.Name x pos) p := fun c W A s R S => by
  obtain ⟨v, hl, hr⟩ := S.vars x p h
  exact wpAny_Name (S.load hl ⟨W, s.heap, s.toks, rfl, hr, Up.refl S⟩ h2) h1

theorem ev_bin {l r : Expr} {op : Operator} {pos : Pos} {p q x : PV} (h1 : Ev g d K σ ω l p) (h2 : Ev g d K σ ω r q) (h3 : Op2 op p q x) :
    Ev g d K σ ω (.BinOp l op r pos) x := fun c W A s R S =>
  wpAny_BinOp (h1.run R S fun v W' h' tk rv e => h2.run R (S.keeps e) fun u W'' h'' tk' ru e' =>
    wpAny_mono (h3 g.prog g.w W'' A _ v u R.zero ((S.keeps e).keeps e').sok (rv.up e') ru)
      (fun x s' ⟨W3, h3, tk3, es, rx, k⟩ => by subst es; exact ⟨W3, h3, tk3, rfl, rx, (e.trans e').trans k⟩) fun _ _ f => f.elim)

theorem ev_un {l : Expr} {op : UnaryOp} {pos : Pos} {p x : PV} (h1 : Ev g d K σ ω l p) (h3 : Op1 op p x) :
    Ev g d K σ ω (.UnaryOp op l pos) x := fun c W A s R S =>
  wpAny_UnaryOp (h1.run R S fun v W' h' tk rv e => 
    wpAny_mono (h3 g.prog g.w W' A _ v R.zero (S.keeps e).sok rv)
      (fun x s' ⟨W3, h3, tk3, es, rx, k⟩ => by subst es; exact ⟨W3, h3, tk3, rfl, rx, e.trans k⟩) fun _ _ f => f.elim)

theorem op_int {op : Operator} {a b k : Int}
    (h : ∀ (prog : Program) (w : World) (A : Around) (s : Shared) (t u : Tok) (Q : Value → Shared → Prop), Room 0 A → s.heap.NoLimit → Q (.int k s.toks) { s with toks := s.toks + 1 } → wpAny (model prog w) A (binaryOp op (.int a t) (.int b u)) Q (fun _ _ => False) s) :
    Op2 op (.int a) (.int b) (.int k) := fun prog w W A s v u hA S hv hu => by
  obtain ⟨t, rfl⟩ := rep_int.mp hv
  obtain ⟨t', rfl⟩ := rep_int.mp hu
  exact h prog w A s t t' _ hA S.nolimit (val_int S (Nat.le_succ _))

theorem op_add_int {a b : Int} : Op2 .Add (.int a) (.int b) (.int (a + b)) := op_int fun _ _ _ _ _ _ _ _ _ h => wpAny_add_int h
theorem op_sub_int {a b : Int} : Op2 .Sub (.int a) (.int b) (.int (a - b)) := op_int fun _ _ _ _ _ _ _ _ _ h => sub_int' h
theorem op_mul_int {a b : Int} (hm : IntMulOk a b) : Op2 .Mult (.int a) (.int b) (.int (a * b)) := op_int fun _ _ _ _ _ _ _ _ _ h => mul_int h hm
theorem op_mod_int {a b : Int} (hb : b ≠ 0) : Op2 .Mod (.int a) (.int b) (.int (a.fmod b)) := op_int fun _ _ _ _ _ _ _ _ _ h => mod_int' hb h
theorem op_neg_int {a : Int} : Op1 .USub (.int a) (.int (-a)) := fun prog w W A s v hA S hv => by
  obtain ⟨t, rfl⟩ := rep_int.mp hv
  exact PyProof.Rows.neg_int (val_int S (Nat.le_succ _))

theorem op_flt {op : Operator} {a b k : UInt64}
    (h : ∀ (prog : Program) (w : World) (A : Around) (s : Shared) (t u : Tok) (Q : Value → Shared → Prop), Room 0 A → Q (.float k s.toks) { s with toks := s.toks + 1 } → wpAny (model prog w) A (binaryOp op (.float a t) (.float b u)) Q (fun _ _ => False) s) :
    Op2 op (.flt a) (.flt b) (.flt k) := fun prog w W A s v u hA S hv hu => by
  obtain ⟨t, rfl, _⟩ := rep_flt.mp hv
  obtain ⟨t', rfl, _⟩ := rep_flt.mp hu
  exact h prog w A s t t' _ hA (val_flt S)
theorem op_add_flt {a b : UInt64} : Op2 .Add (.flt a) (.flt b) (.flt (Float64.add a b)) := op_flt fun _ _ _ _ _ _ _ _ h => add_float h
theorem op_sub_flt {a b : UInt64} : Op2 .Sub (.flt a) (.flt b) (.flt (Float64.sub a b)) := op_flt fun _ _ _ _ _ _ _ _ h => sub_float h
theorem op_mul_flt {a b : UInt64} : Op2 .Mult (.flt a) (.flt b) (.flt (Float64.mul a b)) := op_flt fun _ _ _ _ _ _ _ _ h => mul_float h
theorem op_div_flt {a b : UInt64} (hb : Float64.isZero b = false) : Op2 .Div (.flt a) (.flt b) (.flt (Float64.div a b)) := op_flt fun _ _ _ _ _ _ _ _ h => AutoFloatOps.truediv_1 (by rw [hb]; exact Bool.false_ne_true) h
theorem op_mod_flt {a b : UInt64} (hb : Float64.isZero b = false) : Op2 .Mod (.flt a) (.flt b) (.flt (Float64.divmod a b).2) := op_flt fun _ _ _ _ _ _ _ _ h => AutoFloatOps.mod_1 (by rw [hb]; exact Bool.false_ne_true) h

theorem op_sub_fi {a : UInt64} {b : Int} (hb : Float64.isInf (Float64.ofInt b) = false) : Op2 .Sub (.flt a) (.int b) (.flt (Float64.sub a (Float64.ofInt b))) := fun prog w W A s v u hA S hv hu => by
  obtain ⟨t, rfl, _⟩ := rep_flt.mp hv
  obtain ⟨t', rfl⟩ := rep_int.mp hu
  exact AutoFloatOps.sub_fi_1 (by rw [hb]; exact Bool.false_ne_true) (val_flt S)
theorem op_mul_fi {a : UInt64} {b : Int} (hb : Float64.isInf (Float64.ofInt b) = false) : Op2 .Mult (.flt a) (.int b) (.flt (Float64.mul a (Float64.ofInt b))) := fun prog w W A s v u hA S hv hu => by
  obtain ⟨t, rfl, _⟩ := rep_flt.mp hv
  obtain ⟨t', rfl⟩ := rep_int.mp hu
  exact AutoFloatOps.mul_fi_1 (by rw [hb]; exact Bool.false_ne_true) (val_flt S)
/-- the float that int / int gives -/
noncomputable def fracF (a b : Int) : UInt64 := Float64.ofFrac (decide (a < 0) != decide (b < 0)) a.natAbs b.natAbs
theorem op_div_ii {a b : Int} (hb : b ≠ 0) (hi : Float64.isInf (fracF a b) = false) : Op2 .Div (.int a) (.int b) (.flt (fracF a b)) := fun prog w W A s v u hA S hv hu => by
  obtain ⟨t, rfl⟩ := rep_int.mp hv
  obtain ⟨t', rfl⟩ := rep_int.mp hu
  exact AutoIntOps.truediv_2 (by simpa using hb) (by unfold fracF at hi; rw [hi]; exact Bool.false_ne_true) (val_flt S)
end

end Mine

namespace Mine
open PySem PySem.W PyProof.Rows PySem.SeqAt

theorem cmp_self {x : UInt64} (h : Float64.isNaN x = false) : Float64.cmp x x = some .eq := by
  unfold Float64.cmp
  unfold Float64.isNaN at h
  cases hd : Float64.decode x with
  | nan => rw [hd] at h; cases h
  | inf a => simp
  | fin a m e => simp [Float64.align]

/-- == of two values, where it is told -/
noncomputable def peqL (f : PV → PV → Option Bool) : List PV → List PV → Option Bool
  | [], [] => some true
  | p :: ps, q :: qs => match f p q, peqL f ps qs with
    | some a, some b => some (a && b)
    | _, _ => Option.none
  | _, _ => Option.none

noncomputable def peq : Nat → PV → PV → Option Bool
  | _, .none, .none => some true
  | _, .bool a, .bool b => some (a == b)
  | _, .int a, .int b => some (a == b)
  | _, .flt x, .flt y => if Float64.isNaN x || Float64.isNaN y then Option.none else some (Float64.cmp x y == some .eq)
  | n + 1, .tup l, .tup m => if l.length = m.length then peqL (peq n) l m else Option.none
  | n + 1, .lst l, .lst m => if l.length = m.length then peqL (peq n) l m else some false
  | _, _, _ => Option.none

theorem peqL_get {f : PV → PV → Option Bool} : ∀ {l m : List PV} {b : Bool}, peqL f l m = some b → ∀ (j : Nat) (p q : PV), l[j]? = some p → m[j]? = some q → ∃ a, f p q = some a
  | [], [], _, _, j, p, q, h, _ => by simp at h
  | p :: ps, q :: qs, b, h, j, p', q', hp, hq => by
    unfold peqL at h
    split at h
    · rename_i a b' e1 e2
      cases j with
      | zero => simp at hp hq; subst hp hq; exact ⟨_, e1⟩
      | succ j => exact peqL_get e2 j p' q' (by simpa using hp) (by simpa using hq)
    · cases h
  | [], _ :: _, _, h, _, _, _, _, _ => by simp [peqL] at h
  | _ :: _, [], _, h, _, _, _, _, _ => by simp [peqL] at h

/-- all of them, place by place -/
noncomputable def allAt (f : PV → PV → Option Bool) (l m : List PV) (j : Nat) : Bool :=
  match l[j]?, m[j]? with
  | some p, some q => (f p q).getD false
  | _, _ => false

theorem peqL_all {f : PV → PV → Option Bool} : ∀ {l m : List PV} {b : Bool}, peqL f l m = some b → (List.range l.length).all (allAt f l m) = b
  | [], [], b, h => by simp [peqL] at h; simp [h]
  | p :: ps, q :: qs, b, h => by
    unfold peqL at h
    split at h
    · rename_i a b' e1 e2
      cases h
      have ih := peqL_all e2
      rw [List.length_cons, List.range_succ_eq_map, List.all_cons, List.all_map]
      have h0 : allAt f (p :: ps) (q :: qs) 0 = a := by simp [allAt, e1]
      have hs : (allAt f (p :: ps) (q :: qs)) ∘ Nat.succ = allAt f ps qs := by
        funext j; simp [allAt]
      rw [h0, hs, ih]
    · cases h
  | [], _ :: _, _, h => by simp [peqL] at h
  | _ :: _, [], _, h => by simp [peqL] at h

section
variable {A : Around} {s : Shared} {W : Wd}

theorem eqBool_flt (S : Sok W s.heap s.toks) {x y : UInt64} {t u : Tok} (ht : W.T t = some x) (hu : W.T u = some y) (hx : Float64.isNaN x = false) (hy : Float64.isNaN y = false) :
    EqAt A s (.float x t) (.float y u) (Float64.cmp x y == some .eq) := fun prog w E Q h => by
  have hrc : wpAny (model prog w) A (richCompare .Eq (.float x t) (.float y u)) (fun v s' => wpAny (model prog w) A (truthOfDropped v) Q E s') E s :=
    AutoFloatOps.eq_0 (wpAny_truthy_bool h)
  have hxy : x = y → (Float64.cmp x y == some .eq) = true := fun e => by subst e; rw [cmp_self hx]; rfl
  unfold eqBool
  refine wpAny_holding ?_
  refine wpAny_ite_split (fun hab => ?_) (fun _ => ?_)
  · have e := eq_of_beq hab
    injection e with e1 e2
    rw [hxy e1] at h
    exact wpAny_bind (wpAny_rule (wpAny_pure h))
  · refine wpAny_bind (m := isSame (.float x t) (.float y u)) ?_
    show wpAny _ A (isSame.created (x == y && !Float64.isNaN x) t u) _ E s
    have go : wpAny (model prog w) A (richCompare .Eq (.float x t) (.float y u)) (fun v s' => wpAny (model prog w) A (truthOfDropped v) Q E s') E s → wpAny (model prog w) A (if false = true then pure true else do truthOfDropped (← richCompare .Eq (.float x t) (.float y u))) Q E s :=
      fun hr => wpAny_bind hr
    unfold isSame.created
    refine wpAny_ite ?_
    split
    · rename_i h0
      rw [Bool.or_eq_true, beq_iff_eq, beq_iff_eq] at h0
      rcases h0 with h0 | h0
      · exact absurd h0 (S.tok t x ht).1
      · exact absurd h0 (S.tok u y hu).1
    refine wpAny_ite ?_
    split
    · rename_i htu
      rw [beq_iff_eq] at htu
      subst htu
      rw [ht] at hu
      have e1 : x = y := by injection hu
      rw [hxy e1] at h
      exact wpAny_pure (wpAny_pure h)
    refine wpAny_ite ?_
    split
    · exact wpAny_pure (go hrc)
    · rename_i hc
      have hxy' : x = y := by
        simp only [Bool.not_eq_true', Bool.not_eq_false, Bool.and_eq_true, beq_iff_eq] at hc
        exact hc.1
      refine wpAny_bind (wpAny_sharingNotTold_none S.booked ?_)
      simp only [Bool.false_eq_true, if_false]
      refine wpAny_bind (wpAny_sharingNotTold_none S.booked ?_)
      simp only [Bool.false_eq_true, if_false]
      refine wpAny_bind (wpAny_rule (wpAny_bind (wpAny_askSetting (wpAny_pure ?_))))
      cases (model prog w).w.params.mergeTok t == (model prog w).w.params.mergeTok u with
      | false => exact go hrc
      | true => rw [hxy hxy'] at h; exact wpAny_pure h
end

end Mine

namespace Mine
open PySem PySem.W PyProof.Rows PySem.SeqAt

mutual
theorem Rep.inj {W : Wd} {h : Heap} : ∀ {p q : PV} {v : Value}, Rep W h p v → Rep W h q v → p = q
  | .none, q, v, x, y => by
    rw [rep_none] at x; subst x
    cases q with
    | none => rfl
    | bool b => rw [rep_bool] at y; cases y
    | int i => rw [rep_int] at y; obtain ⟨t, e⟩ := y; cases e
    | flt i => rw [rep_flt] at y; obtain ⟨t, e, _⟩ := y; cases e
    | tup l => rw [rep_tup] at y; obtain ⟨a, i, e, _⟩ := y; cases e
    | lst l => rw [rep_lst] at y; obtain ⟨a, i, e, _⟩ := y; cases e
  | .bool b, q, v, x, y => by
    rw [rep_bool] at x; subst x
    cases q with
    | none => rw [rep_none] at y; cases y
    | bool b => rw [rep_bool] at y; cases y; rfl
    | int i => rw [rep_int] at y; obtain ⟨t, e⟩ := y; cases e
    | flt i => rw [rep_flt] at y; obtain ⟨t, e, _⟩ := y; cases e
    | tup l => rw [rep_tup] at y; obtain ⟨a, i, e, _⟩ := y; cases e
    | lst l => rw [rep_lst] at y; obtain ⟨a, i, e, _⟩ := y; cases e
  | .int b, q, v, x, y => by
    rw [rep_int] at x; obtain ⟨t, rfl⟩ := x
    cases q with
    | none => rw [rep_none] at y; cases y
    | bool b => rw [rep_bool] at y; cases y
    | int i => rw [rep_int] at y; obtain ⟨t, e⟩ := y; cases e; rfl
    | flt i => rw [rep_flt] at y; obtain ⟨t, e, _⟩ := y; cases e
    | tup l => rw [rep_tup] at y; obtain ⟨a, i, e, _⟩ := y; cases e
    | lst l => rw [rep_lst] at y; obtain ⟨a, i, e, _⟩ := y; cases e
  | .flt b, q, v, x, y => by
    rw [rep_flt] at x; obtain ⟨t, rfl, _⟩ := x
    cases q with
    | none => rw [rep_none] at y; cases y
    | bool b => rw [rep_bool] at y; cases y
    | int i => rw [rep_int] at y; obtain ⟨t, e⟩ := y; cases e
    | flt i => rw [rep_flt] at y; obtain ⟨t, e, _⟩ := y; cases e; rfl
    | tup l => rw [rep_tup] at y; obtain ⟨a, i, e, _⟩ := y; cases e
    | lst l => rw [rep_lst] at y; obtain ⟨a, i, e, _⟩ := y; cases e
  | .tup l, q, v, x, y => by
    rw [rep_tup] at x; obtain ⟨a, items, rfl, _, ⟨o, ho, hc, n, hd⟩, hr⟩ := x
    cases q with
    | none => rw [rep_none] at y; cases y
    | bool b => rw [rep_bool] at y; cases y
    | int i => rw [rep_int] at y; obtain ⟨t, e⟩ := y; cases e
    | flt i => rw [rep_flt] at y; obtain ⟨t, e, _⟩ := y; cases e
    | tup m =>
      rw [rep_tup] at y; obtain ⟨a', items', e, _, ⟨o', ho', hc', n', hd'⟩, hr'⟩ := y
      cases e
      rw [ho] at ho'; cases ho'
      rw [hd] at hd'; cases hd'
      rw [RepL.inj hr hr']
    | lst m =>
      rw [rep_lst] at y; obtain ⟨a', items', e, _, ⟨o', ho', hc', n', hd'⟩, hr'⟩ := y
      cases e
      rw [ho] at ho'; cases ho'
      rw [hc] at hc'; injection hc' with hc'; exact absurd hc' (by decide)
  | .lst l, q, v, x, y => by
    rw [rep_lst] at x; obtain ⟨a, items, rfl, _, ⟨o, ho, hc, n, hd⟩, hr⟩ := x
    cases q with
    | none => rw [rep_none] at y; cases y
    | bool b => rw [rep_bool] at y; cases y
    | int i => rw [rep_int] at y; obtain ⟨t, e⟩ := y; cases e
    | flt i => rw [rep_flt] at y; obtain ⟨t, e, _⟩ := y; cases e
    | lst m =>
      rw [rep_lst] at y; obtain ⟨a', items', e, _, ⟨o', ho', hc', n', hd'⟩, hr'⟩ := y
      cases e
      rw [ho] at ho'; cases ho'
      rw [hd] at hd'; cases hd'
      rw [RepL.inj hr hr']
    | tup m =>
      rw [rep_tup] at y; obtain ⟨a', items', e, _, ⟨o', ho', hc', n', hd'⟩, hr'⟩ := y
      cases e
      rw [ho] at ho'; cases ho'
      rw [hc] at hc'; injection hc' with hc'; exact absurd hc' (by decide)
theorem RepL.inj {W : Wd} {h : Heap} : ∀ {ps qs : List PV} {vs : List Value}, RepL W h ps vs → RepL W h qs vs → ps = qs
  | [], qs, vs, x, y => by
    rw [repL_nil] at x; subst x
    cases qs with
    | nil => rfl
    | cons q qs => rw [repL_cons] at y; obtain ⟨v, r, e, _⟩ := y; cases e
  | p :: ps, qs, vs, x, y => by
    rw [repL_cons] at x; obtain ⟨v, r, rfl, hp, hr⟩ := x
    cases qs with
    | nil => rw [repL_nil] at y; cases y
    | cons q qs =>
      rw [repL_cons] at y; obtain ⟨v', r', e, hp', hr'⟩ := y
      cases e
      rw [Rep.inj hp hp', RepL.inj hr hr']
end

theorem peqL_refl {f : PV → PV → Option Bool} (hf : ∀ p b, f p p = some b → b = true) : ∀ {l : List PV} {b : Bool}, peqL f l l = some b → b = true
  | [], b, h => by simp [peqL] at h; exact h
  | p :: ps, b, h => by
    unfold peqL at h
    split at h
    · rename_i a b' e1 e2
      cases h
      rw [hf p a e1, peqL_refl hf e2]; rfl
    · cases h

theorem peq_refl : ∀ (n : Nat) (p : PV) (b : Bool), peq n p p = some b → b = true
  | n, .none, b, h => by simp [peq] at h; exact h
  | n, .bool a, b, h => by simp [peq] at h; exact h
  | n, .int a, b, h => by simp [peq] at h; exact h
  | n, .flt x, b, h => by
    unfold peq at h
    split at h
    · cases h
    · rename_i hx
      simp only [Bool.or_self, Bool.not_eq_true] at hx
      rw [cmp_self hx] at h
      cases h; rfl
  | 0, .tup l, b, h => by simp [peq] at h
  | 0, .lst l, b, h => by simp [peq] at h
  | n + 1, .tup l, b, h => by
    unfold peq at h
    rw [if_pos rfl] at h
    exact peqL_refl (peq_refl n) h
  | n + 1, .lst l, b, h => by
    unfold peq at h
    rw [if_pos rfl] at h
    exact peqL_refl (peq_refl n) h

section
variable {s : Shared} {W : Wd}

theorem peq_at (S : Sok W s.heap s.toks) : ∀ (n : Nat) (p q : PV) (b : Bool) (A : Around) (v u : Value), peq n p q = some b → A.units + n < cLine → Rep W s.heap p v → Rep W s.heap q u →
    EqAt A s v u b ∧ RcAt A s v u b ∧ RcNeAt A s v u (!b) := by
  intro n
  induction n with
  | zero =>
    intro p q b A v u h hu hv hq
    cases p <;> cases q <;> (first | (simp [peq] at h; done) | skip)
    · simp [peq] at h; subst h; rw [rep_none] at hv hq; subst hv hq
      exact ⟨EqAt.same _, RcAt.none_none, RcNeAt.none_none⟩
    · simp [peq] at h; subst h; rw [rep_bool] at hv hq; subst hv hq
      exact ⟨EqAt.bool_bool _ _, RcAt.bool_bool _ _, RcNeAt.bool_bool _ _⟩
    · simp [peq] at h; subst h; rw [rep_int] at hv hq; obtain ⟨t, rfl⟩ := hv; obtain ⟨t', rfl⟩ := hq
      exact ⟨EqAt.int_int _ _ _ _, RcAt.int_int _ _ _ _, RcNeAt.int_int _ _ _ _⟩
    · rename_i x y
      unfold peq at h
      split at h
      · cases h
      · rename_i hx
        simp only [Bool.or_eq_true, not_or, Bool.not_eq_true] at hx
        cases h
        rw [rep_flt] at hv hq; obtain ⟨t, rfl, ht⟩ := hv; obtain ⟨t', rfl, ht'⟩ := hq
        exact ⟨eqBool_flt S ht ht' hx.1 hx.2, fun prog w E Q h => AutoFloatOps.eq_0 h, fun prog w E Q h => AutoFloatOps.ne_0 h⟩
  | succ n ih =>
    intro p q b A v u h hu hv hq
    cases p <;> cases q <;> (first | (simp [peq] at h; done) | skip)
    · simp [peq] at h; subst h; rw [rep_none] at hv hq; subst hv hq
      exact ⟨EqAt.same _, RcAt.none_none, RcNeAt.none_none⟩
    · simp [peq] at h; subst h; rw [rep_bool] at hv hq; subst hv hq
      exact ⟨EqAt.bool_bool _ _, RcAt.bool_bool _ _, RcNeAt.bool_bool _ _⟩
    · simp [peq] at h; subst h; rw [rep_int] at hv hq; obtain ⟨t, rfl⟩ := hv; obtain ⟨t', rfl⟩ := hq
      exact ⟨EqAt.int_int _ _ _ _, RcAt.int_int _ _ _ _, RcNeAt.int_int _ _ _ _⟩
    · rename_i x y
      unfold peq at h
      split at h
      · cases h
      · rename_i hx
        simp only [Bool.or_eq_true, not_or, Bool.not_eq_true] at hx
        cases h
        rw [rep_flt] at hv hq; obtain ⟨t, rfl, ht⟩ := hv; obtain ⟨t', rfl, ht'⟩ := hq
        exact ⟨eqBool_flt S ht ht' hx.1 hx.2, fun prog w E Q h => AutoFloatOps.eq_0 h, fun prog w E Q h => AutoFloatOps.ne_0 h⟩
    · rename_i l m
      have hrefl := peq_refl (n + 1) (.tup l)
      have hv0 := hv
      have hq0 := hq
      rw [rep_tup] at hv hq
      obtain ⟨a, items, rfl, _, ha, hl⟩ := hv
      obtain ⟨a', items', rfl, _, ha', hm⟩ := hq
      have h0 := h
      unfold peq at h
      split at h
      · rename_i hlen
        have n1 : items.size = l.length := by rw [← hl.length]; simp
        have n2 : items'.size = m.length := by rw [← hm.length]; simp
        have hus : A.units + 1 + n < cLine := by lia
        have he : ∀ j (h1 : j < items.size) (h2 : j < items'.size), EqAt A.in1 s items[j] items'[j] (allAt (peq n) l m j) := fun j h1 h2 => by
          obtain ⟨x, hx, rx⟩ := hl.getV j items[j] (by simp [h1])
          obtain ⟨y, hy, ry⟩ := hm.getV j items'[j] (by simp [h2])
          obtain ⟨e, he⟩ := peqL_get h j x y hx hy
          have : allAt (peq n) l m j = e := by simp [allAt, hx, hy, he]
          rw [this]
          exact (ih x y e A.in1 _ _ he hus rx ry).1
        have hall : ((List.range (min items.size items'.size)).all (allAt (peq n) l m) && items.size == items'.size) = b := by
          rw [n1, n2, ← hlen, Nat.min_self, peqL_all h]; simp
        have hrc : RcAt A s (.ref a) (.ref a') b := by rw [← hall]; exact RcAt.tuples ha ha' (by lia) he
        have hne : RcNeAt A s (.ref a) (.ref a') (!b) := by rw [← hall]; exact RcNeAt.tuples ha ha' (by (clear hrc hall he hus n2 n1 h hlen h0 hm ha' hq0 hl ha hv0 hrefl ih S; omega)) he
        refine ⟨?_, hrc, hne⟩
        by_cases haa : a = a'
        · subst haa
          have := Rep.inj hv0 hq0
          cases this
          rw [hrefl b h0]
          exact EqAt.same _
        · exact EqAt.of_refs haa hrc
      · cases h
    · rename_i l m
      have hrefl := peq_refl (n + 1) (.lst l)
      have hv0 := hv
      have hq0 := hq
      rw [rep_lst] at hv hq
      obtain ⟨a, items, rfl, _, ha, hl⟩ := hv
      obtain ⟨a', items', rfl, _, ha', hm⟩ := hq
      have h0 := h
      have n1 : items.size = l.length := by rw [← hl.length]; simp
      have n2 : items'.size = m.length := by rw [← hm.length]; simp
      have hus : A.units + 1 + n < cLine := by (clear n2 n1 h0 hm ha' hq0 hl ha hv0 hrefl h ih S; omega)
      have key : RcAt A s (.ref a) (.ref a') b ∧ RcNeAt A s (.ref a) (.ref a') (!b) := by
        unfold peq at h
        split at h
        · rename_i hlen
          have he : ∀ j (h1 : j < items.size) (h2 : j < items'.size), EqAt A.in1 s items[j] items'[j] (allAt (peq n) l m j) := fun j h1 h2 => by
            obtain ⟨x, hx, rx⟩ := hl.getV j items[j] (by simp [h1])
            obtain ⟨y, hy, ry⟩ := hm.getV j items'[j] (by simp [h2])
            obtain ⟨e, he⟩ := peqL_get h j x y hx hy
            have : allAt (peq n) l m j = e := by simp [allAt, hx, hy, he]
            rw [this]
            exact (ih x y e A.in1 _ _ he hus rx ry).1
          have hall : (List.range items.size).all (allAt (peq n) l m) = b := by rw [n1, peqL_all h]
          exact ⟨by rw [← hall]; exact RcAt.lists ha ha' (by lia) (by (clear hall he h hlen hus n2 n1 h0 hm ha' hq0 hl ha hv0 hrefl ih S; omega)) he, by rw [← hall]; exact RcNeAt.lists ha ha' (by (clear hall he h hus h0 hm ha' hq0 hl ha hv0 hrefl hu ih S; omega)) (by (clear hall he h hlen hus n2 n1 h0 hm ha' hq0 hl ha hv0 hrefl ih S; omega)) he⟩
        · rename_i hlen
          cases h
          have hsz : (items.size != items'.size) = true := by rw [n1, n2]; simpa using hlen
          exact ⟨RcAt.lists_lengths ha ha' hsz (by (clear hsz h0 hlen hus n2 n1 hm ha' hq0 hl ha hv0 hrefl ih S; omega)), RcNeAt.lists_lengths ha ha' hsz (by (clear hsz h0 hlen hus n2 n1 hm ha' hq0 hl ha hv0 hrefl ih S; omega))⟩
      refine ⟨?_, key.1, key.2⟩
      by_cases haa : a = a'
      · subst haa
        have := Rep.inj hv0 hq0
        cases this
        rw [hrefl b h0]
        exact EqAt.same _
      · exact EqAt.of_refs haa key.1
end

theorem cm_eq {p q : PV} {b : Bool} (h : peq 8 p q = some b) : Cm2 .Eq p q b := fun prog w W A s v u Q E R S hv hu hQ =>
  (peq_at S 8 p q b A v u h (by have := R.unit; lia) hv hu).2.1 prog w E Q hQ
theorem cm_ne {p q : PV} {b : Bool} (h : peq 8 p q = some b) : Cm2 .NotEq p q (!b) := fun prog w W A s v u Q E R S hv hu hQ =>
  (peq_at S 8 p q b A v u h (by have := R.unit; omega) hv hu).2.2 prog w E Q hQ

theorem cm_eq_int {a b : Int} : Cm2 .Eq (.int a) (.int b) (a == b) := cm_eq (by simp [peq])
theorem cm_eq_flt {x y : UInt64} : Cm2 .Eq (.flt x) (.flt y) (Float64.cmp x y == some .eq) := fun prog w W A s v u Q E R S hv hu hQ => by
  rw [rep_flt] at hv hu; obtain ⟨t, rfl, _⟩ := hv; obtain ⟨t', rfl, _⟩ := hu
  exact AutoFloatOps.eq_0 hQ
theorem cm_le_flt {x y : UInt64} : Cm2 .LtE (.flt x) (.flt y) (Float64.cmp x y == some .lt || Float64.cmp x y == some .eq) := fun prog w W A s v u Q E R S hv hu hQ => by
  rw [rep_flt] at hv hu; obtain ⟨t, rfl, _⟩ := hv; obtain ⟨t', rfl, _⟩ := hu
  exact AutoFloatOps.le_0 hQ
theorem cm_gt_int {a b : Int} : Cm2 .Gt (.int a) (.int b) (decide (b < a)) := fun prog w W A s v u Q E R S hv hu hQ => by
  rw [rep_int] at hv hu; obtain ⟨t, rfl⟩ := hv; obtain ⟨t', rfl⟩ := hu
  exact PyProof.Rows.gt_int hQ
theorem cm_le_int {a b : Int} : Cm2 .LtE (.int a) (.int b) (decide (a ≤ b)) := fun prog w W A s v u Q E R S hv hu hQ => by
  rw [rep_int] at hv hu; obtain ⟨t, rfl⟩ := hv; obtain ⟨t', rfl⟩ := hu
  exact PyProof.Rows.le_int hQ
theorem cm_ge_int {a b : Int} : Cm2 .GtE (.int a) (.int b) (decide (b ≤ a)) := fun prog w W A s v u Q E R S hv hu hQ => by
  rw [rep_int] at hv hu; obtain ⟨t, rfl⟩ := hv; obtain ⟨t', rfl⟩ := hu
  exact PyProof.Rows.ge_int hQ

end Mine

namespace Mine
open PySem PySem.W PyProof.Rows

section
variable {g : Pg} {d : Nat} {K : Kn} {σ : Sig} {ω : Own} {c : Cx} {W : Wd} {A : Around} {s : Shared}

theorem evb_cmp {l r : Expr} {op : CmpOp} {pos : Pos} {p q : PV} {b : Bool} (h1 : Ev g d K σ ω l p) (h2 : Ev g d K σ ω r q) (h3 : Cm2 op p q b)
    (hm : behindInMarks op r = false := by with_unfolding_all rfl) : EvB g d K σ ω (.Compare l [op] [r] pos) b := fun c W A s R S =>
  wpAny_isTrue_Compare1 (h1.run R S fun v W' h' tk rv e => h2.run R (S.keeps e) fun u W'' h'' tk' ru e' =>
    h3 g.prog g.w W'' A _ v u _ _ R.zero ((S.keeps e).keeps e').sok (rv.up e') ru (wpAny_truthy_bool ⟨W'', h'', tk', rfl, rfl, e.trans e'⟩)) hm

theorem ev_cmp {l r : Expr} {op : CmpOp} {pos : Pos} {p q : PV} {b : Bool} (h1 : Ev g d K σ ω l p) (h2 : Ev g d K σ ω r q) (h3 : Cm2 op p q b)
    (hm : behindInMarks op r = false := by with_unfolding_all rfl) : Ev g d K σ ω (.Compare l [op] [r] pos) (.bool b) := fun c W A s R S =>
  wpAny_Compare1 (h1.run R S fun v W' h' tk rv e => h2.run R (S.keeps e) fun u W'' h'' tk' ru e' =>
    h3 g.prog g.w W'' A _ v u _ _ R.zero ((S.keeps e).keeps e').sok (rv.up e') ru ⟨W'', h'', tk', rfl, rep_bool.mpr rfl, e.trans e'⟩) hm

theorem evb_chain {l r1 r2 : Expr} {op1 op2 : CmpOp} {pos : Pos} {p q x : PV} {b1 b2 : Bool} (h1 : Ev g d K σ ω l p) (h2 : Ev g d K σ ω r1 q) (h3 : Cm2 op1 p q b1)
    (h4 : b1 = true → Ev g d K σ ω r2 x) (h5 : b1 = true → Cm2 op2 q x b2)
    (hm : lastMarks [op1, op2] [r1, r2] = false := by with_unfolding_all rfl) : EvB g d K σ ω (.Compare l [op1, op2] [r1, r2] pos) (b1 && b2) := fun c W A s R S => by
  refine isTrue_chain ?_ hm
  refine h1.run R S fun v W' h' tk rv e => ?_
  refine test_link (h2.run R (S.keeps e) fun u W'' h'' tk' ru e' => ?_)
  refine h3 g.prog g.w W'' A _ v u _ _ R.zero ((S.keeps e).keeps e').sok (rv.up e') ru (wpAny_truthy_bool ?_)
  cases b1 with
  | false => exact ⟨W'', h'', tk', rfl, rfl, e.trans e'⟩
  | true =>
    refine test_last ((h4 rfl).run R ((S.keeps e).keeps e') fun y W3 h3 tk3 ry e3 => ?_)
    refine h5 rfl g.prog g.w W3 A _ u y _ _ R.zero (((S.keeps e).keeps e').keeps e3).sok (ru.up e3) ry (wpAny_truthy_bool ?_)
    exact ⟨W3, h3, tk3, rfl, rfl, (e.trans e').trans e3⟩

theorem evb_and {x y : Expr} {pos : Pos} {b1 b2 : Bool} (h1 : EvB g d K σ ω x b1) (h2 : b1 = true → EvB g d K σ ω y b2) :
    EvB g d K σ ω (.BoolOp .And [x, y] pos) (b1 && b2) := fun c W A s R S => by
  refine isTrue_and (h1.run R S fun W' h' tk e => ?_)
  cases b1 with
  | false => exact ⟨W', h', tk, rfl, rfl, e⟩
  | true =>
    refine isTrue_and ((h2 rfl).run R (S.keeps e) fun W'' h'' tk' e' => ?_)
    cases b2 with
    | false => exact ⟨W'', h'', tk', rfl, rfl, e.trans e'⟩
    | true => exact isTrue_and_nil ⟨W'', h'', tk', rfl, rfl, e.trans e'⟩

theorem evb_or {x y : Expr} {pos : Pos} {b1 b2 : Bool} (h1 : EvB g d K σ ω x b1) (h2 : b1 = false → EvB g d K σ ω y b2) :
    EvB g d K σ ω (.BoolOp .Or [x, y] pos) (b1 || b2) := fun c W A s R S => by
  refine isTrue_or (h1.run R S fun W' h' tk e => ?_)
  cases b1 with
  | true => exact ⟨W', h', tk, rfl, rfl, e⟩
  | false =>
    refine isTrue_or ((h2 rfl).run R (S.keeps e) fun W'' h'' tk' e' => ?_)
    cases b2 with
    | true => exact ⟨W'', h'', tk', rfl, rfl, e.trans e'⟩
    | false => exact isTrue_or_nil ⟨W'', h'', tk', rfl, rfl, e.trans e'⟩

theorem evb_not {x : Expr} {pos : Pos} {b : Bool} (h : EvB g d K σ ω x b) : EvB g d K σ ω (.UnaryOp .Not x pos) (!b) := fun c W A s R S =>
  isTrue_not (h.run R S fun W' h' tk e => ⟨W', h', tk, rfl, rfl, e⟩)

theorem evb_plain {e : Expr} {b : Bool} (h : Ev g d K σ ω e (.bool b)) (he : ∀ env whole, isTrue e env whole = (do let v ← whole; standAt e.pos; holding [v] (truthy v)) := by intro _ _; rfl) :
    EvB g d K σ ω e b := fun c W A s R S =>
  isTrue_plain (h.run R S fun v W' h' tk r e => by
    rw [rep_bool] at r; subst r
    exact wpAny_truthy_bool ⟨W', h', tk, rfl, rfl, e⟩) (he _ _)

theorem evl_nil : EvL g d K σ ω [] [] := fun c W A s pos R S => args_nil ⟨W, s.heap, s.toks, rfl, repL_nil.mpr rfl, Up.refl S⟩
theorem evl_cons {e : Expr} {es : List Expr} {p : PV} {ps : List PV} (h1 : Ev g d K σ ω e p) (h2 : EvL g d K σ ω es ps)
    (he : ∀ env, starEach (e :: es) env = (false, eval e env) :: starEach es env := by intro _; rfl) : EvL g d K σ ω (e :: es) (p :: ps) := fun c W A s pos R S =>
  args_cons (h1.run R S fun v W' h' tk r e => h2.run R (S.keeps e) fun vs W'' h'' tk' rs e' =>
    ⟨W'', h'', tk', rfl, repL_cons.mpr ⟨v, vs, rfl, r.up e', rs⟩, e.trans e'⟩) (he _)

/-- a new sequence object -/
theorem val_tup (S : Sok W s.heap s.toks) {ps : List PV} {vs : List Value} (r : RepL W s.heap ps vs) {n : Nat} : ValPost W (.tup ps) s (.ref s.heap.objs.size) { s with heap := s.heap.push { cls := .type "tuple", data := .seq vs.toArray n } } :=
  ⟨W, _, s.toks, rfl, rep_tup.mpr ⟨_, vs.toArray, rfl, fresh_not S.valid, ⟨_, Heap.get?_push_size _ rfl, rfl, n, rfl⟩, by simpa using r.ext (ext_push _ _)⟩, up_ext S (ext_push _ _) (Nat.le_refl _)⟩
theorem val_lst (S : Sok W s.heap s.toks) {ps : List PV} {vs : List Value} (r : RepL W s.heap ps vs) {n : Nat} : ValPost W (.lst ps) s (.ref s.heap.objs.size) { s with heap := s.heap.push { cls := .type "list", data := .seq vs.toArray n } } :=
  ⟨W, _, s.toks, rfl, rep_lst.mpr ⟨_, vs.toArray, rfl, fresh_not S.valid, ⟨_, Heap.get?_push_size _ rfl, rfl, n, rfl⟩, by simpa using r.ext (ext_push _ _)⟩, up_ext S (ext_push _ _) (Nat.le_refl _)⟩

theorem ValPost.after {W W' : Wd} {p : PV} {v : Value} {s s' : Shared} {h' : Heap} {tk' : Nat} (u : Up W W' s.heap h' s.toks tk') (x : ValPost W' p { s with heap := h', toks := tk' } v s') : ValPost W p s v s' :=
  let ⟨W2, h2, tk2, e, r, u2⟩ := x; ⟨W2, h2, tk2, e, r, u.trans u2⟩

theorem few {n : Nat} (h : n ≤ 4096) : n ≤ sizeLine := Nat.le_trans h (by decide)

theorem ev_tuple {es : List Expr} {k : Nat} {pos : Pos} {ps : List PV} (h : EvL g d K σ ω es ps) (hn : ps.length ≤ 4096) : Ev g d K σ ω (.Tuple es k pos) (.tup ps) := fun c W A s R S =>
  wpAny_Tuple_spliced (h.run R S fun vs W' h' tk r e => ⟨by rw [r.length]; exact few hn, (val_tup (s := { s with heap := h', toks := tk }) (S.keeps e).sok r).after e⟩)
theorem ev_list {es : List Expr} {pos : Pos} {ps : List PV} (h : EvL g d K σ ω es ps) (hn : ps.length ≤ 4096) : Ev g d K σ ω (.List es pos) (.lst ps) := fun c W A s R S =>
  wpAny_List_spliced (h.run R S fun vs W' h' tk r e => ⟨by rw [r.length]; exact few hn, (val_lst (s := { s with heap := h', toks := tk }) (S.keeps e).sok r).after e⟩)

theorem op_add_lst {l m : List PV} (hn : l.length + m.length ≤ 4096) : Op2 .Add (.lst l) (.lst m) (.lst (l ++ m)) := fun prog w W A s v u R S hv hu => by
  rw [rep_lst] at hv hu
  obtain ⟨a, its, rfl, _, ha, hl⟩ := hv
  obtain ⟨b, its2, rfl, _, hb, hm⟩ := hu
  have n1 := hl.length
  have n2 := hm.length
  rw [Array.length_toList] at n1 n2
  obtain ⟨⟨cls, dd, data, sl⟩, ho, hc, n, hd⟩ := id ha
  obtain ⟨⟨cls2, dd2, data2, sl2⟩, ho2, hc2, n2', hd2⟩ := id hb
  simp only at hc hd hc2 hd2
  subst hc hd hc2 hd2
  refine concat_meets ⟨_, ho, rfl⟩ ⟨_, ho2, rfl⟩ noFill_list_add seq_list_add PySem.F.slot_list_add PySem.F.entry_list_add (PySem.F.args_list_add_2 _ _) (list_addW a b its its2 n n2' dd dd2 sl sl2 (by rw [n1, n2]; exact few hn)) ⟨ho, ho2, ?_⟩
  have q := val_lst S (hl.append hm) (n := 0)
  rw [show (its.toList ++ its2.toList).toArray = its ++ its2 by simp] at q
  exact q

theorem op_add_tup {l m : List PV} (h1 : l ≠ []) (h2 : m ≠ []) (hn : l.length + m.length ≤ 4096) : Op2 .Add (.tup l) (.tup m) (.tup (l ++ m)) := fun prog w W A s v u R S hv hu => by
  rw [rep_tup] at hv hu
  obtain ⟨a, its, rfl, _, ha, hl⟩ := hv
  obtain ⟨b, its2, rfl, _, hb, hm⟩ := hu
  have n1 := hl.length
  have n2 := hm.length
  rw [Array.length_toList] at n1 n2
  obtain ⟨⟨cls, dd, data, sl⟩, ho, hc, n, hd⟩ := id ha
  obtain ⟨⟨cls2, dd2, data2, sl2⟩, ho2, hc2, n2', hd2⟩ := id hb
  simp only at hc hd hc2 hd2
  subst hc hd hc2 hd2
  have e1 : ¬ its.isEmpty = true := by
    rw [Array.isEmpty_iff_size_eq_zero, n1]; exact fun e => h1 (List.length_eq_zero_iff.mp e)
  have e2 : ¬ its2.isEmpty = true := by
    rw [Array.isEmpty_iff_size_eq_zero, n2]; exact fun e => h2 (List.length_eq_zero_iff.mp e)
  refine concat_meets ⟨_, ho, rfl⟩ ⟨_, ho2, rfl⟩ noFill_tuple_add seq_tuple_add PySem.F.slot_tuple_add PySem.F.entry_tuple_add (PySem.F.args_tuple_add_2 _ _)
    (tuple_addW2 a b its its2 n n2' dd dd2 sl sl2 e1 e2 (by rw [n1, n2]; exact few hn)) ⟨ho, ho2, ?_⟩
  have q := val_tup S (hl.append hm) (n := 0)
  rw [show (its.toList ++ its2.toList).toArray = its ++ its2 by simp] at q
  exact q

/-- an item by its number, from the front or from behind -/
noncomputable def pidx (l : List PV) (k : Int) : Option PV := if 0 ≤ k then l[k.toNat]? else if -(l.length : Int) ≤ k then l[(k + l.length).toNat]? else Option.none

theorem getItem_lst (S : Sok W s.heap s.toks) {l : List PV} {k : Int} {x : PV} (hx : pidx l k = some x) (hn : l.length ≤ 4096) {a : Addr} {its : Array Value} {t : Tok} (ha : s.heap.IsList a its) (hl : RepL W s.heap l its.toList)
    {prog : Program} {w : World} {E : Value → Shared → Prop} {Q : Value → Shared → Prop} (hQ : ∀ v, Rep W s.heap x v → Q v s) : wpAny (model prog w) A (getItem (.ref a) (.int k t)) Q E s := by
  have n1 := hl.length
  rw [Array.length_toList] at n1
  unfold pidx at hx
  split at hx
  · rename_i h0
    obtain ⟨v, hv, rv⟩ := hl.get k.toNat x hx
    have hlt : k.toNat < l.length := by
      rcases Nat.lt_or_ge k.toNat l.length with h | h
      · exact h
      · rw [List.getElem?_eq_none h] at hx; cases hx
    exact wpAny_getItem_list ha h0 (by lia) (by simpa using hv) (hQ v rv)
  · split at hx
    · rename_i h0 h1
      obtain ⟨v, hv, rv⟩ := hl.get _ x hx
      exact wpAny_getItem_list_neg ha (by lia) (by lia) (by lia) (by rw [n1]; simpa using hv) (hQ v rv)
    · cases hx

theorem tail_lst {value slice : Expr} (S : Sok W s.heap s.toks) {l : List PV} {k : Int} {x : PV} (hx : pidx l k = some x) (hn : l.length ≤ 4096) {a : Addr} {its : Array Value} {t : Tok} (ha : s.heap.IsList a its) (hl : RepL W s.heap l its.toList)
    {prog : Program} {w : World} {E : Value → Shared → Prop} {Q : Value → Shared → Prop} (hQ : ∀ v, Rep W s.heap x v → Q v s) (hs : ∀ o i, subscripted slice false o i = operate [o, i] (getItem o i)) :
    wpAny (model prog w) A (subscriptTail value slice (.ref a) (.int k t)) Q E s := by
  unfold subscriptTail
  refine wpAny_bind ?_
  rw [getitemInPython_of_ne (by intro e; cases e)]
  refine wpAny_bind (wpAny_specialOf ha.typeIs list_getitem_lookup ?_)
  have fin : wpAny (model prog w) A (subscripted slice false (.ref a) (.int k t)) (fun r s₃ => wpAny (model prog w) A (letTemporaryGo value (.ref a) r >>= fun _ => pure r) Q E s₃) E s := by
    rw [hs]
    exact wpAny_operating (getItem_lst S hx hn ha hl fun v rv => wpAny_bind (wpAny_letTemporaryGo (wpAny_pure (hQ v rv))))
  first
    | exact wpAny_pure (wpAny_bind fin)
    | exact wpAny_bind (wpAny_pure (wpAny_bind fin))
    | exact wpAny_bind fin

theorem ev_idx {value slice : Expr} {pos : Pos} {l : List PV} {k : Int} {x : PV} (h1 : Ev g d K σ ω value (.lst l)) (h2 : Ev g d K σ ω slice (.int k)) (hx : pidx l k = some x) (hn : l.length ≤ 4096)
    (hs : ∀ o i, subscripted slice false o i = operate [o, i] (getItem o i) := by intro _ _; rfl) : Ev g d K σ ω (.Subscript value slice pos) x := fun c W A s R S =>
  Subscript_ (h1.run R S fun v W' h' tk rv e => h2.run R (S.keeps e) fun u W'' h'' tk' ru e' => by
    obtain ⟨a, its, rfl, _, ha, hl⟩ := rep_lst.mp (rv.up e')
    obtain ⟨t, rfl⟩ := rep_int.mp ru
    exact tail_lst (s := { s with heap := h'', toks := tk' }) ((S.keeps e).keeps e').sok hx hn ha hl (fun v r => ⟨W'', h'', tk', rfl, r, e.trans e'⟩) hs)

theorem ev_idxT {value slice : Expr} {pos : Pos} {l : List PV} {k : Nat} {x : PV} (h1 : Ev g d K σ ω value (.tup l)) (h2 : Ev g d K σ ω slice (.int k)) (hx : l[k]? = some x) (hn : l.length ≤ 4096)
    (hs : ∀ o i, subscripted slice false o i = operate [o, i] (getItem o i) := by intro _ _; rfl) : Ev g d K σ ω (.Subscript value slice pos) x := fun c W A s R S =>
  Subscript_ (h1.run R S fun v W' h' tk rv e => h2.run R (S.keeps e) fun u W'' h'' tk' ru e' => by
    obtain ⟨a, its, rfl, _, ha, hl⟩ := rep_tup.mp (rv.up e')
    obtain ⟨t, rfl⟩ := rep_int.mp ru
    obtain ⟨v, hv, r⟩ := hl.get k x hx
    have n1 := hl.length
    rw [Array.length_toList] at n1
    have hlt : k < l.length := by
      rcases Nat.lt_or_ge k l.length with h | h
      · exact h
      · rw [List.getElem?_eq_none h] at hx; cases hx
    have fin : wpAny (model g.prog g.w) A (getItem (.ref a) (.int k t)) (fun r s₃ => wpAny (model g.prog g.w) A (letTemporaryGo value (.ref a) r >>= fun _ => pure r) (ValPost W x s) (fun _ _ => False) s₃) (fun _ _ => False) { s with heap := h'', toks := tk' } :=
      PyProof.Rows.getItem_tuple (j := k) ha (by lia) (by lia) (by rw [seqIndex_of (by lia) (by lia)]; simp) (by simpa using hv)
        (wpAny_bind (wpAny_letTemporaryGo (wpAny_pure ⟨W'', h'', tk', rfl, r, e.trans e'⟩)))
    unfold subscriptTail
    refine wpAny_bind ?_
    rw [getitemInPython_of_ne (by intro e; cases e)]
    refine wpAny_bind (wpAny_specialOf (T := "tuple") (let ⟨o, ho, hc, _⟩ := ha; ⟨o, ho, hc⟩) slot_tuple_getitem.lookup ?_)
    have fin' : wpAny (model g.prog g.w) A (subscripted slice false (.ref a) (.int k t)) (fun r s₃ => wpAny (model g.prog g.w) A (letTemporaryGo value (.ref a) r >>= fun _ => pure r) (ValPost W x s) (fun _ _ => False) s₃) (fun _ _ => False) { s with heap := h'', toks := tk' } := by
      rw [hs]; exact wpAny_operating fin
    first
      | exact wpAny_pure (wpAny_bind fin')
      | exact wpAny_bind (wpAny_pure (wpAny_bind fin'))
      | exact wpAny_bind fin')
end

end Mine

namespace Mine
open PySem PySem.W PyProof.Rows

inductive Fl where
  | next | brk | cont
  | ret (p : PV)

noncomputable def FlRep (W : Wd) (h : Heap) : Fl → Flow → Prop
  | .next, f => f = .next
  | .brk, f => f = .brk
  | .cont, f => f = .cont
  | .ret p, f => ∃ v, f = .ret v ∧ Rep W h p v

structure Later (W W' : Wd) (h h' : Heap) (tk tk' : Nat) : Prop where
  mod : Mod W.O h h'
  grow : Grow W W' h
  le : tk ≤ tk'

theorem Later.trans {W W' W'' : Wd} {h h' h'' : Heap} {a b e : Nat} (x : Later W W' h h' a b) (y : Later W' W'' h' h'' b e) : Later W W'' h h'' a e :=
  ⟨x.mod.trans x.grow.o y.mod, x.grow.trans y.grow x.mod, Nat.le_trans x.le y.le⟩
theorem Up.later {W W' : Wd} {h h' : Heap} {a b : Nat} (u : Up W W' h h' a b) : Later W W' h h' a b := ⟨u.ext.mod, u.grow, u.le⟩
theorem Later.refl (W : Wd) (h : Heap) (a : Nat) : Later W W h h a a := ⟨Mod.refl _ _, Grow.refl _ _, Nat.le_refl _⟩
theorem Later.of_mod {W : Wd} {h h' : Heap} {a b : Nat} (m : Mod W.O h h') (e : a ≤ b) : Later W W h h' a b := ⟨m, Grow.refl _ _, e⟩

noncomputable abbrev PostT := Fl → Sig → Own → Prop

noncomputable def ExPost (g : Pg) (c : Cx) (K : Kn) (W : Wd) (P : PostT) (s : Shared) (f : Flow) (s' : Shared) : Prop :=
  ∃ fl σ' ω' W' h' tk', s' = { s with heap := h', toks := tk' } ∧ P fl σ' ω' ∧ FlRep ⟨c.O, W'.T⟩ h' fl f ∧ St g c K W' σ' ω' h' tk' ∧ Later W W' s.heap h' s.toks tk'

section judge
variable (g : Pg) (d : Nat) (K : Kn) (σ : Sig) (ω : Own)
noncomputable def Ex1 (st : Stmt) (P : PostT) : Prop :=
  ∀ (c : Cx) (W : Wd) (A : Around) (s : Shared), Room d A → St g c K W σ ω s.heap s.toks →
    wpAny (model g.prog g.w) A (exec st c.env) (ExPost g c K W P s) (fun _ _ => False) s
noncomputable def Ex (ss : List Stmt) (P : PostT) : Prop :=
  ∀ (c : Cx) (W : Wd) (A : Around) (s : Shared), Room d A → St g c K W σ ω s.heap s.toks →
    wpAny (model g.prog g.w) A (execs ss c.env) (ExPost g c K W P s) (fun _ _ => False) s
end judge

section
variable {g : Pg} {d : Nat} {K : Kn} {σ : Sig} {ω : Own} {c : Cx} {W : Wd} {A : Around} {s : Shared} {P : PostT}

theorem ExPost.after {W' : Wd} {f : Flow} {s' : Shared} {h' : Heap} {tk' : Nat} (l : Later W W' s.heap h' s.toks tk') (x : ExPost g c K W' P { s with heap := h', toks := tk' } f s') : ExPost g c K W P s f s' :=
  let ⟨fl, σ', ω', W2, h2, tk2, e, p, r, S, l2⟩ := x; ⟨fl, σ', ω', W2, h2, tk2, e, p, r, S, l.trans l2⟩

theorem Ex.run {ss : List Stmt} {W' : Wd} {h' : Heap} {tk' : Nat} (H : Ex g d K σ ω ss P) (R : Room d A) (S : St g c K W' σ ω h' tk') (l : Later W W' s.heap h' s.toks tk') {E : Value → Shared → Prop} :
    wpAny (model g.prog g.w) A (execs ss c.env) (ExPost g c K W P s) E { s with heap := h', toks := tk' } :=
  wpAny_mono (H c W' A { s with heap := h', toks := tk' } R S) (fun f s' x => x.after l) fun _ _ f => f.elim

theorem ex_nil (h : P .next σ ω) : Ex g d K σ ω [] P := fun c W A s R S =>
  wpAny_execs_nil ⟨.next, σ, ω, W, s.heap, s.toks, rfl, h, rfl, S, Later.refl _ _ _⟩

/-- what follows a statement -/
noncomputable def seqP (g : Pg) (d : Nat) (K : Kn) (rest : List Stmt) (P : PostT) : PostT := fun fl σ' ω' => match fl with
  | .next => Ex g d K σ' ω' rest P
  | fl => P fl σ' ω'

theorem ex_cons {st : Stmt} {rest : List Stmt} (h : Ex1 g d K σ ω st (seqP g d K rest P)) : Ex g d K σ ω (st :: rest) P := fun c W A s R S => by
  refine wpAny_execs_cons (wpAny_mono (h c W A s R S) (fun f s' x => ?_) fun _ _ f => f)
  obtain ⟨fl, σ', ω', W', h', tk', rfl, p, r, S', l⟩ := x
  cases fl with
  | next => cases r; exact Ex.run p R S' l
  | brk => cases r; exact ⟨.brk, σ', ω', W', h', tk', rfl, p, rfl, S', l⟩
  | cont => cases r; exact ⟨.cont, σ', ω', W', h', tk', rfl, p, rfl, S', l⟩
  | ret q => obtain ⟨v, rfl, hv⟩ := r; exact ⟨.ret q, σ', ω', W', h', tk', rfl, p, ⟨v, rfl, hv⟩, S', l⟩

theorem Ex.mono {ss : List Stmt} {P' : PostT} (h : Ex g d K σ ω ss P) (hp : ∀ fl σ' ω', P fl σ' ω' → P' fl σ' ω') : Ex g d K σ ω ss P' := fun c W A s R S =>
  wpAny_mono (h c W A s R S) (fun f s' ⟨fl, σ', ω', W', h', tk', e, p, x⟩ => ⟨fl, σ', ω', W', h', tk', e, hp _ _ _ p, x⟩) fun _ _ f => f
theorem Ex.less {ss : List Stmt} {σ' : Sig} {ω' : Own} (h : Ex g d K σ' ω' ss P) (h1 : ∀ x p, σ'.lookup x = some p → σ.lookup x = some p) (h2 : ∀ x l, ω'.lookup x = some l → ω.lookup x = some l) : Ex g d K σ ω ss P :=
  fun c W A s R S => h c W A s R (S.less h1 h2)

/-- the value of a plain assignment is not handed over in another order -/
theorem ex1_return {e : Expr} {pos : Pos} {p : PV} (h : Ev g d K σ ω e p) (hP : P (.ret p) σ ω) : Ex1 g d K σ ω (.Return (some e) pos) P := fun c W A s R S =>
  wpAny_Return_some (h.run R S fun v W' h' tk' r u => ⟨.ret p, σ, ω, W', h', tk', rfl, hP, ⟨v, rfl, Rep.weaken (W := W') (W' := ⟨c.O, W'.T⟩) (S.keeps u).sub (fun _ => rfl) r⟩, S.keeps u, u.later⟩)

theorem ex1_if {t : Expr} {body orelse : List Stmt} {pos : Pos} {b : Bool} (h : EvB g d K σ ω t b) (h1 : b = true → Ex g d K σ ω body P) (h2 : b = false → Ex g d K σ ω orelse P) :
    Ex1 g d K σ ω (.If t body orelse pos) P := fun c W A s R S => by
  refine wpAny_If (h.run R S fun W' h' tk' u => ?_)
  cases b with
  | true => exact (h1 rfl).run R (S.keeps u) u.later
  | false => exact (h2 rfl).run R (S.keeps u) u.later

theorem ex1_break {pos : Pos} (hP : P .brk σ ω) : Ex1 g d K σ ω (.Break pos) P := fun c W A s R S =>
  wpAny_Break ⟨.brk, σ, ω, W, s.heap, s.toks, rfl, hP, rfl, S, Later.refl _ _ _⟩

theorem ex1_assign {x : Str} {pos pos' : Pos} {e : Expr} {p : PV} (h : Ev g d K σ ω e p) (hK : K.lookup x = some .local ∨ K.lookup x = some .cell) (hω : ω.lookup x = Option.none)
    (hP : P .next ((x, p) :: σ) ω) (hs : ∀ env line, swapsWith e (some (.Name x pos')) line env = pure false := by intro _ _; rfl) :
    Ex1 g d K σ ω (.Assign [.Name x pos'] e pos) P := fun c W A s R S =>
  wpAny_Assign_Name (h.run R S fun v W' h' tk' r u => (S.keeps u).store (s := { s with heap := h', toks := tk' }) hK hω r fun h2 tk2 S2 m le =>
    ⟨.next, _, ω, W', h2, tk2, rfl, hP, rfl, S2, u.later.trans (Later.of_mod m.any le)⟩) (hs _ _)

end

section bind
theorem bindL_other {ko : Str → Option NameKind} : ∀ {binds : List (Str × Value)} {m : Str → Option Value} {x : Str}, x ∉ binds.map (·.1) → bindL ko binds m x = m x
  | [], m, x, _ => rfl
  | (n, v) :: r, m, x, h => by
    unfold bindL
    rw [bindL_other (fun e => h (List.mem_cons_of_mem _ e))]
    split
    · exact if_neg (fun e => h (by rw [e]; exact List.mem_cons_self))
    · rfl
theorem bindC_other {ko : Str → Option NameKind} : ∀ {binds : List (Str × Value)} {m : Str → Option Value} {x : Str}, x ∉ binds.map (·.1) → bindC ko binds m x = m x
  | [], m, x, _ => rfl
  | (n, v) :: r, m, x, h => by
    unfold bindC
    rw [bindC_other (fun e => h (List.mem_cons_of_mem _ e))]
    split
    · rfl
    · exact if_neg (fun e => h (by rw [e]; exact List.mem_cons_self))
theorem bindL_get {ko : Str → Option NameKind} : ∀ {binds : List (Str × Value)} {m : Str → Option Value} {x : Str} {v : Value}, (binds.map (·.1)).Nodup → binds.lookup x = some v → ko x = some .local → bindL ko binds m x = some v
  | [], m, x, v, _, h, _ => by simp at h
  | (n, u) :: r, m, x, v, hn, h, hk => by
    rw [List.map_cons, List.nodup_cons] at hn
    unfold bindL
    rw [List.lookup_cons] at h
    cases hb : x == n with
    | true =>
      rw [hb] at h; cases h
      have e := beq_iff_eq.mp hb
      subst e
      rw [bindL_other hn.1, if_pos hk]; simp
    | false =>
      rw [hb] at h
      exact bindL_get hn.2 h hk
theorem bindC_get {ko : Str → Option NameKind} : ∀ {binds : List (Str × Value)} {m : Str → Option Value} {x : Str} {v : Value}, (binds.map (·.1)).Nodup → binds.lookup x = some v → ko x ≠ some .local → bindC ko binds m x = some v
  | [], m, x, v, _, h, _ => by simp at h
  | (n, u) :: r, m, x, v, hn, h, hk => by
    rw [List.map_cons, List.nodup_cons] at hn
    unfold bindC
    rw [List.lookup_cons] at h
    cases hb : x == n with
    | true =>
      rw [hb] at h; cases h
      have e := beq_iff_eq.mp hb
      subst e
      rw [bindC_other hn.1, if_neg hk]; simp
    | false =>
      rw [hb] at h
      exact bindC_get hn.2 h hk

theorem zip_lookup {W : Wd} {h : Heap} : ∀ {ns : List Str} {ps : List PV} {vs : List Value} {x : Str} {p : PV}, RepL W h ps vs → (ns.zip ps).lookup x = some p → ∃ v, (ns.zip vs).lookup x = some v ∧ Rep W h p v
  | [], ps, vs, x, p, _, e => by simp at e
  | n :: ns, [], vs, x, p, _, e => by simp at e
  | n :: ns, q :: ps, vs, x, p, r, e => by
    rw [repL_cons] at r
    obtain ⟨v, vs', rfl, hq, hr⟩ := r
    rw [List.zip_cons_cons, List.lookup_cons] at e ⊢
    cases hb : x == n with
    | true => rw [hb] at e; cases e; exact ⟨v, rfl, hq⟩
    | false => rw [hb] at e; exact zip_lookup hr e

theorem cellsFrom_has : ∀ {names : List (Str × NameKind)} {n : Nat} {acc : List (Str × Addr)} {x : Str}, ((x, NameKind.cell) ∈ names ∨ (acc.lookup x).isSome = true) → ((cellsFrom n names acc).lookup x).isSome = true
  | [], n, acc, x, h => by
    rcases h with h | h
    · cases h
    · exact h
  | (name, kind) :: r, n, acc, x, h => by
    unfold cellsFrom
    split
    · rename_i hk
      refine cellsFrom_has ?_
      rcases h with h | h
      · rcases List.mem_cons.mp h with e | h
        · cases e; right; simp
        · exact .inl h
      · right
        rw [List.lookup_cons]
        cases x == name with
        | true => rfl
        | false => exact h
    · rename_i hk
      refine cellsFrom_has ?_
      rcases h with h | h
      · rcases List.mem_cons.mp h with e | h
        · cases e; exact absurd rfl hk
        · exact .inl h
      · exact .inr h
end bind

/-- a def of the text, called with these values, gives that one -/
structure Plain (it : DefItem) (n : Nat) : Prop where
  dflt : it.params.defaults = []
  bind : ∀ (pm cd doc : Value) (vs : List Value), vs.length = n → bindArgs (Calls.docDef it.name it.params it.body it.scope pm cd doc) ⟨vs, []⟩ = pure ((it.params.args.map (·.arg)).zip vs)
  kind : it.scope.kind = .function
  gen : it.scope.isGenerator = false
  co : it.scope.isCoroutine = false
  pars : ∀ x ∈ it.params.args.map (·.arg), it.scope.names.lookup x = some .local ∨ it.scope.names.lookup x = some .cell
  nodup : (it.params.args.map (·.arg)).Nodup
  free : ∀ y ∈ it.scope.names, y.2 ≠ .free
  len : it.params.args.length = n

noncomputable def Fn (g : Pg) (d : Nat) (it : DefItem) (ps : List PV) (p : PV) : Prop :=
  Ex g d it.scope.names ((it.params.args.map (·.arg)).zip ps) [] it.body (fun fl _ _ => fl = .ret p ∨ (fl = .next ∧ p = .none))

section
variable {g : Pg} {d : Nat} {K : Kn} {σ : Sig} {ω : Own} {c : Cx} {W : Wd} {A : Around} {s : Shared}

theorem lookup_mem_kinds {names : List (Str × NameKind)} {x : Str} {k : NameKind} (h : names.lookup x = some k) : (x, k) ∈ names := mem_of_lookup h

theorem call_fn {it : DefItem} {ps : List PV} {p : PV} (F : Fn g d it ps p) (pl : Plain it ps.length) (R : Room (d + 1) A) (S : Sok W s.heap s.toks) (ok : g.Ok s.heap) {a : Addr} {o : Obj} {pm cd doc : Value}
    (ho : s.heap.get? a = some o) (hd : o.data = .func (Calls.docDef it.name it.params it.body it.scope pm cd doc)) (hcd : s.heap.CodeRec cd it.name) {vs : List Value} (rv : RepL W s.heap ps vs) :
    wpAny (model g.prog g.w) A (call (.ref a) vs) (ValPost W p s) (fun _ _ => False) s := by
  have hlen := rv.length
  have hroom : A.depth < recursionLimit := by have := R.dep; lia
  refine wpAny_call ?_
  refine codeAny_call_function (fd := Calls.docDef it.name it.params it.body it.scope pm cd doc) hroom ho hd pl.co pl.gen rfl hcd ?_
  rw [pl.bind pm cd doc vs hlen]
  have hkind : ∀ x ∈ (it.params.args.map (·.arg)).zip vs, it.scope.names.lookup x.1 = some .local ∨ (it.scope.names.lookup x.1 = some .cell ∧ ((cellsFrom (s.heap.objs.size + 1) it.scope.names []).lookup x.1).isSome = true) := fun x hx => by
    have hm : x.1 ∈ it.params.args.map (·.arg) := (List.of_mem_zip (a := x.1) (b := x.2) hx).1
    rcases pl.pars _ hm with h | h
    · exact .inl h
    · exact .inr ⟨h, cellsFrom_has (.inl (lookup_mem_kinds h))⟩
  have hnodup : (((it.params.args.map (·.arg)).zip vs).map (·.1)).Nodup := by
    have e : ((it.params.args.map (·.arg)).zip vs).map (·.1) = it.params.args.map (·.arg) := by
      rw [← List.unzip_fst, List.unzip_zip_left]
      rw [List.length_map, pl.len, hlen]; exact Nat.le_refl _
    rw [e]; exact pl.nodup
  refine wpAny_pure (wpAny_with_toks (n := s.toks) (Nat.le_refl _) (wpAny_newFunctionEnv_cells pl.kind hkind fun env he s' x htk => ?_))
  obtain ⟨h₁, tk₁, rfl⟩ := x.toInCall.same
  have keep := x.toInCall.keep
  refine ⟨S.nolimit.keeps keep, codeAny_func ?_⟩
  have hsc : env.scope = it.scope := by rw [he]; rfl
  have hloc : env.locals = s.heap.objs.size := by rw [he]; rfl
  have hcells : env.cells = cellsFrom (s.heap.objs.size + 1) it.scope.names [] := by rw [he]; rfl
  have St0 : St g ⟨env, s.heap, W.O⟩ it.scope.names W ((it.params.args.map (·.arg)).zip ps) [] h₁ tk₁ := by
    refine ⟨keep, ok, by rw [hsc]; exact pl.kind, by rw [he]; rfl, by rw [he]; rfl, ⟨_, x.toInCall.ns⟩, ?_, ?_, ?_, ?_, x.apart, ?_, ⟨fun _ => 0, fun _ _ e => by simp at e, fun _ _ _ e => by simp at e⟩, fun a ha => ha, ?_, ?_, Nat.lt_of_lt_of_le S.pos htk⟩
    · rw [hloc]; exact get_fresh _
    · intro y kd hy; left; unfold Env.kindOf; rw [hsc]; exact hy
    · intro y hy
      rcases hy with hy | hy
      · have := cellsFrom_has (n := s.heap.objs.size + 1) (acc := []) (.inl (lookup_mem_kinds hy))
        obtain ⟨k, hk⟩ := Option.isSome_iff_exists.mp this
        exact ⟨k, _, by rw [hcells]; exact hk, x.cell y k (by rw [hcells]; exact hk)⟩
      · exact absurd rfl (pl.free _ (lookup_mem_kinds hy))
    · intro y k hy hk
      have := x.above y k (mem_of_lookup hk)
      rw [hloc] at this
      cases e : s.heap.get? k with
      | none => rfl
      | some o' => exact absurd (Heap.lt_size e) (Nat.not_lt.mpr (Nat.le_of_lt this))
    · intro y q hq
      obtain ⟨v, hv, hr⟩ := zip_lookup rv hq
      refine ⟨v, ?_, hr.ext keep⟩
      have hm : y ∈ it.params.args.map (·.arg) := (List.of_mem_zip (mem_of_lookup hq)).1
      rcases pl.pars _ hm with h | h
      · exact .inl ⟨h, _, x.toInCall.ns, bindL_get hnodup hv (by unfold Env.kindOf; rw [hsc]; exact h)⟩
      · right
        refine ⟨.inl h, ?_⟩
        have := cellsFrom_has (n := s.heap.objs.size + 1) (acc := []) (.inl (lookup_mem_kinds h))
        obtain ⟨k, hk⟩ := Option.isSome_iff_exists.mp this
        refine ⟨k, by rw [hcells]; exact hk, ?_⟩
        have hc := x.cell y k (by rw [hcells]; exact hk)
        rw [bindC_get hnodup hv (by unfold Env.kindOf; rw [hsc, h]; exact fun e => by cases e)] at hc
        exact hc
    · intro a ha; obtain ⟨o', ho'⟩ := S.valid a ha; exact ⟨o', keep _ _ ho'⟩
    · intro t y e; exact ⟨(S.tok t y e).1, Nat.lt_of_lt_of_le (S.tok t y e).2 htk⟩
  refine wpAny_mono (F ⟨env, s.heap, W.O⟩ W (A.deeper env) { s with heap := h₁, toks := tk₁ } (R.deeper env) St0) (fun f s' x => ?_) fun _ _ f => f.elim
  obtain ⟨fl, σ', ω', W', h', tk', rfl, hp, hr, S', l⟩ := x
  have up : Up W ⟨W.O, W'.T⟩ s.heap h' s.toks tk' := ⟨S'.ext, rfl, fun t y e => l.grow.t t y e, S'.tok, Nat.le_trans htk l.le⟩
  rcases hp with rfl | ⟨rfl, rfl⟩
  · obtain ⟨v, rfl, hv⟩ := hr
    exact ⟨⟨W.O, W'.T⟩, h', tk', rfl, hv, up⟩
  · cases hr
    exact ⟨⟨W.O, W'.T⟩, h', tk', rfl, rep_none.mpr rfl, up⟩

/-- a name of the module's top -/
theorem eval_global (S : St g c K W σ ω s.heap s.toks) {x : Str} {pos : Pos} (hK : K.lookup x = some .globalImplicit) {Q : Value → Shared → Prop} {E : Value → Shared → Prop}
    (h : wpAny (model g.prog g.w) A (loadGlobal c.env x) Q E s) (hd : (x == ("__debug__" : Str)) = false) : wpAny (model g.prog g.w) A (eval (.Name x pos) c.env) Q E s := by
  have hk : c.env.kindOf x = some .globalImplicit := by rcases S.known x _ hK with h1 | ⟨h1, _⟩; exact h1; cases h1
  exact Calls.Name_function_global S.kind hk h hd

theorem ev_call {it : DefItem} {e : Expr} {es : List Expr} {ps : List PV} {p : PV} {pos pos' : Pos} (hm : it ∈ g.defs) (hK : K.lookup it.name = some .globalImplicit) (ha : EvL g (d + 1) K σ ω (e :: es) ps)
    (F : Fn g d it ps p) (pl : Plain it ps.length) (he : ∀ env, starEach (e :: es) env = (false, eval e env) :: starEach es env := by intro _; rfl) (hd : (it.name == ("__debug__" : Str)) = false := by decide) :
    Ev g (d + 1) K σ ω (.Call (.Name it.name pos) (e :: es) [] pos') p := fun c W A s R S => by
  refine Call_ (eval_global S hK ?_ hd)
  obtain ⟨⟨N, mg, mb, G⟩, _⟩ := S.okNow
  obtain ⟨f, c', o, pm, doc, _, _, h3, h4, h5, h6⟩ := (G.made it hm).plain pl.dflt
  refine Calls.loadGlobal_global (mg := mg) (by rw [S.globals]; exact G.g) h3 ?_
  refine callWith_def h5 ?_ (he _)
  refine ha.run R S fun vs W' h' tk' r u => ⟨u.ext _ _ h4, ?_⟩
  refine wpAny_mono (call_fn (s := { s with heap := h', toks := tk' }) F pl R (S.keeps u).sok (S.keeps u).okNow (u.ext _ _ h4) h5 (h6.keeps u.ext) r) (fun v s' x => x.after u) fun _ _ f => f
end

end Mine

namespace Mine
open PySem PySem.W PyProof.Rows

theorem fields_not_seq {o : Obj} {vs : Array Value} (h : o.data = .fields vs) : ¬ IsSeq o := by
  unfold IsSeq; rw [h]; exact fun x => x

/-- an iterator that stands and is to give these -/
inductive ItAt (W : Wd) (h : Heap) (I : Addr) : Bool → List Addr → List PV → Prop
  | list {ax : Addr} {items : Array Value} {i : Nat} {ps : List PV} (hne : ax ≠ I) (hO : ¬ W.O ax) (hit : h.IsListIter I ax i) (hl : h.IsList ax items) (r : RepL W h ps (items.toList.drop i)) :
      ItAt W h I false [I] ps
  | range {x cc : Int} {n : Nat} {ps : List PV} (hit : IsRangeIter h I x n cc) (hp : ps = (List.range n).map fun j => .int (x + (j : Int) * cc)) : ItAt W h I false [I] ps
  | enum {it ax : Addr} {items : Array Value} {i : Nat} {old : Value} {qs : List PV} (h1 : I ≠ it) (h2 : ax ≠ I) (h3 : ax ≠ it) (hO : ¬ W.O ax) (he : IsEnum h I it i old) (hit : h.IsListIter it ax i) (hl : h.IsList ax items)
      (r : RepL W h qs (items.toList.drop i)) {ps : List PV} (hp : ps = (qs.zipIdx i).map fun x => .tup [.int x.2, x.1]) : ItAt W h I true [I, it] ps

noncomputable def KeepFp (fp : List Addr) (h h' : Heap) : Prop := ∀ b o, b ∉ fp → h.get? b = some o → h'.get? b = some o

/-- the iterator's own objects -/
noncomputable def FpOk (W : Wd) (h : Heap) (fp : List Addr) : Prop := ∀ b ∈ fp, ¬ W.O b ∧ ∃ o vs, h.get? b = some o ∧ o.data = .fields vs

theorem FpOk.modS {W : Wd} {h h' : Heap} {fp : List Addr} (f : FpOk W h fp) (k : KeepFp fp h h') : ModS W.O h h' := fun b o e _ hs => by
  refine k b o (fun hb => ?_) e
  obtain ⟨_, o', vs, e', hd⟩ := f b hb
  rw [e] at e'; cases e'
  exact fields_not_seq hd hs

theorem stays_fields {o : Obj} {vs : Array Value} (h : o.data = .fields vs) : Stays o := by unfold Stays; rw [h]; trivial
theorem stays_seq {o : Obj} {vs : Array Value} {n : Nat} (h : o.data = .seq vs n) : Stays o := by unfold Stays; rw [h]; trivial

section
variable {W W' : Wd} {h h' : Heap} {I : Addr} {en : Bool} {fp : List Addr} {ps : List PV}

theorem ItAt.mono (x : ItAt W h I en fp ps) (f : FpOk W h fp) (m : Mod W.O h h') (gr : Grow W W' h) : ItAt W' h' I en fp ps ∧ FpOk W' h' fp := by
  have F : FpOk W' h' fp := fun b hb => by
    obtain ⟨h1, o, vs, e, hd⟩ := f b hb
    exact ⟨fun q => (gr.o.2 b q).elim h1 fun hn => (by rw [e] at hn; cases hn), o, vs, m.keep b o e h1 (stays_fields hd), hd⟩
  refine ⟨?_, F⟩
  have keepF : ∀ b ∈ fp, ∀ o, h.get? b = some o → h'.get? b = some o := fun b hb o e => by
    obtain ⟨h1, o', vs, e', hd⟩ := f b hb
    rw [e] at e'; cases e'
    exact m.keep b _ e h1 (stays_fields hd)
  have keepL : ∀ a items, ¬ W.O a → h.IsList a items → h'.IsList a items := fun a items hO ⟨o, ho, hc, n, hd⟩ => ⟨o, m.keep a o ho hO (stays_seq hd), hc, n, hd⟩
  have growO : ∀ a items, ¬ W.O a → h.IsList a items → ¬ W'.O a := fun a items hO ⟨o, ho, _⟩ q => (gr.o.2 a q).elim hO fun hn => by rw [ho] at hn; cases hn
  cases x with
  | list hne hO hit hl r =>
    obtain ⟨o, ho, hr⟩ := hit
    exact .list hne (growO _ _ hO hl) ⟨o, keepF _ (by simp) o ho, hr⟩ (keepL _ _ hO hl) (r.mono m.seq gr)
  | range hit hp => exact .range (keepF _ (by simp) _ hit) hp
  | enum h1 h2 h3 hO he hit hl r hp =>
    obtain ⟨o, ho, hr⟩ := hit
    exact .enum h1 h2 h3 (growO _ _ hO hl) (keepF _ (by simp) _ he) ⟨o, keepF _ (by simp) o ho, hr⟩ (keepL _ _ hO hl) (r.mono m.seq gr) hp
end

section
variable {g : Pg} {d : Nat} {K : Kn} {σ : Sig} {ω : Own} {c : Cx} {W : Wd} {A : Around} {s : Shared} {h h' : Heap} {tk tk' : Nat} {I : Addr} {en : Bool} {fp : List Addr} {ps : List PV}

theorem St.turn (S : St g c K W σ ω h tk) (k : KeepFp fp h h') (f : FpOk W h fp) (hb : ∀ b ∈ fp, c.base.get? b = Option.none) (hle : tk ≤ tk') : St g c K W σ ω h' tk' := by
  have ms := f.modS k
  have ns : ∀ a m, h.Ns a m → h'.Ns a m := fun a m hn => by
    obtain ⟨o, es, ep, e, hd, hr⟩ := hn
    refine ⟨o, es, ep, k a o (fun hm => ?_) e, hd, hr⟩
    obtain ⟨_, o', vs, e', hd'⟩ := f a hm
    rw [e] at e'; cases e'; rw [hd] at hd'; cases hd'
  have cell : ∀ a v, h.IsCell a v → h'.IsCell a v := fun a v hc => by
    obtain ⟨o, e, hd⟩ := hc
    refine ⟨o, k a o (fun hm => ?_) e, hd⟩
    obtain ⟨_, o', vs, e', hd'⟩ := f a hm
    rw [e] at e'; cases e'; rw [hd] at hd'; cases hd'
  have loc : ∀ y v, Loc K c.env h y v → Loc K c.env h' y v := fun y v l => by
    rcases l with ⟨hk, m, hn, hm⟩ | ⟨hk, q, hc, hv⟩
    · exact .inl ⟨hk, m, ns _ _ hn, hm⟩
    · exact .inr ⟨hk, q, hc, cell _ _ hv⟩
  refine ⟨fun b o e => k b o (fun hm => by rw [hb b hm] at e; cases e) (S.ext b o e), S.ok, S.kind, S.globals, S.builtins, let ⟨m, hm⟩ := S.ns; ⟨m, ns _ _ hm⟩, S.lfresh, S.known,
    fun x hx => let ⟨q, ov, h1, h2⟩ := S.cell x hx; ⟨q, ov, h1, cell _ _ h2⟩, S.cfresh, S.apart,
    fun x p hp => let ⟨v, h1, h2⟩ := S.vars x p hp; ⟨v, loc _ _ h1, h2.mono ms (Grow.refl _ _)⟩, ?_, S.sub, fun a ha => ?_, (S.toks hle).tok, (S.toks hle).pos⟩
  · obtain ⟨ad, q1, q2⟩ := S.owns
    refine ⟨ad, fun y l hl => ?_, q2⟩
    obtain ⟨a1, a2, a3, items, ⟨o, ho, hr⟩, a6⟩ := q1 y l hl
    refine ⟨loc _ _ a1, a2, a3, items, ⟨o, k _ o (fun hm => ?_) ho, hr⟩, a6.mono ms (Grow.refl _ _)⟩
    obtain ⟨hn, _⟩ := f _ hm
    exact hn a2
  · obtain ⟨o, ho⟩ := S.valid a ha
    exact ⟨o, k a o (fun hm => (f a hm).1 ha) ho⟩

noncomputable def isTup : Expr → Bool
  | .Tuple .. => true
  | _ => false

theorem letOwned_other {prog : Program} {w : World} {t : Expr} {v : Value} {o : Obj} {n : String} {vs : Array Value} {Q : Unit → Shared → Prop} {E : Value → Shared → Prop} (ho : s.heap.get? I = some o) (hc : o.cls = .type n) (hd : o.data = .fields vs)
    (hn : ["enumerate", "zip", "dict_itemiterator", "dict_reverseitemiterator", "odict_iterator", "itertools.zip_longest", "itertools.pairwise"].contains n = false) (hQ : Q () s) :
    wpAny (model prog w) A (letOwnedTupleGo t (.ref I) v) Q E s := by
  have key : ∀ a : Addr, wpAny (model prog w) A (do
      let o ← load I
      match o.cls, o.data with
      | .type n, .fields vs =>
        if ["enumerate", "zip", "dict_itemiterator", "dict_reverseitemiterator", "odict_iterator", "itertools.zip_longest", "itertools.pairwise"].contains n && vs[0]? == some (rawInt a) then
          rule "for.unpacks-the-owned-tuple"
          updateField I 0 .none
      | _, _ => pure ()) Q E s := fun a => by
    refine wpAny_bind (wpAny_load ho ?_)
    rw [hc, hd]
    simp only [hn, Bool.false_and, Bool.false_eq_true, if_false]
    exact wpAny_pure hQ
  unfold letOwnedTupleGo
  split
  · cases v with
    | ref a => exact key a
    | _ => exact wpAny_pure hQ
  · cases v with
    | ref a => exact key a
    | _ => exact wpAny_pure hQ
  · exact wpAny_pure hQ

theorem it_step {prog : Program} {w : World} {t : Expr} {p : PV} {Q : Option Value → Shared → Prop} {E : Value → Shared → Prop} (S : Sok W s.heap s.toks) (x : ItAt W s.heap I en fp (p :: ps)) (f : FpOk W s.heap fp) (ht : en = true → isTup t = true)
    (hQ : ∀ v s₁, (∀ Q₂ : Unit → Shared → Prop, (∀ h' tk', Rep W h' p v → ItAt W h' I en fp ps → FpOk W h' fp → KeepFp fp s.heap h' → s.toks ≤ tk' → Q₂ () { s with heap := h', toks := tk' }) →
      wpAny (model prog w) A (letOwnedTupleGo t (.ref I) v) Q₂ E s₁) → Q (some v) s₁) : wpAny (model prog w) A (pyNext (.ref I)) Q E s := by
  cases x with
  | @list ax items i _ hne hO hit hl r =>
    rw [repL_cons] at r
    obtain ⟨v, vs, hdr, rp, rr⟩ := r
    have hx : items[i]? = some v := by
      have := congrArg (fun l => l[0]?) hdr
      simpa using this
    refine wpAny_pyNext_list_item hit hl hx fun h' hit' hs' => ?_
    refine hQ v _ fun Q₂ h2 => ?_
    have kf : KeepFp [I] s.heap h' := fun b o hb e => (hs'.2 b (by simpa using hb)).trans e
    have ms := f.modS kf
    obtain ⟨o, ho, hc, hd⟩ := id hit'
    refine letOwned_other (s := { s with heap := h' }) (n := "list_iterator") ho hc hd (by decide) (h2 h' s.toks (rp.mono ms (Grow.refl _ _)) (.list hne hO hit' (hl.extBut hs'.extBut hne) ?_) ?_ kf (Nat.le_refl _))
    · have hd1 : items.toList.drop (i + 1) = vs := by
        rw [← List.tail_drop, hdr]; rfl
      rw [hd1]; exact rr.mono ms (Grow.refl _ _)
    · intro b hb
      have hbI : b = I := by simpa using hb
      subst hbI
      exact ⟨(f b hb).1, o, _, ho, hd⟩
  | @range y cc n _ hit hp =>
    cases n with
    | zero => simp at hp
    | succ n =>
      rw [List.range_succ_eq_map, List.map_cons] at hp
      injection hp with hp1 hp2
      refine wpAny_pyNext_range_item hit (by lia) fun h' hit' hs' => ?_
      refine hQ _ _ fun Q₂ h2 => ?_
      have kf : KeepFp [I] s.heap h' := fun b o hb e => (hs'.2 b (by simpa using hb)).trans e
      refine letOwned_other (s := { s with heap := h', toks := s.toks + 1 }) (n := "range_iterator") hit' rfl rfl (by decide) (h2 h' (s.toks + 1) ?_ ?_ ?_ kf (Nat.le_succ _))
      · rw [hp1]; exact rep_int.mpr ⟨s.toks, by simp⟩
      · refine .range (n := n) (by rw [show ((n + 1 : Nat) : Int) - 1 = (n : Int) by lia] at hit'; exact hit') ?_
        rw [hp2, List.map_map]
        refine List.map_congr_left fun j _ => ?_
        simp only [Function.comp]
        congr 1
        rw [show ((j.succ : Nat) : Int) = (j : Int) + 1 by lia, Int.add_mul, Int.one_mul]; lia
      · intro b hb
        have hbI : b = I := by simpa using hb
        subst hbI
        exact ⟨(f b hb).1, _, _, hit', rfl⟩
  | @enum it ax items i old qs h1 hax h3 hO he hit hl r _ hp =>
    cases qs with
    | nil => simp at hp
    | cons q qs =>
      rw [List.zipIdx_cons, List.map_cons] at hp
      injection hp with hp1 hp2
      rw [repL_cons] at r
      obtain ⟨v, vs, hdr, rp, rr⟩ := r
      have hx : items[i]? = some v := by
        have := congrArg (fun l => l[0]?) hdr
        simpa using this
      obtain ⟨elts, k, pos, rfl⟩ : ∃ elts k pos, t = .Tuple elts k pos := by
        have := ht rfl
        cases t <;> first | exact ⟨_, _, _, rfl⟩ | cases this
      have hIlt : I < s.heap.objs.size := Heap.lt_size he
      have hitlt : it < s.heap.objs.size := by obtain ⟨_, e, _⟩ := hit; exact Heap.lt_size e
      refine wpAny_pyNext_enum_item he hit hl hx h1 fun h' ho hit' hT hsz hk => ?_
      refine hQ _ _ fun Q₂ h2 => ?_
      refine wpAny_letOwnedTupleGo_enum (s := { s with heap := h', toks := s.toks + 1 }) ho fun h'' he'' hs'' => ?_
      have kf : KeepFp [I, it] s.heap h'' := fun b o hb e => (hs''.2 b (fun q => hb (by simp [q]))).trans (hk b o (fun q => hb (by simp [q])) (fun q => hb (by simp [q])) e)
      have ms := f.modS kf
      obtain ⟨o, hoi, hci, hdi⟩ := id hit'
      have hoi'' : h''.get? it = some o := (hs''.2 it h1.symm).trans hoi
      refine h2 h'' (s.toks + 1) ?_ ?_ ?_ kf (Nat.le_succ _)
      · rw [hp1]
        refine rep_tup.mpr ⟨_, _, rfl, fresh_not S.valid, ⟨_, (hs''.2 _ (Nat.ne_of_gt hIlt)).trans hT, rfl, _, rfl⟩, ?_⟩
        exact repL_cons.mpr ⟨_, _, rfl, rep_int.mpr ⟨_, rfl⟩, repL_cons.mpr ⟨_, _, rfl, rp.mono ms (Grow.refl _ _), repL_nil.mpr rfl⟩⟩
      · have hd1 : items.toList.drop (i + 1) = vs := by
          rw [← List.tail_drop, hdr]; rfl
        have hl'' : h''.IsList ax items := by
          obtain ⟨oa, hoa, hra⟩ := hl
          exact ⟨oa, kf ax oa (by simp [hax, h3]) hoa, hra⟩
        exact .enum (i := i + 1) h1 hax h3 hO he'' ⟨o, hoi'', hci, hdi⟩ hl'' (by rw [hd1]; exact rr.mono ms (Grow.refl _ _)) hp2
      · intro b hb
        rcases List.mem_cons.mp hb with rfl | hb'
        · exact ⟨(f b hb).1, _, _, he'', rfl⟩
        · have hbI : b = it := by simpa using hb'
          subst hbI
          exact ⟨(f b hb).1, o, _, hoi'', hdi⟩

theorem it_done {prog : Program} {w : World} {Q : Option Value → Shared → Prop} {E : Value → Shared → Prop} (hh : A.handled = Option.none) (x : ItAt W s.heap I en fp [])
    (hQ : ∀ h', KeepFp fp s.heap h' → Q Option.none { s with heap := h' }) : wpAny (model prog w) A (pyNext (.ref I)) Q E s := by
  generalize hps : ([] : List PV) = ps' at x
  cases x with
  | @list ax items i _ hne hO hit hl r =>
    subst hps
    rw [repL_nil] at r
    refine wpAny_pyNext_list_end hh hit hl ?_ fun h' he => hQ h' fun b o hb e => he b o (by simpa using hb) e
    have := congrArg List.length r
    rw [List.length_drop] at this
    simp at this
    exact Array.getElem?_eq_none (by lia)
  | @range y cc n _ hit hp =>
    subst hps
    have hn : n = 0 := by
      have := congrArg List.length hp
      simpa using this.symm
    subst hn
    exact wpAny_pyNext_range_end hh hit (by lia) fun h' he => hQ h' fun b o hb e => he b o (by simpa using hb) e
  | @enum it ax items i old qs h1 h2 h3 hO he hit hl r _ hp =>
    have hq : qs = [] := by
      have := congrArg List.length hp
      rw [← hps] at this
      simp at this
      exact List.length_eq_zero_iff.mp this.symm
    subst hq
    rw [repL_nil] at r
    refine wpAny_pyNext_enum_end hh he hit hl ?_ fun h' hx => hQ h' fun b o hb e => hx b o (fun q => hb (by simp [q])) e
    have := congrArg List.length r
    rw [List.length_drop] at this
    simp at this
    exact Array.getElem?_eq_none (by omega)

theorem it_self {prog : Program} {w : World} {Q : Value → Shared → Prop} {E : Value → Shared → Prop} (x : ItAt W s.heap I en fp ps) (hQ : Q (.ref I) s) : wpAny (model prog w) A (pyIter (.ref I)) Q E s := by
  cases x with
  | list hne hO hit hl r => exact wpAny_pyIter_listiter hit hQ
  | range hit hp => exact wpAny_pyIter_rangeiter hit hQ
  | enum h1 h2 h3 hO he hit hl r hp => exact wpAny_pyIter_enum he hQ
end

end Mine

namespace Mine
open PySem PySem.W PyProof.Rows

noncomputable def bindNames : List Expr → List PV → Option Sig
  | [], [] => some []
  | .Name x _ :: es, p :: ps => (bindNames es ps).map (· ++ [(x, p)])
  | _, _ => Option.none

/-- the names that a target binds, the newest first -/
noncomputable def bindT : Expr → PV → Option Sig
  | .Name x _, p => some [(x, p)]
  | .Tuple es _ _, .tup ps => bindNames es ps
  | _, _ => Option.none

noncomputable def tgtNames : List Expr → List Str
  | .Name x _ :: es => x :: tgtNames es
  | _ => []
noncomputable def tgts : Expr → List Str
  | .Name x _ => [x]
  | .Tuple es _ _ => tgtNames es
  | _ => []

noncomputable def tgtOk (K : Kn) (ω : Own) (t : Expr) : Prop := ∀ x ∈ tgts t, (K.lookup x = some .local ∨ K.lookup x = some .cell) ∧ ω.lookup x = Option.none

section
variable {g : Pg} {d : Nat} {K : Kn} {σ : Sig} {ω : Own} {c : Cx} {W : Wd} {A : Around} {s : Shared} {P : PostT}

theorem assign_name (S : St g c K W σ ω s.heap s.toks) {x : Str} {pos : Pos} {p : PV} {v : Value} (hK : K.lookup x = some .local ∨ K.lookup x = some .cell) (hω : ω.lookup x = Option.none) (r : Rep W s.heap p v)
    {M : Model} {Q : Unit → Shared → Prop} {E : Value → Shared → Prop} (hQ : ∀ h' tk', St g c K W ((x, p) :: σ) ω h' tk' → Mod NoO s.heap h' → s.toks ≤ tk' → Q () { s with heap := h', toks := tk' }) :
    wpAny M A (assign (.Name x pos) c.env v) Q E s := wpAny_assign_Name (S.store hK hω r hQ)

theorem bindNames_inv {es : List Expr} {ps : List PV} {B : Sig} (h : bindNames es ps = some B) :
    (es = [] ∧ ps = [] ∧ B = []) ∨ ∃ x pos es' p ps' B', es = .Name x pos :: es' ∧ ps = p :: ps' ∧ bindNames es' ps' = some B' ∧ B = B' ++ [(x, p)] := by
  unfold bindNames at h
  split at h
  · cases h; exact .inl ⟨rfl, rfl, rfl⟩
  · rename_i x pos es' p ps'
    cases hB : bindNames es' ps' with
    | none => rw [hB] at h; cases h
    | some B' => rw [hB] at h; cases h; exact .inr ⟨x, pos, es', p, ps', B', rfl, rfl, hB, rfl⟩
  · cases h

theorem assign_names {M : Model} {E : Value → Shared → Prop} : ∀ (ps : List PV) {es : List Expr} {vs : List Value} {B σ : Sig} {s : Shared} {Q : Unit → Shared → Prop}, bindNames es ps = some B →
    (∀ x ∈ tgtNames es, (K.lookup x = some .local ∨ K.lookup x = some .cell) ∧ ω.lookup x = Option.none) → St g c K W σ ω s.heap s.toks → RepL W s.heap ps vs →
    (∀ h' tk', St g c K W (B ++ σ) ω h' tk' → Mod NoO s.heap h' → s.toks ≤ tk' → Q () { s with heap := h', toks := tk' }) →
    wpAny M A (assignInOrder ((assignEach es c.env).map (·.2)) vs) Q E s := by
  intro ps
  induction ps with
  | nil =>
    intro es vs B σ s Q hb _ S r hQ
    rcases bindNames_inv hb with ⟨rfl, _, rfl⟩ | ⟨x, pos, es', p, ps', B', _, e, _⟩
    · rw [repL_nil] at r; subst r
      exact wpAny_pure (hQ s.heap s.toks S (Mod.refl _ _) (Nat.le_refl _))
    · cases e
  | cons p ps ih =>
    intro es vs B σ s Q hb ht S r hQ
    rcases bindNames_inv hb with ⟨_, e, _⟩ | ⟨x, pos, es', p', ps', B', rfl, e, hB, rfl⟩
    · cases e
    · cases e
      rw [repL_cons] at r
      obtain ⟨v, vs, rfl, rp, rr⟩ := r
      have h1 := ht x (by simp [tgtNames])
      show wpAny M A (do holding vs (assign (.Name x pos) c.env v); assignInOrder ((assignEach es' c.env).map (·.2)) vs) Q E s
      refine wpAny_bind (wpAny_holding (assign_name S h1.1 h1.2 rp fun h' tk' S' m le => ?_))
      refine ih (s := { s with heap := h', toks := tk' }) hB (fun y hy => ht y (by simp [tgtNames, hy])) S' (rr.mono m.any.seq (Grow.refl _ _)) fun h'' tk'' S'' m' le' => ?_
      exact hQ h'' tk'' (by simpa using S'') (m.trans (OGrow.refl _ _) m') (Nat.le_trans le le')

theorem bindNames_len {env : Env} : ∀ (ps : List PV) {es : List Expr} {B : Sig}, bindNames es ps = some B → (assignEach es env).length = ps.length ∧ (assignEach es env).findIdx? (·.1) = Option.none := by
  intro ps
  induction ps with
  | nil =>
    intro es B hb
    rcases bindNames_inv hb with ⟨rfl, _, rfl⟩ | ⟨x, pos, es', p, ps', B', _, e, _⟩
    · exact ⟨rfl, rfl⟩
    · cases e
  | cons p ps ih =>
    intro es B hb
    rcases bindNames_inv hb with ⟨_, e, _⟩ | ⟨x, pos, es', p', ps', B', rfl, e, hB, rfl⟩
    · cases e
    · cases e
      have ih := ih hB
      have e : assignEach (.Name x pos :: es') env = (false, assign (.Name x pos) env) :: assignEach es' env := rfl
      rw [e]
      refine ⟨by simp [ih.1], ?_⟩
      rw [List.findIdx?_cons, ih.2]; rfl

theorem extBut_fresh {h h' : Heap} (e : Heap.ExtBut h.objs.size h h') : Ext h h' := fun b o hb => e b o (Nat.ne_of_lt (Heap.lt_size hb)) hb

theorem assign_tgt (S : St g c K W σ ω s.heap s.toks) (R : Room d A) {t : Expr} {p : PV} {B : Sig} {v : Value} (hb : bindT t p = some B) (ht : tgtOk K ω t) (r : Rep W s.heap p v)
    {prog : Program} {w : World} {Q : Unit → Shared → Prop} {E : Value → Shared → Prop} (hQ : ∀ h' tk', St g c K W (B ++ σ) ω h' tk' → Mod NoO s.heap h' → s.toks ≤ tk' → Q () { s with heap := h', toks := tk' }) :
    wpAny (model prog w) A (assign t c.env v) Q E s := by
  unfold bindT at hb
  split at hb
  · rename_i p x pos
    cases hb
    have h1 := ht x (by simp [tgts])
    exact assign_name S h1.1 h1.2 r fun h' tk' S' m le => hQ h' tk' S' m le
  · rename_i es k pos ps
    obtain ⟨a, items, rfl, hO, hT, rl⟩ := rep_tup.mp r
    obtain ⟨n1, n2⟩ := bindNames_len (env := c.env) _ hb
    have n3 := rl.length
    rw [Array.length_toList] at n3
    refine wpAny_assign_Tuple R.hd hT (by rw [n1, n3]) n2 fun h' he => ?_
    have ex := extBut_fresh he
    have u := up_ext S.sok ex (Nat.le_refl s.toks)
    refine assign_names (s := { s with heap := h' }) _ hb ht (S.keeps u) (rl.ext ex) fun h'' tk' S' m le => ?_
    exact hQ h'' tk' S' ((ex.mod (O := NoO)).trans (OGrow.refl _ _) m) le
  · cases hb

/-- an iterable: it is evaluated, and its iterator is to give these -/
noncomputable def EvIt (g : Pg) (d : Nat) (K : Kn) (σ : Sig) (ω : Own) (en : Bool) (iter : Expr) (ps : List PV) : Prop :=
  ∀ (c : Cx) (W : Wd) (A : Around) (s : Shared), Room d A → St g c K W σ ω s.heap s.toks →
    wpAny (model g.prog g.w) A (eval iter c.env) (fun x s₁ => wpAny (model g.prog g.w) A (pyIter x) (fun it s₂ => ∃ I fp W' h' tk', it = .ref I ∧ s₂ = { s with heap := h', toks := tk' } ∧
      ItAt W' h' I en fp ps ∧ FpOk W' h' fp ∧ (∀ b ∈ fp, s.heap.get? b = Option.none) ∧ Up W W' s.heap h' s.toks tk') (fun _ _ => False) s₁) (fun _ _ => False) s

theorem for_core {prog : Program} {w : World} {R : Result → Shared → Prop} {target : Expr} {it : Value} {body orelse : List Stmt} {env : Env} (I : Nat → Shared → Prop)
    (turn : ∀ n s, I n s → wpAny (model prog w) A (pyNext it) (fun r s₁ => match r with
      | none => wpAny (model prog w) A (execs orelse env) (fun f s₃ => R (.ok f) s₃) (fun _ _ => False) s₁
      | some v => wpAny (model prog w) A (letOwnedTupleGo target it v) (fun _ s₁' => wpAny (model prog w) A (assign target env v) (fun _ s₂ => wpAny (model prog w) A (execs body env) (fun f s₃ => match f with
          | .next | .cont => ∃ m, m < n ∧ I m s₃
          | .brk => R (.ok .next) s₃
          | .ret v => R (.ok (.ret v)) s₃) (fun _ _ => False) s₂) (fun _ _ => False) s₁') (fun _ _ => False) s₁) (fun _ _ => False) s)
    (n : Nat) (h : I n s) : codeAny (model prog w) A (.forLoop target it body orelse env) R s :=
  codeAny_forLoop_any I (fun n s hI => wpAny_mono (turn n s hI) (fun r s₁ h₁ => match r, h₁ with
    | none, h₁ => wpAny_mono h₁ (fun _ _ x => x) fun _ _ f => f.elim
    | some _, h₁ => wpAny_mono h₁ (fun _ _ h₂ => wpAny_mono h₂ (fun _ _ h₃ => wpAny_mono h₃ (fun _ _ x => x) fun _ _ f => f.elim) fun _ _ f => f.elim) fun _ _ f => f.elim) fun _ _ f => f.elim) n h

theorem Later.turn {W W' : Wd} {h h' h'' : Heap} {a b e : Nat} {fp : List Addr} (l : Later W W' h h' a b) (k : KeepFp fp h' h'') (hf : ∀ q ∈ fp, h.get? q = Option.none) (f : FpOk W' h' fp) (hal : ∀ q ∈ fp, ∃ o, h'.get? q = some o) (le : b ≤ e) : Later W W' h h'' a e := by
  have out : ∀ q o, h.get? q = some o → q ∉ fp := fun q o e hm => by rw [hf q hm] at e; cases e
  refine ⟨⟨fun q o e hO hs => k q o (out q o e) (l.mod.keep q o e hO hs), fun q o e => ?_⟩, l.grow, Nat.le_trans l.le le⟩
  obtain ⟨o', e'⟩ := l.mod.alive q o e
  exact ⟨o', k q o' (out q o e) e'⟩

/-- what a turn of a loop leaves: go on, break, or hand a value out -/
noncomputable def turnP (Inv : Sig → Own → Prop) (P : PostT) : PostT := fun fl σ ω => match fl with
  | .next | .cont => Inv σ ω
  | .brk => P .next σ ω
  | .ret q => P (.ret q) σ ω

end

end Mine

namespace Mine
open PySem PySem.W PyProof.Rows

/-! the frame of a comprehension -/

noncomputable def clFrom (cells : List (Str × Addr)) : List (Str × NameKind) → List (Str × Addr) → List (Str × Addr)
  | [], acc => acc
  | (n, k) :: r, acc => if k == .free then clFrom cells r ((n, (cells.lookup n).getD 0) :: acc) else clFrom cells r acc

theorem closureFor_eq {scope : Scope} {env : Env} (h : ∀ y ∈ scope.names, y.2 = .free → ∃ k, env.cells.lookup y.1 = some k) : closureFor scope env = pure (clFrom env.cells scope.names []) := by
  have key : ∀ (names : List (Str × NameKind)) (acc : List (Str × Addr)) (f : Str × NameKind → List (Str × Addr) → Sem (ForInStep (List (Str × Addr)))),
      (∀ n k cs, f (n, k) cs = if k == .free then (do let a ← cellOf env n; pure (.yield ((n, a) :: cs))) else pure (.yield cs)) → (∀ y ∈ names, y.2 = .free → ∃ k, env.cells.lookup y.1 = some k) →
      forIn names acc f = pure (clFrom env.cells names acc) := by
    intro names
    induction names with
    | nil => intro acc f _ _; rw [List.forIn_nil]; rfl
    | cons y r ih =>
      intro acc f hf hy
      obtain ⟨n, k⟩ := y
      rw [List.forIn_cons, hf]
      unfold clFrom
      cases hk : k == NameKind.free with
      | true =>
        obtain ⟨a, ha⟩ := hy (n, k) List.mem_cons_self (eq_of_beq hk)
        have hc : cellOf env n = pure a := by unfold cellOf; rw [show env.cells.lookup n = some a from ha]
        simp only [if_true, hc, pure_bind]
        rw [ih _ f hf (fun z hz => hy z (List.mem_cons_of_mem _ hz)), show env.cells.lookup n = some a from ha]; rfl
      | false =>
        simp only [Bool.false_eq_true, if_false, pure_bind]
        exact ih _ f hf (fun z hz => hy z (List.mem_cons_of_mem _ hz))
  simp only [closureFor]
  rw [key scope.names [] _ (fun n k cs => by cases hk : k == NameKind.free <;> simp [hk]) h]
  rfl

theorem clFrom_mem {cells : List (Str × Addr)} : ∀ {names : List (Str × NameKind)} {acc : List (Str × Addr)} {n : Str} {a : Addr}, (n, a) ∈ clFrom cells names acc → (n, a) ∈ acc ∨ ((n, NameKind.free) ∈ names ∧ a = (cells.lookup n).getD 0)
  | [], acc, n, a, h => .inl h
  | (m, k) :: r, acc, n, a, h => by
    unfold clFrom at h
    split at h
    · rename_i hk
      rcases clFrom_mem h with h | ⟨h1, h2⟩
      · rcases List.mem_cons.mp h with e | h
        · cases e; exact .inr ⟨by rw [eq_of_beq hk]; exact List.mem_cons_self, rfl⟩
        · exact .inl h
      · exact .inr ⟨List.mem_cons_of_mem _ h1, h2⟩
    · rcases clFrom_mem h with h | ⟨h1, h2⟩
      · exact .inl h
      · exact .inr ⟨List.mem_cons_of_mem _ h1, h2⟩

theorem clFrom_lookup {cells : List (Str × Addr)} : ∀ {names : List (Str × NameKind)} {acc : List (Str × Addr)} {x : Str}, ((x, NameKind.free) ∈ names ∨ acc.lookup x = some ((cells.lookup x).getD 0)) →
    (clFrom cells names acc).lookup x = some ((cells.lookup x).getD 0)
  | [], acc, x, h => by rcases h with h | h; cases h; exact h
  | (m, k) :: r, acc, x, h => by
    unfold clFrom
    split
    · refine clFrom_lookup ?_
      rcases h with h | h
      · rcases List.mem_cons.mp h with e | h
        · cases e; right; simp
        · exact .inl h
      · right
        rw [List.lookup_cons]
        cases hb : x == m with
        | true => rw [eq_of_beq hb]
        | false => exact h
    · rename_i hk
      refine clFrom_lookup ?_
      rcases h with h | h
      · rcases List.mem_cons.mp h with e | h
        · cases e; exact absurd rfl hk
        · exact .inl h
      · exact .inr h

theorem clFrom_apart {cells : List (Str × Addr)} (hc : cells.Pairwise fun x y => x.2 ≠ y.2) : ∀ {names : List (Str × NameKind)} {acc : List (Str × Addr)},
    (names.map (·.1)).Nodup → (∀ y ∈ names, y.2 = .free → ∃ k, cells.lookup y.1 = some k) → (∀ z ∈ acc, z.1 ∉ names.map (·.1) ∧ cells.lookup z.1 = some z.2) → (acc.Pairwise fun x y => x.2 ≠ y.2) →
    (clFrom cells names acc).Pairwise fun x y => x.2 ≠ y.2
  | [], acc, _, _, _, h => h
  | (m, k) :: r, acc, hn, hf, ha, hp => by
    rw [List.map_cons, List.nodup_cons] at hn
    unfold clFrom
    split
    · rename_i hk
      obtain ⟨a, e⟩ := hf (m, k) List.mem_cons_self (eq_of_beq hk)
      have e' : (cells.lookup m).getD 0 = a := by rw [show cells.lookup m = some a from e]; rfl
      rw [e']
      refine clFrom_apart hc hn.2 (fun y hy => hf y (List.mem_cons_of_mem _ hy)) (fun z hz => ?_) ?_
      · rcases List.mem_cons.mp hz with rfl | hz
        · exact ⟨hn.1, e⟩
        · exact ⟨fun q => (ha z hz).1 (List.mem_cons_of_mem _ q), (ha z hz).2⟩
      · refine List.pairwise_cons.mpr ⟨fun z hz q => ?_, hp⟩
        have h2 := (ha z hz).2
        have : m = z.1 := name_of_addr hc (mem_of_lookup e) (by have := mem_of_lookup h2; rw [← show a = z.2 from q] at this; exact this)
        exact (ha z hz).1 (by rw [← this]; exact List.mem_cons_self)
    · exact clFrom_apart hc hn.2 (fun y hy => hf y (List.mem_cons_of_mem _ hy)) (fun z hz => ⟨fun q => (ha z hz).1 (List.mem_cons_of_mem _ q), (ha z hz).2⟩) hp

/-- the cells of a block: its own new ones, and those handed in -/
theorem cellsFrom_spec : ∀ (names : List (Str × NameKind)) (h : Heap) (acc : List (Str × Addr)), (∀ z ∈ acc, z.2 < h.objs.size) → (acc.Pairwise fun x y => x.2 ≠ y.2) →
    ((cellsFrom h.objs.size names acc).Pairwise fun x y => x.2 ≠ y.2) ∧
    (∀ n a, (n, a) ∈ cellsFrom h.objs.size names acc → (n, a) ∈ acc ∨ (h.objs.size ≤ a ∧ (pushCells h names).IsCell a Option.none)) ∧
    (∀ x, (x, NameKind.cell) ∉ names → (cellsFrom h.objs.size names acc).lookup x = acc.lookup x) ∧
    (∀ x, (x, NameKind.cell) ∈ names → ∃ a, (cellsFrom h.objs.size names acc).lookup x = some a ∧ h.objs.size ≤ a ∧ (pushCells h names).IsCell a Option.none)
  | [], h, acc, h1, h2 => ⟨h2, fun n a hm => .inl hm, fun x _ => rfl, fun x hx => nomatch hx⟩
  | (m, k) :: r, h, acc, h1, h2 => by
    unfold cellsFrom pushCells
    split
    · rename_i hk
      have ih := cellsFrom_spec r (h.push { cls := .type "cell", data := .cell Option.none }) ((m, h.objs.size) :: acc)
        (fun z hz => by
          rw [Heap.size_push]
          rcases List.mem_cons.mp hz with rfl | hz
          · exact Nat.lt_succ_self _
          · exact Nat.lt_succ_of_lt (h1 z hz))
        (List.pairwise_cons.mpr ⟨fun z hz q => Nat.lt_irrefl _ (show h.objs.size < h.objs.size by have := h1 z hz; rw [← show h.objs.size = z.2 from q] at this; exact this), h2⟩)
      rw [Heap.size_push] at ih
      obtain ⟨i1, i2, i3, i4⟩ := ih
      have own : (pushCells (h.push { cls := .type "cell", data := .cell Option.none }) r).IsCell h.objs.size Option.none := ⟨_, pushCells_keeps _ _ _ _ (Heap.get?_push_size _ rfl), rfl⟩
      refine ⟨i1, fun n a hm => ?_, fun x hx => ?_, fun x hx => ?_⟩
      · rcases i2 n a hm with h3 | ⟨h3, h4⟩
        · rcases List.mem_cons.mp h3 with e | h3
          · cases e; exact .inr ⟨Nat.le_refl _, own⟩
          · exact .inl h3
        · exact .inr ⟨by lia, h4⟩
      · have hxm : x ≠ m := fun e => hx (by rw [e, ← eq_of_beq hk]; exact List.mem_cons_self)
        rw [i3 x (fun q => hx (List.mem_cons_of_mem _ q)), List.lookup_cons, beq_eq_false_iff_ne.mpr hxm]
      · by_cases hxr : (x, NameKind.cell) ∈ r
        · obtain ⟨a, e1, e2, e3⟩ := i4 x hxr
          exact ⟨a, e1, by omega, e3⟩
        · rcases List.mem_cons.mp hx with e | hx
          · cases e
            exact ⟨h.objs.size, by rw [i3 _ hxr]; simp, Nat.le_refl _, own⟩
          · exact absurd hx hxr
    · rename_i hk
      obtain ⟨i1, i2, i3, i4⟩ := cellsFrom_spec r h acc h1 h2
      refine ⟨i1, i2, fun x hx => i3 x (fun q => hx (List.mem_cons_of_mem _ q)), fun x hx => ?_⟩
      rcases List.mem_cons.mp hx with e | hx
      · cases e; exact absurd rfl hk
      · exact i4 x hx

theorem wpAny_compEnv {M : Model} {A : Around} {E : Value → Shared → Prop} {s : Shared} {scope : Scope} {cl : List (Str × Addr)} {env : Env} {Q : Env → Shared → Prop}
    (hQ : Q { scope := scope, locals := s.heap.objs.size, globals := env.globals, cells := cellsFrom (s.heap.objs.size + 1) scope.names cl, qual := env.qual, func := Option.none, code := env.code, frame := env.frame, builtins := env.builtins }
      { s with heap := pushCells (s.heap.push { cls := .type "dict", data := .dict #[] }) scope.names }) :
    wpAny M A (newFunctionEnv scope env.globals cl [] env.qual Option.none .none (some env)) Q E s := by
  simp only [newFunctionEnv, Option.isSome_some, if_true]
  refine wpAny_bind (wpAny_alloc ?_)
  refine wpAny_bind (wpAny_layCells _ (fun name kind cells => by cases hkc : kind == NameKind.cell <;> simp [hkc]) _ _ _ _ ?_)
  rw [show ({ s with heap := s.heap.push { cls := .type "dict", data := .dict #[] } } : Shared).heap.objs.size = s.heap.objs.size + 1 from Heap.size_push ..]
  refine wpAny_bind ?_
  rw [List.forIn_nil]
  exact wpAny_pure (wpAny_pure hQ)

theorem map_lookup (f : Str → NameKind → Bool) {x : Str} : ∀ (names : List (Str × NameKind)),
    (names.map fun (n, k) => if f n k = true then (n, NameKind.cell) else (n, k)).lookup x = (names.lookup x).map fun k => if f x k = true then .cell else k
  | [] => rfl
  | (n, k) :: r => by
    have ih := map_lookup f (x := x) r
    rw [List.map_cons]
    cases hb : x == n with
    | true =>
      have e := eq_of_beq hb
      subst e
      rw [List.lookup_cons, List.lookup_cons, hb]
      cases hf : f x k <;> simp [hf]
    | false =>
      rw [List.lookup_cons, List.lookup_cons, hb]
      cases f n k <;> simp only [Bool.false_eq_true, if_false, if_true, hb] <;> exact ih

theorem relabel_lookup {env : Env} {x : Str} (names : List (Str × NameKind)) :
    (names.map fun (n, k) => if (k == NameKind.free && env.scope.kind == .function && env.kindOf n == some .cell) then (n, NameKind.cell) else (n, k)).lookup x =
      (names.lookup x).map fun k => if (k == NameKind.free && env.scope.kind == .function && env.kindOf x == some .cell) then .cell else k :=
  map_lookup (fun n k => k == NameKind.free && env.scope.kind == .function && env.kindOf n == some .cell) names

end Mine

namespace Mine
open PySem PySem.W PyProof.Rows

noncomputable def compOk (K : Kn) (scope : Scope) : Bool :=
  (scope.kind == .function) && decide ((scope.names.map (·.1)).Nodup) && scope.names.all fun y => y.2 != .free || (K.lookup y.1 == some .cell || K.lookup y.1 == some .free)

theorem compOk_use {K : Kn} {scope : Scope} (h : compOk K scope = true) : scope.kind = .function ∧ (scope.names.map (·.1)).Nodup ∧ ∀ y ∈ scope.names, y.2 = .free → K.lookup y.1 = some .cell ∨ K.lookup y.1 = some .free := by
  unfold compOk at h
  simp only [Bool.and_eq_true, decide_eq_true_eq, beq_iff_eq, List.all_eq_true] at h
  refine ⟨h.1.1, h.1.2, fun y hy hf => ?_⟩
  have := h.2 y hy
  rw [hf] at this
  simpa using this

theorem lookup_of_nodup {α : Type} {l : List (Str × α)} {n : Str} {a : α} (hn : (l.map (·.1)).Nodup) (hm : (n, a) ∈ l) : l.lookup n = some a := by
  induction l with
  | nil => cases hm
  | cons q r ih =>
    obtain ⟨out, rest⟩ := List.nodup_cons.mp hn
    cases hm with
    | head => simp
    | tail _ hr =>
      cases e : n == q.1 with
      | true => exact absurd (List.mem_map_of_mem (f := (·.1)) hr) (eq_of_beq e ▸ out)
      | false => simp [List.lookup, e, ih rest hr]

/-- what a comprehension sees of the names around it -/
noncomputable def CSub {α : Type} (names : Kn) (σc σ : List (Str × α)) : Prop := ∀ q ∈ σc, σ.lookup q.1 = some q.2 ∧ names.lookup q.1 = some .free

theorem CSub.nil {α : Type} {names : Kn} {σ : List (Str × α)} : CSub names [] σ := fun _ h => nomatch h
theorem CSub.cons {α : Type} {names : Kn} {σ σc : List (Str × α)} {x : Str} {p : α} (h1 : σ.lookup x = some p) (h2 : names.lookup x = some .free) (h : CSub names σc σ) : CSub names ((x, p) :: σc) σ := fun q hq => by
  rcases List.mem_cons.mp hq with rfl | hq
  · exact ⟨h1, h2⟩
  · exact h q hq

section
variable {g : Pg} {d : Nat} {K : Kn} {σ : Sig} {ω : Own} {c : Cx} {W : Wd} {A : Around} {s : Shared} {P : PostT} {h h' : Heap} {tk tk' : Nat}

theorem St.acc {D : Addr} {items items' : Array Value} (S : St g c K W σ ω h tk) (hO : W.O D) (hb : c.base.get? D = Option.none) (hω : ∀ x l, ω.lookup x = some l → K.lookup x = some .free)
    (hl : h.IsList D items) (hl' : h'.IsList D items') (hs : Heap.SameBut D h h') (hle : tk ≤ tk') : St g c K W σ ω h' tk' := by
  have ms : ModS W.O h h' := fun b o e hO' _ => (hs.2 b (fun q => hO' (q ▸ hO))).trans e
  have ns : ∀ a m, h.Ns a m → h'.Ns a m := fun a m hn => hn.sameBut hs (ns_ne_list hn hl)
  have cell : ∀ a v, h.IsCell a v → h'.IsCell a v := fun a v hc => hc.sameBut hs (cell_ne_list hc hl)
  have loc : ∀ y v, Loc K c.env h y v → Loc K c.env h' y v := fun y v l => by
    rcases l with ⟨hk, m, hn, hm⟩ | ⟨hk, q, hc, hv⟩
    · exact .inl ⟨hk, m, ns _ _ hn, hm⟩
    · exact .inr ⟨hk, q, hc, cell _ _ hv⟩
  refine ⟨fun b o e => (hs.2 b (fun q => by rw [q, hb] at e; cases e)).trans (S.ext b o e), S.ok, S.kind, S.globals, S.builtins, let ⟨m, hm⟩ := S.ns; ⟨m, ns _ _ hm⟩, S.lfresh, S.known,
    fun x hx => let ⟨q, ov, h1, h2⟩ := S.cell x hx; ⟨q, ov, h1, cell _ _ h2⟩, S.cfresh, S.apart,
    fun x p hp => let ⟨v, h1, h2⟩ := S.vars x p hp; ⟨v, loc _ _ h1, h2.mono ms (Grow.refl _ _)⟩, ?_, S.sub, fun a ha => ?_, (S.toks hle).tok, (S.toks hle).pos⟩
  · obtain ⟨ad, q1, q2⟩ := S.owns
    refine ⟨ad, fun y l hl1 => ?_, q2⟩
    obtain ⟨a1, a2, a3, items1, ⟨o, ho, hr⟩, a6⟩ := q1 y l hl1
    have hne : ad y ≠ D := fun e => by
      obtain ⟨o', e'⟩ := a3.1 (hω y l hl1)
      rw [e, hb] at e'; cases e'
    exact ⟨loc _ _ a1, a2, a3, items1, ⟨o, (hs.2 _ hne).trans ho, hr⟩, a6.mono ms (Grow.refl _ _)⟩
  · obtain ⟨o, ho⟩ := S.valid a ha
    by_cases hab : a = D
    · subst hab; obtain ⟨o', ho', _⟩ := hl'; exact ⟨o', ho'⟩
    · exact ⟨o, (hs.2 a hab).trans ho⟩

/-- the frame of the block -/
noncomputable def cEnv (scope : Scope) (env : Env) (L : Addr) (cells : List (Str × Addr)) : Env :=
  compEnvC scope cells L env

/-- the list in the making is forbidden -/
noncomputable def inner (W : Wd) (D : Addr) : Wd := ⟨fun a => W.O a ∨ a = D, W.T⟩

theorem comp_start {scope : Scope} {σc : Sig} {ωc : Own} {W2 : Wd} {h2 : Heap} {tk2 : Nat} (S : St g c K W σ ω s.heap s.toks) (ok : compOk K scope = true) (hσ : CSub scope.names σc σ) (hω : CSub scope.names ωc ω)
    (u : Up W W2 s.heap h2 s.toks tk2) {H : Heap}
    (hH : H = pushCells ((h2.push { cls := .type "list", data := .seq ([] : List Value).toArray }).push { cls := .type "dict", data := .dict #[] }) scope.names) :
    Ext h2 H ∧ H.IsList h2.objs.size #[] ∧
    St g ⟨cEnv scope c.env (h2.objs.size + 1) (cellsFrom (h2.objs.size + 1 + 1) scope.names (clFrom c.env.cells scope.names [])), s.heap, W.O⟩ scope.names (inner W2 h2.objs.size) σc ωc H tk2 := by
  obtain ⟨hkind, hnd, hcap⟩ := compOk_use ok
  have S2 := S.keeps u
  have hcap' : ∀ y ∈ scope.names, y.2 = .free → ∃ k, c.env.cells.lookup y.1 = some k := fun y hy hf => by
    obtain ⟨k, ov, e, _⟩ := S.cell y.1 (hcap y hy hf); exact ⟨k, e⟩
  generalize hDl : ({ cls := .type "list", data := .seq ([] : List Value).toArray } : Obj) = ol at hH
  generalize hDd : ({ cls := .type "dict", data := .dict #[] } : Obj) = od at hH
  have z1 : (h2.push ol).objs.size = h2.objs.size + 1 := Heap.size_push ..
  have z2 : ((h2.push ol).push od).objs.size = h2.objs.size + 1 + 1 := by rw [Heap.size_push, z1]
  have e1 : Ext h2 (h2.push ol) := ext_push _ _
  have e2 : Ext (h2.push ol) ((h2.push ol).push od) := ext_push _ _
  have e3 : Ext ((h2.push ol).push od) H := by rw [hH]; exact pushCells_keeps _ _
  have eH : Ext h2 H := (e1.trans e2).trans e3
  have eS : Ext s.heap H := u.ext.trans eH
  have fresh : ∀ a, h2.objs.size ≤ a → s.heap.get? a = Option.none := fun a ha => by
    cases e : s.heap.get? a with
    | none => rfl
    | some o => exact absurd (Heap.lt_size (u.ext _ _ e)) (Nat.not_lt.mpr ha)
  have clm : ∀ n a, (n, a) ∈ clFrom c.env.cells scope.names [] → (n, NameKind.free) ∈ scope.names ∧ c.env.cells.lookup n = some a := fun n a hm => by
    rcases clFrom_mem hm with h | ⟨h1, h2⟩
    · cases h
    · obtain ⟨k, hk⟩ := hcap' (n, .free) h1 rfl
      rw [h2, show c.env.cells.lookup n = some k from hk]; exact ⟨h1, rfl⟩
  obtain ⟨i1, i2, i3, i4⟩ := cellsFrom_spec scope.names ((h2.push ol).push od) (clFrom c.env.cells scope.names [])
    (fun z hz => by
      obtain ⟨n, a⟩ := z
      obtain ⟨h1, h2'⟩ := clm n a hz
      obtain ⟨k, ov, e, hk⟩ := S2.cell n (hcap _ h1 rfl)
      rw [show c.env.cells.lookup n = some k from e] at h2'; cases h2'
      have := hk.lt
      rw [z2]; exact Nat.lt_of_lt_of_le this (by lia))
    (clFrom_apart S.apart hnd hcap' (fun z hz => nomatch hz) List.Pairwise.nil)
  rw [z2] at i1 i2 i3 i4
  have hfree : ∀ x, scope.names.lookup x = some .free → (cellsFrom (h2.objs.size + 1 + 1) scope.names (clFrom c.env.cells scope.names [])).lookup x = c.env.cells.lookup x := fun x hx => by
    have hm := mem_of_lookup hx
    have hnc : (x, NameKind.cell) ∉ scope.names := fun hc => by
      have := lookup_of_nodup hnd hc; rw [hx] at this; cases this
    obtain ⟨k, hk⟩ := hcap' _ hm rfl
    rw [i3 x hnc, clFrom_lookup (.inl hm), show c.env.cells.lookup x = some k from hk]; rfl
  have hnsH : H.Ns (h2.objs.size + 1) fun _ => Option.none := by
    have := (Heap.Ns.new (h2.push ol) (.type "dict"))
    rw [z1, hDd] at this
    exact this.keeps e3
  have gr : Grow W2 (inner W2 h2.objs.size) h2 := ⟨⟨fun a ha => .inl ha, fun a ha => ha.elim .inl fun e => .inr (by rw [e]; exact get_fresh _)⟩, fun t x e => e⟩
  have hlist : H.IsList h2.objs.size #[] := by
    refine ⟨ol, e3 _ _ (e2 _ _ (Heap.get?_push_size _ (by rw [← hDl]; rfl))), by rw [← hDl], 0, by rw [← hDl]⟩
  have locf : ∀ x v, scope.names.lookup x = some .free → Loc K c.env s.heap x v → Loc scope.names (cEnv scope c.env (h2.objs.size + 1) (cellsFrom (h2.objs.size + 1 + 1) scope.names (clFrom c.env.cells scope.names []))) H x v := fun x v hx l => by
    rcases l with ⟨hk, _⟩ | ⟨hk, k, hc, hv⟩
    · rcases hcap _ (mem_of_lookup hx) rfl with q | q
      · rw [show K.lookup x = some .cell from q] at hk; cases hk
      · rw [show K.lookup x = some .free from q] at hk; cases hk
    · exact .inr ⟨.inr hx, k, by show (cellsFrom _ _ _).lookup x = some k; rw [hfree x hx]; exact hc, hv.keeps eS⟩
  refine ⟨eH, hlist, eS, S.okNow, ?_, S.globals, S.builtins, ⟨_, hnsH⟩, fresh _ (by show h2.objs.size ≤ h2.objs.size + 1; lia), ?_, ?_, ?_, i1, ?_, ?_, ?_, ?_, ?_, S2.pos⟩
  · show (relabel scope c.env).kind = _; exact hkind
  · intro x kd hx
    show (relabel scope c.env).names.lookup x = some kd ∨ (kd = .free ∧ (relabel scope c.env).names.lookup x = some .cell)
    have e : (relabel scope c.env).names.lookup x = (scope.names.lookup x).map fun k => if (k == NameKind.free && c.env.scope.kind == .function && c.env.kindOf x == some .cell) then .cell else k := relabel_lookup _
    rw [e, hx]
    simp only [Option.map_some]
    cases hk : (kd == NameKind.free && c.env.scope.kind == ScopeKind.function && c.env.kindOf x == some NameKind.cell) with
    | false => simp only [Bool.false_eq_true, if_false]; exact .inl trivial
    | true =>
      simp only [if_true]
      rw [Bool.and_eq_true, Bool.and_eq_true] at hk
      have hkd : kd = .free := eq_of_beq hk.1.1
      exact .inr ⟨hkd, trivial⟩
  · intro x hx
    rcases hx with hx | hx
    · obtain ⟨a, e, _, hc⟩ := i4 x (mem_of_lookup hx)
      exact ⟨a, _, e, by rw [hH]; exact hc⟩
    · obtain ⟨k, ov, e, hk⟩ := S.cell x (hcap _ (mem_of_lookup hx) rfl)
      exact ⟨k, ov, (hfree x hx).trans e, hk.keeps eS⟩
  · intro x k hx hk
    obtain ⟨a, e, hle, _⟩ := i4 x (mem_of_lookup hx)
    have : a = k := by rw [show (cellsFrom (h2.objs.size + 1 + 1) scope.names (clFrom c.env.cells scope.names [])).lookup x = some k from hk] at e; cases e; rfl
    rw [← this]; exact fresh a (Nat.le_trans (Nat.le_add_right _ 2) hle)
  · intro x p hp
    obtain ⟨h1, hf⟩ := hσ _ (mem_of_lookup hp)
    obtain ⟨v, hl, hr⟩ := S.vars x p h1
    exact ⟨v, locf x v hf hl, (hr.up u).mono eH.modS gr⟩
  · obtain ⟨ad, q1, q2⟩ := S.owns
    refine ⟨ad, fun x l hl => ?_, fun x y hxy hx hy => ?_⟩
    · obtain ⟨h1, hf⟩ := hω _ (mem_of_lookup hl)
      obtain ⟨a1, a2, a3, items, a5, a6⟩ := q1 x l h1
      obtain ⟨o, ho, hr⟩ := id a5
      exact ⟨locf x _ hf a1, .inl (u.o ▸ a2), ⟨fun _ => ⟨o, ho⟩, fun hn => absurd hf hn⟩, items, ⟨o, eS _ _ ho, hr⟩, (a6.up u).mono eH.modS gr⟩
    · obtain ⟨l, hl⟩ := Option.isSome_iff_exists.mp hx
      obtain ⟨l', hl'⟩ := Option.isSome_iff_exists.mp hy
      exact q2 x y hxy (by rw [(hω _ (mem_of_lookup hl)).1]; rfl) (by rw [(hω _ (mem_of_lookup hl')).1]; rfl)
  · intro a ha; exact .inl (by rw [u.o]; exact ha)
  · intro a ha
    rcases ha with ha | rfl
    · obtain ⟨o, ho⟩ := S2.valid a ha; exact ⟨o, eH _ _ ho⟩
    · obtain ⟨o, ho, _⟩ := hlist; exact ⟨o, ho⟩
  · exact S2.tok
end

end Mine

namespace Mine
open PySem PySem.W PyProof.Rows

/-- the tests of a comprehension's clause -/
noncomputable def EvIfs (g : Pg) (d : Nat) (K : Kn) (σ : Sig) (ω : Own) (ifs : List Expr) (b : Bool) : Prop :=
  ∀ (c : Cx) (W : Wd) (A : Around) (s : Shared), Room d A → St g c K W σ ω s.heap s.toks →
    wpAny (model g.prog g.w) A (forIn ifs true fun e r => if r = true then do let ok ← isTrue e c.env (eval e c.env); pure (ForInStep.yield ok) else pure (ForInStep.yield r)) (BoolPost W b s) (fun _ _ => False) s

section
variable {g : Pg} {d : Nat} {K : Kn} {σ : Sig} {ω : Own} {c : Cx} {W : Wd} {A : Around} {s : Shared}

theorem evifs_nil : EvIfs g d K σ ω [] true := fun c W A s R S => wpAny_tests_nil ⟨W, s.heap, s.toks, rfl, rfl, Up.refl S⟩
theorem evifs_one {e : Expr} {b : Bool} (h : EvB g d K σ ω e b) : EvIfs g d K σ ω [e] b := fun c W A s R S => wpAny_tests_one (h c W A s R S)

theorem comp1_core {prog : Program} {w : World} {R : Result → Shared → Prop} {elt target iter : Expr} {ifs : List Expr} {scope : Scope} {pos : Pos} {it acc : Value} {env : Env} (I : Nat → Shared → Prop)
    (turn : ∀ n s, I n s → wpAny (model prog w) A (pyNext it) (fun r s₁ => match r with
      | none => R (.ok .next) s₁
      | some v => wpAny (model prog w) A (letOwnedTupleGo target it v) (fun _ s₁' => wpAny (model prog w) A (assign target env v) (fun _ s₂ =>
          wpAny (model prog w) A (forIn ifs true fun c r => if r = true then do let ok ← isTrue c env (eval c env); pure (ForInStep.yield ok) else pure (ForInStep.yield r)) (fun ok s₃ =>
            if ok = true then wpAny (model prog w) A (eval elt env) (fun x s₄ =>
              wpAny (model prog w) A (call (.builtin "list.append") [acc, x]) (fun _ s₅ => ∃ m, m < n ∧ I m s₅) (fun _ _ => False) s₄) (fun _ _ => False) s₃
            else ∃ m, m < n ∧ I m s₃) (fun _ _ => False) s₂) (fun _ _ => False) s₁') (fun _ _ => False) s₁) (fun _ _ => False) s)
    (n : Nat) (h : I n s) : codeAny (model prog w) A (.compLoop (.ListComp elt [⟨target, iter, ifs, 0⟩] scope pos) 0 it acc env) R s := by
  refine codeAny_loop rfl I (fun n s hI => ?_) n h
  show wpAny _ A ((compTurn (.ListComp elt [⟨target, iter, ifs, 0⟩] scope pos) 0 it acc env).onRaise (fun x => do noteFrame x env; theTreesLotGoes x)) _ _ s
  refine wpAny_noted ?_
  rw [compTurn_list]
  refine wpAny_bind (wpAny_standAt (wpAny_bind (wpAny_mono (turn n s hI) (fun r s₁ h₁ => ?_) fun _ _ f => f.elim)))
  cases r with
  | none => exact wpAny_pure h₁
  | some v =>
    refine wpAny_bind (wpAny_mono h₁ (fun _ s₁' h₁' => wpAny_bind (wpAny_mono h₁' (fun _ s₂ h₂ => wpAny_bind (wpAny_mono h₂ (fun ok s₃ h₃ => ?_) fun _ _ f => f.elim)) fun _ _ f => f.elim)) fun _ _ f => f.elim)
    cases ok with
    | false => exact wpAny_pure ⟨rfl, h₃⟩
    | true =>
      exact wpAny_bind (wpAny_bind (wpAny_mono h₃ (fun x s₄ h₄ => wpAny_bind (wpAny_mono h₄ (fun _ s₅ h₅ => wpAny_pure (wpAny_pure ⟨rfl, h₅⟩)) fun _ _ f => f.elim)) fun _ _ f => f.elim))

/-- what an element's turn asks -/
noncomputable def CompBody (g : Pg) (d : Nat) (names : Kn) (σc : Sig) (ωc : Own) (t : Expr) (ifs : List Expr) (elt : Expr) (ps : List PV) (test : PV → Bool) (F : PV → PV) : Prop :=
  ∀ p ∈ ps, ∃ B, bindT t p = some B ∧ tgtOk names ωc t ∧ EvIfs g d names (B ++ σc) ωc ifs (test p) ∧ (test p = true → Ev g d names (B ++ σc) ωc elt (F p))

theorem bindNames_keys : ∀ (ps : List PV) {es : List Expr} {B : Sig} {x : Str}, bindNames es ps = some B → x ∉ tgtNames es → B.lookup x = Option.none := by
  intro ps
  induction ps with
  | nil =>
    intro es B x hb _
    rcases bindNames_inv hb with ⟨rfl, _, rfl⟩ | ⟨_, _, _, _, _, _, _, e, _⟩
    · rfl
    · cases e
  | cons p ps ih =>
    intro es B x hb hx
    rcases bindNames_inv hb with ⟨_, e, _⟩ | ⟨y, pos, es', p', ps', B', rfl, e, hB, rfl⟩
    · cases e
    · cases e
      simp only [tgtNames, List.mem_cons, not_or] at hx
      rw [List.lookup_append, ih hB hx.2]
      simp [List.lookup, beq_eq_false_iff_ne.mpr hx.1]

theorem bindT_keys {t : Expr} {p : PV} {B : Sig} {x : Str} (hb : bindT t p = some B) (hx : x ∉ tgts t) : B.lookup x = Option.none := by
  unfold bindT at hb
  split at hb
  · cases hb
    simp only [tgts, List.mem_singleton] at hx
    simp [List.lookup, beq_eq_false_iff_ne.mpr hx]
  · exact bindNames_keys _ hb hx
  · cases hb

theorem lookup_append_none {α : Type} {B σ : List (Str × α)} {x : Str} (h : B.lookup x = Option.none) : (B ++ σ).lookup x = σ.lookup x := by
  rw [List.lookup_append, h]; rfl

theorem comp_loop1 {scope : Scope} {σc : Sig} {ωc : Own} {W2 : Wd} {h2 : Heap} {tk2 : Nat} {t elt iter : Expr} {ifs : List Expr} {pos : Pos} {ps : List PV} {en : Bool} {I : Addr} {fp : List Addr} {test : PV → Bool} {F : PV → PV}
    {RR : Value → Addr → Result → Shared → Prop} {E : Value → Shared → Prop}
    (R : Room d A) (S : St g c K W σ ω s.heap s.toks) (ok : compOk K scope = true) (hσ : CSub scope.names σc σ) (hω : CSub scope.names ωc ω) (u : Up W W2 s.heap h2 s.toks tk2)
    (hit : ItAt W2 h2 I en fp ps) (hfp : FpOk W2 h2 fp) (hfr : ∀ b ∈ fp, s.heap.get? b = Option.none) (het : en = true → isTup t = true)
    (body : CompBody g d scope.names σc ωc t ifs elt ps test F) (hn : ps.length ≤ 4096)
    (hRR : ∀ D C W' h' tk' items m, C ≠ D → s.heap.get? D = Option.none → s.heap.get? C = Option.none → ¬ W.O D → h'.Ns C m → h'.IsList D items → RepL W' h' ((ps.filter test).map F) items.toList → Up W W' s.heap h' s.toks tk' →
      RR (.ref D) C (.ok .next) { s with heap := h', toks := tk' }) :
    wpAny (model g.prog g.w) A (newList []) (fun acc s₃ => wpAny (model g.prog g.w) A (newFunctionEnv scope c.env.globals (clFrom c.env.cells scope.names []) [] c.env.qual Option.none .none (some c.env)) (fun cenv s₄ =>
      codeAny (model g.prog g.w) A (.compStart (.ListComp elt [⟨t, iter, ifs, 0⟩] scope pos) 0 (.ref I) acc { cenv with scope := relabel scope c.env }) (RR acc cenv.locals) s₄) E s₃) E { s with heap := h2, toks := tk2 } := by
  refine wpAny_newObj_type (wpAny_compEnv ?_) (by size_fits)
  dsimp only
  generalize hD : h2.objs.size = D
  have hz : (h2.push { cls := .type "list", data := .seq ([] : List Value).toArray }).objs.size = D + 1 := by rw [← hD]; exact Heap.size_push ..
  rw [hz]
  generalize hH : pushCells ((h2.push { cls := .type "list", data := .seq ([] : List Value).toArray }).push { cls := .type "dict", data := .dict #[] }) scope.names = H
  obtain ⟨eH, hl0, S0⟩ := comp_start S ok hσ hω u hH.symm
  rw [hD] at hl0 S0
  have S2 := S.keeps u
  have freshD : ∀ a, D ≤ a → s.heap.get? a = Option.none := fun a ha => by
    cases e : s.heap.get? a with
    | none => rfl
    | some o => exact absurd (Heap.lt_size (u.ext _ _ e)) (Nat.not_lt.mpr (hD ▸ ha))
  have hDW : ¬ W.O D := by rw [← u.o, ← hD]; exact S2.freshO
  have gr : Grow W2 (inner W2 D) h2 := ⟨⟨fun a ha => .inl ha, fun a ha => ha.elim .inl fun e => .inr (by rw [e, ← hD]; exact get_fresh _)⟩, fun t x e => e⟩
  obtain ⟨hit0, hfp0⟩ := hit.mono hfp (eH.mod (O := W2.O)) gr
  generalize hcs : cellsFrom (D + 1 + 1) scope.names (clFrom c.env.cells scope.names []) = cs at S0
  have hbase : ∀ b ∈ fp, (⟨cEnv scope c.env (D + 1) cs, s.heap, W.O⟩ : Cx).base.get? b = Option.none := hfr
  have loop : codeAny (model g.prog g.w) A (.compLoop (.ListComp elt [⟨t, iter, ifs, 0⟩] scope pos) 0 (.ref I) (.ref D) (cEnv scope c.env (D + 1) cs)) (RR (.ref D) (D + 1)) { s with heap := H, toks := tk2 } := by
    refine comp1_core (fun n s' => ∃ i items W' h' tk', n + i = ps.length ∧ s' = { s with heap := h', toks := tk' } ∧ St g ⟨cEnv scope c.env (D + 1) cs, s.heap, W.O⟩ scope.names W' σc ωc h' tk' ∧
      ItAt W' h' I en fp (ps.drop i) ∧ FpOk W' h' fp ∧ h'.IsList D items ∧ RepL W' h' (((ps.take i).filter test).map F) items.toList ∧ W'.O = (inner W2 D).O ∧ (∀ t x, W2.T t = some x → W'.T t = some x) ∧ tk2 ≤ tk') ?_ ps.length
      ⟨0, #[], inner W2 D, H, tk2, by lia, rfl, S0, by simpa using hit0, hfp0, hl0, by simp [repL_nil], rfl, fun _ _ e => e, Nat.le_refl _⟩
    rintro n s' ⟨i, items, W', h', tk', hni, rfl, S', hit', hfp', hl', rl', hO', hT', hle'⟩
    have hDO : W'.O D := by rw [hO']; exact .inr rfl
    cases hd : ps.drop i with
    | nil =>
      rw [hd] at hit'
      have hi : i = ps.length := by
        have := congrArg List.length hd
        rw [List.length_drop] at this
        simp at this; lia
      subst hi
      refine it_done (s := { s with heap := h', toks := tk' }) R.hd hit' fun h'' kf => ?_
      have S'' := S'.turn kf hfp' hbase (Nat.le_refl _)
      have hl'' : h''.IsList D items := by
        obtain ⟨o, ho, hc, n, hdd⟩ := hl'
        refine ⟨o, kf D o (fun hm => ?_) ho, hc, n, hdd⟩
        exact (hfp' D hm).1 hDO
      obtain ⟨m, hm⟩ := S''.ns
      have rl'' : RepL W' h'' ((ps.filter test).map F) items.toList := by
        have := rl'.mono (hfp'.modS kf) (Grow.refl _ _)
        rwa [List.take_length] at this
      refine hRR D (D + 1) ⟨W.O, W'.T⟩ h'' tk' items m (Nat.succ_ne_self D) (freshD D (Nat.le_refl _)) (freshD _ (Nat.le_succ _)) hDW hm hl'' ?_ ⟨S''.ext, rfl, fun t x e => hT' t x (u.t t x e), S''.tok, Nat.le_trans u.le hle'⟩
      exact RepL.weaken (W := W') (W' := ⟨W.O, W'.T⟩) (fun a ha => by rw [hO']; exact .inl (by rw [u.o]; exact ha)) (fun _ => rfl) rl''
    | cons p rest =>
      rw [hd] at hit'
      have hp : ps[i]? = some p := by
        have := congrArg (fun l => l[0]?) hd
        simpa using this
      have hrest : ps.drop (i + 1) = rest := by rw [← List.tail_drop, hd]; rfl
      have hlt : i < ps.length := by
        rcases Nat.lt_or_ge i ps.length with h | h
        · exact h
        · rw [List.getElem?_eq_none h] at hp; cases hp
      have hmem : p ∈ ps := List.mem_of_getElem? hp
      have htake : ps.take (i + 1) = ps.take i ++ [p] := by rw [List.take_add_one, hp]; rfl
      obtain ⟨B, hB, hok, hifs, helt⟩ := body p hmem
      refine it_step (s := { s with heap := h', toks := tk' }) (t := t) S'.sok hit' hfp' het fun v s₁ hgo => ?_
      refine hgo _ fun h3 tk3 rp it3 fp3 kf le3 => ?_
      have S3 := S'.turn kf hfp' hbase le3
      have hl3 : h3.IsList D items := by
        obtain ⟨o, ho, hc, n, hdd⟩ := hl'
        exact ⟨o, kf D o (fun hm => (hfp' D hm).1 hDO) ho, hc, n, hdd⟩
      have rl3 := rl'.mono (hfp'.modS kf) (Grow.refl _ _)
      have keepD : ∀ {ha hb : Heap} {its : Array Value}, ha.IsList D its → (∀ o, ha.get? D = some o → hb.get? D = some o) → hb.IsList D its := fun ⟨o, ho, r⟩ k => ⟨o, k o ho, r⟩
      -- the target's names are stored: D is no part of them
      refine assign_tgt (s := { s with heap := h3, toks := tk3 }) (c := ⟨cEnv scope c.env (D + 1) cs, s.heap, W.O⟩) S3 R hB hok rp fun h4 tk4 S4 m4 le4 => ?_
      have l4 : Later W' W' h3 h4 tk3 tk4 := Later.of_mod m4.any le4
      obtain ⟨it4, fp4⟩ := it3.mono fp3 m4.any (Grow.refl _ _)
      have hl4 : h4.IsList D items := by
        obtain ⟨o, ho, hc, n, hdd⟩ := hl3
        exact ⟨o, m4.keep D o ho (fun x => x) (stays_seq hdd), hc, n, hdd⟩
      have rl4 := rl3.mono m4.any.seq (Grow.refl _ _)
      refine wpAny_mono (hifs _ W' A { s with heap := h4, toks := tk4 } R S4) (fun okb s5 h5 => ?_) fun _ _ f => f
      obtain ⟨W5, h5, tk5, rfl, rfl, u5⟩ := h5
      have S5 := S4.keeps u5
      have less : ∀ {h' : Heap} {tk' : Nat} {W' : Wd}, St g ⟨cEnv scope c.env (D + 1) cs, s.heap, W.O⟩ scope.names W' (B ++ σc) ωc h' tk' → St g ⟨cEnv scope c.env (D + 1) cs, s.heap, W.O⟩ scope.names W' σc ωc h' tk' := fun q => by
        refine q.less (fun x p hx => ?_) fun _ _ e => e
        have hf := (hσ _ (mem_of_lookup hx)).2
        have hxt : x ∉ tgts t := fun hm => by
          rcases (hok x hm).1 with q | q <;> (rw [show scope.names.lookup x = some .free from hf] at q; cases q)
        rw [lookup_append_none (bindT_keys hB hxt)]; exact hx
      obtain ⟨it5, fp5⟩ := it4.mono fp4 u5.ext.mod u5.grow
      have hO5 : W5.O = (inner W2 D).O := u5.o.trans hO'
      have hl5 := isList_ext hl4 u5.ext
      have rl5 := rl4.up u5
      cases htest : test p with
      | false =>
        simp only [Bool.false_eq_true, if_false]
        refine ⟨n - 1, by lia, i + 1, items, W5, h5, tk5, by lia, rfl, less S5, by rw [hrest]; exact it5, fp5, hl5, ?_, hO5, fun t x e => u5.t t x (hT' t x e), Nat.le_trans hle' (Nat.le_trans le3 (Nat.le_trans le4 u5.le))⟩
        rw [htake, List.filter_append]
        simpa [htest] using rl5
      | true =>
        simp only [if_true]
        refine wpAny_mono (helt htest _ W5 A { s with heap := h5, toks := tk5 } R S5) (fun v s6 h6 => ?_) fun _ _ f => f
        obtain ⟨W6, h6, tk6, rfl, rv, u6⟩ := h6
        have S6 := less (S5.keeps u6)
        obtain ⟨it6, fp6⟩ := it5.mono fp5 u6.ext.mod u6.grow
        have hO6 : W6.O = (inner W2 D).O := u6.o.trans hO5
        have hl6 := isList_ext hl5 u6.ext
        have rl6 := rl5.up u6
        have hDO6 : W6.O D := by rw [hO6]; exact .inr rfl
        have hsz : items.size ≤ sizeLine := by
          have := rl6.length
          rw [Array.length_toList, List.length_map] at this
          have h1 := List.length_filter_le test (ps.take i)
          rw [List.length_take] at h1
          exact few (by lia)
        refine wpAny_list_append (hsz := hsz) hl6 fun h7 hl7 hs7 => ?_
        have S7 := S6.acc (tk' := tk6) hDO6 (freshD D (Nat.le_refl _)) (fun x l e => (hω _ (mem_of_lookup e)).2) hl6 hl7 hs7 (Nat.le_refl _)
        have ms7 : ModS W6.O h6 h7 := fun b o e hO' _ => (hs7.2 b (fun q => hO' (q ▸ hDO6))).trans e
        have hfpD : D ∉ fp := fun hm => (fp6 D hm).1 hDO6
        have m7 : Mod W6.O h6 h7 := ⟨fun b o e hO' _ => (hs7.2 b (fun q => hO' (q ▸ hDO6))).trans e, fun b o e => by
          by_cases hb : b = D
          · subst hb; obtain ⟨o', e', _⟩ := hl7; exact ⟨o', e'⟩
          · exact ⟨o, (hs7.2 b hb).trans e⟩⟩
        obtain ⟨it7, fp7⟩ := it6.mono fp6 m7 (Grow.refl _ _)
        refine ⟨n - 1, by lia, i + 1, items.push v, W6, h7, tk6, by lia, rfl, S7, by rw [hrest]; exact it7, fp7, hl7, ?_, hO6, fun t x e => u6.t t x (u5.t t x (hT' t x e)), Nat.le_trans hle' (Nat.le_trans le3 (Nat.le_trans le4 (Nat.le_trans u5.le u6.le)))⟩
        rw [htake, List.filter_append]
        have r1 := rl6.mono ms7 (Grow.refl _ _)
        have r2 := rv.mono ms7 (Grow.refl _ _)
        have := r1.append (repL_cons.mpr ⟨v, [], rfl, r2, repL_nil.mpr rfl⟩)
        simpa [htest] using this
  exact codeAny_compStart_list loop (it_self (s := { s with heap := H, toks := tk2 }) hit0 loop)
end

end Mine

namespace Mine
open PySem PySem.W PyProof.Rows

section
variable {g : Pg} {d : Nat} {K : Kn} {σ : Sig} {ω : Own} {c : Cx} {W : Wd} {A : Around} {s : Shared} {P : PostT}

theorem comp_clo (S : St g c K W σ ω s.heap s.toks) {scope : Scope} (ok : compOk K scope = true) : closureFor scope c.env = pure (clFrom c.env.cells scope.names []) :=
  closureFor_eq fun y hy hf => by
    obtain ⟨_, _, hcap⟩ := compOk_use ok
    obtain ⟨k, ov, e, _⟩ := S.cell y.1 (hcap y hy hf); exact ⟨k, e⟩

theorem comp_names {scope : Scope} (ok : compOk K scope = true) : ∀ x ∈ scope.names, x.2 = .local → scope.names.lookup x.1 = some .local := fun x hx hl => by
  obtain ⟨_, hnd, _⟩ := compOk_use ok
  obtain ⟨n, k⟩ := x
  have : k = .local := hl
  subst this
  exact lookup_of_nodup hnd hx

theorem ev_comp {t elt iter : Expr} {ifs : List Expr} {scope : Scope} {pos : Pos} {ps : List PV} {en : Bool} (σc : Sig) (ωc : Own) (test : PV → Bool) (F : PV → PV)
    (hi : EvIt g d K σ ω en iter ps) (het : en = true → isTup t = true) (ok : compOk K scope = true) (hσ : CSub scope.names σc σ) (hω : CSub scope.names ωc ω)
    (body : CompBody g d scope.names σc ωc t ifs elt ps test F) (hn : ps.length ≤ 4096) (hs : ∀ env x, foldedSetIterable iter env x = pure x := by intro _ _; rfl) :
    Ev g d K σ ω (.ListComp elt [⟨t, iter, ifs, 0⟩] scope pos) (.lst ((ps.filter test).map F)) := fun c W A s R S => by
  rw [eval_ListComp]
  refine wpAny_comprehension_free (use := Option.none) rfl (hs _) (comp_clo S ok) (compOk_use ok).1 (comp_names ok) (wpAny_mono (hi c W A s R S) (fun x s₁ h₁ => wpAny_mono h₁ (fun it s₂ h₂ => ?_) fun _ _ f => f) fun _ _ f => f)
  obtain ⟨I, fp, W2, h2, tk2, rfl, rfl, hit, hfp, hfr, up⟩ := h₂
  refine comp_loop1 (RR := fun acc C => compPost (model g.prog g.w) A (fun _ _ => False) Option.none (ValPost W _ s) acc C) R S ok hσ hω up hit hfp hfr het body hn ?_
  intro D C W' h' tk' items m hCD hD hC hDW hm hl rl u
  refine ⟨m, hm, fun h'' hs'' => ?_⟩
  have ms : ModS W'.O h' h'' := fun b o e _ hseq => (hs''.2 b (fun q => by
    subst q
    obtain ⟨o', es, ep, e', hd, _⟩ := hm
    have e2 : h'.get? b = some o := e
    rw [e'] at e2; cases e2
    unfold IsSeq at hseq; rw [hd] at hseq; exact hseq)).trans e
  refine ⟨W', h'', tk', rfl, rep_lst.mpr ⟨D, items, rfl, by rw [u.o]; exact hDW, ?_, rl.mono ms (Grow.refl _ _)⟩, ⟨fun b o e => (hs''.2 b (fun q => by rw [q, hC] at e; cases e)).trans (u.ext b o e), u.o, u.t, u.tok, u.le⟩⟩
  obtain ⟨o, ho, r⟩ := hl
  exact ⟨o, (hs''.2 D (Ne.symm hCD)).trans ho, r⟩

theorem swaps_local {env : Env} {elt : Expr} {gens : List Comprehension} {scope : Scope} {pos py : Pos} {y : Str} {line : Nat} (hk : env.scope.kind = .function) (hl : env.kindOf y = some .local)
    (h : (py.line == pos.line && !(scope.names.any fun x => x.1 == y && (x.2 == .local || x.2 == .cell))) = true) : swapsWith (.ListComp elt gens scope pos) (some (.Name y py)) line env = pure true := by
  have : swapsWith (.ListComp elt gens scope pos) (some (.Name y py)) line env =
      pure (env.blockKind == .function && env.kindOf y == some .local && py.line == pos.line && !(scope.names.any fun x => x.1 == y && (x.2 == .local || x.2 == .cell))) := rfl
  rw [this]
  congr 1
  have hb : env.blockKind = .function := by unfold Env.blockKind; rw [hk]; rfl
  rw [hb, hl]
  rw [Bool.and_eq_true] at h
  rw [h.1, h.2]; rfl
theorem swaps_cell {env : Env} {elt : Expr} {gens : List Comprehension} {scope : Scope} {pos py : Pos} {y : Str} {line : Nat} (hl : env.kindOf y = some .cell) :
    swapsWith (.ListComp elt gens scope pos) (some (.Name y py)) line env = pure false := by
  have : swapsWith (.ListComp elt gens scope pos) (some (.Name y py)) line env =
      pure (env.blockKind == .function && env.kindOf y == some .local && py.line == pos.line && !(scope.names.any fun x => x.1 == y && (x.2 == .local || x.2 == .cell))) := rfl
  rw [this]
  congr 1
  have : (some NameKind.cell == some NameKind.local) = false := by decide
  rw [hl, this, Bool.and_false]; rfl

/-- x = [..] where a comprehension reads x later: x is a cell, the value is stored as any other -/
theorem ex1_assign_cell {x : Str} {pos pos' cpos : Pos} {elt : Expr} {gens : List Comprehension} {scope : Scope} {p : PV} (h : Ev g d K σ ω (.ListComp elt gens scope cpos) p) (hK : K.lookup x = some .cell) (hω : ω.lookup x = Option.none)
    (hP : P .next ((x, p) :: σ) ω) : Ex1 g d K σ ω (.Assign [.Name x pos'] (.ListComp elt gens scope cpos) pos) P := fun c W A s R S =>
  wpAny_Assign_Name (h.run R S fun v W' h' tk' r u => (S.keeps u).store (s := { s with heap := h', toks := tk' }) (.inr hK) hω r fun h2 tk2 S2 m le =>
    ⟨.next, _, ω, W', h2, tk2, rfl, hP, rfl, S2, u.later.trans (Later.of_mod m.any le)⟩) (swaps_cell (by rcases S.known x _ hK with h1 | ⟨h1, _⟩; exact h1; cases h1))

/-- x = [..], x a plain name of the frame: it is stored before the block's names go -/
theorem ex1_assign_comp {y : Str} {py pos spos : Pos} {t elt iter : Expr} {ifs : List Expr} {scope : Scope} {ps : List PV} {en : Bool} (σc : Sig) (ωc : Own) (test : PV → Bool) (F : PV → PV)
    (hi : EvIt g d K σ ω en iter ps) (het : en = true → isTup t = true) (ok : compOk K scope = true) (hσ : CSub scope.names σc σ) (hω : CSub scope.names ωc ω)
    (body : CompBody g d scope.names σc ωc t ifs elt ps test F) (hn : ps.length ≤ 4096)
    (hK : K.lookup y = some .local) (hωy : ω.lookup y = Option.none) (hline : (py.line == pos.line && !(scope.names.any fun x => x.1 == y && (x.2 == .local || x.2 == .cell))) = true)
    (hP : P .next ((y, .lst ((ps.filter test).map F)) :: σ) ω) (hs : ∀ env x, foldedSetIterable iter env x = pure x := by intro _ _; rfl) :
    Ex1 g d K σ ω (.Assign [.Name y py] (.ListComp elt [⟨t, iter, ifs, 0⟩] scope pos) spos) P := fun c W A s R S => by
  have hl : c.env.kindOf y = some .local := by rcases S.known y _ hK with h1 | ⟨h1, _⟩; exact h1; cases h1
  rw [exec_Assign_Name_used _ _ _ _ (swaps_local S.kind hl hline)]
  refine wpAny_bind (wpAny_standAt (wpAny_bind ?_))
  show wpAny _ A (do let _ ← comprehension (.ListComp elt [⟨t, iter, ifs, 0⟩] scope pos) scope c.env _ (newList []) false (eval iter c.env) (some (assign (.Name y py) c.env))) _ _ s
  refine wpAny_bind (wpAny_mono (wpAny_comprehension_free (use := some (assign (.Name y py) c.env)) (Q := fun _ s' => ExPost g c K W P s .next s') rfl (hs _) (comp_clo S ok) (compOk_use ok).1 (comp_names ok)
    (wpAny_mono (hi c W A s R S) (fun x s₁ h₁ => wpAny_mono h₁ (fun it s₂ h₂ => ?_) fun _ _ f => f) fun _ _ f => f)) (fun _ s' q => wpAny_pure (wpAny_pure q)) fun _ _ f => f)
  obtain ⟨I, fp, W2, h2, tk2, rfl, rfl, hit, hfp, hfr, up⟩ := h₂
  refine comp_loop1 (RR := fun acc C => compPost (model g.prog g.w) A (fun _ _ => False) (some (assign (.Name y py) c.env)) (fun _ s' => ExPost g c K W P s .next s') acc C) R S ok hσ hω up hit hfp hfr het body hn ?_
  intro D C W' h' tk' items m hCD hD hC hDW hm hli rl u
  show wpAny _ A (assign (.Name y py) c.env (.ref D)) _ _ _
  have S' := S.keeps u
  have rD : Rep W' h' (.lst ((ps.filter test).map F)) (.ref D) := rep_lst.mpr ⟨D, items, rfl, by rw [u.o]; exact hDW, hli, rl⟩
  obtain ⟨mo, hmo⟩ := S.ns
  have hLC : c.env.locals ≠ C := fun e => by obtain ⟨o, _, _, e', _⟩ := hmo; rw [e, hC] at e'; cases e'
  -- the store, with the block's own names untouched by it
  refine wpAny_assign_Name ?_
  have hmo' : h'.Ns c.env.locals mo := hmo.keeps u.ext
  refine wpAny_storeName_local (s := { s with heap := h', toks := tk' }) hl hmo' (fun h3 hn3 hs3 => ?_) (not_class S)
  have hk3 : (K.lookup y = some .local ∧ ∃ m, h'.Ns c.env.locals m ∧ h3.Ns c.env.locals (fun z => if z = y then some (.ref D) else m z) ∧ Heap.SameBut c.env.locals h' h3) ∨
      (K.lookup y = some .cell ∧ ∃ k ov, c.env.cells.lookup y = some k ∧ h'.IsCell k ov ∧ h3.IsCell k (some (.ref D)) ∧ Heap.SameBut k h' h3) := .inl ⟨hK, mo, hmo', hn3, hs3⟩
  obtain ⟨S3, m3⟩ := S'.stored (v := .ref D) hs3 S.lfresh (Nat.le_succ tk') (.inl ⟨mo, hmo'⟩) (let ⟨o, _, _, e, _⟩ := hn3; ⟨o, e⟩) ⟨_, hn3⟩
    (fun z hz => let ⟨k, ov, e1, e2⟩ := S'.cell z hz; ⟨k, ov, e1, e2.sameBut hs3 (ns_ne_cell hmo' e2).symm⟩)
    (fun z u' hz hlz => hlz.stored hz hk3 S.apart) (.inl ⟨hK, _, hn3, by simp⟩) rD hωy
  refine ⟨m, hm.sameBut hs3 (Ne.symm hLC), fun h4 hs4 => ?_⟩
  have hm3 : h3.Ns C m := hm.sameBut hs3 (Ne.symm hLC)
  -- the block's dict is turned once more
  have nsC : ∀ a mm, a ≠ C → h3.Ns a mm → h4.Ns a mm := fun a mm ha hn => hn.sameBut hs4 ha
  have cellC : ∀ a v, h3.IsCell a v → h4.IsCell a v := fun a v hc => hc.sameBut hs4 (ns_ne_cell hm3 hc).symm
  have ms4 : ModS W'.O h3 h4 := fun b o e _ hseq => (hs4.2 b (fun q => by
    subst q
    obtain ⟨o', es, ep, e', hd, _⟩ := hm3
    rw [e'] at e; cases e
    unfold IsSeq at hseq; rw [hd] at hseq; exact hseq)).trans e
  have hCW : ∀ a, W'.O a → a ≠ C := fun a ha e => by
    rw [u.o] at ha
    obtain ⟨o, ho⟩ := S.valid a ha
    rw [e, hC] at ho; cases ho
  have S4 : St g c K W' ((y, .lst ((ps.filter test).map F)) :: σ) ω h4 (tk' + 1) := by
    refine ⟨fun b o e => (hs4.2 b (fun q => by
        have := S.ext b o e
        rw [q, hC] at this; cases this)).trans (S3.ext b o e), S3.ok, S3.kind, S3.globals, S3.builtins, ⟨_, nsC _ _ hLC hn3⟩, S3.lfresh, S3.known,
      fun z hz => let ⟨k, ov, e1, e2⟩ := S3.cell z hz; ⟨k, ov, e1, cellC _ _ e2⟩, S3.cfresh, S3.apart, fun z p hp => ?_, ?_, S3.sub, fun a ha => ?_, S3.tok, S3.pos⟩
    · obtain ⟨v, hlv, hr⟩ := S3.vars z p hp
      refine ⟨v, ?_, hr.mono ms4 (Grow.refl _ _)⟩
      rcases hlv with ⟨hk, mm, hn, hmm⟩ | ⟨hk, k, hc, hv⟩
      · exact .inl ⟨hk, mm, nsC _ _ hLC hn, hmm⟩
      · exact .inr ⟨hk, k, hc, cellC _ _ hv⟩
    · obtain ⟨ad, q1, q2⟩ := S3.owns
      refine ⟨ad, fun z l hlz => ?_, q2⟩
      obtain ⟨a1, a2, a3, items1, ⟨o, ho, hr⟩, a6⟩ := q1 z l hlz
      refine ⟨?_, a2, a3, items1, ⟨o, (hs4.2 _ (hCW _ a2)).trans ho, hr⟩, a6.mono ms4 (Grow.refl _ _)⟩
      rcases a1 with ⟨hk, mm, hn, hmm⟩ | ⟨hk, k, hc, hv⟩
      · exact .inl ⟨hk, mm, nsC _ _ hLC hn, hmm⟩
      · exact .inr ⟨hk, k, hc, cellC _ _ hv⟩
    · obtain ⟨o, ho⟩ := S3.valid a ha
      exact ⟨o, (hs4.2 a (hCW a ha)).trans ho⟩
  have l3 : Later W W' s.heap h3 s.toks (tk' + 1) := u.later.trans (Later.of_mod m3.any (Nat.le_succ _))
  refine ⟨.next, _, ω, W', h4, tk' + 1, rfl, hP, rfl, S4, ⟨⟨fun b o e hO hs => (hs4.2 b (fun q => by rw [q, hC] at e; cases e)).trans (l3.mod.keep b o e hO hs), fun b o e => ?_⟩, l3.grow, l3.le⟩⟩
  obtain ⟨o', e'⟩ := l3.mod.alive b o e
  exact ⟨o', (hs4.2 b (fun q => by rw [q, hC] at e; cases e)).trans e'⟩
end

end Mine

namespace Mine
open PySem PySem.W PyProof.Rows

/-- a builtin, called with these values, gives that one -/
noncomputable def CallV (f : Value) (ps : List PV) (p : PV) : Prop :=
  ∀ (prog : Program) (w : World) (W : Wd) (A : Around) (s : Shared) (vs : List Value), Room 0 A → Sok W s.heap s.toks → RepL W s.heap ps vs →
    wpAny (model prog w) A (call f vs) (ValPost W p s) (fun _ _ => False) s

section
variable {g : Pg} {d : Nat} {K : Kn} {σ : Sig} {ω : Own} {c : Cx} {W : Wd} {A : Around} {s : Shared}

theorem load_boot (S : St g c K W σ ω s.heap s.toks) {x : Str} {v : Value} {pos : Pos} {Q : Value → Shared → Prop} {E : Value → Shared → Prop} (hK : K.lookup x = some .globalImplicit) (hn : x ∉ g.names) (hb : bootBuiltins x = some v) (hQ : Q v s)
    (hm : x ∉ bootMainNames := by decide) (h1 : x ≠ "__name__" := by decide) (hd : (x == ("__debug__" : Str)) = false := by decide) : wpAny (model g.prog g.w) A (eval (.Name x pos) c.env) Q E s := by
  refine eval_global S hK ?_ hd
  obtain ⟨⟨N, mg, mb, G⟩, _⟩ := S.okNow
  exact Calls.loadGlobal_builtin (by rw [S.globals]; exact G.g) (G.free x hn hm) (by rw [S.builtins]; exact G.b) ((G.builtins x h1).trans hb) hQ

theorem ev_callB {x : Str} {id : String} {e : Expr} {es : List Expr} {ps : List PV} {p : PV} {pos pos' : Pos} (hK : K.lookup x = some .globalImplicit) (hn : x ∉ g.names) (hb : bootBuiltins x = some (.builtin id)) (ha : EvL g d K σ ω (e :: es) ps)
    (F : CallV (.builtin id) ps p) (he : ∀ env, starEach (e :: es) env = (false, eval e env) :: starEach es env := by intro _; rfl) (hp : ∀ env, (backTo pos' (starEach es env)).any (·.1) = false := by intro _; rfl)
    (hm : x ∉ bootMainNames := by decide) (h1 : x ≠ "__name__" := by decide) (hd : (x == ("__debug__" : Str)) = false := by decide) :
    Ev g d K σ ω (.Call (.Name x pos) (e :: es) [] pos') p := fun c W A s R S => by
  refine Call_ (load_boot S hK hn hb ?_ hm h1 hd)
  refine PyProof.Rows.callWith_builtin1 ?_ (he _) (hp _)
  refine ha.run R S fun vs W' h' tk' r u => ?_
  exact wpAny_mono (F g.prog g.w W' A { s with heap := h', toks := tk' } vs R.zero (S.keeps u).sok r) (fun v s' x => x.after u) fun _ _ f => f

theorem ev_callT {x : Str} {T : String} {e : Expr} {es : List Expr} {ps : List PV} {p : PV} {pos pos' : Pos} (hK : K.lookup x = some .globalImplicit) (hn : x ∉ g.names) (hb : bootBuiltins x = some (.type T)) (ha : EvL g d K σ ω (e :: es) ps)
    (F : CallV (.type T) ps p) (he : ∀ env, starEach (e :: es) env = (false, eval e env) :: starEach es env := by intro _; rfl) (hp : ∀ env, (backTo pos' (starEach es env)).any (·.1) = false := by intro _; rfl)
    (hm : x ∉ bootMainNames := by decide) (h1 : x ≠ "__name__" := by decide) (hd : (x == ("__debug__" : Str)) = false := by decide) :
    Ev g d K σ ω (.Call (.Name x pos) (e :: es) [] pos') p := fun c W A s R S => by
  refine Call_ (load_boot S hK hn hb ?_ hm h1 hd)
  refine PyProof.Rows.callWith_type1 ?_ (he _) (hp _)
  refine ha.run R S fun vs W' h' tk' r u => ?_
  exact wpAny_mono (F g.prog g.w W' A { s with heap := h', toks := tk' } vs R.zero (S.keeps u).sok r) (fun v s' x => x.after u) fun _ _ f => f

theorem repL_one {h : Heap} {p : PV} {vs : List Value} (r : RepL W h [p] vs) : ∃ v, vs = [v] ∧ Rep W h p v := by
  rw [repL_cons] at r
  obtain ⟨v, q, rfl, h1, h2⟩ := r
  rw [repL_nil] at h2; subst h2
  exact ⟨v, rfl, h1⟩
theorem repL_two {h : Heap} {p q : PV} {vs : List Value} (r : RepL W h [p, q] vs) : ∃ v u, vs = [v, u] ∧ Rep W h p v ∧ Rep W h q u := by
  rw [repL_cons] at r
  obtain ⟨v, q, rfl, h1, h2⟩ := r
  obtain ⟨u, rfl, h3⟩ := repL_one h2
  exact ⟨v, u, rfl, h1, h3⟩
theorem repL_three {h : Heap} {p q o : PV} {vs : List Value} (r : RepL W h [p, q, o] vs) : ∃ v u x, vs = [v, u, x] ∧ Rep W h p v ∧ Rep W h q u ∧ Rep W h o x := by
  rw [repL_cons] at r
  obtain ⟨v, q, rfl, h1, h2⟩ := r
  obtain ⟨u, x, rfl, h3, h4⟩ := repL_two h2
  exact ⟨v, u, x, rfl, h1, h3, h4⟩

theorem cv_len {l : List PV} (hn : l.length ≤ 4096) : CallV (.builtin "len") [.lst l] (.int l.length) := fun prog w W A s vs R S r => by
  obtain ⟨v, rfl, rv⟩ := repL_one r
  obtain ⟨a, its, rfl, _, ha, hl⟩ := rep_lst.mp rv
  have n1 := hl.length
  rw [Array.length_toList] at n1
  refine PyProof.Rows.len_list ha (by lia) ?_
  rw [n1]
  exact ⟨W, s.heap, s.toks + 1 + 1, rfl, rep_int.mpr ⟨_, rfl⟩, up_toks S (by lia)⟩

/-- the whole number below a float, as int() gives it -/
noncomputable def truncF (x : UInt64) : Option Int := match Float64.decode x with | .fin sg m e => some (Float64.truncOf sg m e) | _ => Option.none
theorem cv_int {x : UInt64} {i : Int} (h : truncF x = some i) : CallV (.type "int") [.flt x] (.int i) := fun prog w W A s vs R S r => by
  obtain ⟨v, rfl, rv⟩ := repL_one r
  obtain ⟨t, rfl, _⟩ := rep_flt.mp rv
  unfold truncF at h
  split at h
  · rename_i sg m e hd
    cases h
    exact call_int_float hd (val_int S (Nat.le_succ _))
  · cases h

noncomputable def max3 (a b c : UInt64) : UInt64 := let m := if Float64.cmp a b == some .lt then b else a; if Float64.cmp m c == some .lt then c else m
noncomputable def min3 (a b c : UInt64) : UInt64 := let m := if Float64.cmp b a == some .lt then b else a; if Float64.cmp c m == some .lt then c else m

/-- a value that stood already -/
theorem val_kept (S : Sok W s.heap s.toks) {h' : Heap} {tk : Nat} (x : Ext s.heap h') (h : s.toks ≤ tk) {p : PV} {v : Value} (r : Rep W s.heap p v) : ValPost W p s v { s with heap := h', toks := tk } :=
  ⟨W, h', tk, rfl, r.ext x, up_ext S x h⟩

theorem cv_max3 {a b c : UInt64} : CallV (.builtin "max") [.flt a, .flt b, .flt c] (.flt (max3 a b c)) := fun prog w W A s vs R S r => by
  obtain ⟨v1, v2, v3, rfl, r1, r2, r3⟩ := repL_three r
  obtain ⟨t1, rfl, e1⟩ := rep_flt.mp r1
  obtain ⟨t2, rfl, e2⟩ := rep_flt.mp r2
  obtain ⟨t3, rfl, e3⟩ := rep_flt.mp r3
  have hT : (s.heap.push { cls := .type "tuple", data := .seq #[.float a t1, .float b t2, .float c t3] }).IsTuple s.heap.objs.size #[.float a t1, .float b t2, .float c t3] := ⟨_, Heap.get?_push_size _ rfl, rfl, 0, rfl⟩
  refine wpAny_with_toks (n := s.toks) (Nat.le_refl _) ?_
  refine call_max_three (wpAny_pyIter_tuple hT ?_)
  have hsz : (s.heap.push { cls := .type "tuple", data := .seq #[.float a t1, .float b t2, .float c t3] }).objs.size = s.heap.objs.size + 1 := Heap.size_push ..
  refine ⟨_, [_, s.heap.objs.size], [_], _, _, _, _, rfl, Walks.tuple (A := A.in1) R.hd _ s.heap.objs.size (by rw [hsz]; exact Nat.ne_of_lt (Nat.lt_succ_self _)) #[.float a t1, .float b t2, .float c t3],
    ⟨⟨_, Heap.get?_push_size _ rfl, rfl, rfl⟩, hT.push _⟩, fun c hc => ?_, by simp, Flt.cmpOf_gt #[.float a t1, .float b t2, .float c t3] (by simp [Flt.NumV.float]), fun v h' tk hP hk htk => ?_⟩
  · show c < ((s.heap.push _).push _).objs.size
    rw [Heap.size_push, hsz]
    rcases List.mem_cons.mp hc with rfl | hc
    · rw [hsz]; exact Nat.lt_succ_self _
    · rcases List.mem_cons.mp hc with rfl | hc
      · exact Nat.lt_succ_of_lt (Nat.lt_succ_self _)
      · cases hc
  · have hold : Ext s.heap h' := fun c o e => by
      refine hk c o (fun hm => ?_) (Heap.get?_push_of_some _ (Heap.get?_push_of_some _ e))
      rcases List.mem_cons.mp hm with e1 | hm
      · have := Heap.lt_size e; rw [e1, hsz] at this; exact Nat.lt_irrefl _ (Nat.lt_of_succ_lt this)
      · cases hm
    have hv : ∃ t, v = .float (max3 a b c) t ∧ W.T t = some (max3 a b c) := by
      unfold max3
      cases h1 : (Float64.cmp a b == some .lt) with
      | true =>
        cases h2 : (Float64.cmp b c == some .lt) with
        | true => simp [argBest, Flt.ltV, h1, h2] at hP; subst hP; simp only [if_true, h2]; exact ⟨_, rfl, e3⟩
        | false => simp [argBest, Flt.ltV, h1, h2] at hP; subst hP; simp only [if_true, h2]; exact ⟨_, rfl, e2⟩
      | false =>
        cases h2 : (Float64.cmp a c == some .lt) with
        | true => simp [argBest, Flt.ltV, h1, h2] at hP; subst hP; simp only [Bool.false_eq_true, if_false, if_true, h2]; exact ⟨_, rfl, e3⟩
        | false => simp [argBest, Flt.ltV, h1, h2] at hP; subst hP; simp only [Bool.false_eq_true, if_false, h2]; exact ⟨_, rfl, e1⟩
    obtain ⟨t, hv, hT⟩ := hv
    exact val_kept S hold htk (rep_flt.mpr ⟨t, hv, hT⟩)
theorem cv_min3 {a b c : UInt64} : CallV (.builtin "min") [.flt a, .flt b, .flt c] (.flt (min3 a b c)) := fun prog w W A s vs R S r => by
  obtain ⟨v1, v2, v3, rfl, r1, r2, r3⟩ := repL_three r
  obtain ⟨t1, rfl, e1⟩ := rep_flt.mp r1
  obtain ⟨t2, rfl, e2⟩ := rep_flt.mp r2
  obtain ⟨t3, rfl, e3⟩ := rep_flt.mp r3
  have hT : (s.heap.push { cls := .type "tuple", data := .seq #[.float a t1, .float b t2, .float c t3] }).IsTuple s.heap.objs.size #[.float a t1, .float b t2, .float c t3] := ⟨_, Heap.get?_push_size _ rfl, rfl, 0, rfl⟩
  refine wpAny_with_toks (n := s.toks) (Nat.le_refl _) ?_
  refine call_min_three (wpAny_pyIter_tuple hT ?_)
  have hsz : (s.heap.push { cls := .type "tuple", data := .seq #[.float a t1, .float b t2, .float c t3] }).objs.size = s.heap.objs.size + 1 := Heap.size_push ..
  refine ⟨_, [_, s.heap.objs.size], [_], _, _, _, _, rfl, Walks.tuple (A := A.in1) R.hd _ s.heap.objs.size (by rw [hsz]; exact Nat.ne_of_lt (Nat.lt_succ_self _)) #[.float a t1, .float b t2, .float c t3],
    ⟨⟨_, Heap.get?_push_size _ rfl, rfl, rfl⟩, hT.push _⟩, fun c hc => ?_, by simp, Flt.cmpOf_lt #[.float a t1, .float b t2, .float c t3] (by simp [Flt.NumV.float]), fun v h' tk hP hk htk => ?_⟩
  · show c < ((s.heap.push _).push _).objs.size
    rw [Heap.size_push, hsz]
    rcases List.mem_cons.mp hc with rfl | hc
    · rw [hsz]; exact Nat.lt_succ_self _
    · rcases List.mem_cons.mp hc with rfl | hc
      · exact Nat.lt_succ_of_lt (Nat.lt_succ_self _)
      · cases hc
  · have hold : Ext s.heap h' := fun c o e => by
      refine hk c o (fun hm => ?_) (Heap.get?_push_of_some _ (Heap.get?_push_of_some _ e))
      rcases List.mem_cons.mp hm with e1 | hm
      · have := Heap.lt_size e; rw [e1, hsz] at this; exact Nat.lt_irrefl _ (Nat.lt_of_succ_lt this)
      · cases hm
    have hv : ∃ t, v = .float (min3 a b c) t ∧ W.T t = some (min3 a b c) := by
      unfold min3
      cases h1 : (Float64.cmp b a == some .lt) with
      | true =>
        cases h2 : (Float64.cmp c b == some .lt) with
        | true => simp [argBest, Flt.ltV, h1, h2] at hP; subst hP; simp only [if_true, h2]; exact ⟨_, rfl, e3⟩
        | false => simp [argBest, Flt.ltV, h1, h2] at hP; subst hP; simp only [if_true, h2]; exact ⟨_, rfl, e2⟩
      | false =>
        cases h2 : (Float64.cmp c a == some .lt) with
        | true => simp [argBest, Flt.ltV, h1, h2] at hP; subst hP; simp only [Bool.false_eq_true, if_false, if_true, h2]; exact ⟨_, rfl, e3⟩
        | false => simp [argBest, Flt.ltV, h1, h2] at hP; subst hP; simp only [Bool.false_eq_true, if_false, h2]; exact ⟨_, rfl, e1⟩
    obtain ⟨t, hv, hT⟩ := hv
    exact val_kept S hold htk (rep_flt.mpr ⟨t, hv, hT⟩)

theorem repL_ints {h : Heap} : ∀ {l : List Int} {vs : List Value}, RepL W h (l.map PV.int) vs → ∀ (i : Nat) (v : Value), vs[i]? = some v → ∃ t, v = .int (l.getD i 0) t
  | [], vs, r, i, v, e => by rw [List.map_nil, repL_nil] at r; subst r; simp at e
  | a :: l, vs, r, i, v, e => by
    rw [List.map_cons, repL_cons] at r
    obtain ⟨u, q, rfl, h1, h2⟩ := r
    cases i with
    | zero =>
      obtain ⟨t, rfl⟩ := rep_int.mp h1
      simp at e; exact ⟨t, by simpa using e.symm⟩
    | succ i => simp at e; simpa using repL_ints h2 i v e

theorem fp_list {l : Addr} {o : Obj} (hlt : l < s.heap.objs.size) : ∀ b ∈ [s.heap.objs.size, l], b < (s.heap.push o).objs.size := fun b hb => by
  rw [Heap.size_push]
  rcases List.mem_cons.mp hb with rfl | hb
  · exact Nat.lt_succ_self _
  · rcases List.mem_cons.mp hb with rfl | hb
    · exact Nat.lt_succ_of_lt hlt
    · cases hb

theorem cv_sum {l : List Int} : CallV (.builtin "sum") [.lst (l.map PV.int)] (.int l.sum) := fun prog w W A s vs R S r => by
  obtain ⟨v, rfl, rv⟩ := repL_one r
  obtain ⟨a, its, rfl, _, ha, hl⟩ := rep_lst.mp rv
  have n1 := hl.length
  rw [Array.length_toList, List.length_map] at n1
  have hlt : a < s.heap.objs.size := by obtain ⟨_, e, _⟩ := ha; exact Heap.lt_size e
  refine wpAny_with_toks (n := s.toks) (Nat.le_refl _) ?_
  refine call_sum_walkG (wpAny_pyIter_list ha ?_)
  refine ⟨_, [_, a], [_], its.size, _, _, fun i => l.getD i 0, rfl, Walks.list (A := A.in1) R.hd s.heap.objs.size a (Nat.ne_of_lt hlt) its, ⟨⟨_, Heap.get?_push_size _ rfl, rfl, rfl⟩, ha.push _⟩, fp_list hlt,
    fun i v hv => repL_ints hl i v (by simpa using hv), fun h' tk t' hk htk => ?_⟩
  rw [KBmo.pre_take l its.size (by lia), n1, List.take_length]
  exact ⟨W, h', tk, rfl, rep_int.mpr ⟨_, rfl⟩, up_ext S (old_kept hk) htk⟩

noncomputable def maxI : List Int → Int
  | [] => 0
  | a :: r => r.foldl max a

theorem argBest_max (a : Int) (r : List Int) : ∀ n, n ≤ r.length → (a :: r).getD (argBest (fun i j => decide ((a :: r).getD i 0 > (a :: r).getD j 0)) n) 0 = (r.take n).foldl max a
  | 0, _ => by simp [argBest]
  | n + 1, h => by
    have ih := argBest_max a r n (by omega)
    have hn : n < r.length := h
    rw [List.take_add_one, List.getElem?_eq_getElem hn, List.foldl_append, ← ih]
    rw [argBest]
    simp only [Option.toList, List.foldl_cons, List.foldl_nil]
    have e : (a :: r).getD (n + 1) 0 = r[n] := by simp [hn]
    split
    · rename_i hd
      rw [decide_eq_true_eq] at hd
      rw [e] at hd ⊢
      lia
    · rename_i hd
      rw [decide_eq_true_eq] at hd
      rw [e] at hd
      lia

theorem cv_max {l : List Int} (hne : l ≠ []) : CallV (.builtin "max") [.lst (l.map PV.int)] (.int (maxI l)) := fun prog w W A s vs R S r => by
  obtain ⟨v, rfl, rv⟩ := repL_one r
  obtain ⟨a, its, rfl, _, ha, hl⟩ := rep_lst.mp rv
  have n1 := hl.length
  rw [Array.length_toList, List.length_map] at n1
  have hlt : a < s.heap.objs.size := by obtain ⟨_, e, _⟩ := ha; exact Heap.lt_size e
  obtain ⟨z, q, rfl⟩ : ∃ z q, l = z :: q := by cases l with
    | nil => exact absurd rfl hne
    | cons z q => exact ⟨z, q, rfl⟩
  refine wpAny_with_toks (n := s.toks) (Nat.le_refl _) ?_
  refine call_max_walk (wpAny_pyIter_list ha ?_)
  have hval : ∀ (i : Nat) (v : Value), its[i]? = some v → ∃ t, v = Value.int ((z :: q).getD i 0) t := fun i v hv => repL_ints hl i v (by simpa using hv)
  refine ⟨_, [_, a], [_], its.size, _, _, _, rfl, Walks.list (A := A.in1) R.hd s.heap.objs.size a (Nat.ne_of_lt hlt) its, ⟨⟨_, Heap.get?_push_size _ rfl, rfl, rfl⟩, ha.push _⟩, fp_list hlt,
    by rw [n1]; simp, CmpOf.ints_gt (fun i => (z :: q).getD i 0) hval, fun v h' tk hP hk htk => ?_⟩
  obtain ⟨t, rfl⟩ := hval _ _ hP
  have e := argBest_max z q q.length (Nat.le_refl _)
  rw [List.take_length] at e
  have hs1 : its.size - 1 = q.length := by rw [n1]; simp
  rw [hs1, e]
  exact ⟨W, h', tk, rfl, rep_int.mpr ⟨_, rfl⟩, up_ext S (old_kept hk) htk⟩
end
end Mine

namespace Mine
open PySem PySem.W PyProof.Rows

section
variable {g : Pg} {d : Nat} {K : Kn} {σ : Sig} {ω : Own} {c : Cx} {W : Wd} {A : Around} {s : Shared}

theorem gone_before {h h' : Heap} {a : Addr} (x : Ext h h') (h1 : h'.get? a = Option.none) : h.get? a = Option.none := by
  cases e : h.get? a with
  | none => rfl
  | some o => have := x _ _ e; rw [h1] at this; cases this

theorem evit_list {e : Expr} {ps : List PV} (H : Ev g d K σ ω e (.lst ps)) : EvIt g d K σ ω false e ps := fun c W A s R S => by
  refine H.run R S fun v W' h' tk' r u => ?_
  obtain ⟨a, items, rfl, hO, hl, rl⟩ := rep_lst.mp r
  have hlt : a < h'.objs.size := by obtain ⟨_, e, _⟩ := hl; exact Heap.lt_size e
  have S' := S.keeps u
  refine wpAny_pyIter_list hl ?_
  dsimp only
  have ex := ext_push h' { cls := .type "list_iterator", data := .fields #[.ref a, .int 0 0] }
  have hI : (h'.push { cls := .type "list_iterator", data := .fields #[.ref a, .int 0 0] }).IsListIter h'.objs.size a 0 := ⟨_, Heap.get?_push_size _ rfl, rfl, rfl⟩
  refine ⟨_, [h'.objs.size], W', _, tk', rfl, rfl, .list (items := items) (i := 0) (Nat.ne_of_lt hlt) hO hI (isList_ext hl ex) (by simpa using rl.ext ex), fun b hb => ?_, fun b hb => ?_, u.trans (up_ext (s := { s with heap := h', toks := tk' }) S'.sok ex (Nat.le_refl _))⟩
  · rw [List.mem_singleton.mp hb]
    exact ⟨S'.freshO, _, _, Heap.get?_push_size _ rfl, rfl⟩
  · rw [List.mem_singleton.mp hb]
    exact gone_before u.ext (get_fresh _)

noncomputable def rangePV (a b : Int) : List PV := (List.range (b - a).toNat).map fun (j : Nat) => PV.int (a + j)

theorem range_it (S : Sok W s.heap s.toks) {prog : Program} {w : World} {r : Addr} {a b : Int} {t u v : Tok} (hr : IsRange s.heap r a b 1 t u v) (ha : -(2 ^ 62) ≤ a) (ha' : a < 2 ^ 62) (hb : -(2 ^ 62) ≤ b) (hb' : b < 2 ^ 62) :
    wpAny (model prog w) A (pyIter (.ref r)) (fun it s₂ => ∃ I fp h', it = .ref I ∧ s₂ = { s with heap := h' } ∧
      ItAt W h' I false fp (rangePV a b) ∧ FpOk W h' fp ∧ (∀ b ∈ fp, s.heap.get? b = Option.none) ∧ Ext s.heap h') (fun _ _ => False) s := by
  refine wpAny_pyIter_range hr (small_one ha ha' hb hb') ?_
  have hn : Builtin.Range.rangeSize a b 1 = ((b - a).toNat : Int) := by rw [rangeSize_one]; split <;> lia
  rw [hn]
  refine ⟨_, [s.heap.objs.size], _, rfl, rfl, .range (x := a) (cc := 1) (n := (b - a).toNat) (Heap.get?_push_size _ rfl) ?_, fun b hb => ?_, fun b hb => ?_, ext_push _ _⟩
  · unfold rangePV; congr 1; funext j; rw [Int.mul_one]
  · rw [List.mem_singleton.mp hb]
    exact ⟨fresh_not S.valid, _, _, Heap.get?_push_size _ rfl, rfl⟩
  · rw [List.mem_singleton.mp hb]
    exact get_fresh _

/-- range(..) is called -/
theorem range_call {x : Str} {pos pos' : Pos} {e : Expr} {es : List Expr} {a b : Int} {ps : List PV} (hx : x = "range") (hK : K.lookup x = some .globalImplicit) (hn : x ∉ g.names) (ha : EvL g d K σ ω (e :: es) ps)
    (hps : (ps = [.int b] ∧ a = 0) ∨ ps = [.int a, .int b]) (R : Room d A) (S : St g c K W σ ω s.heap s.toks) {Q : Value → Shared → Prop} {E : Value → Shared → Prop}
    (he : ∀ env, starEach (e :: es) env = (false, eval e env) :: starEach es env) (hp : ∀ env, (backTo pos' (starEach es env)).any (·.1) = false)
    (hQ : ∀ r W' h' tk' t u v, IsRange h' r a b 1 t u v → s.heap.get? r = Option.none → Up W W' s.heap h' s.toks tk' → Q (.ref r) { s with heap := h', toks := tk' }) :
    wpAny (model g.prog g.w) A (eval (.Call (.Name x pos) (e :: es) [] pos') c.env) Q E s := by
  subst hx
  refine Call_ (load_boot S hK hn boot_range ?_)
  refine PyProof.Rows.callWith_type1 ?_ (he _) (hp _)
  refine ha.run R S fun vs W' h' tk' r u => ?_
  have S' := S.keeps u
  rcases hps with ⟨rfl, rfl⟩ | rfl
  · obtain ⟨v, rfl, rv⟩ := repL_one r
    obtain ⟨t, rfl⟩ := rep_int.mp rv
    refine call_range_1 (hQ _ W' _ _ _ _ _ (IsRange.new ..) (gone_before u.ext (get_fresh _)) (u.trans (up_ext (s := { s with heap := h', toks := tk' }) S'.sok (ext_push _ _) (by show tk' ≤ tk' + 1 + 1; lia))))
  · obtain ⟨v, v', rfl, rv, rv'⟩ := repL_two r
    obtain ⟨t, rfl⟩ := rep_int.mp rv
    obtain ⟨t', rfl⟩ := rep_int.mp rv'
    refine call_range_2 (hQ _ W' _ _ _ _ _ (IsRange.new ..) (gone_before u.ext (get_fresh _)) (u.trans (up_ext (s := { s with heap := h', toks := tk' }) S'.sok (ext_push _ _) (Nat.le_succ _))))

theorem evit_range' {x : Str} {pos pos' : Pos} {e : Expr} {es : List Expr} {a b : Int} {ps : List PV} (hx : x = "range") (hK : K.lookup x = some .globalImplicit) (hn : x ∉ g.names) (ha : EvL g d K σ ω (e :: es) ps)
    (hps : (ps = [.int b] ∧ a = 0) ∨ ps = [.int a, .int b]) (he : ∀ env, starEach (e :: es) env = (false, eval e env) :: starEach es env) (hp : ∀ env, (backTo pos' (starEach es env)).any (·.1) = false)
    (h1 : -(2 ^ 62) ≤ a) (h2 : a < 2 ^ 62) (h3 : -(2 ^ 62) ≤ b) (h4 : b < 2 ^ 62) : EvIt g d K σ ω false (.Call (.Name x pos) (e :: es) [] pos') (rangePV a b) := fun c W A s R S => by
  refine range_call hx hK hn ha hps R S he hp fun r W' h' tk' t u v hr hnew up => ?_
  refine wpAny_mono (range_it (s := { s with heap := h', toks := tk' }) (S.keeps up).sok hr h1 h2 h3 h4) (fun it s₂ x => ?_) fun _ _ f => f
  obtain ⟨I, fp, h2, rfl, rfl, hi, hf, hg, hx⟩ := x
  exact ⟨I, fp, W', h2, tk', rfl, rfl, hi, hf, fun b hb => gone_before up.ext (hg b hb), up.trans (up_ext (s := { s with heap := h', toks := tk' }) (S.keeps up).sok hx (Nat.le_refl _))⟩

theorem evit_range1 {x : Str} {pos pos' : Pos} {e : Expr} {b : Int} (he : Ev g d K σ ω e (.int b)) (h3 : -(2 ^ 62) ≤ b) (h4 : b < 2 ^ 62) (hx : x = "range" := by decide) (hK : K.lookup x = some .globalImplicit := by decide) (hn : x ∉ g.names := by decide)
    (hs : ∀ env, starEach [e] env = (false, eval e env) :: starEach [] env := by intro _; rfl) :
    EvIt g d K σ ω false (.Call (.Name x pos) [e] [] pos') (rangePV 0 b) :=
  evit_range' hx hK hn (evl_cons he evl_nil hs) (.inl ⟨rfl, rfl⟩) hs (fun _ => rfl) (by decide) (by decide) h3 h4
theorem evit_range2 {x : Str} {pos pos' : Pos} {e e' : Expr} {a b : Int} (he : Ev g d K σ ω e (.int a)) (he' : Ev g d K σ ω e' (.int b)) (h1 : -(2 ^ 62) ≤ a) (h2 : a < 2 ^ 62) (h3 : -(2 ^ 62) ≤ b) (h4 : b < 2 ^ 62)
    (hx : x = "range" := by decide) (hK : K.lookup x = some .globalImplicit := by decide) (hn : x ∉ g.names := by decide)
    (hs : ∀ env, starEach [e, e'] env = (false, eval e env) :: starEach [e'] env := by intro _; rfl) (hs' : ∀ env, starEach [e'] env = (false, eval e' env) :: starEach [] env := by intro _; rfl) (hp : ∀ env, (backTo pos' (starEach [e'] env)).any (·.1) = false := by intro _; rfl) :
    EvIt g d K σ ω false (.Call (.Name x pos) [e, e'] [] pos') (rangePV a b) :=
  evit_range' hx hK hn (evl_cons he (evl_cons he' evl_nil hs') hs) (.inr rfl) hs hp h1 h2 h3 h4

/-- list(range(a, b)) -/
theorem ev_list_range {x y : Str} {pos pos' pos1 pos2 : Pos} {e e' : Expr} {a b : Int} (he : Ev g d K σ ω e (.int a)) (he' : Ev g d K σ ω e' (.int b)) (h1 : -(2 ^ 62) ≤ a) (h2 : a < 2 ^ 62) (h3 : -(2 ^ 62) ≤ b) (h4 : b < 2 ^ 62) (hlen : b - a ≤ 2 ^ 24)
    (hx : x = "range" := by decide) (hK : K.lookup x = some .globalImplicit := by decide) (hn : x ∉ g.names := by decide) (hy : y = "list" := by decide) (hKy : K.lookup y = some .globalImplicit := by decide) (hny : y ∉ g.names := by decide)
    (hs : ∀ env, starEach [e, e'] env = (false, eval e env) :: starEach [e'] env := by intro _; rfl) (hs' : ∀ env, starEach [e'] env = (false, eval e' env) :: starEach [] env := by intro _; rfl) (hp : ∀ env, (backTo pos' (starEach [e'] env)).any (·.1) = false := by intro _; rfl) :
    Ev g d K σ ω (.Call (.Name y pos1) [.Call (.Name x pos) [e, e'] [] pos'] [] pos2) (.lst (rangePV a b)) := fun c W A s R S => by
  subst hy
  refine Call_ (load_boot S hKy hny PyProof.Rows.boot_list ?_)
  refine PyProof.Rows.callWith_type1 ?_ rfl rfl
  refine args_cons ?_ rfl
  refine range_call hx hK hn (evl_cons he (evl_cons he' evl_nil hs') hs) (.inr rfl) R S hs hp fun r W' h' tk' t u v hr hnew up => ?_
  refine args_nil ?_
  have hsz : Builtin.Range.rangeSize a b 1 = ((b - a).toNat : Int) := by rw [rangeSize_one]; split <;> omega
  refine wpAny_with_toks (n := tk') (Nat.le_refl _) ?_
  refine call_list_range (s := { s with heap := h', toks := tk' }) R.hd hr (small_one h1 h2 h3 h4) hsz (by lia) fun h'' tk'' acc' c' hk hS hacc htk => ?_
  have ex : Ext h' h'' := hk
  obtain ⟨hl1, hl2⟩ := hacc
  refine ⟨W', h'', tk'', rfl, rep_lst.mpr ⟨_, acc', rfl, (S.keeps up).freshO, ⟨_, hS, rfl, c', rfl⟩, ?_⟩, up.trans (up_ext (s := { s with heap := h', toks := tk' }) (S.keeps up).sok ex htk)⟩
  refine RepL.of_get (by rw [Array.length_toList, hl1]; simp [rangePV]) fun i p v hp hv => ?_
  obtain ⟨t, rfl⟩ := hl2 i v (by simpa using hv)
  unfold rangePV at hp
  rw [List.getElem?_map, List.getElem?_range (by
    rcases Nat.lt_or_ge i acc'.size with h | h
    · lia
    · rw [List.getElem?_eq_none (by simpa using h)] at hv; cases hv)] at hp
  simp at hp
  subst hp
  exact rep_int.mpr ⟨t, by rw [Int.mul_one]⟩

end
end Mine

namespace Mine
open PySem PySem.W PyProof.Rows

noncomputable def pslice (l : List PV) (lo hi st : Option Int) : List PV :=
  (sliceRange (sliceBounds lo hi st l.length).1 (sliceBounds lo hi st l.length).2.1 (sliceBounds lo hi st l.length).2.2).filterMap (l[·]?)

theorem RepL.pick {W : Wd} {h : Heap} {l : List PV} {items : Array Value} (r : RepL W h l items.toList) : ∀ (js : List Nat), RepL W h (js.filterMap (l[·]?)) (js.filterMap (items[·]?))
  | [] => repL_nil.mpr rfl
  | j :: js => by
    have ih := RepL.pick r js
    cases e : l[j]? with
    | none =>
      have e2 : items[j]? = Option.none := by
        cases e3 : items[j]? with
        | none => rfl
        | some v => obtain ⟨p, hp, _⟩ := r.getV j v (by simpa using e3); rw [e] at hp; cases hp
      simpa only [List.filterMap_cons, e, e2] using ih
    | some p =>
      obtain ⟨v, hv, rv⟩ := r.get j p e
      have hv' : items[j]? = some v := by simpa using hv
      simp only [List.filterMap_cons, e, hv']
      exact repL_cons.mpr ⟨v, _, rfl, rv, ih⟩

section
variable {g : Pg} {d : Nat} {K : Kn} {σ : Sig} {ω : Own} {c : Cx} {W : Wd} {A : Around} {s : Shared}

/-- a part of a slice -/
noncomputable def EvP (g : Pg) (d : Nat) (K : Kn) (σ : Sig) (ω : Own) (x : Option Expr) (k : Option Int) : Prop :=
  ∀ (c : Cx) (W : Wd) (A : Around) (s : Shared), Room d A → St g c K W σ ω s.heap s.toks →
    wpAny (model g.prog g.w) A (evalPart x c.env) (fun v s' => ∃ W' h' tk', s' = { s with heap := h', toks := tk' } ∧ IsPart v k ∧ Up W W' s.heap h' s.toks tk') (fun _ _ => False) s
theorem evp_none : EvP g d K σ ω Option.none Option.none := fun c W A s R S => wpAny_pure ⟨W, s.heap, s.toks, rfl, .none, Up.refl S⟩
theorem evp_some {e : Expr} {i : Int} (h : Ev g d K σ ω e (.int i)) : EvP g d K σ ω (some e) (some i) := fun c W A s R S =>
  h.run R S fun v W' h' tk' r u => by
    obtain ⟨t, rfl⟩ := rep_int.mp r
    exact ⟨W', h', tk', rfl, .int i t, u⟩

theorem EvP.run {x : Option Expr} {k : Option Int} {Q : Value → Shared → Prop} {E : Value → Shared → Prop} (H : EvP g d K σ ω x k) (R : Room d A) (S : St g c K W σ ω s.heap s.toks)
    (hQ : ∀ v W' h' tk', IsPart v k → Up W W' s.heap h' s.toks tk' → Q v { s with heap := h', toks := tk' }) : wpAny (model g.prog g.w) A (evalPart x c.env) Q E s :=
  wpAny_mono (H c W A s R S) (fun v s' ⟨W', h', tk, e, r, k⟩ => by subst e; exact hQ v W' h' tk r k) fun _ _ f => f.elim

theorem ev_slice {value : Expr} {lo hi st : Option Expr} {pos p : Pos} {l : List PV} {klo khi kst : Option Int} (h1 : Ev g d K σ ω value (.lst l)) (h2 : EvP g d K σ ω lo klo) (h3 : EvP g d K σ ω hi khi) (h4 : EvP g d K σ ω st kst)
    (h0 : kst ≠ some 0) (hn : l.length ≤ 4096) (hs : ∀ o i, ∃ vs, subscripted (.Slice lo hi st p) false o i = operate vs (getItem o i) := by intro _ _; exact ⟨_, rfl⟩) :
    Ev g d K σ ω (.Subscript value (.Slice lo hi st p) pos) (.lst (pslice l klo khi kst)) := fun c W A s R S => by
  refine Subscript_ (h1.run R S fun v W1 h1 tk1 rv u1 => wpAny_Slice (h2.run R (S.keeps u1) fun vl W2 h2 tk2 pl u2 => h3.run R ((S.keeps u1).keeps u2) fun vu W3 h3 tk3 pu u3 => h4.run R (((S.keeps u1).keeps u2).keeps u3) fun vs W4 h4 tk4 ps u4 => ?_))
  have u := ((u1.trans u2).trans u3).trans u4
  obtain ⟨a, its, rfl, _, ha, hl⟩ := rep_lst.mp (((rv.up u2).up u3).up u4)
  have S4 := S.keeps u
  have n1 := hl.length
  rw [Array.length_toList] at n1
  dsimp only
  have ex := ext_push h4 { cls := .type "slice", data := .fields #[vl, vu, vs] }
  have u5 := up_ext (s := { s with heap := h4, toks := tk4 }) S4.sok ex (Nat.le_refl _)
  have S5 := S4.keeps u5
  have ha5 := isList_ext ha ex
  have hl5 := hl.up u5
  have hsl : (h4.push { cls := .type "slice", data := .fields #[vl, vu, vs] }).IsSliceOf h4.objs.size vl vu vs := ⟨_, Heap.get?_push_size _ rfl, rfl, rfl⟩
  generalize hH : h4.push { cls := .type "slice", data := .fields #[vl, vu, vs] } = H at u5 S5 ha5 hl5 hsl
  unfold subscriptTail
  refine wpAny_bind ?_
  rw [getitemInPython_of_ne (by intro e; cases e)]
  refine wpAny_bind (wpAny_specialOf (s := { s with heap := H, toks := tk4 }) ha5.typeIs list_getitem_lookup ?_)
  obtain ⟨vz, hvz⟩ := hs (.ref a) (.ref h4.objs.size)
  have fin : wpAny (model g.prog g.w) A (subscripted (.Slice lo hi st p) false (.ref a) (.ref h4.objs.size)) (fun r s₃ => wpAny (model g.prog g.w) A (letTemporaryGo value (.ref a) r >>= fun _ => pure r) (ValPost W (.lst (pslice l klo khi kst)) s) (fun _ _ => False) s₃) (fun _ _ => False) { s with heap := H, toks := tk4 } := by
    rw [hvz]
    refine wpAny_operating (wpAny_getItem_list_slice (s := { s with heap := H, toks := tk4 }) ha5 hsl pl pu ps h0 (wpAny_bind (wpAny_letTemporaryGo (wpAny_pure ?_))) (by rw [n1]; exact few hn))
    have rp : RepL W4 H (pslice l klo khi kst) (slicePick its klo khi kst).toList := by
      unfold pslice slicePick
      rw [n1]
      simpa using hl5.pick _
    have := val_lst (s := { s with heap := H, toks := tk4 }) S5.sok rp (n := 0)
    exact (by simpa using this : ValPost W4 _ _ _ _).after (u.trans u5)
  first
    | exact wpAny_pure (wpAny_bind fin)
    | exact wpAny_bind (wpAny_pure (wpAny_bind fin))
    | exact wpAny_bind fin
end
end Mine

namespace Mine
open PySem PySem.W PyProof.Rows

/-! lists that a frame writes -/

theorem OwnL.sameBut {h h' : Heap} {a b : Addr} {items : Array Value} (x : OwnL h a items) (hs : Heap.SameBut b h h') (hab : a ≠ b) : OwnL h' a items := OwnL.iff.mpr ((OwnL.iff.mp x).extBut hs.extBut hab)

section
variable {prog : Program} {w : World} {A : Around} {E : Value → Shared → Prop} {s : Shared}
theorem own_setItem {l : Addr} {items : Array Value} {k : Int} {t : Tok} {v : Value} {Q : Unit → Shared → Prop} (hl : OwnL s.heap l items)
    (h0 : 0 ≤ k) (hfit : k < 2 ^ 63) (hn : k < items.size)
    (hQ : ∀ h', OwnL h' l (items.setIfInBounds k.toNat v) → Heap.SameBut l s.heap h' → Q () { s with heap := h' }) :
    wpAny (model prog w) A (setItem (.ref l) (.int k t) v) Q E s :=
  let ⟨_, e⟩ := OwnL.iff.mp hl
  ki_setAt e h0 hfit hn (hQ _ (OwnL.iff.mpr ⟨_, IsL.update e _⟩) (Heap.SameBut.update ..))

theorem own_append {l : Addr} {items : Array Value} {x : Value} {Q : Value → Shared → Prop} (hl : OwnL s.heap l items)
    (hQ : ∀ h', OwnL h' l (items.push x) → Heap.SameBut l s.heap h' → Q .none { s with heap := h' }) (hsz : items.size ≤ sizeLine) :
    wpAny (model prog w) A (call (.builtin "list.append") [.ref l, x]) Q E s := wpAny_list_append_plain (OwnL.iff.mp hl) (fun h' x => hQ h' (OwnL.iff.mpr x)) hsz

end

/-- one new list is taken out of the plain ones -/
structure UpN (W W' : Wd) (a : Addr) (h h' : Heap) (tk tk' : Nat) : Prop where
  ext : Ext h h'
  o : ∀ b, W'.O b ↔ W.O b ∨ b = a
  fresh : h.get? a = Option.none
  alive : ∃ o, h'.get? a = some o
  t : ∀ t x, W.T t = some x → W'.T t = some x
  tok : ∀ t x, W'.T t = some x → t ≠ 0 ∧ t < tk'
  le : tk ≤ tk'

section
variable {g : Pg} {d : Nat} {c : Cx} {K : Kn} {W W' : Wd} {σ : Sig} {ω : Own} {h h' : Heap} {tk tk' : Nat} {a : Addr}

theorem UpN.grow (u : UpN W W' a h h' tk tk') : Grow W W' h := ⟨⟨fun b hb => (u.o b).mpr (.inl hb), fun b hb => ((u.o b).mp hb).elim .inl fun e => .inr (by rw [e]; exact u.fresh)⟩, u.t⟩
theorem UpN.later (u : UpN W W' a h h' tk tk') : Later W W' h h' tk tk' := ⟨u.ext.mod, u.grow, u.le⟩
theorem Up.thenN {W'' : Wd} {h'' : Heap} {tk'' : Nat} (x : Up W W' h h' tk tk') (y : UpN W' W'' a h' h'' tk' tk'') : UpN W W'' a h h'' tk tk'' :=
  ⟨x.ext.trans y.ext, fun b => (y.o b).trans (by rw [x.o]), gone_before x.ext y.fresh, y.alive, fun t u e => y.t t u (x.t t u e), y.tok, Nat.le_trans x.le y.le⟩

theorem St.keepsN (S : St g c K W σ ω h tk) (u : UpN W W' a h h' tk tk') : St g c K W' σ ω h' tk' where
  ext := S.ext.trans u.ext
  ok := S.ok
  kind := S.kind
  globals := S.globals
  builtins := S.builtins
  ns := let ⟨m, hm⟩ := S.ns; ⟨m, hm.keeps u.ext⟩
  lfresh := S.lfresh
  known := S.known
  cell := fun x hx => let ⟨k, ov, h1, h2⟩ := S.cell x hx; ⟨k, ov, h1, h2.keeps u.ext⟩
  cfresh := S.cfresh
  apart := S.apart
  vars := fun x p hp => let ⟨v, h1, h2⟩ := S.vars x p hp; ⟨v, h1.ext u.ext, h2.mono u.ext.modS u.grow⟩
  owns := let ⟨ad, h1, h2⟩ := S.owns; ⟨ad, fun x l hl => let y := h1 x l hl; ⟨y.loc.ext u.ext, (u.o _).mpr (.inl y.inO), y.side, let ⟨items, a1, a2⟩ := y.list; ⟨items, a1.ext u.ext, a2.mono u.ext.modS u.grow⟩⟩, h2⟩
  sub := fun b hb => (u.o b).mpr (.inl (S.sub b hb))
  valid := fun b hb => ((u.o b).mp hb).elim (fun hb => let ⟨o, ho⟩ := S.valid b hb; ⟨o, u.ext _ _ ho⟩) fun e => e ▸ u.alive
  tok := u.tok
  pos := Nat.lt_of_lt_of_le S.pos u.le

/-- one owned list is turned -/
theorem St.ownTurn (S : St g c K W σ ω h tk) {ad : Str → Addr} (q1 : ∀ x l, ω.lookup x = some l → OwnAt c K W h x l (ad x)) (q2 : ∀ x y, x ≠ y → (ω.lookup x).isSome = true → (ω.lookup y).isSome = true → ad x ≠ ad y)
    {x : Str} {l l' : List PV} (hx : ω.lookup x = some l) (hK : K.lookup x ≠ some .free) {items' : Array Value} (hs : Heap.SameBut (ad x) h h') (hl' : OwnL h' (ad x) items') (r : RepL W h l' items'.toList) (hle : tk ≤ tk') :
    St g c K W σ ((x, l') :: ω) h' tk' ∧ Later W W h h' tk tk' := by
  obtain ⟨b1, b2, b3, its, b4, _⟩ := q1 x l hx
  obtain ⟨hcO, hbase⟩ := b3.2 hK
  have hl := b4.isList
  have ms : ModS W.O h h' := fun b o e hO _ => (hs.2 b (fun q => hO (q ▸ b2))).trans e
  have ns : ∀ b m, h.Ns b m → h'.Ns b m := fun b m hn => hn.sameBut hs (ns_ne_list hn hl)
  have cell : ∀ b v, h.IsCell b v → h'.IsCell b v := fun b v hc => hc.sameBut hs (cell_ne_list hc hl)
  have loc : ∀ y v, Loc K c.env h y v → Loc K c.env h' y v := fun y v q => by
    rcases q with ⟨hk, m, hn, hm⟩ | ⟨hk, q, hc, hv⟩
    · exact .inl ⟨hk, m, ns _ _ hn, hm⟩
    · exact .inr ⟨hk, q, hc, cell _ _ hv⟩
  refine ⟨⟨fun b o e => (hs.2 b (fun q => by rw [q, hbase] at e; cases e)).trans (S.ext b o e), S.ok, S.kind, S.globals, S.builtins, let ⟨m, hm⟩ := S.ns; ⟨m, ns _ _ hm⟩, S.lfresh, S.known,
    fun x hx => let ⟨q, ov, h1, h2⟩ := S.cell x hx; ⟨q, ov, h1, cell _ _ h2⟩, S.cfresh, S.apart,
    fun x p hp => let ⟨v, h1, h2⟩ := S.vars x p hp; ⟨v, loc _ _ h1, h2.mono ms (Grow.refl _ _)⟩, ⟨ad, fun y l1 hy => ?_, fun y z hyz hy hz => ?_⟩, S.sub, fun b hb => ?_, (S.toks hle).tok, (S.toks hle).pos⟩, ⟨⟨?_, ?_⟩, Grow.refl _ _, hle⟩⟩
  · rw [List.lookup_cons] at hy
    cases hb : y == x with
    | true =>
      rw [hb] at hy; cases hy
      have e := eq_of_beq hb
      subst e
      exact ⟨loc _ _ b1, b2, b3, items', hl', r.mono ms (Grow.refl _ _)⟩
    | false =>
      rw [hb] at hy
      have hyx : y ≠ x := beq_eq_false_iff_ne.mp hb
      obtain ⟨a1, a2, a3, items1, a5, a6⟩ := q1 y l1 hy
      exact ⟨loc _ _ a1, a2, a3, items1, a5.sameBut hs (q2 y x hyx (Option.isSome_iff_exists.mpr ⟨_, hy⟩) (Option.isSome_iff_exists.mpr ⟨_, hx⟩)), a6.mono ms (Grow.refl _ _)⟩
  · have key : ∀ z, (((x, l') :: ω).lookup z).isSome = true → (ω.lookup z).isSome = true := fun z hz => by
      rw [List.lookup_cons] at hz
      cases hb : z == x with
      | true => rw [eq_of_beq hb, hx]; rfl
      | false => rw [hb] at hz; exact hz
    exact q2 y z hyz (key y hy) (key z hz)
  · obtain ⟨o, ho⟩ := S.valid b hb
    by_cases hab : b = ad x
    · obtain ⟨o', ho', _⟩ := hl'; exact ⟨o', hab ▸ ho'⟩
    · exact ⟨o, (hs.2 b hab).trans ho⟩
  · exact fun b o e hO _ => (hs.2 b (fun q => hO (q ▸ b2))).trans e
  · intro b o e
    by_cases hab : b = ad x
    · obtain ⟨o', ho', _⟩ := hl'; exact ⟨o', hab ▸ ho'⟩
    · exact ⟨o, (hs.2 b hab).trans e⟩

section
variable {M : Model} {A : Around} {E : Value → Shared → Prop} {s : Shared}

theorem St.storeOwn {x : Str} {l : List PV} {items : Array Value} {Q : Unit → Shared → Prop} (S : St g c K W σ ω h tk) (n : UpN W W' a h s.heap tk s.toks) (hl : OwnL s.heap a items) (r : RepL W' s.heap l items.toList)
    (hK : K.lookup x = some .local ∨ K.lookup x = some .cell) (hσ : σ.lookup x = Option.none) (hω : ω.lookup x = Option.none)
    (hQ : ∀ h' tk', St g c K W' σ ((x, l) :: ω) h' tk' → Mod NoO s.heap h' → s.toks ≤ tk' → Q () { s with heap := h', toks := tk' }) : wpAny M A (storeName c.env x (.ref a)) Q E s := by
  have S1 := S.keepsN n
  obtain ⟨m, hm⟩ := S1.ns
  have hbase : c.base.get? a = Option.none := gone_before S.ext n.fresh
  have hcO : ¬ c.O a := fun hO => by
    obtain ⟨o, ho⟩ := S.valid a (S.sub a hO)
    rw [n.fresh] at ho; cases ho
  have hKf : K.lookup x ≠ some .free := fun e => by rcases hK with q | q <;> (rw [q] at e; cases e)
  -- what is alike for both kinds of name
  have key : ∀ (b : Addr) (h' : Heap) (tk' : Nat), Heap.SameBut b s.heap h' → c.base.get? b = Option.none → s.toks ≤ tk' → ((∃ m, s.heap.Ns b m) ∨ ∃ ov, s.heap.IsCell b ov) → (∃ o, h'.get? b = some o) → (∃ m, h'.Ns c.env.locals m) →
      (∀ y, (K.lookup y = some .cell ∨ K.lookup y = some .free) → ∃ k ov, c.env.cells.lookup y = some k ∧ h'.IsCell k ov) →
      (∀ y u, y ≠ x → Loc K c.env s.heap y u → Loc K c.env h' y u) → Loc K c.env h' x (.ref a) → Q () { s with heap := h', toks := tk' } := by
    intro b h' tk' hs hbf hle hbk hb' hn' hcell' hloc hx
    have hmod0 : Mod NoO s.heap h' := sameBut_mod hs (fun o e hO hst => by
      rcases hbk with ⟨m, hm⟩ | ⟨ov, hov⟩
      · exact not_stays_ns (O := NoO) hm o e hO hst
      · exact not_stays_cell (O := NoO) hov o e hO hst) hb'
    have hmod : Mod W'.O s.heap h' := hmod0.any
    have hbl : ∀ a items, s.heap.IsList a items → a ≠ b := fun a items ha => by
      rcases hbk with ⟨m, hm⟩ | ⟨ov, hov⟩
      · exact (ns_ne_list hm ha).symm
      · exact (cell_ne_list hov ha).symm
    refine hQ h' tk' ⟨fun q o e => ?_, S1.ok, S1.kind, S1.globals, S1.builtins, hn', S1.lfresh, S1.known, hcell', S1.cfresh, S1.apart, ?_, ?_, S1.sub, fun q ha => ?_, (S1.toks hle).tok, (S1.toks hle).pos⟩ hmod0 hle
    · exact (hs.2 q (fun e' => by rw [e', hbf] at e; cases e)).trans (S1.ext q o e)
    · intro y q hq
      have hyx : y ≠ x := fun e => by rw [e, hσ] at hq; cases hq
      obtain ⟨u, hu, hr⟩ := S1.vars y q hq
      exact ⟨u, hloc y u hyx hu, hr.mono hmod.seq (Grow.refl _ _)⟩
    · obtain ⟨ad, q1, q2⟩ := S.owns
      obtain ⟨ad', q1', q2'⟩ := S1.owns
      refine ⟨fun y => if y = x then a else ad y, fun y l1 hy => ?_, fun y z hyz hy hz => ?_⟩
      · rw [List.lookup_cons] at hy
        cases hb : y == x with
        | true =>
          rw [hb] at hy; cases hy
          have e := eq_of_beq hb
          subst e
          simp only [if_true]
          exact ⟨hx, (n.o a).mpr (.inr rfl), ⟨fun e => absurd e hKf, fun _ => ⟨hcO, hbase⟩⟩, items, hl.sameBut hs (hbl _ _ hl.isList), r.mono hmod.seq (Grow.refl _ _)⟩
        | false =>
          rw [hb] at hy
          have hyx : y ≠ x := beq_eq_false_iff_ne.mp hb
          simp only [hyx, if_false]
          obtain ⟨a1, a2, a3, items1, a5, a6⟩ := q1 y l1 hy
          have a5' := a5.ext n.ext
          exact ⟨hloc y _ hyx (a1.ext n.ext), (n.o _).mpr (.inl a2), a3, items1, a5'.sameBut hs (hbl _ _ a5'.isList), (a6.mono n.ext.modS n.grow).mono hmod.seq (Grow.refl _ _)⟩
      · have alive : ∀ z, z ≠ x → (((x, l) :: ω).lookup z).isSome = true → ∃ l1, ω.lookup z = some l1 := fun z hzx hz => by
          rw [List.lookup_cons, beq_eq_false_iff_ne.mpr hzx] at hz
          exact Option.isSome_iff_exists.mp hz
        have na : ∀ z, z ≠ x → (((x, l) :: ω).lookup z).isSome = true → ad z ≠ a := fun z hzx hz e => by
          obtain ⟨l1, hl1⟩ := alive z hzx hz
          obtain ⟨items1, ⟨o, ho, _⟩, _⟩ := (q1 z l1 hl1).list
          rw [e, n.fresh] at ho; cases ho
        by_cases hyx : y = x
        · have hzx : z ≠ x := fun e => hyz (hyx.trans e.symm)
          simp only [hyx, hzx, if_true, if_false]
          exact (na z hzx hz).symm
        · by_cases hzx : z = x
          · simp only [hyx, hzx, if_true, if_false]
            exact na y hyx hy
          · simp only [hyx, hzx, if_false]
            obtain ⟨l1, h1⟩ := alive y hyx hy
            obtain ⟨l2, h2⟩ := alive z hzx hz
            exact q2 y z hyz (by rw [h1]; rfl) (by rw [h2]; rfl)
    · obtain ⟨o, ho⟩ := S1.valid q ha
      by_cases hab : q = b
      · exact hab ▸ hb'
      · exact ⟨o, (hs.2 q hab).trans ho⟩
  rcases hK with hK | hK
  · have hk1 : c.env.kindOf x = some .local := by rcases S.known x _ hK with h1 | ⟨h1, _⟩; exact h1; cases h1
    refine wpAny_storeName_local hk1 hm (fun h' hn' hs' => ?_) (not_class S)
    have hk : (K.lookup x = some .local ∧ ∃ m, s.heap.Ns c.env.locals m ∧ h'.Ns c.env.locals (fun z => if z = x then some (.ref a) else m z) ∧ Heap.SameBut c.env.locals s.heap h') ∨
      (K.lookup x = some .cell ∧ ∃ k ov, c.env.cells.lookup x = some k ∧ s.heap.IsCell k ov ∧ h'.IsCell k (some (.ref a)) ∧ Heap.SameBut k s.heap h') := .inl ⟨hK, m, hm, hn', hs'⟩
    exact key _ h' _ hs' S.lfresh (Nat.le_succ _) (.inl ⟨m, hm⟩) (let ⟨o, _, _, e, _⟩ := hn'; ⟨o, e⟩) ⟨_, hn'⟩
      (fun y hy => let ⟨k, ov, e1, e2⟩ := S1.cell y hy; ⟨k, ov, e1, e2.sameBut hs' (ns_ne_cell hm e2).symm⟩)
      (fun y u hy hl => hl.stored hy hk S1.apart) (.inl ⟨hK, _, hn', by simp⟩)
  · have hk1 : c.env.kindOf x = some .cell := by rcases S.known x _ hK with h1 | ⟨h1, _⟩; exact h1; cases h1
    obtain ⟨k, ov, hc, hov⟩ := S1.cell x (.inl hK)
    refine wpAny_storeName_cell S.kind hk1 hc hov fun h' hv' hs' => ?_
    have hk : (K.lookup x = some .local ∧ ∃ m, s.heap.Ns c.env.locals m ∧ h'.Ns c.env.locals (fun z => if z = x then some (.ref a) else m z) ∧ Heap.SameBut c.env.locals s.heap h') ∨
      (K.lookup x = some .cell ∧ ∃ k ov, c.env.cells.lookup x = some k ∧ s.heap.IsCell k ov ∧ h'.IsCell k (some (.ref a)) ∧ Heap.SameBut k s.heap h') := .inr ⟨hK, k, ov, hc, hov, hv', hs'⟩
    have := key _ h' s.toks hs' (S.cfresh x k hK hc) (Nat.le_refl _) (.inr ⟨ov, hov⟩) (let ⟨o, e, _⟩ := hv'; ⟨o, e⟩) ⟨m, hm.sameBut hs' (ns_ne_cell hm hov)⟩
      (fun y hy => by
        obtain ⟨k', ov', e1, e2⟩ := S1.cell y hy
        by_cases hkk : k' = k
        · subst hkk; exact ⟨k', _, e1, hv'⟩
        · exact ⟨k', ov', e1, e2.sameBut hs' hkk⟩)
      (fun y u hy hl => hl.stored hy hk S1.apart) (.inr ⟨.inl hK, k, hc, hv'⟩)
    exact this
end
end

end Mine

namespace Mine
open PySem PySem.W PyProof.Rows

noncomputable def EvNew (g : Pg) (d : Nat) (K : Kn) (σ : Sig) (ω : Own) (e : Expr) (l : List PV) : Prop :=
  ∀ (c : Cx) (W : Wd) (A : Around) (s : Shared), Room d A → St g c K W σ ω s.heap s.toks →
    wpAny (model g.prog g.w) A (eval e c.env) (fun v s' => ∃ a items W' h' tk', v = .ref a ∧ s' = { s with heap := h', toks := tk' } ∧ UpN W W' a s.heap h' s.toks tk' ∧ OwnL h' a items ∧ RepL W' h' l items.toList) (fun _ _ => False) s

section
variable {g : Pg} {d : Nat} {K : Kn} {σ : Sig} {ω : Own} {c : Cx} {W : Wd} {A : Around} {s : Shared} {P : PostT}

/-- the list just made -/
theorem new_list {W1 : Wd} {h1 : Heap} {tk1 : Nat} (S : Sok W1 h1 tk1) {l : List PV} {items : Array Value} (r : RepL W1 h1 l items.toList) {n : Nat} :
    UpN W1 (inner W1 h1.objs.size) h1.objs.size h1 (h1.push { cls := .type "list", data := .seq items n }) tk1 tk1 ∧ OwnL (h1.push { cls := .type "list", data := .seq items n }) h1.objs.size items ∧
    RepL (inner W1 h1.objs.size) (h1.push { cls := .type "list", data := .seq items n }) l items.toList := by
  have u : UpN W1 (inner W1 h1.objs.size) h1.objs.size h1 (h1.push { cls := .type "list", data := .seq items n }) tk1 tk1 :=
    ⟨ext_push _ _, fun b => Iff.rfl, get_fresh _, ⟨_, Heap.get?_push_size _ rfl⟩, fun _ _ e => e, S.tok, Nat.le_refl _⟩
  exact ⟨u, ⟨_, Heap.get?_push_size _ rfl, n, rfl⟩, r.mono u.ext.modS u.grow⟩

theorem evn_list {es : List Expr} {pos : Pos} {ps : List PV} (h : EvL g d K σ ω es ps) (hn : ps.length ≤ 4096) : EvNew g d K σ ω (.List es pos) ps := fun c W A s R S =>
  wpAny_List_spliced (h.run R S fun vs W' h' tk' r e => ⟨by rw [r.length]; exact few hn, by
    obtain ⟨u, o, rr⟩ := new_list (S.keeps e).sok (items := vs.toArray) (by simpa using r) (n := 0)
    exact ⟨_, _, _, _, _, rfl, rfl, e.thenN u, o, rr⟩⟩)

theorem op_rep (S : Sok W s.heap s.toks) {l : List PV} {items : Array Value} {a : Addr} {x : Int} {u : Tok} {prog : Program} {w : World} {Q : Value → Shared → Prop} {E : Value → Shared → Prop}
    (hl : s.heap.IsList a items) (r : RepL W s.heap l items.toList) (hlo : -(2 ^ 63 : Int) ≤ x) (hsz : l.length * x.toNat ≤ 4096) (hx : x < 2 ^ 63)
    (hQ : ∀ its, RepL W s.heap (List.replicate x.toNat l).flatten its.toList → Q (.ref s.heap.objs.size) { s with heap := s.heap.push { cls := .type "list", data := .seq its } }) :
    wpAny (model prog w) A (binaryOp .Mult (.ref a) (.int x u)) Q E s := by
  have n1 := r.length
  rw [Array.length_toList] at n1
  obtain ⟨⟨cls, dd, data, sl⟩, ho, hcl, k, hd⟩ := id hl
  simp only at hcl hd
  subst hcl hd
  have hsz' : items.size * x.toNat ≤ 4096 := by rw [n1]; exact hsz
  refine wpAny_binaryOp_repeat_ref (T := "list") (U := "int") (by decide) ⟨_, ho, rfl⟩ (fun s' => typeIs_int s' x u) noFill_list_mul F.fills_int_mul F.slot_int_rmul repeat_list F.slot_int_index.lookup
    (call_meets F.slot_int_rmul (typeIs_int s x u) F.entry_int_rmul (F.args_int_rmul_2 _ _) (lm_int_rmul_list_any x u a items k dd sl)
      ⟨ho, rfl, ⟨_, ho, rfl⟩, call_meets F.slot_list_mul ⟨_, ho, rfl⟩ F.entry_list_mul (F.args_list_mul_2 _ _)
        (lm_list_mul_any a items k dd sl x u (by simp [Builtin.List.listFitsIndex]; lia) (by (clear ho n1 hQ hx hsz hlo r hl S; omega)) (by simp [Builtin.List.listTooLong, sizeLine]; (clear ho n1 hQ hx hsz hlo r hl S; omega)))
        ⟨ho, hQ _ ?_⟩⟩)
  have e : items = items.toList.toArray := by simp
  rw [e, listMul_foldl_if]
  have key : ∀ n : Nat, RepL W s.heap (List.replicate n l).flatten (List.replicate n items.toList).flatten := fun n => by
    induction n with
    | zero => simpa using repL_nil.mpr rfl
    | succ n ih => rw [List.replicate_succ, List.replicate_succ, List.flatten_cons, List.flatten_cons]; exact r.append ih
  simpa using key x.toNat

theorem evn_rep {e e' : Expr} {pos : Pos} {l : List PV} {k : Int} (h1 : Ev g d K σ ω e (.lst l)) (h2 : Ev g d K σ ω e' (.int k)) (hlo : -(2 ^ 62) ≤ k) (hsz : l.length * k.toNat ≤ 4096) (hx : k < 2 ^ 62) :
    EvNew g d K σ ω (.BinOp e .Mult e' pos) (List.replicate k.toNat l).flatten := fun c W A s R S =>
  wpAny_BinOp (h1.run R S fun v W' h' tk rv u1 => h2.run R (S.keeps u1) fun u W'' h'' tk' ru u2 => by
    obtain ⟨a, items, rfl, _, hl, rl⟩ := rep_lst.mp (rv.up u2)
    obtain ⟨t, rfl⟩ := rep_int.mp ru
    have S2 := ((S.keeps u1).keeps u2).sok
    refine op_rep (s := { s with heap := h'', toks := tk' }) S2 hl rl (by lia) hsz (by lia) fun its r => ?_
    obtain ⟨u, o, rr⟩ := new_list S2 (items := its) r (n := 0)
    exact ⟨_, _, _, _, _, rfl, rfl, (u1.trans u2).thenN u, o, rr⟩)

theorem ex1_own {x : Str} {pos pos' : Pos} {e : Expr} {l : List PV} (h : EvNew g d K σ ω e l) (hK : K.lookup x = some .local ∨ K.lookup x = some .cell) (hσ : σ.lookup x = Option.none) (hω : ω.lookup x = Option.none)
    (hP : P .next σ ((x, l) :: ω)) (hs : ∀ env line, swapsWith e (some (.Name x pos')) line env = pure false := by intro _ _; rfl) :
    Ex1 g d K σ ω (.Assign [.Name x pos'] e pos) P := fun c W A s R S =>
  wpAny_Assign_Name (wpAny_mono (h c W A s R S) (fun v s' q => by
    obtain ⟨a, items, W', h', tk', rfl, rfl, u, o, r⟩ := q
    refine S.storeOwn (s := { s with heap := h', toks := tk' }) u o r hK hσ hω fun h2 tk2 S2 m le => ?_
    exact ⟨.next, _, _, W', h2, tk2, rfl, hP, rfl, S2, u.later.trans (Later.of_mod m.any le)⟩) fun _ _ f => f.elim) (hs _ _)

/-- the address of an owned name -/
theorem own_name (S : St g c K W σ ω s.heap s.toks) {ad : Str → Addr} (q1 : ∀ x l, ω.lookup x = some l → OwnAt c K W s.heap x l (ad x)) {x : Str} {pos : Pos} {l : List PV} (h : ω.lookup x = some l) (h1 : (x == ("__debug__" : Str)) = false) (h2 : (x == ("__classdict__" : Str)) = false)
    {M : Model} {Q : Value → Shared → Prop} {E : Value → Shared → Prop} (hQ : Q (.ref (ad x)) s) : wpAny M A (eval (.Name x pos) c.env) Q E s :=
  wpAny_Name (S.load (q1 x l h).loc hQ h2) h1

theorem ev_own_idx {x : Str} {pos pos' : Pos} {slice : Expr} {l : List PV} {k : Int} {p : PV} (h : ω.lookup x = some l) (h2 : Ev g d K σ ω slice (.int k)) (hx : pidx l k = some p) (hn : l.length ≤ 4096)
    (h1 : (x == ("__debug__" : Str)) = false := by decide) (h1' : (x == ("__classdict__" : Str)) = false := by decide)
    (hs : ∀ o i, subscripted slice false o i = operate [o, i] (getItem o i) := by intro _ _; rfl) : Ev g d K σ ω (.Subscript (.Name x pos') slice pos) p := fun c W A s R S => by
  obtain ⟨ad, q1, q2⟩ := S.owns
  refine Subscript_ (own_name S q1 h h1 h1' (h2.run R S fun u W'' h'' tk' ru e' => ?_))
  obtain ⟨t, rfl⟩ := rep_int.mp ru
  obtain ⟨_, _, _, items, hl, rl⟩ := (q1 x l h).up e'
  exact tail_lst (s := { s with heap := h'', toks := tk' }) (S.keeps e').sok hx hn hl.isList rl (fun v r => ⟨W'', h'', tk', rfl, r, e'⟩) hs

theorem RepL.set {h : Heap} {l : List PV} {vs : List Value} (r : RepL W h l vs) (i : Nat) {p : PV} {v : Value} (rp : Rep W h p v) : RepL W h (l.set i p) (vs.set i v) := by
  refine RepL.of_get (by rw [List.length_set, List.length_set, r.length]) fun j q u hq hu => ?_
  rw [List.getElem?_set] at hq hu
  by_cases hij : i = j
  · rw [if_pos hij] at hq hu
    split at hq
    · split at hu
      · cases hq; cases hu; exact rp
      · cases hu
    · cases hq
  · rw [if_neg hij] at hq hu
    obtain ⟨u', hu', ru⟩ := r.get j q hq
    rw [hu] at hu'; cases hu'; exact ru

theorem ex1_setidx {x : Str} {e idx : Expr} {pos pos' pos'' : Pos} {l : List PV} {p : PV} {k : Int} (h1 : Ev g d K σ ω e p) (h2 : Ev g d K σ ω idx (.int k)) (hω : ω.lookup x = some l) (hK : K.lookup x ≠ some .free)
    (h0 : 0 ≤ k) (hk : k < l.length) (hn : l.length ≤ 4096) (hP : P .next σ ((x, l.set k.toNat p) :: ω))
    (hd : (x == ("__debug__" : Str)) = false := by decide) (hd' : (x == ("__classdict__" : Str)) = false := by decide)
    (hs : ∀ env, swapsWith e (some (.Subscript (.Name x pos'') idx pos')) pos.line env = pure false := by intro _; rfl) :
    Ex1 g d K σ ω (.Assign [.Subscript (.Name x pos'') idx pos'] e pos) P := fun c W A s R S => by
  refine wpAny_Assign_Subscript (h1.run R S fun v W1 hh1 tk1 rv u1 => ?_) (hs _)
  have S1 := S.keeps u1
  obtain ⟨ad, q1, q2⟩ := S1.owns
  refine own_name (s := { s with heap := hh1, toks := tk1 }) S1 q1 hω hd hd' (h2.run R S1 fun iv W2 hh2 tk2 ri u2 => ?_)
  obtain ⟨t, rfl⟩ := rep_int.mp ri
  have S2 := S1.keeps u2
  have q1' : ∀ x l, ω.lookup x = some l → OwnAt c K W2 hh2 x l (ad x) := fun x l hl => (q1 x l hl).up u2
  obtain ⟨_, _, _, items, hl, rl⟩ := q1' x l hω
  have n1 := rl.length
  rw [Array.length_toList] at n1
  refine own_setItem (s := { s with heap := hh2, toks := tk2 }) hl h0 (by lia) (by lia) fun h' hl' hs' => ?_
  obtain ⟨S3, l3⟩ := S2.ownTurn q1' q2 hω hK hs' hl' (l' := l.set k.toNat p) (by rw [Array.toList_setIfInBounds]; exact rl.set _ (rv.up u2)) (Nat.le_refl _)
  exact ⟨.next, _, _, W2, h', tk2, rfl, hP, rfl, S3, (u1.trans u2).later.trans l3⟩

theorem ex1_append {x : Str} {e : Expr} {pos pos' pos1 pos2 : Pos} {l : List PV} {p : PV} (h1 : Ev g d K σ ω e p) (hω : ω.lookup x = some l) (hK : K.lookup x ≠ some .free)
    (hn : l.length ≤ 4096) (hP : P .next σ ((x, l ++ [p]) :: ω))
    (hd : (x == ("__debug__" : Str)) = false := by decide) (hd' : (x == ("__classdict__" : Str)) = false := by decide)
    (hbase : ∀ env, attributeBase (.Name x pos1) "append" env (eval (.Name x pos1) env) = eval (.Name x pos1) env := by intro _; rfl)
    (hfew : ∀ env, ((backTo pos' (starEach [e] env)).all (fun x => !x.1) && (backToKw pos' (keywordEach [] env)).all (fun x => x.1.isSome)
      && decide (([e] : List Expr).length + ([] : List Keyword).length + (if ([] : List Keyword).isEmpty then 0 else 1) < 30)) = true := by intro _; rfl)
    (hline : (pos2.endLine == pos'.line) = true := by rfl)
    (htrees : ∀ env, backTo pos' (starEach [e] env) = [(false, eval e env)] := by intro _; rfl)
    (hs : ∀ env, swapsWith (.Call (.Attribute (.Name x pos1) "append" pos2) [e] [] pos') Option.none pos.line env = pure false := by intro _; rfl) :
    Ex1 g d K σ ω (.Expr (.Call (.Attribute (.Name x pos1) "append" pos2) [e] [] pos') pos) P := fun c W A s R S => by
  obtain ⟨ad, q1, q2⟩ := S.owns
  have hint : interactive c.env = false := by unfold interactive; rw [S.kind]; rfl
  refine wpAny_Expr (wpAny_Call_append (hbase _) (hfew _) hline (htrees _) (own_name S q1 hω hd hd' ?_)) hint (hs _)
  obtain ⟨_, _, _, items0, ⟨o, ho1, n0, ho2⟩, _⟩ := q1 x l hω
  subst ho2
  refine ⟨_, items0, rfl, ⟨_, n0, ho1, rfl, rfl, rfl⟩, h1.run R S fun v W1 hh1 tk1 rv u1 => ?_⟩
  have S1 := S.keeps u1
  have q1' : ∀ x l, ω.lookup x = some l → OwnAt c K W1 hh1 x l (ad x) := fun x l hl => (q1 x l hl).up u1
  obtain ⟨_, _, _, items, hl, rl⟩ := q1' x l hω
  have n1 := rl.length
  rw [Array.length_toList] at n1
  refine own_append (s := { s with heap := hh1, toks := tk1 }) hl (fun h' hl' hs' => ?_) (by rw [n1]; exact few hn)
  obtain ⟨S3, l3⟩ := S1.ownTurn q1' q2 hω hK hs' hl' (l' := l ++ [p]) (by rw [Array.toList_push]; exact rl.append (repL_cons.mpr ⟨v, [], rfl, rv, repL_nil.mpr rfl⟩)) (Nat.le_refl _)
  exact ⟨.next, _, _, W1, h', tk1, rfl, hP, rfl, S3, u1.later.trans l3⟩

/-- the list is handed out -/
theorem ex1_return_own {x : Str} {pos pos' : Pos} {l : List PV} (hω : ω.lookup x = some l) (hK : K.lookup x ≠ some .free) (hP : P (.ret (.lst l)) σ ω)
    (hd : (x == ("__debug__" : Str)) = false := by decide) (hd' : (x == ("__classdict__" : Str)) = false := by decide) : Ex1 g d K σ ω (.Return (some (.Name x pos')) pos) P := fun c W A s R S => by
  obtain ⟨ad, q1, q2⟩ := S.owns
  obtain ⟨_, _, b3, items, hl, rl⟩ := q1 x l hω
  refine wpAny_Return_some (own_name S q1 hω hd hd' ?_)
  exact ⟨.ret (.lst l), σ, ω, W, s.heap, s.toks, rfl, hP, ⟨_, rfl, rep_lst.mpr ⟨ad x, items, rfl, (b3.2 hK).1, hl.isList, RepL.weaken (W := W) (W' := ⟨c.O, W.T⟩) S.sub (fun _ => rfl) rl⟩⟩, S, Later.refl _ _ _⟩
end
end Mine

namespace Mine
open PySem PySem.W PyProof.Rows

section
variable {g : Pg} {d : Nat} {K : Kn} {σ : Sig} {ω : Own} {c : Cx} {W : Wd} {A : Around} {s : Shared} {P : PostT}

theorem ex1_while {t : Expr} {body orelse : List Stmt} {pos : Pos} (Inv : Nat → Sig → Own → Prop) (n : Nat) (h0 : Inv n σ ω)
    (step : ∀ n σ' ω', Inv n σ' ω' → ∃ b, EvB g d K σ' ω' t b ∧ (b = true → Ex g d K σ' ω' body (turnP (fun σ ω => ∃ m, m < n ∧ Inv m σ ω) P)) ∧ (b = false → Ex g d K σ' ω' orelse P)) :
    Ex1 g d K σ ω (.While t body orelse pos) P := fun c W A s R S => by
  refine wpAny_While ?_
  refine codeAny_whileLoop (fun n s' => ∃ σ' ω' W' h' tk', s' = { s with heap := h', toks := tk' } ∧ Inv n σ' ω' ∧ St g c K W' σ' ω' h' tk' ∧ Later W W' s.heap h' s.toks tk') ?_ n
    ⟨σ, ω, W, s.heap, s.toks, rfl, h0, S, Later.refl _ _ _⟩
  rintro n s' ⟨σ', ω', W', h', tk', rfl, hI, S', l⟩
  obtain ⟨b, hb, h1, h2⟩ := step n σ' ω' hI
  refine hb.run (s := { s with heap := h', toks := tk' }) R S' fun W2 h2' tk2 u => ?_
  have S2 := S'.keeps u
  have l2 := l.trans u.later
  cases b with
  | false =>
    simp only [Bool.false_eq_true, if_false]
    exact Ex.run (h2 rfl) R S2 l2
  | true =>
    simp only [if_true]
    refine wpAny_mono (h1 rfl c W2 A { s with heap := h2', toks := tk2 } R S2) (fun f s4 h4 => ?_) fun _ _ f => f.elim
    obtain ⟨fl, σ4, ω4, W4, h4, tk4, rfl, hP, hf, S4, l4⟩ := h4
    have l04 := l2.trans l4
    cases fl with
    | next => cases hf; obtain ⟨m, hm, hI'⟩ := hP; exact ⟨m, hm, σ4, ω4, W4, h4, tk4, rfl, hI', S4, l04⟩
    | cont => cases hf; obtain ⟨m, hm, hI'⟩ := hP; exact ⟨m, hm, σ4, ω4, W4, h4, tk4, rfl, hI', S4, l04⟩
    | brk => cases hf; exact ⟨.next, σ4, ω4, W4, h4, tk4, rfl, hP, rfl, S4, l04⟩
    | ret q => obtain ⟨v, rfl, hv⟩ := hf; exact ⟨.ret q, σ4, ω4, W4, h4, tk4, rfl, hP, ⟨v, rfl, hv⟩, S4, l04⟩

/-- a, b, .. = e, stored in their order -/
theorem ex1_assign_tup {es : List Expr} {k : Nat} {tpos pos : Pos} {e : Expr} {p : PV} {B : Sig} (h : Ev g d K σ ω e p) (hb : bindT (.Tuple es k tpos) p = some B) (ht : tgtOk K ω (.Tuple es k tpos))
    (hP : P .next (B ++ σ) ω) (hs : ∀ env, swapsWithSole [.Tuple es k tpos] e pos.line env = pure false := by intro _; rfl)
    (hw : ∀ env, swappedStores [.Tuple es k tpos] e env = pure Option.none := by intro _; rfl) :
    Ex1 g d K σ ω (.Assign [.Tuple es k tpos] e pos) P := fun c W A s R S =>
  Assign_Tuple (h.run R S fun v W' h' tk' r u => assign_tgt (s := { s with heap := h', toks := tk' }) (S.keeps u) R hb ht r fun h2 tk2 S2 m le =>
    ⟨.next, _, ω, W', h2, tk2, rfl, hP, rfl, S2, u.later.trans (Later.of_mod m.any le)⟩) (hs _) (hw _)
end
end Mine

namespace Mine
open PySem PySem.W PyProof.Rows

/-! list(zip(a, b)) -/

/-- a zip that has handed a tuple out -/
noncomputable abbrev IsZipO (h : Heap) (z TI TO T : Addr) (b : Bool) : Prop :=
  h.get? z = some { cls := .type "zip", dict := none, data := .fields #[rawInt T, .bool b, .bool false, .ref TI, .ref TO], slots := #[] }

section
variable {prog : Program} {w : World} {A : Around} {E : Value → Shared → Prop} {s : Shared}

theorem wpAny_loadIfAlive {M : Model} {a : Addr} {Q : Option Obj → Shared → Prop} (h : Q (s.heap.get? a) s) : wpAny M A (loadIfAlive a) Q E s := fun Γ p _ => by
  unfold loadIfAlive
  rw [Sem.wp_loadIfAlive]
  exact h

theorem zip_rest {z TI TO i1 i2 l1 l2 T : Addr} {k1 k2 : Nat} {xs ys : Array Value} {x y : Value} {Q : Value → Shared → Prop} (f : Value → Option Fin × Array Value → Sem (ForInStep (Option Fin × Array Value))) (k : Option Fin × Array Value → Sem Fin)
    (hf : ∀ (it : Value) (acc : Array Value) (Q : ForInStep (Option Fin × Array Value) → Shared → Prop) (E : Value → Shared → Prop) (s : Shared), wpAny (model prog w) A (Builtin.SmallTypes.nextOf it) (fun v s' => Q (.yield (none, acc.push v)) s') E s → wpAny (model prog w) A (f it (none, acc)) Q E s)
    (hk : ∀ acc, k (none, acc) = (newTuple acc.toList >>= fun r => ret r)) (D : ZipApart z TI TO i1 i2 l1 l2)
    (h1 : s.heap.IsListIter i1 l1 k1) (h2 : s.heap.IsListIter i2 l2 k2) (hl1 : s.heap.IsList l1 xs) (hl2 : s.heap.IsList l2 ys) (hx : xs[k1]? = some x) (hy : ys[k2]? = some y)
    {h₁ : Heap} (hz₁ : IsZipO h₁ z TI TO T true) (hs₁ : Heap.SameBut z s.heap h₁)
    (hQ : ∀ h', IsZipO h' z TI TO T true → h'.IsListIter i1 l1 (k1 + 1) → h'.IsListIter i2 l2 (k2 + 1) → IsPair h' s.heap.objs.size x y → h'.objs.size = s.heap.objs.size + 1 →
      (∀ c o, c ≠ z → c ≠ i1 → c ≠ i2 → s.heap.get? c = some o → h'.get? c = some o) → Q (.ref s.heap.objs.size) { s with heap := h' }) :
    wpAny (model prog w) A (forIn (#[.ref i1, .ref i2] : Array Value) ((none, #[]) : Option Fin × Array Value) f >>= k) (fun fin s' => ∃ v, fin = .done (.ret v) ∧ Q v s') E { s with heap := h₁ } := by
    refine wpAny_bind ?_
    rw [List.forIn_toArray]
    simp only [List.forIn_cons, List.forIn_nil]
    refine wpAny_bind (hf _ _ _ _ _ ?_)
    refine wpAny_nextOf_list_item (s := { s with heap := h₁ }) (h1.extBut hs₁.extBut D.i1z) (hl1.extBut hs₁.extBut D.l1z) hx fun h₂ h1₂ hs₂ => ?_
    refine wpAny_bind (hf _ _ _ _ _ ?_)
    refine wpAny_nextOf_list_item (s := { s with heap := h₂ }) ((h2.extBut hs₁.extBut D.i2z).extBut hs₂.extBut D.i12.symm)
      ((hl2.extBut hs₁.extBut D.l2z).extBut hs₂.extBut D.l2i1) hy fun h₃ h2₃ hs₃ => wpAny_pure ?_
    rw [hk]
    refine wpAny_bind (wpAny_newTuple (wpAny_pure ⟨_, rfl, ?_⟩) (by simp only [Array.push]; show (2 : Nat) ≤ sizeLine; decide))
    have hsz : h₃.objs.size = s.heap.objs.size := by rw [hs₃.1, hs₂.1, hs₁.1]
    dsimp only
    rw [hsz]
    refine hQ _ (Heap.get?_push_of_some _ (hs₃.extBut _ _ D.i2z.symm (hs₂.extBut _ _ D.i1z.symm hz₁))) ?_ ?_ ?_ (by rw [Heap.size_push, hsz]) ?_
    · exact (h1₂.extBut hs₃.extBut D.i12).at fun o e => Heap.get?_push_of_some _ e
    · exact h2₃.at fun o e => Heap.get?_push_of_some _ e
    · rw [← hsz]; exact Heap.get?_push_size _ rfl
    · exact fun c o c1 c3 c4 e => Heap.get?_push_of_some _ (hs₃.extBut _ _ c4 (hs₂.extBut _ _ c3 (hs₁.extBut _ _ c1 e)))

theorem zip_next_more {z TI TO i1 i2 l1 l2 T : Addr} {b0 : Bool} {k1 k2 : Nat} {xs ys : Array Value} {x y : Value} {Q : Value → Shared → Prop} (D : ZipApart z TI TO i1 i2 l1 l2)
    (hz : IsZipO s.heap z TI TO T b0) (hT : ∃ o, s.heap.get? T = some o) (hTI : IsPair s.heap TI (.ref i1) (.ref i2))
    (h1 : s.heap.IsListIter i1 l1 k1) (h2 : s.heap.IsListIter i2 l2 k2) (hl1 : s.heap.IsList l1 xs) (hl2 : s.heap.IsList l2 ys) (hx : xs[k1]? = some x) (hy : ys[k2]? = some y)
    (hQ : ∀ h', IsZipO h' z TI TO T true → h'.IsListIter i1 l1 (k1 + 1) → h'.IsListIter i2 l2 (k2 + 1) → IsPair h' s.heap.objs.size x y → h'.objs.size = s.heap.objs.size + 1 →
      (∀ c o, c ≠ z → c ≠ i1 → c ≠ i2 → s.heap.get? c = some o → h'.get? c = some o) → Q (.ref s.heap.objs.size) { s with heap := h' }) :
    wpAny (model prog w) A (Builtin.«zip.__next__» ⟨[.ref z], []⟩) (fun fin s' => ∃ v, fin = .done (.ret v) ∧ Q v s') E s := by
  obtain ⟨oT, hoT⟩ := hT
  show wpAny _ _ (field (.ref z) 2 >>= _) _ _ _
  refine wpAny_bind (wpAny_field hz rfl (x := .bool false) rfl ?_)
  show wpAny _ _ (field (.ref z) 3 >>= _) _ _ _
  refine wpAny_bind (wpAny_field hz rfl (x := .ref TI) rfl ?_)
  refine wpAny_bind (wpAny_seqItems hTI rfl ?_)
  show wpAny _ _ (Builtin.SmallTypes.ownedTupleIsFree (.ref z) >>= _) _ _ _
  refine wpAny_bind ?_
  unfold Builtin.SmallTypes.ownedTupleIsFree
  refine wpAny_bind (wpAny_field hz rfl (x := rawInt T) rfl ?_)
  show wpAny _ _ (loadIfAlive ((T : Int)).toNat >>= _) _ _ _
  refine wpAny_bind (wpAny_loadIfAlive ?_)
  rw [Int.toNat_natCast, hoT]
  simp only [Option.isNone_some, Bool.false_eq_true, if_false]
  refine wpAny_bind (wpAny_field hz rfl (x := .bool b0) rfl ?_)
  cases b0 with
  | true =>
    rw [if_neg (by decide)]
    refine wpAny_pure ?_
    rw [if_neg (by decide)]
    refine zip_rest _ _ ?_ (fun _ => rfl) D h1 h2 hl1 hl2 hx hy hz (Heap.SameBut.refl ..) hQ
    exact fun it acc Q E s h => wpAny_bind (wpAny_holding (wpAny_bind (wpAny_mono h (fun v s' h => wpAny_pure (wpAny_pure h)) fun _ _ e => e)))
  | false =>
    rw [if_pos (by decide)]
    refine wpAny_bind (wpAny_setField_rec hz (by simp) fun h₁ hz₁ hs₁ => wpAny_pure ?_)
    rw [if_neg (by decide)]
    refine zip_rest _ _ ?_ (fun _ => rfl) D h1 h2 hl1 hl2 hx hy hz₁ hs₁ hQ
    exact fun it acc Q E s h => wpAny_bind (wpAny_holding (wpAny_bind (wpAny_mono h (fun v s' h => wpAny_pure (wpAny_pure h)) fun _ _ e => e)))
end
end Mine

namespace Mine
open PySem PySem.W PyProof.Rows

noncomputable def zipPV (ps qs : List PV) : List PV := List.zipWith (fun p q => PV.tup [p, q]) ps qs

structure ZInv (Wz : Wd) (hA : Heap) (z TI TO i1 i2 l1 l2 S : Addr) (xs ys : Array Value) (ps qs : List PV) (i : Nat) (acc : Array Value) (h : Heap) : Prop where
  zip : IsZip h z TI TO .none ∨ ∃ T b, IsZipO h z TI TO T b ∧ ∃ o, h.get? T = some o
  TIp : IsPair h TI (.ref i1) (.ref i2)
  TOp : ∃ a b, IsPair h TO a b
  it1 : h.IsListIter i1 l1 i
  it2 : h.IsListIter i2 l2 i
  li1 : h.IsList l1 xs
  li2 : h.IsList l2 ys
  r1 : RepL Wz h ps xs.toList
  r2 : RepL Wz h qs ys.toList
  S : ∃ c, h.get? S = some { cls := .type "list", dict := none, data := .seq acc c, slots := #[] }
  ra : RepL Wz h ((zipPV ps qs).take i) acc.toList
  ext : Ext hA h

section
variable {prog : Program} {w : World} {A : Around} {s : Shared} {Wz : Wd} {hA : Heap} {z TI TO i1 i2 l1 l2 S : Addr} {xs ys : Array Value} {ps qs : List PV}

theorem repL_mid {W : Wd} {h : Heap} {ps : List PV} {xs : Array Value} (r : RepL W h ps xs.toList) {i : Nat} (hi : i < ps.length) : ∃ x, xs[i]? = some x ∧ Rep W h ps[i] x := by
  obtain ⟨v, h1, h2⟩ := r.get i ps[i] (List.getElem?_eq_getElem hi)
  exact ⟨v, by simpa using h1, h2⟩

theorem zip_turn (D : ZipApart z TI TO i1 i2 l1 l2) (hS : S ≠ z ∧ S ≠ TI ∧ S ≠ TO ∧ S ≠ i1 ∧ S ≠ i2 ∧ S ≠ l1 ∧ S ≠ l2) (hO : Wz.O TO ∧ Wz.O S) (hval : ∀ a, Wz.O a → ∃ o, hA.get? a = some o ∨ a = TO ∨ a = S) (hnew : ∀ c ∈ [z, TO, i1, i2, S], hA.get? c = Option.none)
    {i : Nat} {acc : Array Value} (I : ZInv Wz hA z TI TO i1 i2 l1 l2 S xs ys ps qs i acc s.heap) (h1 : i < ps.length) (h2 : i < qs.length) {Q : Option Value → Shared → Prop} {E : Value → Shared → Prop}
    (hQ : ∀ h' v, (∀ h'', (∃ c, h''.get? S = some { cls := .type "list", dict := none, data := .seq (acc.push v) c, slots := #[] }) → Heap.SameBut S h' h'' → ZInv Wz hA z TI TO i1 i2 l1 l2 S xs ys ps qs (i + 1) (acc.push v) h'') →
      (∃ c, h'.get? S = some { cls := .type "list", dict := none, data := .seq acc c, slots := #[] }) → Q (some v) { s with heap := h' }) : wpAny (model prog w) A (pyNext (.ref z)) Q E s := by
  obtain ⟨hzip, hTI, ⟨a0, b0, hTO⟩, hi1, hi2, hl1, hl2, r1, r2, ⟨c0, hSl⟩, ra, ext⟩ := I
  obtain ⟨x, hx, rx⟩ := repL_mid r1 h1
  obtain ⟨y, hy, ry⟩ := repL_mid r2 h2
  -- what is alike for both roads
  have fin : ∀ h' : Heap, (IsZip h' z TI TO .none ∨ ∃ T b, IsZipO h' z TI TO T b ∧ ∃ o, h'.get? T = some o) → (∃ a b, IsPair h' TO a b) → h'.IsListIter i1 l1 (i + 1) → h'.IsListIter i2 l2 (i + 1) → IsPair h' s.heap.objs.size x y →
      (∀ c o, c ≠ z → c ≠ TO → c ≠ i1 → c ≠ i2 → s.heap.get? c = some o → h'.get? c = some o) → Q (some (.ref s.heap.objs.size)) { s with heap := h' } := by
    intro h' hz' hTO' a3 a4 a5 hk
    have notseq : ∀ {c o}, s.heap.get? c = some o → IsSeq o → c ≠ z ∧ c ≠ i1 ∧ c ≠ i2 := fun {c o} e hs => by
      refine ⟨?_, ?_, ?_⟩
      · rintro rfl
        rcases hzip with hz | ⟨T, b, hz, _⟩ <;> (rw [hz] at e; cases e; exact hs)
      · rintro rfl
        obtain ⟨o', e', _, hd⟩ := hi1
        rw [e'] at e; cases e; unfold IsSeq at hs; rw [hd] at hs; exact hs
      · rintro rfl
        obtain ⟨o', e', _, hd⟩ := hi2
        rw [e'] at e; cases e; unfold IsSeq at hs; rw [hd] at hs; exact hs
    have ms : ModS Wz.O s.heap h' := fun c o e hnO hs => let ⟨n1, n3, n4⟩ := notseq e hs; hk c o n1 (fun q => hnO (q ▸ hO.1)) n3 n4 e
    have hSl' := hk S _ hS.1 hS.2.2.1 hS.2.2.2.1 hS.2.2.2.2.1 hSl
    refine hQ h' _ (fun h'' hS'' hs'' => ?_) ⟨c0, hSl'⟩
    have k2 : ∀ {c o}, c ≠ S → h'.get? c = some o → h''.get? c = some o := fun hc e => (hs''.2 _ hc).trans e
    have ms2 : ModS Wz.O h' h'' := fun c o e hnO hs => k2 (fun q => hnO (q ▸ hO.2)) e
    have lt : ∀ {c o}, s.heap.get? c = some o → s.heap.objs.size ≠ c := fun e => Nat.ne_of_gt (Heap.lt_size e)
    have newS : s.heap.objs.size ≠ S := lt hSl
    have notO : ¬ Wz.O s.heap.objs.size := fun q => by
      obtain ⟨o, e | e | e⟩ := hval _ q
      · exact lt (ext _ _ e) rfl
      · exact lt hTO e
      · exact lt hSl e
    refine ⟨?_, k2 hS.2.1.symm (hk _ _ D.TIz D.TITO D.TIi1 D.TIi2 hTI), let ⟨a, b, e⟩ := hTO'; ⟨a, b, k2 hS.2.2.1.symm e⟩, a3.at fun o e => k2 hS.2.2.2.1.symm e, a4.at fun o e => k2 hS.2.2.2.2.1.symm e,
      hl1.at fun o e => k2 hS.2.2.2.2.2.1.symm (hk _ o D.l1z D.l1TO D.l1i1 D.l1i2 e), hl2.at fun o e => k2 hS.2.2.2.2.2.2.symm (hk _ o D.l2z D.l2TO D.l2i1 D.l2i2 e),
      (r1.mono ms (Grow.refl _ _)).mono ms2 (Grow.refl _ _), (r2.mono ms (Grow.refl _ _)).mono ms2 (Grow.refl _ _), hS'', ?_, ?_⟩
    · rcases hz' with q | ⟨T, b, q, o, e⟩
      · exact .inl (k2 hS.1.symm q)
      · refine .inr ⟨T, b, k2 hS.1.symm q, ?_⟩
        by_cases hT : T = S
        · obtain ⟨c, e2⟩ := hS''; exact ⟨_, hT ▸ e2⟩
        · exact ⟨o, k2 hT e⟩
    · have hlen : i < (zipPV ps qs).length := by unfold zipPV; rw [List.length_zipWith]; omega
      rw [List.take_add_one, List.getElem?_eq_getElem hlen, Array.toList_push]
      refine ((ra.mono ms (Grow.refl _ _)).mono ms2 (Grow.refl _ _)).append (repL_cons.mpr ⟨_, [], rfl, ?_, repL_nil.mpr rfl⟩)
      have e : (zipPV ps qs)[i] = .tup [ps[i], qs[i]] := by simp [zipPV]
      rw [e]
      refine rep_tup.mpr ⟨_, #[x, y], rfl, notO, ⟨_, k2 newS a5, rfl, 0, rfl⟩, ?_⟩
      exact repL_cons.mpr ⟨x, [y], rfl, (rx.mono ms (Grow.refl _ _)).mono ms2 (Grow.refl _ _), repL_cons.mpr ⟨y, [], rfl, (ry.mono ms (Grow.refl _ _)).mono ms2 (Grow.refl _ _), repL_nil.mpr rfl⟩⟩
    · intro c o e
      have e1 := ext c o e
      have n : ∀ d ∈ [z, TO, i1, i2, S], c ≠ d := fun d hd q => by rw [q, hnew d hd] at e; cases e
      exact k2 (n S (by simp)) (hk c o (n z (by simp)) (n TO (by simp)) (n i1 (by simp)) (n i2 (by simp)) e1)
  rcases hzip with hz | ⟨T, b, hz, hT⟩
  · refine wpAny_pyNext_zip_item D hz hTI hTO hi1 hi2 hl1 hl2 hx hy fun h' a1 a2 a3 a4 a5 a6 hk => ?_
    exact fin h' (.inr ⟨_, false, a1, _, a5⟩) ⟨_, _, a2⟩ a3 a4 a5 hk
  · have hT' : s.TypeIs (.ref z) "zip" := ⟨_, hz, rfl⟩
    unfold pyNext
    refine wpAny_bind (wpAny_attempt (wpAny_callSpecial?_slot (name := Str.ofString "__next__") hT' F.slot_zip_next
      (wpAny_call_entry F.slot_zip_next hT' F.entry_zip_next
        (zip_next_more D hz hT hTI hi1 hi2 hl1 hl2 hx hy fun h' a1 a3 a4 a5 a6 hk => wpAny_pure ?_) (F.args_zip_next_1 _))))
    obtain ⟨oT, hoT⟩ := hT
    have hTn : T ≠ z → T ≠ i1 → T ≠ i2 → ∃ o, h'.get? T = some o := fun n1 n2 n3 => ⟨oT, hk T oT n1 n2 n3 hoT⟩
    refine fin h' (.inr ⟨T, true, a1, ?_⟩) ⟨_, _, hk TO _ D.TOz D.TOi1 D.TOi2 hTO⟩ a3 a4 a5 fun c o c1 _ c3 c4 e => hk c o c1 c3 c4 e
    by_cases n1 : T = z
    · exact n1 ▸ ⟨_, a1⟩
    · by_cases n2 : T = i1
      · obtain ⟨o, e, _⟩ := a3; exact n2 ▸ ⟨o, e⟩
      · by_cases n3 : T = i2
        · obtain ⟨o, e, _⟩ := a4; exact n3 ▸ ⟨o, e⟩
        · exact hTn n1 n2 n3

theorem zip_end_rest {z TI TO i1 i2 l1 l2 T : Addr} {k1 : Nat} {xs : Array Value} {E : Value → Shared → Prop} {Q : Fin → Shared → Prop} (f : Value → Option Fin × Array Value → Sem (ForInStep (Option Fin × Array Value))) (k : Option Fin × Array Value → Sem Fin)
    (hf : ∀ (it : Value) (acc : Array Value) (Q : ForInStep (Option Fin × Array Value) → Shared → Prop) (E : Value → Shared → Prop) (s : Shared), wpAny (model prog w) A (Builtin.SmallTypes.nextOf it) (fun v s' => Q (.yield (Option.none, acc.push v)) s') E s → wpAny (model prog w) A (f it (Option.none, acc)) Q E s)
    (hh : A.handled = Option.none) (D : ZipApart z TI TO i1 i2 l1 l2)
    (h1 : s.heap.IsListIter i1 l1 k1) (hl1 : s.heap.IsList l1 xs) (hx : xs[k1]? = Option.none)
    {h₁ : Heap} (hs₁ : Heap.SameBut z s.heap h₁)
    (hE : ∀ h' e, (∀ c o, c ≠ z → c ≠ i1 → s.heap.get? c = some o → h'.get? c = some o) → (∃ o, h'.get? e = some o ∧ o.cls = .type "StopIteration") → E (.ref e) { s with heap := h' }) :
    wpAny (model prog w) A (forIn (#[.ref i1, .ref i2] : Array Value) ((Option.none, #[]) : Option Fin × Array Value) f >>= k) Q E { s with heap := h₁ } := by
    refine wpAny_bind ?_
    rw [List.forIn_toArray]
    simp only [List.forIn_cons, List.forIn_nil]
    refine wpAny_bind (hf _ _ _ _ _ ?_)
    exact wpAny_nextOf_list_end (s := { s with heap := h₁ }) hh (h1.extBut hs₁.extBut D.i1z) (hl1.extBut hs₁.extBut D.l1z) hx fun h₂ e hs₂ he => hE h₂ e (fun c o c1 c3 x => hs₂ _ _ c3 (hs₁.extBut _ _ c1 x)) he

theorem zip_end_more {z TI TO i1 i2 l1 l2 T : Addr} {b0 : Bool} {k1 : Nat} {xs : Array Value} {Q : Fin → Shared → Prop} {E : Value → Shared → Prop} (hh : A.handled = Option.none) (D : ZipApart z TI TO i1 i2 l1 l2)
    (hz : IsZipO s.heap z TI TO T b0) (hT : ∃ o, s.heap.get? T = some o) (hTI : IsPair s.heap TI (.ref i1) (.ref i2))
    (h1 : s.heap.IsListIter i1 l1 k1) (hl1 : s.heap.IsList l1 xs) (hx : xs[k1]? = Option.none)
    (hE : ∀ h' e, (∀ c o, c ≠ z → c ≠ i1 → s.heap.get? c = some o → h'.get? c = some o) → (∃ o, h'.get? e = some o ∧ o.cls = .type "StopIteration") → E (.ref e) { s with heap := h' }) :
    wpAny (model prog w) A (Builtin.«zip.__next__» ⟨[.ref z], []⟩) Q E s := by
  obtain ⟨oT, hoT⟩ := hT
  show wpAny _ _ (field (.ref z) 2 >>= _) _ _ _
  refine wpAny_bind (wpAny_field hz rfl (x := .bool false) rfl ?_)
  show wpAny _ _ (field (.ref z) 3 >>= _) _ _ _
  refine wpAny_bind (wpAny_field hz rfl (x := .ref TI) rfl ?_)
  refine wpAny_bind (wpAny_seqItems hTI rfl ?_)
  show wpAny _ _ (Builtin.SmallTypes.ownedTupleIsFree (.ref z) >>= _) _ _ _
  refine wpAny_bind ?_
  unfold Builtin.SmallTypes.ownedTupleIsFree
  refine wpAny_bind (wpAny_field hz rfl (x := rawInt T) rfl ?_)
  show wpAny _ _ (loadIfAlive ((T : Int)).toNat >>= _) _ _ _
  refine wpAny_bind (wpAny_loadIfAlive ?_)
  rw [Int.toNat_natCast, hoT]
  simp only [Option.isNone_some, Bool.false_eq_true, if_false]
  refine wpAny_bind (wpAny_field hz rfl (x := .bool b0) rfl ?_)
  cases b0 with
  | true =>
    rw [if_neg (by decide)]
    refine wpAny_pure ?_
    rw [if_neg (by decide)]
    refine zip_end_rest (T := T) _ _ ?_ hh D h1 hl1 hx (Heap.SameBut.refl ..) hE
    exact fun it acc Q E s h => wpAny_bind (wpAny_holding (wpAny_bind (wpAny_mono h (fun v s' h => wpAny_pure (wpAny_pure h)) fun _ _ e => e)))
  | false =>
    rw [if_pos (by decide)]
    refine wpAny_bind (wpAny_setField_rec hz (by simp) fun h₁ hz₁ hs₁ => wpAny_pure ?_)
    rw [if_neg (by decide)]
    refine zip_end_rest (T := T) _ _ ?_ hh D h1 hl1 hx hs₁ hE
    exact fun it acc Q E s h => wpAny_bind (wpAny_holding (wpAny_bind (wpAny_mono h (fun v s' h => wpAny_pure (wpAny_pure h)) fun _ _ e => e)))

theorem zip_over {prog : Program} {w : World} {A : Around} {s : Shared} (hh : A.handled = Option.none) (D : ZipApart z TI TO i1 i2 l1 l2) {i : Nat} {acc : Array Value} (I : ZInv Wz hA z TI TO i1 i2 l1 l2 S xs ys ps qs i acc s.heap) (h1 : ps.length ≤ i)
    {Q : Option Value → Shared → Prop} {E : Value → Shared → Prop} (hQ : ∀ h', (∀ c o, c ≠ z → c ≠ TO → c ≠ i1 → c ≠ i2 → s.heap.get? c = some o → h'.get? c = some o) → Q Option.none { s with heap := h' }) : wpAny (model prog w) A (pyNext (.ref z)) Q E s := by
  obtain ⟨hzip, hTI, ⟨a0, b0, hTO⟩, hi1, hi2, hl1, hl2, r1, r2, hSl, ra, ext⟩ := I
  have hx : xs[i]? = Option.none := Array.getElem?_eq_none (by have := r1.length; rw [Array.length_toList] at this; lia)
  rcases hzip with hz | ⟨T, b, hz, hT⟩
  · exact wpAny_pyNext_zip_end hh D hz hTI hTO hi1 hi2 hl1 hl2 (.inl hx) hQ
  · have hT' : s.TypeIs (.ref z) "zip" := ⟨_, hz, rfl⟩
    unfold pyNext
    refine wpAny_bind (wpAny_attempt (wpAny_callSpecial?_slot (name := Str.ofString "__next__") hT' F.slot_zip_next
      (wpAny_call_entry F.slot_zip_next hT' F.entry_zip_next
        (zip_end_more hh D hz hT hTI hi1 hl1 hx fun h' e hk he => ?_) (F.args_zip_next_1 _))))
    obtain ⟨o, ho, hc⟩ := he
    refine wpAny_bind (wpAny_isInstance (T := "StopIteration") (b := true) ⟨o, ho, hc⟩ isSubtype_stop ?_)
    exact wpAny_pure (hQ _ fun c o c1 _ c3 _ e => hk c o c1 c3 e)

theorem zip_loop {prog : Program} {w : World} {A : Around} {R : Result → Shared → Prop} (hh : A.handled = Option.none) (D : ZipApart z TI TO i1 i2 l1 l2) (hS : S ≠ z ∧ S ≠ TI ∧ S ≠ TO ∧ S ≠ i1 ∧ S ≠ i2 ∧ S ≠ l1 ∧ S ≠ l2) (hO : Wz.O TO ∧ Wz.O S)
    (hval : ∀ a, Wz.O a → ∃ o, hA.get? a = some o ∨ a = TO ∨ a = S) (hnew : ∀ c ∈ [z, TO, i1, i2, S], hA.get? c = Option.none) (hlen : ps.length = qs.length) (hn : ps.length ≤ 4096) {res : Value} :
    ∀ (k i : Nat) (s : Shared) (acc : Array Value), ps.length - i = k → i ≤ ps.length → ZInv Wz hA z TI TO i1 i2 l1 l2 S xs ys ps qs i acc s.heap →
    (∀ h' acc', Ext hA h' → (∃ c, h'.get? S = some { cls := .type "list", dict := none, data := .seq acc' c, slots := #[] }) → RepL Wz h' (zipPV ps qs) acc'.toList → R (.ok (.ret res)) { s with heap := h' }) →
    codeAny (model prog w) A (.builtin "list.extend.loop" ⟨[.ref S, .ref z, res], []⟩) R s := by
  intro k
  induction k with
  | zero =>
    intro i s acc hk hi I hR
    refine codeAny_builtin F.entry_extend_loop ?_
    rw [Around.under_plainId F.plain_extend_loop _]
    show wpAny _ A.in1 (pyNext (.ref z) >>= _) _ _ s
    refine wpAny_bind (zip_over (A := A.in1) hh D I (by lia) fun h' hk => wpAny_pure ?_)
    obtain ⟨hzip, hTI, ⟨a0, b0, hTO⟩, hi1, hi2, hl1, hl2, r1, r2, ⟨c0, hSl⟩, ra, ext⟩ := I
    have notseq : ∀ {c o}, s.heap.get? c = some o → IsSeq o → c ≠ z ∧ c ≠ i1 ∧ c ≠ i2 := fun {c o} e hs => by
      refine ⟨?_, ?_, ?_⟩
      · rintro rfl
        rcases hzip with hz | ⟨T, b, hz, _⟩ <;> (rw [hz] at e; cases e; exact hs)
      · rintro rfl
        obtain ⟨o', e', _, hd⟩ := hi1
        rw [e'] at e; cases e; unfold IsSeq at hs; rw [hd] at hs; exact hs
      · rintro rfl
        obtain ⟨o', e', _, hd⟩ := hi2
        rw [e'] at e; cases e; unfold IsSeq at hs; rw [hd] at hs; exact hs
    have ms : ModS Wz.O s.heap h' := fun c o e hnO hs => let ⟨n1, n3, n4⟩ := notseq e hs; hk c o n1 (fun q => hnO (q ▸ hO.1)) n3 n4 e
    refine hR h' acc (fun c o e => ?_) ⟨c0, hk S _ hS.1 hS.2.2.1 hS.2.2.2.1 hS.2.2.2.2.1 hSl⟩ ?_
    · have n : ∀ d ∈ [z, TO, i1, i2, S], c ≠ d := fun d hd q => by rw [q, hnew d hd] at e; cases e
      exact hk c o (n z (by simp)) (n TO (by simp)) (n i1 (by simp)) (n i2 (by simp)) (ext c o e)
    · have e : (zipPV ps qs).take i = zipPV ps qs := List.take_of_length_le (by unfold zipPV; rw [List.length_zipWith]; lia)
      rw [e] at ra
      exact ra.mono ms (Grow.refl _ _)
  | succ k ih =>
    intro i s acc hk hi I hR
    have hlt : i < ps.length := by lia
    have hacc : acc.size = i := by
      have := I.ra.length
      rw [Array.length_toList, List.length_take] at this
      unfold zipPV at this; rw [List.length_zipWith] at this; lia
    refine codeAny_builtin F.entry_extend_loop ?_
    rw [Around.under_plainId F.plain_extend_loop _]
    show wpAny _ A.in1 (pyNext (.ref z) >>= _) _ _ s
    refine wpAny_bind (zip_turn (A := A.in1) D hS hO hval hnew I hlt (by lia) fun h' v hI hSl => ?_)
    obtain ⟨c, hSl⟩ := hSl
    show wpAny _ A.in1 (updateSeq S (·.push v) >>= _) _ _ _
    refine wpAny_bind ?_
    refine wpAny_updateSeq (s := { s with heap := h' }) hSl rfl (wpAny_pure ⟨plainId_quiet F.plain_extend_loop _, ih (i + 1) _ (acc.push v) (by lia) hlt (hI _ ⟨_, Heap.get?_update_self _ hSl rfl⟩ (Heap.SameBut.update ..)) fun h'' acc' a1 a2 a3 => hR h'' acc' a1 a2 a3⟩)
      (by rw [hacc]; exact few (by lia)) (by show (acc.push v).size ≤ sizeLine + 1; rw [Array.size_push, hacc]; have := few (n := i) (by (clear hSl hI hR I hi hk ih hnew hval hO hS D hh hacc; omega)); lia)
end
end Mine

namespace Mine
open PySem PySem.W PyProof.Rows

theorem zip_no_len : typeLookup (.type "zip") "__len__" = pure Option.none := by rw [typeLookup_type, builtinLookup_eq_fast]; kernel_rfl
theorem zip_no_hint : typeLookup (.type "zip") "__length_hint__" = pure Option.none := by rw [typeLookup_type, builtinLookup_eq_fast]; kernel_rfl

section
variable {prog : Program} {w : World} {A : Around} {s : Shared}

theorem extend_zip {R : Result → Shared → Prop} {z TI TO S : Addr} {res : Value} {c0 : Nat} {E : Value → Shared → Prop} (hz : IsZip s.heap z TI TO .none) (hSz : S ≠ z)
    (hS : s.heap.get? S = some { cls := .type "list", data := .seq #[] c0 })
    (hR : ∀ h' c, h'.get? S = some { cls := .type "list", data := .seq #[] c } → Heap.SameBut S s.heap h' → codeAny (model prog w) A (.builtin "list.extend.loop" ⟨[.ref S, .ref z, res], []⟩) R { s with heap := h' }) :
    wpAny (model prog w) A.in1 (Builtin.List.listExtendWith (.ref S) (.ref z) res)
      (fun fin s' => match fin with | .done f => R (.ok f) s' | .again c' => c'.quiet = true ∧ codeAny (model prog w) A c' R s') E s := by
  have hT : s.TypeIs (.ref z) "zip" := ⟨_, hz, rfl⟩
  unfold Builtin.List.listExtendWith
  refine wpAny_bind (wpAny_typeOf hT ?_)
  have h1 : Builtin.List.listSameRef (.ref S) (.ref z) = false := by simp [Builtin.List.listSameRef, hSz]
  have h2 : (Value.type "zip" == Value.type "list") = false := by decide
  have h3 : (Value.type "zip" == Value.type "tuple") = false := by decide
  simp only [h1, h2, h3, Bool.or_false, Bool.false_eq_true, if_false]
  refine wpAny_bind (wpAny_pyIter_zip hz ?_)
  refine wpAny_bind (wpAny_holding ?_)
  unfold Builtin.List.listLengthHint
  refine wpAny_bind (wpAny_specialOf hT zip_no_len ?_)
  show wpAny _ A.in1 (specialOf (Value.ref z) (Str.ofString "__length_hint__") >>= _) _ _ _
  refine wpAny_bind (wpAny_specialOf hT zip_no_hint ?_)
  refine wpAny_pure ?_
  show wpAny _ A.in1 (rule "list.extend.makes-room" >>= fun _ => Builtin.List.listTouch (.ref S) >>= fun _ =>
    again (.builtin "list.extend.loop" ⟨[.ref S, .ref z, res], []⟩)) _ _ _
  refine wpAny_bind (wpAny_rule ?_)
  refine wpAny_bind ?_
  show wpAny _ A.in1 (updateSeq S (·.push .none) >>= fun _ => updateSeq S (·.pop)) _ _ _
  refine wpAny_bind (wpAny_updateSeq hS rfl ?_)
  have hS₂ := Heap.get?_update_self (Obj.mapSeq (·.push Value.none)) hS rfl
  refine wpAny_updateSeq (hz := by seq_fits) hS₂ rfl ?_
  have hS₃ := Heap.get?_update_self (Obj.mapSeq (·.pop)) hS₂ rfl
  exact wpAny_pure ⟨plainId_quiet F.plain_extend_loop _, hR _ _ hS₃ ((Heap.SameBut.update ..).trans (Heap.SameBut.update ..))⟩

theorem init_zip {R : Result → Shared → Prop} {z TI TO S : Addr} {c0 : Nat} {E : Value → Shared → Prop} (hz : IsZip s.heap z TI TO .none) (hSz : S ≠ z)
    (hS : s.heap.get? S = some { cls := .type "list", data := .seq #[] c0 })
    (hR : ∀ h' c, h'.get? S = some { cls := .type "list", data := .seq #[] c } → Heap.SameBut S s.heap h' → codeAny (model prog w) A (.builtin "list.extend.loop" ⟨[.ref S, .ref z, .none], []⟩) R { s with heap := h' }) :
    wpAny (model prog w) A.in1 (Builtin.«list.__init__» ⟨[.ref S, .ref z], []⟩)
      (fun fin s' => match fin with | .done f => R (.ok f) s' | .again c' => c'.quiet = true ∧ codeAny (model prog w) A c' R s') E s := by
  show wpAny _ _ (do let old ← Builtin.List.listItems (.ref S); Builtin.List.listUpdate (.ref S) (fun _ => #[]); letGo old.toList.reverse; Builtin.List.listExtendWith (.ref S) (.ref z) .none) _ _ s
  refine wpAny_bind ?_
  unfold Builtin.List.listItems
  refine wpAny_bind (wpAny_seqItems hS rfl (wpAny_pure ?_))
  show wpAny _ _ (updateSeq S (fun _ => #[]) >>= fun _ => letGo (#[] : Array Value).toList.reverse >>= fun _ => Builtin.List.listExtendWith (.ref S) (.ref z) .none) _ _ s
  refine wpAny_bind (wpAny_updateSeq hS rfl ?_)
  have hS₂ := Heap.get?_update_self (Obj.mapSeq (fun _ => (#[] : Array Value))) hS rfl
  refine wpAny_bind (wpAny_letGo ?_)
  refine extend_zip ((Heap.get?_update_other _ _ hSz).trans hz) hSz hS₂ fun h' c a1 a2 => hR h' c a1 ((Heap.SameBut.update ..).trans a2)
end

section
variable {g : Pg} {d : Nat} {K : Kn} {σ : Sig} {ω : Own} {c : Cx} {W : Wd} {A : Around} {s : Shared}

theorem cv_list_zip {prog : Program} {w : World} {W1 : Wd} {hA : Heap} {tkA : Nat} {l1 l2 : Addr} {xs ys : Array Value} {ps qs : List PV} (S1 : Sok W1 hA tkA) (R : Room 0 A) (ho1 : ¬ W1.O l1) (ho2 : ¬ W1.O l2) (hl1 : hA.IsList l1 xs) (hl2 : hA.IsList l2 ys) (r1 : RepL W1 hA ps xs.toList) (r2 : RepL W1 hA qs ys.toList)
    (hlen : ps.length = qs.length) (hn : ps.length ≤ 4096) {Q : Value → Shared → Prop} {E : Value → Shared → Prop}
    (hQ : ∀ a h', Rep W1 h' (.lst (zipPV ps qs)) (.ref a) → Ext hA h' → Q (.ref a) { s with heap := h', toks := tkA }) :
    wpAny (model prog w) A (call (.type "zip") [.ref l1, .ref l2]) (fun v s' => wpAny (model prog w) A (call (.type "list") [v]) Q E s') E { s with heap := hA, toks := tkA } := by
  have a1 : l1 < hA.objs.size := by obtain ⟨_, e, _⟩ := hl1; exact Heap.lt_size e
  have a2 : l2 < hA.objs.size := by obtain ⟨_, e, _⟩ := hl2; exact Heap.lt_size e
  refine call_zip_2 (s := { s with heap := hA, toks := tkA }) hl1 hl2 fun h' hz hTI hTO hi1 hi2 hsz hk => ?_
  dsimp only at hz hTI hTO hi1 hi2 hsz hk ⊢
  generalize hb : hA.objs.size = b at *
  refine callType_codes (s := { s with heap := h', toks := tkA }) (Q₁ := fun obj s₁ => obj = .ref h'.objs.size ∧ s₁ = { s with heap := h'.push { cls := .type "list", data := .seq #[] }, toks := tkA }) F.called_list (F.typeCall_list_1 _) F.entry_list_init
    (code_list_new _ ⟨rfl, rfl⟩) fun obj s₁ h₁ => ?_
  obtain ⟨rfl, rfl⟩ := h₁
  have hS : (h'.push { cls := .type "list", data := .seq #[] }).get? h'.objs.size = some { cls := .type "list", data := .seq #[] } := Heap.get?_push_size _ rfl
  have up : ∀ {c o}, h'.get? c = some o → (h'.push { cls := .type "list", data := .seq #[] }).get? c = some o := fun e => Heap.get?_push_of_some _ e
  refine ⟨⟨_, hS, rfl⟩, F.args_list_init_2 _ _, ?_⟩
  rw [hsz] at hS ⊢
  generalize hH : h'.push { cls := .type "list", data := .seq #[] } = H at hS up
  have D := ktu_apart b l1 l2 a1 a2
  have gone : ∀ c, b ≤ c → hA.get? c = Option.none := fun c hc => by
    cases e : hA.get? c with
    | none => rfl
    | some o => exact absurd (Heap.lt_size e) (Nat.not_lt.mpr (hb ▸ hc))
  refine init_zip (A := A.in1) (s := { s with heap := H, toks := tkA }) (TI := b + 2) (TO := b + 3) (up hz) (fun e => by have : (b + 5 : Nat) = b + 4 := e; lia) hS fun h2 c2 hS2 hs2 => ?_
  have k2 : ∀ {c o}, c ≠ b + 5 → h'.get? c = some o → h2.get? c = some o := fun hc e => (hs2.2 _ hc).trans (up e)
  have ne5 : ∀ c : Nat, c < b + 5 → c ≠ b + 5 := fun c hc => by lia
  have exA : Ext hA h2 := fun c o e => k2 (ne5 c (by have := Heap.lt_size e; rw [hb] at this; exact Nat.lt_of_lt_of_le this (Nat.le_add_right _ _))) (hk c o e)
  -- the world in which the list and the zip's own tuple are forbidden
  have gr : Grow W1 ⟨fun a => W1.O a ∨ a = b + 3 ∨ a = b + 5, W1.T⟩ hA := ⟨⟨fun a ha => .inl ha, fun a ha => ha.elim .inl fun e => .inr (gone a (by rcases e with rfl | rfl <;> exact Nat.le_add_right _ _))⟩, fun _ _ e => e⟩
  refine zip_loop (A := A.in1) (Wz := ⟨fun a => W1.O a ∨ a = b + 3 ∨ a = b + 5, W1.T⟩) (hA := hA) (z := b + 4) (TI := b + 2) (TO := b + 3) (i1 := b) (i2 := b + 1) (l1 := l1) (l2 := l2) (S := b + 5) (xs := xs) (ys := ys) (ps := ps) (qs := qs)
    R.hd D ?_ ⟨.inr (.inl rfl), .inr (.inr rfl)⟩ (fun a ha => ?_) (fun c hc => gone c ?_) hlen hn _ 0 _ #[] rfl (Nat.zero_le _) ?_ fun h3 acc' x3 hS3 r3 => ?_
  · have n1 := Nat.ne_of_gt (Nat.lt_add_right 5 a1)
    have n2 := Nat.ne_of_gt (Nat.lt_add_right 5 a2)
    refine ⟨?_, ?_, ?_, ?_, ?_, n1, n2⟩ <;> exact fun e => by (revert e; show ¬ ((_ : Nat) = _); lia)
  · rcases ha with ha | rfl | rfl
    · obtain ⟨o, ho⟩ := S1.valid a ha; exact ⟨o, .inl ho⟩
    · exact ⟨{ cls := .type "list", data := .seq #[] }, .inr (.inl rfl)⟩
    · exact ⟨{ cls := .type "list", data := .seq #[] }, .inr (.inr rfl)⟩
  · simp only [List.mem_cons, List.not_mem_nil, or_false] at hc
    rcases hc with rfl | rfl | rfl | rfl | rfl <;> first | exact Nat.le_add_right _ _ | exact Nat.le_refl _
  · exact ⟨.inl (k2 (ne5 _ (Nat.lt_succ_self _)) hz), k2 (ne5 _ (by lia)) hTI, ⟨_, _, k2 (ne5 _ (by lia)) hTO⟩, hi1.at fun o e => k2 (ne5 _ (by lia)) e, hi2.at fun o e => k2 (ne5 _ (by lia)) e,
      isList_ext hl1 exA, isList_ext hl2 exA, r1.mono exA.modS gr, r2.mono exA.modS gr, ⟨c2, hS2⟩, by simp [repL_nil], exA⟩
  · refine ⟨rfl, ?_⟩
    obtain ⟨c3, hS3⟩ := hS3
    have nb : ¬ W1.O (b + 5) := fun q => by obtain ⟨o, ho⟩ := S1.valid _ q; rw [gone _ (Nat.le_add_right _ _)] at ho; cases ho
    exact hQ (b + 5) h3 (rep_lst.mpr ⟨_, acc', rfl, nb, ⟨_, hS3, rfl, c3, rfl⟩, RepL.weaken (W := ⟨fun a => W1.O a ∨ a = b + 3 ∨ a = b + 5, W1.T⟩) (fun a ha => Or.inl ha) (fun _ => rfl) r3⟩) x3

theorem ev_list_zip {x y : Str} {pos pos' pos1 pos2 : Pos} {e e' : Expr} {ps qs : List PV} (he : Ev g d K σ ω e (.lst ps)) (he' : Ev g d K σ ω e' (.lst qs)) (hlen : ps.length = qs.length) (hn' : ps.length ≤ 4096)
    (hx : x = "zip" := by decide) (hK : K.lookup x = some .globalImplicit := by decide) (hn : x ∉ g.names := by decide) (hy : y = "list" := by decide) (hKy : K.lookup y = some .globalImplicit := by decide) (hny : y ∉ g.names := by decide)
    (hs : ∀ env, starEach [e, e'] env = (false, eval e env) :: starEach [e'] env := by intro _; rfl) (hs' : ∀ env, starEach [e'] env = (false, eval e' env) :: starEach [] env := by intro _; rfl) (hp : ∀ env, (backTo pos' (starEach [e'] env)).any (·.1) = false := by intro _; rfl) :
    Ev g d K σ ω (.Call (.Name y pos1) [.Call (.Name x pos) [e, e'] [] pos'] [] pos2) (.lst (zipPV ps qs)) := fun c W A s R S => by
  subst hy
  subst hx
  refine Call_ (load_boot S hKy hny PyProof.Rows.boot_list ?_)
  refine PyProof.Rows.callWith_type1 ?_ rfl rfl
  refine args_cons ?_ rfl
  refine Call_ (load_boot S hK hn PyProof.Rows.boot_zip ?_)
  refine PyProof.Rows.callWith_type1 ?_ (hs _) (hp _)
  refine (evl_cons he (evl_cons he' evl_nil hs') hs).run R S fun vs W1 h1 tk1 r u => ?_
  obtain ⟨v, v', rfl, rv, rv'⟩ := repL_two r
  obtain ⟨a1, xs, rfl, o1, l1, r1⟩ := rep_lst.mp rv
  obtain ⟨a2, ys, rfl, o2, l2, r2⟩ := rep_lst.mp rv'
  have S1 := S.keeps u
  refine wpAny_mono (cv_list_zip (s := s) (A := A) S1.sok R.zero o1 o2 l1 l2 r1 r2 hlen hn' (Q := ValPost W (.lst (zipPV ps qs)) s) (E := fun _ _ => False) fun a h' ra ex => ?_) (fun v s' hv => args_nil hv) fun _ _ f => f
  exact ⟨W1, h', tk1, rfl, ra, u.trans (up_ext (s := { s with heap := h1, toks := tk1 }) S1.sok ex (Nat.le_refl _))⟩
end
end Mine

namespace Mine
open PySem PySem.W PyProof.Rows

noncomputable def Sub {α : Type} (a b : List (Str × α)) : Prop := ∀ x p, a.lookup x = some p → b.lookup x = some p

theorem Sub.nil {α : Type} {b : List (Str × α)} : Sub [] b := fun _ _ h => nomatch h
theorem Sub.cons {α : Type} {a b : List (Str × α)} {x : Str} {p : α} (h : b.lookup x = some p) (s : Sub a b) : Sub ((x, p) :: a) b := fun y q e => by
  rw [List.lookup_cons] at e
  cases hb : y == x with
  | true => rw [hb] at e; cases e; rw [eq_of_beq hb]; exact h
  | false => rw [hb] at e; exact s y q e

noncomputable def Subs (σ' : Sig) (ω' : Own) (σ : Sig) (ω : Own) : Prop := Sub σ' σ ∧ Sub ω' ω

section
variable {g : Pg} {d : Nat} {K : Kn} {σ : Sig} {ω : Own} {c : Cx} {W : Wd} {A : Around} {s : Shared} {P : PostT}

theorem Ex.sub {ss : List Stmt} {σ' : Sig} {ω' : Own} (h : Ex g d K σ' ω' ss P) (hs : Subs σ' ω' σ ω) : Ex g d K σ ω ss P := h.less hs.1 hs.2
theorem EvB.sub {e : Expr} {b : Bool} {σ' : Sig} {ω' : Own} (h : EvB g d K σ' ω' e b) (hs : Subs σ' ω' σ ω) : EvB g d K σ ω e b := fun c W A s R S => h c W A s R (S.less hs.1 hs.2)

/-- a for loop whose names are told turn by turn -/
theorem ex1_forI {t iter : Expr} {body orelse : List Stmt} {pos : Pos} {en : Bool} {ps : List PV} (hi : EvIt g d K σ ω en iter ps) (het : en = true → isTup t = true) (σk : Nat → Sig) (ωk : Nat → Own) (I0 : Nat → Prop) (hI0 : I0 0)
    (h0 : Subs (σk 0) (ωk 0) σ ω)
    (step : ∀ i p, ps[i]? = some p → I0 i → ∃ B, bindT t p = some B ∧ tgtOk K (ωk i) t ∧ Ex g d K (B ++ σk i) (ωk i) body (turnP (fun σ ω => I0 (i + 1) ∧ Subs (σk (i + 1)) (ωk (i + 1)) σ ω) P))
    (done : I0 ps.length → Ex g d K (σk ps.length) (ωk ps.length) orelse P)
    (hs : ∀ env x, foldedSetIterable iter env x = pure x := by intro _ _; rfl) : Ex1 g d K σ ω (.For t iter body orelse pos) P := fun c W A s R S => by
  refine wpAny_For (wpAny_mono (hi c W A s R S) (fun x s₁ h₁ => wpAny_mono h₁ (fun it s₂ h₂ => ?_) fun _ _ f => f.elim) fun _ _ f => f.elim) (hs _)
  obtain ⟨I, fp, W1, h1, tk1, rfl, rfl, hit, hfp, hfr, up⟩ := h₂
  refine for_core (fun n s' => ∃ i W' h' tk', n + i = ps.length ∧ I0 i ∧ s' = { s with heap := h', toks := tk' } ∧ St g c K W' (σk i) (ωk i) h' tk' ∧ ItAt W' h' I en fp (ps.drop i) ∧ FpOk W' h' fp ∧
    Later W W' s.heap h' s.toks tk') ?_ ps.length ⟨0, W1, h1, tk1, by lia, hI0, rfl, (S.keeps up).less h0.1 h0.2, by simpa using hit, hfp, up.later⟩
  rintro n s' ⟨i, W', h', tk', hn, hI, rfl, S', hit', hfp', l⟩
  have hbase : ∀ b ∈ fp, c.base.get? b = Option.none := fun b hb => by
    cases e : c.base.get? b with
    | none => rfl
    | some o => have := S.ext b o e; rw [hfr b hb] at this; cases this
  have halive : ∀ q ∈ fp, ∃ o, h'.get? q = some o := fun q hq => let ⟨_, o, _, e, _⟩ := hfp' q hq; ⟨o, e⟩
  cases hd : ps.drop i with
  | nil =>
    rw [hd] at hit'
    have hi : i = ps.length := by
      have := congrArg List.length hd
      rw [List.length_drop] at this
      simp at this; lia
    subst hi
    refine it_done (s := { s with heap := h', toks := tk' }) R.hd hit' fun h'' kf => ?_
    have S'' := S'.turn kf hfp' hbase (Nat.le_refl _)
    exact Ex.run (done hI) R S'' (l.turn kf hfr hfp' halive (Nat.le_refl _))
  | cons p rest =>
    rw [hd] at hit'
    have hp : ps[i]? = some p := by
      have := congrArg (fun l => l[0]?) hd
      simpa using this
    have hrest : ps.drop (i + 1) = rest := by rw [← List.tail_drop, hd]; rfl
    obtain ⟨B, hB, hok, hbody⟩ := step i p hp hI
    refine it_step (s := { s with heap := h', toks := tk' }) (t := t) S'.sok hit' hfp' het fun v s₁ hgo => ?_
    refine hgo _ fun h2 tk2 rp it2 fp2 kf le2 => ?_
    have S2 := S'.turn kf hfp' hbase le2
    have l2 := l.turn kf hfr hfp' halive le2
    refine assign_tgt (s := { s with heap := h2, toks := tk2 }) S2 R hB hok rp fun h3 tk3 S3 m3 le3 => ?_
    have l23 : Later W' W' h2 h3 tk2 tk3 := Later.of_mod m3.any le3
    obtain ⟨it3, fp3⟩ := it2.mono fp2 m3.any (Grow.refl _ _)
    refine wpAny_mono (hbody c W' A { s with heap := h3, toks := tk3 } R S3) (fun f s4 h4 => ?_) fun _ _ f => f.elim
    obtain ⟨fl, σ4, ω4, W4, h4, tk4, rfl, hP, hf, S4, l4⟩ := h4
    have l04 := (l2.trans l23).trans l4
    obtain ⟨it4, fp4⟩ := it3.mono fp3 l4.mod l4.grow
    have hlt : i < ps.length := by
      rcases Nat.lt_or_ge i ps.length with h | h
      · exact h
      · rw [List.getElem?_eq_none h] at hp; cases hp
    cases fl with
    | next => cases hf; exact ⟨n - 1, by lia, i + 1, W4, h4, tk4, by lia, hP.1, rfl, S4.less hP.2.1 hP.2.2, by rw [hrest]; exact it4, fp4, l04⟩
    | cont => cases hf; exact ⟨n - 1, by (clear hP fp4 it4 l04 l4 S4 fp3 it3 l23 le3 m3 S3 l2 S2 le2 kf fp2 it2 rp hgo hbody hok hB hrest hp hd hit' halive hbase l hfp' S' hI up hfr hfp hit h₁ S R hs done step h0 hI0 het hi; omega), i + 1, W4, h4, tk4, by (clear hP fp4 it4 l04 l4 S4 fp3 it3 l23 le3 m3 S3 l2 S2 le2 kf fp2 it2 rp hgo hbody hok hB hrest hp hd hit' halive hbase l hfp' S' hI up hfr hfp hit h₁ S R hs done step h0 hI0 het hi; omega), hP.1, rfl, S4.less hP.2.1 hP.2.2, by rw [hrest]; exact it4, fp4, l04⟩
    | brk => cases hf; exact ⟨.next, σ4, ω4, W4, h4, tk4, rfl, hP, rfl, S4, l04⟩
    | ret q => obtain ⟨v, rfl, hv⟩ := hf; exact ⟨.ret q, σ4, ω4, W4, h4, tk4, rfl, hP, ⟨v, rfl, hv⟩, S4, l04⟩

theorem ex1_forC {t iter : Expr} {body orelse : List Stmt} {pos : Pos} {en : Bool} {ps : List PV} (hi : EvIt g d K σ ω en iter ps) (het : en = true → isTup t = true) (σk : Nat → Sig) (ωk : Nat → Own)
    (h0 : Subs (σk 0) (ωk 0) σ ω)
    (step : ∀ i p, ps[i]? = some p → ∃ B, bindT t p = some B ∧ tgtOk K (ωk i) t ∧ Ex g d K (B ++ σk i) (ωk i) body (turnP (Subs (σk (i + 1)) (ωk (i + 1))) P))
    (done : Ex g d K (σk ps.length) (ωk ps.length) orelse P)
    (hs : ∀ env x, foldedSetIterable iter env x = pure x := by intro _ _; rfl) : Ex1 g d K σ ω (.For t iter body orelse pos) P :=
  ex1_forI hi het σk ωk (fun _ => True) trivial h0 (fun i p hp _ => let ⟨B, h1, h2, h3⟩ := step i p hp; ⟨B, h1, h2, h3.mono fun fl σ ω q => by
    cases fl with
    | next => exact ⟨trivial, q⟩
    | cont => exact ⟨trivial, q⟩
    | brk => exact q
    | ret v => exact q⟩) (fun _ => done) hs

/-- a while loop whose names are told by a state of any kind -/
theorem ex1_whileC {α : Type} {t : Expr} {body orelse : List Stmt} {pos : Pos} (σk : α → Sig) (ωk : α → Own) (m : α → Nat) (I : α → Prop) (a0 : α) (hI0 : I a0) (h0 : Subs (σk a0) (ωk a0) σ ω)
    (step : ∀ a, I a → ∃ b, EvB g d K (σk a) (ωk a) t b ∧ (b = true → Ex g d K (σk a) (ωk a) body (turnP (fun σ ω => ∃ a', m a' < m a ∧ I a' ∧ Subs (σk a') (ωk a') σ ω) P)) ∧ (b = false → Ex g d K (σk a) (ωk a) orelse P)) :
    Ex1 g d K σ ω (.While t body orelse pos) P := by
  refine ex1_while (fun n σ' ω' => ∃ a, m a = n ∧ I a ∧ Subs (σk a) (ωk a) σ' ω') (m a0) ⟨a0, rfl, hI0, h0⟩ ?_
  rintro n σ' ω' ⟨a, rfl, hI, hs⟩
  obtain ⟨b, h1, h2, h3⟩ := step a hI
  refine ⟨b, h1.sub hs, fun e => ((h2 e).mono fun fl σ1 ω1 hP => ?_).sub hs, fun e => (h3 e).sub hs⟩
  cases fl with
  | next => obtain ⟨a', q1, q2, q3⟩ := hP; exact ⟨m a', q1, a', rfl, q2, q3⟩
  | cont => obtain ⟨a', q1, q2, q3⟩ := hP; exact ⟨m a', q1, a', rfl, q2, q3⟩
  | brk => exact hP
  | ret q => exact hP
end
end Mine

namespace Mine
open PySem PySem.W PyProof.Rows

/-! what the slices are -/

theorem pick_range (l : List PV) (a : Nat) : ∀ c, (List.range c).filterMap (fun k => l[a + k]?) = (l.drop a).take c
  | 0 => by simp
  | c + 1 => by
    rw [List.range_succ, List.filterMap_append, pick_range l a c, List.take_add_one, List.getElem?_drop]
    cases h : l[a + c]? <;> simp [h]

theorem pslice_of {l : List PV} {lo hi : Option Int} {a b : Nat} (h : sliceBounds lo hi Option.none l.length = ((a : Int), (b : Int), 1)) : pslice l lo hi Option.none = (l.drop a).take (b - a) := by
  unfold pslice
  rw [h]
  simp only
  rw [sliceRange_one, List.filterMap_map]
  exact pick_range l a (b - a)

theorem slice_to {l : List PV} {k : Nat} : pslice l Option.none (some (k : Int)) Option.none = l.take k := by
  rw [pslice_of (a := 0) (b := min k l.length)]
  · simp only [List.drop_zero, Nat.sub_zero]
    rcases Nat.le_total k l.length with h | h
    · rw [Nat.min_eq_left h]
    · rw [Nat.min_eq_right h, List.take_of_length_le h, List.take_of_length_le (Nat.le_refl _)]
  · simp only [sliceBounds, Option.getD_none, show (1 : Int) > 0 by decide, if_true]
    refine Prod.ext rfl (Prod.ext ?_ rfl)
    simp only
    rw [if_neg (by lia)]; lia

theorem slice_from {l : List PV} {k : Nat} (hk : k ≤ l.length) : pslice l (some (k : Int)) Option.none Option.none = l.drop k := by
  rw [pslice_of (a := k) (b := l.length)]
  · exact List.take_of_length_le (by simp)
  · simp only [sliceBounds, Option.getD_none, show (1 : Int) > 0 by decide, if_true]
    refine Prod.ext ?_ rfl
    simp only
    rw [if_neg (by lia)]; lia

theorem slice_butlast {l : List PV} (hl : l ≠ []) : pslice l Option.none (some (-1)) Option.none = l.dropLast := by
  have hp : 0 < l.length := List.length_pos_iff.mpr hl
  rw [pslice_of (a := 0) (b := l.length - 1)]
  · simp [List.dropLast_eq_take]
  · simp only [sliceBounds, Option.getD_none, show (1 : Int) > 0 by decide, if_true]
    refine Prod.ext rfl (Prod.ext ?_ rfl)
    simp only
    rw [if_pos (by decide)]; lia

theorem slice_back {l : List PV} : pslice l Option.none Option.none (some (-1)) = l.reverse := by
  unfold pslice
  have e : sliceBounds Option.none Option.none (some (-1)) l.length = ((l.length : Int) - 1, -1, -1) := by
    simp [sliceBounds]
  rw [e]
  simp only
  have e2 : sliceRange ((l.length : Int) - 1) (-1) (-1) = (List.range l.length).map fun k => l.length - 1 - k := by
    unfold sliceRange
    have e3 : (if (-1 : Int) > 0 then (if ((l.length : Int) - 1) < -1 then ((-1 : Int) - ((l.length : Int) - 1) + -1 - 1) / -1 else 0) else (if ((l.length : Int) - 1) > -1 then (((l.length : Int) - 1) - -1 - -1 - 1) / (- -1) else 0)).toNat = l.length := by
      simp only [show ¬ ((-1 : Int) > 0) by decide, if_false]
      split
      · rw [show (- -1 : Int) = 1 by decide, Int.ediv_one]; lia
      · lia
    simp only [e3]
    refine List.map_congr_left fun k hk => ?_
    have := List.mem_range.mp hk
    lia
  rw [e2, List.filterMap_map]
  refine List.ext_getElem? fun i => ?_
  have key : (List.range l.length).filterMap ((l[·]?) ∘ fun k => l.length - 1 - k) = (List.range l.length).map fun k => (l[l.length - 1 - k]?).getD .none := by
    have aux : ∀ (js : List Nat), (∀ k ∈ js, k < l.length) → js.filterMap ((l[·]?) ∘ fun k => l.length - 1 - k) = js.map fun k => (l[l.length - 1 - k]?).getD .none := by
      intro js
      induction js with
      | nil => intro _; rfl
      | cons k r ih =>
        intro hj
        have hk := hj k List.mem_cons_self
        have e : l[l.length - 1 - k]? = some (l[l.length - 1 - k]'(by omega)) := List.getElem?_eq_getElem (by omega)
        rw [List.filterMap_cons, List.map_cons, ih fun k h => hj k (List.mem_cons_of_mem _ h)]
        simp only [Function.comp, e, Option.getD_some]
    exact aux _ fun k hk => List.mem_range.mp hk
  rw [key, List.getElem?_map]
  rcases Nat.lt_or_ge i l.length with h | h
  · rw [List.getElem?_range h, List.getElem?_reverse h]
    simp only [Option.map_some]
    rw [List.getElem?_eq_getElem (by omega)]; rfl
  · rw [List.getElem?_eq_none (by simpa using h), List.getElem?_eq_none (by simpa using h)]; rfl
end Mine

namespace Mine
open PySem PySem.W PyProof.Rows

noncomputable def PV.asInt : PV → Int
  | .int i => i
  | _ => 0
noncomputable def PV.asTup : PV → List PV
  | .tup l => l
  | _ => []
noncomputable def PV.asFlt : PV → UInt64
  | .flt x => x
  | _ => 0

theorem res_enc {α : Type} (enc : α → PV) (dec : PV → α) (hd : ∀ a, dec (enc a) = a) (l : List α) (t : α → Bool) (F : α → PV) :
    ((l.map enc).filter (fun p => t (dec p))).map (fun p => F (dec p)) = (l.filter t).map F := by
  induction l with
  | nil => rfl
  | cons a r ih =>
    rw [List.map_cons, List.filter_cons, List.filter_cons]
    rw [hd]
    cases t a <;> simp [hd] <;> simpa using ih

section
variable {g : Pg} {d : Nat} {K : Kn} {σ : Sig} {ω : Own} {P : PostT}

/-- a comprehension over what stands for a list of any kind -/
theorem ev_compE {α : Type} (enc : α → PV) (dec : PV → α) (hd : ∀ a, dec (enc a) = a) {t elt iter : Expr} {ifs : List Expr} {scope : Scope} {pos : Pos} {l : List α} {en : Bool} (σc : Sig) (ωc : Own) (test : α → Bool) (F : α → PV)
    (hi : EvIt g d K σ ω en iter (l.map enc)) (het : en = true → isTup t = true) (ok : compOk K scope = true) (hσ : CSub scope.names σc σ) (hω : CSub scope.names ωc ω)
    (body : ∀ a ∈ l, ∃ B, bindT t (enc a) = some B ∧ tgtOk scope.names ωc t ∧ EvIfs g d scope.names (B ++ σc) ωc ifs (test a) ∧ (test a = true → Ev g d scope.names (B ++ σc) ωc elt (F a))) (hn : l.length ≤ 4096)
    (hs : ∀ env x, foldedSetIterable iter env x = pure x := by intro _ _; rfl) :
    Ev g d K σ ω (.ListComp elt [⟨t, iter, ifs, 0⟩] scope pos) (.lst ((l.filter test).map F)) := by
  rw [← res_enc enc dec hd]
  refine ev_comp σc ωc _ _ hi het ok hσ hω (fun p hp => ?_) (by simpa using hn) hs
  obtain ⟨a, ha, rfl⟩ := List.mem_map.mp hp
  rw [hd]
  exact body a ha

theorem ex1_assign_compE {α : Type} (enc : α → PV) (dec : PV → α) (hd : ∀ a, dec (enc a) = a) {y : Str} {py pos spos : Pos} {t elt iter : Expr} {ifs : List Expr} {scope : Scope} {l : List α} {en : Bool} (σc : Sig) (ωc : Own) (test : α → Bool) (F : α → PV)
    (hi : EvIt g d K σ ω en iter (l.map enc)) (het : en = true → isTup t = true) (ok : compOk K scope = true) (hσ : CSub scope.names σc σ) (hω : CSub scope.names ωc ω)
    (body : ∀ a ∈ l, ∃ B, bindT t (enc a) = some B ∧ tgtOk scope.names ωc t ∧ EvIfs g d scope.names (B ++ σc) ωc ifs (test a) ∧ (test a = true → Ev g d scope.names (B ++ σc) ωc elt (F a))) (hn : l.length ≤ 4096)
    (hK : K.lookup y = some .local) (hωy : ω.lookup y = Option.none) (hline : (py.line == pos.line && !(scope.names.any fun x => x.1 == y && (x.2 == .local || x.2 == .cell))) = true)
    (hP : P .next ((y, .lst ((l.filter test).map F)) :: σ) ω) (hs : ∀ env x, foldedSetIterable iter env x = pure x := by intro _ _; rfl) :
    Ex1 g d K σ ω (.Assign [.Name y py] (.ListComp elt [⟨t, iter, ifs, 0⟩] scope pos) spos) P := by
  rw [← res_enc enc dec hd] at hP
  refine ex1_assign_comp σc ωc _ _ hi het ok hσ hω (fun p hp => ?_) (by simpa using hn) hK hωy hline hP hs
  obtain ⟨a, ha, rfl⟩ := List.mem_map.mp hp
  rw [hd]
  exact body a ha

/-- over whole numbers, no test -/
theorem ev_compI {x : Str} {px : Pos} {elt iter : Expr} {scope : Scope} {pos : Pos} {l : List Int} (σc : Sig) (ωc : Own) (F : Int → PV)
    (hi : EvIt g d K σ ω false iter (l.map PV.int)) (ok : compOk K scope = true) (hσ : CSub scope.names σc σ) (hω : CSub scope.names ωc ω)
    (ht : tgtOk scope.names ωc (.Name x px)) (body : ∀ a ∈ l, Ev g d scope.names ((x, .int a) :: σc) ωc elt (F a)) (hn : l.length ≤ 4096)
    (hs : ∀ env x, foldedSetIterable iter env x = pure x := by intro _ _; rfl) :
    Ev g d K σ ω (.ListComp elt [⟨.Name x px, iter, [], 0⟩] scope pos) (.lst (l.map F)) := by
  have h := ev_compE (g := g) (d := d) (K := K) (σ := σ) (ω := ω) PV.int PV.asInt (fun _ => rfl) (t := .Name x px) (elt := elt) (ifs := []) (scope := scope) (pos := pos) σc ωc (fun _ => true) F hi (by intro h; cases h) ok hσ hω
    (fun a ha => ⟨_, rfl, ht, evifs_nil, fun _ => body a ha⟩) hn hs
  rwa [filter_tt] at h

noncomputable def rangeI (a b : Int) : List Int := (List.range (b - a).toNat).map fun (j : Nat) => a + j
theorem rangePV_eq (a b : Int) : rangePV a b = (rangeI a b).map PV.int := by unfold rangePV rangeI; rw [List.map_map]; rfl
theorem rangeI_len (a b : Int) : (rangeI a b).length = (b - a).toNat := by unfold rangeI; simp
theorem tgt1 {names : Kn} {ωc : Own} {x : Str} {px : Pos} (h : names.lookup x = some .local ∨ names.lookup x = some .cell) (h2 : ωc.lookup x = Option.none) : tgtOk names ωc (.Name x px) := fun y hy => by
  rw [List.mem_singleton.mp hy]; exact ⟨h, h2⟩

theorem pidx_nat {l : List PV} {k : Int} {j : Nat} {p : PV} (hk : k = j) (h : l[j]? = some p) : pidx l k = some p := by
  subst hk
  unfold pidx
  rw [if_pos (by lia), Int.toNat_natCast]; exact h
theorem pidx_last {l : List PV} {p : PV} (h : l.getLast? = some p) : pidx l (-1) = some p := by
  unfold pidx
  have hl : 0 < l.length := by cases l with
    | nil => simp at h
    | cons a r => simp
  rw [if_neg (by decide), if_pos (by lia), show ((-1 : Int) + l.length).toNat = l.length - 1 by lia]
  rw [List.getLast?_eq_getElem?] at h; exact h
end
end Mine

namespace Mine
open PySem PySem.W PyProof.Rows

section
variable {s : Shared} {A : Around}

/-- a frame with one plain name: the name was stored, so a token was drawn -/
theorem newEnv1 {M : Model} {E : Value → Shared → Prop} {scope : Scope} {globals : Addr} {x : Str} {v : Value} {qual : Str} {func : Option Addr} {code : Value} {builtins : Addr} {Q : Env → Shared → Prop}
    (hk : scope.kind = .function) (hx : scope.names.lookup x = some .local)
    (hQ : ∀ env, env = newEnv scope s.heap.objs.size globals (cellsFrom (s.heap.objs.size + 1) scope.names []) qual func code Option.none builtins →
      ∀ s', InCallC s env.locals (bindL env.kindOf [(x, v)] fun _ => Option.none) env.cells (bindC env.kindOf [(x, v)] fun _ => Option.none) s' → 0 < s'.toks → Q env s') :
    wpAny M A (newFunctionEnv scope globals [] [(x, v)] qual func code Option.none builtins) Q E s := by
  simp only [newFunctionEnv, Option.isSome_none, Bool.false_eq_true, if_false]
  refine wpAny_bind (wpAny_alloc ?_)
  refine wpAny_bind (wpAny_layCells _ (fun name kind cells => by cases hkc : kind == NameKind.cell <;> simp [hkc]) _ _ _ _ ?_)
  have ok := cellsFrom_ok scope.names (s.heap.push { cls := .type "frame", data := .dict #[] }) (s.heap.objs.size + 1) [] ⟨fun _ _ hm => (nomatch hm), List.Pairwise.nil⟩ (by rw [Heap.size_push]; exact Nat.le_refl _)
  rw [Heap.size_push] at ok
  rw [show ({ s with heap := s.heap.push { cls := .type "frame", data := .dict #[] } } : Shared).heap.objs.size = s.heap.objs.size + 1 from Heap.size_push ..]
  have I0 : InCallC s (newEnv scope s.heap.objs.size globals (cellsFrom (s.heap.objs.size + 1) scope.names []) qual func code Option.none builtins).locals (fun _ => Option.none) (newEnv scope s.heap.objs.size globals (cellsFrom (s.heap.objs.size + 1) scope.names []) qual func code Option.none builtins).cells (fun _ => Option.none)
      { s with heap := pushCells (s.heap.push { cls := .type "frame", data := .dict #[] }) scope.names } :=
    ⟨⟨⟨_, _, rfl⟩, (Heap.Ns.new s.heap (.type "frame")).keeps (pushCells_keeps _ _), fun b o e => pushCells_keeps _ _ b o (Heap.get?_push_of_some _ e), Nat.le_refl _⟩,
      fun n c hc => (ok.empty n c (mem_of_lookup hc)).1, ok.apart, fun n c hm => (ok.empty n c hm).2⟩
  have hl : (newEnv scope s.heap.objs.size globals (cellsFrom (s.heap.objs.size + 1) scope.names []) qual func code Option.none builtins).kindOf x = some .local := hx
  refine wpAny_bind ?_
  rw [List.forIn_cons]
  refine wpAny_bind (wpAny_bind ?_)
  refine wpAny_storeName_local hl I0.toInCall.ns (fun h' hn' hs' => ?_) (by show (scope.kind == .class || (scope.kind == .module && _)) = false; rw [hk]; rfl)
  refine wpAny_pure ?_
  dsimp only
  rw [List.forIn_nil]
  refine wpAny_pure (wpAny_pure (hQ _ rfl _ ⟨⟨⟨h', _, rfl⟩, ?_, fun b o e => ?_, Nat.le_refl _⟩, fun k c hc => ?_, I0.apart, I0.above⟩ (Nat.succ_pos _)))
  · unfold bindL; rw [if_pos hl]; exact hn'
  · exact hs'.extBut b o (Nat.ne_of_lt (Heap.lt_size e)) (I0.toInCall.keep b o e)
  · unfold bindC; rw [if_pos hl]
    exact (I0.cell k c hc).sameBut hs' (Nat.ne_of_gt (I0.above k c (mem_of_lookup hc)))

/-- the law is called: nothing of its own stands yet -/
theorem law_call {g : Pg} {d : Nat} {it : DefItem} {x : Str} {p0 p : PV} (F : Fn g d it [p0] p) (pl : Plain it 1) (hx : it.params.args.map (·.arg) = [x]) (hl : it.scope.names.lookup x = some .local) (R : Room (d + 1) A) (ok : g.Ok s.heap) {a : Addr} {o : Obj} {pm cd doc : Value}
    (ho : s.heap.get? a = some o) (hd : o.data = .func (Calls.docDef it.name it.params it.body it.scope pm cd doc)) (hcd : s.heap.CodeRec cd it.name) {v : Value} (rv : Rep ⟨NoO, fun _ => Option.none⟩ s.heap p0 v) :
    wpAny (model g.prog g.w) A (call (.ref a) [v]) (fun u s' => ∃ W' h' tk', s' = { s with heap := h', toks := tk' } ∧ Rep W' h' p u ∧ Ext s.heap h') (fun _ _ => False) s := by
  have hroom : A.depth < recursionLimit := by have := R.dep; lia
  have nolimit : s.heap.NoLimit := let ⟨⟨_, _, _, G⟩, _⟩ := ok; G.nolimit
  refine wpAny_call ?_
  refine codeAny_call_function (fd := Calls.docDef it.name it.params it.body it.scope pm cd doc) hroom ho hd pl.co pl.gen rfl hcd ?_
  rw [pl.bind pm cd doc [v] rfl, hx]
  refine wpAny_pure (newEnv1 pl.kind hl fun env he s' x' hpos => ?_)
  obtain ⟨h₁, tk₁, rfl⟩ := x'.toInCall.same
  have keep := x'.toInCall.keep
  refine ⟨nolimit.keeps keep, codeAny_func ?_⟩
  have hsc : env.scope = it.scope := by rw [he]; rfl
  have hloc : env.locals = s.heap.objs.size := by rw [he]; rfl
  have hcells : env.cells = cellsFrom (s.heap.objs.size + 1) it.scope.names [] := by rw [he]; rfl
  have hlx : env.kindOf x = some .local := by unfold Env.kindOf; rw [hsc]; exact hl
  have St0 : St g ⟨env, s.heap, NoO⟩ it.scope.names ⟨NoO, fun _ => Option.none⟩ [(x, p0)] [] h₁ tk₁ := by
    refine ⟨keep, ok, by rw [hsc]; exact pl.kind, by rw [he]; rfl, by rw [he]; rfl, ⟨_, x'.toInCall.ns⟩, ?_, ?_, ?_, ?_, x'.apart, ?_, ⟨fun _ => 0, fun _ _ e => by simp at e, fun _ _ _ e => by simp at e⟩, fun a ha => ha, fun _ ha => ha.elim, fun _ _ e => by simp at e, hpos⟩
    · rw [hloc]; exact get_fresh _
    · intro y kd hy; left; unfold Env.kindOf; rw [hsc]; exact hy
    · intro y hy
      rcases hy with hy | hy
      · have := cellsFrom_has (n := s.heap.objs.size + 1) (acc := []) (.inl (lookup_mem_kinds hy))
        obtain ⟨k, hk⟩ := Option.isSome_iff_exists.mp this
        exact ⟨k, _, by rw [hcells]; exact hk, x'.cell y k (by rw [hcells]; exact hk)⟩
      · exact absurd rfl (pl.free _ (lookup_mem_kinds hy))
    · intro y k hy hk
      have := x'.above y k (mem_of_lookup hk)
      rw [hloc] at this
      cases e : s.heap.get? k with
      | none => rfl
      | some o' => exact absurd (Heap.lt_size e) (Nat.not_lt.mpr (Nat.le_of_lt this))
    · intro y q hq
      rw [List.lookup_cons] at hq
      cases hb : y == x with
      | false => rw [hb] at hq; simp at hq
      | true =>
        rw [hb] at hq; cases hq
        have e := eq_of_beq hb
        subst e
        exact ⟨v, .inl ⟨hl, _, x'.toInCall.ns, bindL_get (by simp) (by simp) hlx⟩, rv.ext keep⟩
  have F' : Ex g d it.scope.names [(x, p0)] [] it.body (fun fl _ _ => fl = .ret p ∨ (fl = .next ∧ p = .none)) := by
    unfold Fn at F
    rw [hx] at F
    exact F
  refine wpAny_mono (F' ⟨env, s.heap, NoO⟩ ⟨NoO, fun _ => Option.none⟩ (A.deeper env) { s with heap := h₁, toks := tk₁ } (R.deeper env) St0) (fun f s' x => ?_) fun _ _ f => f.elim
  obtain ⟨fl, σ', ω', W', h', tk', rfl, hp, hr, S', l⟩ := x
  rcases hp with rfl | ⟨rfl, rfl⟩
  · obtain ⟨u, rfl, hv⟩ := hr
    exact ⟨⟨NoO, W'.T⟩, h', tk', rfl, hv, S'.ext⟩
  · cases hr
    exact ⟨⟨NoO, W'.T⟩, h', tk', rfl, rep_none.mpr rfl, S'.ext⟩
end
end Mine

open PySem PySem.W PyProof.Rows
open_top hd1 for PySem.Challenge.rw_sc0027_01
namespace Mine
noncomputable def itemAt (p : Program) (n : Nat) : DefItem := match p.main.body[n]? with
  | some (.FunctionDef name args body _ _ _ scope _ _ pos) => ⟨name, args, body, scope, pos⟩
  | _ => ⟨"", ⟨[], [], Option.none, [], [], Option.none, []⟩, [], default, ⟨0, 0, 0, 0⟩⟩
noncomputable def g1 (w : World) : Pg := ⟨PySem.Challenge.rw_sc0027_01.row.prog, w, List.map itemOf (recsOf hd1.view_39), scalarsOf [] ++ constsW hd1.view_39, namesW hd1.view_39 []⟩
noncomputable def iKmp := itemAt hd1.view_39 0
noncomputable def iHls := itemAt hd1.view_39 1
noncomputable def iHsv := itemAt hd1.view_39 2
noncomputable def iRgb := itemAt hd1.view_39 3
noncomputable def iRow := itemAt hd1.view_39 4
noncomputable def iFits := itemAt hd1.view_39 5
noncomputable def iGoes := itemAt hd1.view_39 6
noncomputable def iPass := itemAt hd1.view_39 7
noncomputable def iOnce := itemAt hd1.view_39 8
noncomputable def iLaw := itemAt hd1.view_39 9
set_option maxHeartbeats 4000000
theorem defs1 (w : World) : (g1 w).defs = [iKmp, iHls, iHsv, iRgb, iRow, iFits, iGoes, iPass, iOnce, iLaw] := by
  unfold g1
  kernel_rfl
noncomputable def usedNames : List Str := ["len", "range", "sum", "max", "min", "int", "list", "zip", "enumerate", "sorted"]
theorem names1 (w : World) : ∀ x ∈ usedNames, x ∉ (g1 w).names := by
  show ∀ x ∈ usedNames, x ∉ namesW hd1.view_39 []
  decide +kernel
end Mine

namespace Mine
open PySem PySem.W PyProof.Rows
theorem plKmp : Plain iKmp 1 where
  dflt := rfl
  bind := fun pm cd doc vs h => by
    match vs, h with
    | [a], _ => rfl
  kind := rfl
  gen := rfl
  co := rfl
  pars := by decide
  nodup := by decide
  free := by decide
  len := rfl
theorem plHls : Plain iHls 3 where
  dflt := rfl
  bind := fun pm cd doc vs h => by
    match vs, h with
    | [a, b, c], _ => rfl
  kind := rfl
  gen := rfl
  co := rfl
  pars := by decide
  nodup := by decide
  free := by decide
  len := rfl
theorem plHsv : Plain iHsv 3 where
  dflt := rfl
  bind := fun pm cd doc vs h => by
    match vs, h with
    | [a, b, c], _ => rfl
  kind := rfl
  gen := rfl
  co := rfl
  pars := by decide
  nodup := by decide
  free := by decide
  len := rfl
theorem plRgb : Plain iRgb 3 where
  dflt := rfl
  bind := fun pm cd doc vs h => by
    match vs, h with
    | [a, b, c], _ => rfl
  kind := rfl
  gen := rfl
  co := rfl
  pars := by decide
  nodup := by decide
  free := by decide
  len := rfl
theorem plRow : Plain iRow 1 where
  dflt := rfl
  bind := fun pm cd doc vs h => by
    match vs, h with
    | [a], _ => rfl
  kind := rfl
  gen := rfl
  co := rfl
  pars := by decide
  nodup := by decide
  free := by decide
  len := rfl
theorem plFits : Plain iFits 3 where
  dflt := rfl
  bind := fun pm cd doc vs h => by
    match vs, h with
    | [a, b, c], _ => rfl
  kind := rfl
  gen := rfl
  co := rfl
  pars := by decide
  nodup := by decide
  free := by decide
  len := rfl
theorem plGoes : Plain iGoes 3 where
  dflt := rfl
  bind := fun pm cd doc vs h => by
    match vs, h with
    | [a, b, c], _ => rfl
  kind := rfl
  gen := rfl
  co := rfl
  pars := by decide
  nodup := by decide
  free := by decide
  len := rfl
theorem plPass : Plain iPass 1 where
  dflt := rfl
  bind := fun pm cd doc vs h => by
    match vs, h with
    | [a], _ => rfl
  kind := rfl
  gen := rfl
  co := rfl
  pars := by decide
  nodup := by decide
  free := by decide
  len := rfl
theorem plOnce : Plain iOnce 4 where
  dflt := rfl
  bind := fun pm cd doc vs h => by
    match vs, h with
    | [a, b, c, d], _ => rfl
  kind := rfl
  gen := rfl
  co := rfl
  pars := by decide
  nodup := by decide
  free := by decide
  len := rfl
theorem plLaw : Plain iLaw 1 where
  dflt := rfl
  bind := fun pm cd doc vs h => by
    match vs, h with
    | [a], _ => rfl
  kind := rfl
  gen := rfl
  co := rfl
  pars := by decide
  nodup := by decide
  free := by decide
  len := rfl
end Mine

namespace Mine
open PySem PySem.W PyProof.Rows

inductive Chain (eq : Nat → Nat → Bool) (B : Nat → Nat) (i : Nat) : Nat → Nat → Prop
  | hit {k : Nat} (h : eq i k = true) : Chain eq B i k (k + 1)
  | zero (h : eq i 0 = false) : Chain eq B i 0 0
  | down {k r : Nat} (h : eq i (k + 1) = false) (c : Chain eq B i (B k) r) : Chain eq B i (k + 1) r

theorem Chain.inv {eq : Nat → Nat → Bool} {B : Nat → Nat} {i k r : Nat} (c : Chain eq B i k r) : (eq i k = true ∧ r = k + 1) ∨ (eq i k = false ∧ k = 0 ∧ r = 0) ∨ ∃ j, k = j + 1 ∧ eq i k = false ∧ Chain eq B i (B j) r := by
  cases c with
  | hit h => exact .inl ⟨h, rfl⟩
  | zero h => exact .inr (.inl ⟨h, rfl, rfl⟩)
  | down h c => exact .inr (.inr ⟨_, rfl, h, c⟩)

structure Kmp (eq : Nat → Nat → Bool) (n : Nat) (B : Nat → Nat) : Prop where
  zero : B 0 = 0
  le : ∀ j, j < n → B j ≤ j
  step : ∀ i, 1 ≤ i → i < n → Chain eq B i (B (i - 1)) (B i)

theorem flat_rep (n : Nat) (p : PV) : (List.replicate n [p]).flatten = List.replicate n p := by
  induction n with
  | zero => rfl
  | succ n ih => rw [List.replicate_succ, List.flatten_cons, ih]; rfl

theorem rangePV_get {a b : Int} {k : Nat} {p : PV} (h : (rangePV a b)[k]? = some p) : (k : Int) < b - a ∧ p = .int (a + k) := by
  unfold rangePV at h
  rw [List.getElem?_map] at h
  rcases Nat.lt_or_ge k (b - a).toNat with h1 | h1
  · rw [List.getElem?_range h1] at h
    simp at h
    exact ⟨by omega, h.symm⟩
  · rw [List.getElem?_eq_none (by simpa using h1)] at h; simp at h

/-- the table, filled below i -/
noncomputable def tabPV (B : Nat → Nat) (n i : Nat) : List PV := (List.range n).map fun j => if j < i then PV.int (B j) else PV.int 0

theorem tab_len {B : Nat → Nat} {n i : Nat} : (tabPV B n i).length = n := by simp [tabPV]
theorem tab_get {B : Nat → Nat} {n i j : Nat} {k : Int} (hk : k = j) (h1 : j < i) (h2 : j < n) : pidx (tabPV B n i) k = some (.int (B j)) := by
  subst hk
  unfold pidx
  rw [if_pos (by lia), Int.toNat_natCast]
  unfold tabPV
  rw [List.getElem?_map, List.getElem?_range h2]
  simp [h1]
theorem tab_set {B : Nat → Nat} {n i : Nat} : (tabPV B n i).set i (.int (B i)) = tabPV B n (i + 1) := by
  unfold tabPV
  refine List.ext_getElem (by simp) fun j h1 h2 => ?_
  simp only [List.getElem_set, List.getElem_map, List.getElem_range]
  by_cases hij : i = j
  · subst hij; simp
  · rw [if_neg hij]
    by_cases h : j < i
    · rw [if_pos h, if_pos (by lia)]
    · rw [if_neg h, if_neg (by lia)]

theorem kmp_body {g : Pg} {d : Nat} (hg : ∀ x ∈ usedNames, x ∉ g.names) {ps : List PV} {eq : Nat → Nat → Bool} {B : Nat → Nat} (hn : ps.length ≤ 4000) (heq : ∀ i j (p q : PV), ps[i]? = some p → ps[j]? = some q → peq 8 p q = some (eq i j)) (hB : Kmp eq ps.length B) :
    Fn g d iKmp [.lst ps] (.lst ((List.range ps.length).map fun j => PV.int (B j))) := by
  unfold Fn
  have hlen : ∀ {σ ω pos pos' pos''}, σ.lookup (Str.ofString "prefix") = some (.lst ps) → Ev g d iKmp.scope.names σ ω (.Call (.Name "len" pos) [.Name "prefix" pos'] [] pos'') (.int ps.length) := fun h =>
    ev_callB rfl (hg _ (by decide)) boot_len (evl_cons (ev_name h rfl rfl) evl_nil) (cv_len (by lia))
  refine ex_cons (ex1_own (evn_rep (ev_list (evl_cons ev_int evl_nil) (by decide)) (hlen rfl) (by lia) (by simp; omega) (by lia)) (.inl rfl) rfl rfl ?_)
  have e0 : (List.replicate ((ps.length : Int)).toNat [PV.int 0]).flatten = tabPV B ps.length 1 := by
    rw [flat_rep, Int.toNat_natCast]
    unfold tabPV
    refine List.ext_getElem (by simp) fun j h1 h2 => ?_
    simp only [List.getElem_replicate, List.getElem_map, List.getElem_range]
    split
    · have : j = 0 := by lia
      subst this; rw [hB.zero]; rfl
    · rfl
  rw [e0]
  show Ex _ _ _ _ _ _ _
  refine ex_cons (ex1_forC (evit_range2 ev_int (hlen rfl) (by decide) (by decide) (by (clear e0 hlen hB heq hg hn; omega)) (by omega) rfl rfl (hg _ (by decide))) (by intro h; cases h)
    (fun k => [(Str.ofString "prefix", .lst ps)]) (fun k => [(Str.ofString "table", tabPV B ps.length (k + 1))]) ⟨.cons rfl .nil, .cons rfl .nil⟩ ?_ ?_)
  · -- one place
    intro k p hp
    obtain ⟨hk, rfl⟩ := rangePV_get hp
    have hk1 : k + 1 < ps.length := by lia
    have hset : (tabPV B ps.length (k + 1)).set ((1 + k : Int)).toNat (.int (B (k + 1))) = tabPV B ps.length (k + 2) := by
      rw [show ((1 + k : Int)).toNat = k + 1 by lia]; exact tab_set
    refine ⟨[(Str.ofString "i", .int (1 + k))], rfl, fun x hx => ?_, ?_⟩
    · rw [List.mem_singleton.mp hx]; exact ⟨.inl rfl, rfl⟩
    refine ex_cons (ex1_assign (ev_own_idx rfl (ev_bin (ev_name rfl rfl rfl) ev_int op_sub_int) (tab_get (j := k) (by lia) (by lia) (by lia)) (by rw [tab_len]; lia)) (.inl rfl) rfl ?_)
    refine ex_cons (ex1_whileC (α := Nat) (fun idx => [(Str.ofString "idx", .int idx), (Str.ofString "i", .int (1 + k)), (Str.ofString "prefix", .lst ps)]) (fun _ => [(Str.ofString "table", tabPV B ps.length (k + 1))])
      id (fun idx => idx ≤ k ∧ Chain eq B (k + 1) idx (B (k + 1))) (B k) ⟨hB.le k (by omega), by have := hB.step (k + 1) (by lia) hk1; simpa using this⟩ ⟨.cons rfl (.cons rfl (.cons rfl .nil)), .cons rfl .nil⟩ ?_)
    rintro idx ⟨hidx, hch⟩
    obtain ⟨p1, hp1⟩ : ∃ p, ps[k + 1]? = some p := ⟨ps[k + 1], List.getElem?_eq_getElem hk1⟩
    obtain ⟨p2, hp2⟩ : ∃ p, ps[idx]? = some p := ⟨ps[idx]'(by lia), List.getElem?_eq_getElem (by omega)⟩
    refine ⟨!(eq (k + 1) idx), evb_cmp (ev_idx (ev_name rfl rfl rfl) (ev_name rfl rfl rfl) (x := p1) (by unfold pidx; rw [if_pos (by lia), show ((1 + k : Int)).toNat = k + 1 by lia]; exact hp1) (by lia))
      (ev_idx (ev_name rfl rfl rfl) (ev_name rfl rfl rfl) (x := p2) (by unfold pidx; rw [if_pos (by lia), Int.toNat_natCast]; exact hp2) (by omega)) (cm_ne (heq _ _ _ _ hp1 hp2)), fun hb => ?_, fun hb => ?_⟩
    · -- another letter
      have he : eq (k + 1) idx = false := by simpa using hb
      refine ex_cons (ex1_if (evb_cmp (ev_name rfl rfl rfl) ev_int cm_eq_int) (fun h0 => ?_) fun h0 => ?_)
      · have h0' : idx = 0 := by simpa using h0
        subst h0'
        have hz : B (k + 1) = 0 := by
          rcases hch.inv with ⟨h, _⟩ | ⟨_, _, h⟩ | ⟨j, h, _⟩
          · rw [he] at h; cases h
          · exact h
          · lia
        refine ex_cons (ex1_setidx (l := tabPV B ps.length (k + 1)) ev_int (ev_name rfl rfl rfl) rfl (by decide) (by lia) (by rw [tab_len]; lia) (by rw [tab_len]; lia) ?_)
        rw [hz] at hset
        rw [show (PV.int 0) = PV.int ((0 : Nat) : Int) from rfl, hset]
        refine ex_cons (ex1_break ?_)
        exact ex_nil ⟨.cons rfl .nil, .cons rfl .nil⟩
      · have h0' : idx ≠ 0 := by simpa using h0
        obtain ⟨j, rfl⟩ : ∃ j, idx = j + 1 := ⟨idx - 1, by lia⟩
        have hc : Chain eq B (k + 1) (B j) (B (k + 1)) := by
          rcases hch.inv with ⟨h, _⟩ | ⟨_, h, _⟩ | ⟨j', h, _, c⟩
          · rw [he] at h; cases h
          · lia
          · have : j' = j := by lia
            exact this ▸ c
        refine ex_nil ?_
        refine ex_cons (ex1_assign (ev_own_idx rfl (ev_bin (ev_name rfl rfl rfl) ev_int op_sub_int) (tab_get (j := j) (by lia) (by lia) (by lia)) (by rw [tab_len]; omega)) (.inl rfl) rfl ?_)
        have := hB.le j (by omega)
        exact ex_nil ⟨B j, by show B j < j + 1; lia, ⟨by lia, hc⟩, .cons rfl (.cons rfl (.cons rfl .nil)), .cons rfl .nil⟩
    · have he : eq (k + 1) idx = true := by simpa using hb
      have hz : B (k + 1) = idx + 1 := by
        rcases hch.inv with ⟨_, h⟩ | ⟨h, _⟩ | ⟨j, _, h, _⟩
        · exact h
        · rw [he] at h; cases h
        · rw [he] at h; cases h
      refine ex_cons (ex1_setidx (l := tabPV B ps.length (k + 1)) (ev_bin (ev_name rfl rfl rfl) ev_int op_add_int) (ev_name rfl rfl rfl) rfl (by decide) (by lia) (by rw [tab_len]; lia) (by rw [tab_len]; lia) ?_)
      rw [hz] at hset
      rw [show (PV.int ((idx : Int) + 1)) = PV.int ((idx + 1 : Nat) : Int) from rfl, hset]
      refine ex_nil ?_
      exact ex_nil ⟨.cons rfl .nil, .cons rfl .nil⟩
  · refine ex_nil ?_
    have e : tabPV B ps.length ((rangePV 1 ps.length).length + 1) = (List.range ps.length).map fun j => PV.int (B j) := by
      unfold tabPV rangePV
      refine List.map_congr_left fun j hj => ?_
      have := List.mem_range.mp hj
      rw [if_pos (by simp; lia)]
    rw [e]
    exact ex_cons (ex1_return_own rfl (by decide) (.inl rfl))
end Mine

namespace Mine
open PySem PySem.W PyProof.Rows

noncomputable def f0 : UInt64 := 0
noncomputable def f1 : UInt64 := 4607182418800017408
noncomputable def f2 : UInt64 := 4611686018427387904
noncomputable def f4 : UInt64 := 4616189618054758400
noncomputable def f6 : UInt64 := 4618441417868443648
noncomputable def fh : UInt64 := 4602678819172646912
theorem z1 : Float64.isZero 4607182418800017408 = false := by decide +kernel
theorem z2 : Float64.isZero 4611686018427387904 = false := by decide +kernel
theorem z6 : Float64.isZero 4618441417868443648 = false := by decide +kernel
noncomputable def feq (x y : UInt64) : Bool := Float64.cmp x y == some .eq
noncomputable def fle (x y : UInt64) : Bool := Float64.cmp x y == some .lt || Float64.cmp x y == some .eq
noncomputable def fmod (x y : UInt64) : UInt64 := (Float64.divmod x y).2

noncomputable def hueF (r g maxc rc gc bc : UInt64) : UInt64 :=
  if feq r maxc then Float64.sub bc gc else if feq g maxc then Float64.sub (Float64.add f2 rc) bc else Float64.sub (Float64.add f4 gc) rc

noncomputable def rgbHls (r g b : UInt64) : Option (UInt64 × UInt64 × UInt64) :=
  let maxc := max3 r g b
  let minc := min3 r g b
  let sumc := Float64.add maxc minc
  let rangec := Float64.sub maxc minc
  let l := Float64.div sumc f2
  if feq minc maxc then some (f0, l, f0) else
  let den := if fle l fh then sumc else Float64.sub (Float64.sub f2 maxc) minc
  if Float64.isZero den || Float64.isZero rangec then Option.none else
  let rc := Float64.div (Float64.sub maxc r) rangec
  let gc := Float64.div (Float64.sub maxc g) rangec
  let bc := Float64.div (Float64.sub maxc b) rangec
  some (fmod (Float64.div (hueF r g maxc rc gc bc) f6) f1, l, Float64.div rangec den)

noncomputable def rgbHsv (r g b : UInt64) : Option (UInt64 × UInt64 × UInt64) :=
  let maxc := max3 r g b
  let minc := min3 r g b
  let rangec := Float64.sub maxc minc
  if feq minc maxc then some (f0, f0, maxc) else
  if Float64.isZero maxc || Float64.isZero rangec then Option.none else
  let rc := Float64.div (Float64.sub maxc r) rangec
  let gc := Float64.div (Float64.sub maxc g) rangec
  let bc := Float64.div (Float64.sub maxc b) rangec
  some (fmod (Float64.div (hueF r g maxc rc gc bc) f6) f1, Float64.div rangec maxc, maxc)

noncomputable def hsvRgb (h s v : UInt64) : Option (UInt64 × UInt64 × UInt64) :=
  if feq s f0 then some (v, v, v) else
  match truncF (Float64.mul h f6) with
  | Option.none => Option.none
  | some i =>
    if Float64.isInf (Float64.ofInt i) then Option.none else
    let f := Float64.sub (Float64.mul h f6) (Float64.ofInt i)
    let p := Float64.mul v (Float64.sub f1 s)
    let q := Float64.mul v (Float64.sub f1 (Float64.mul s f))
    let t := Float64.mul v (Float64.sub f1 (Float64.mul s (Float64.sub f1 f)))
    let j := i.fmod 6
    if j == 0 then some (v, t, p) else if j == 1 then some (q, v, p) else if j == 2 then some (p, v, t) else if j == 3 then some (p, q, v) else if j == 4 then some (t, p, v) else if j == 5 then some (v, p, q) else Option.none

noncomputable def pv3 (x : UInt64 × UInt64 × UInt64) : PV := .tup [.flt x.1, .flt x.2.1, .flt x.2.2]

section
variable {g : Pg} {d : Nat}

theorem ev_tup3 {K : Kn} {σ : Sig} {ω : Own} {e1 e2 e3 : Expr} {k : Nat} {pos : Pos} {p1 p2 p3 : PV} (h1 : Ev g d K σ ω e1 p1) (h2 : Ev g d K σ ω e2 p2) (h3 : Ev g d K σ ω e3 p3)
    (a1 : ∀ env, starEach [e1, e2, e3] env = (false, eval e1 env) :: starEach [e2, e3] env := by intro _; rfl) (a2 : ∀ env, starEach [e2, e3] env = (false, eval e2 env) :: starEach [e3] env := by intro _; rfl)
    (a3 : ∀ env, starEach [e3] env = (false, eval e3 env) :: starEach [] env := by intro _; rfl) : Ev g d K σ ω (.Tuple [e1, e2, e3] k pos) (.tup [p1, p2, p3]) :=
  ev_tuple (evl_cons h1 (evl_cons h2 (evl_cons h3 evl_nil a3) a2) a1) (by show (3 : Nat) ≤ 4096; decide)

theorem hsvRgb_walk (hg : ∀ x ∈ usedNames, x ∉ g.names) {h s v : UInt64} {o : UInt64 × UInt64 × UInt64} (H : hsvRgb h s v = some o) : Fn g d iRgb [.flt h, .flt s, .flt v] (pv3 o) := by
  unfold Fn
  unfold hsvRgb at H
  refine ex_cons (ex1_if (evb_cmp (ev_name rfl rfl rfl) ev_flt cm_eq_flt) (fun h0 => ?_) fun h0 => ?_)
  · have h0' : feq s f0 = true := h0
    rw [if_pos h0'] at H
    cases H
    exact ex_cons (ex1_return (ev_tup3 (ev_name rfl rfl rfl) (ev_name rfl rfl rfl) (ev_name rfl rfl rfl)) (.inl rfl))
  have h0' : feq s f0 = false := h0
  rw [if_neg (by rw [h0']; decide)] at H
  refine ex_nil ?_
  cases ht : truncF (Float64.mul h f6) with
  | none => rw [ht] at H; cases H
  | some i =>
    rw [ht] at H
    simp only at H
    split at H
    · cases H
    rename_i hinf
    refine ex_cons (ex1_assign (ev_callT rfl (hg _ (by decide)) PyProof.Rows.boot_int (evl_cons (ev_bin (ev_name rfl rfl rfl) ev_flt op_mul_flt) evl_nil) (cv_int ht)) (.inl rfl) rfl ?_)
    refine ex_cons (ex1_assign (ev_bin (ev_bin (ev_name rfl rfl rfl) ev_flt op_mul_flt) (ev_name rfl rfl rfl) (op_sub_fi (by simpa using hinf))) (.inl rfl) rfl ?_)
    refine ex_cons (ex1_assign (ev_bin (ev_name rfl rfl rfl) (ev_bin ev_flt (ev_name rfl rfl rfl) op_sub_flt) op_mul_flt) (.inl rfl) rfl ?_)
    refine ex_cons (ex1_assign (ev_bin (ev_name rfl rfl rfl) (ev_bin ev_flt (ev_bin (ev_name rfl rfl rfl) (ev_name rfl rfl rfl) op_mul_flt) op_sub_flt) op_mul_flt) (.inl rfl) rfl ?_)
    refine ex_cons (ex1_assign (ev_bin (ev_name rfl rfl rfl) (ev_bin ev_flt (ev_bin (ev_name rfl rfl rfl) (ev_bin ev_flt (ev_name rfl rfl rfl) op_sub_flt) op_mul_flt) op_sub_flt) op_mul_flt) (.inl rfl) rfl ?_)
    refine ex_cons (ex1_assign (ev_bin (ev_name rfl rfl rfl) ev_int (op_mod_int (by decide))) (.inl rfl) rfl ?_)
    iterate 6
      refine ex_cons (ex1_if (evb_cmp (ev_name rfl rfl rfl) ev_int cm_eq_int) (fun hj => ?_) fun hj => ?_)
      · rw [if_pos hj] at H
        cases H
        exact ex_cons (ex1_return (ev_tup3 (ev_name rfl rfl rfl) (ev_name rfl rfl rfl) (ev_name rfl rfl rfl)) (.inl rfl))
      rw [if_neg (by rw [hj]; decide)] at H
      refine ex_nil ?_
    cases H

theorem rgbHsv_walk (hg : ∀ x ∈ usedNames, x ∉ g.names) {r g' b : UInt64} {o : UInt64 × UInt64 × UInt64} (H : rgbHsv r g' b = some o) : Fn g d iHsv [.flt r, .flt g', .flt b] (pv3 o) := by
  unfold Fn
  unfold rgbHsv at H
  simp only at H
  have args : ∀ {σ ω}, σ.lookup (Str.ofString "r") = some (PV.flt r) → σ.lookup (Str.ofString "g") = some (PV.flt g') → σ.lookup (Str.ofString "b") = some (PV.flt b) → ∀ {p1 p2 p3 : Pos}, EvL g d iHsv.scope.names σ ω [.Name "r" p1, .Name "g" p2, .Name "b" p3] [.flt r, .flt g', .flt b] :=
    fun h1 h2 h3 => evl_cons (ev_name h1 rfl rfl) (evl_cons (ev_name h2 rfl rfl) (evl_cons (ev_name h3 rfl rfl) evl_nil))
  refine ex_cons (ex1_assign (ev_callB rfl (hg _ (by decide)) PyProof.Rows.boot_max (args rfl rfl rfl) cv_max3) (.inl rfl) rfl ?_)
  refine ex_cons (ex1_assign (ev_callB rfl (hg _ (by decide)) PyProof.Rows.boot_min (args rfl rfl rfl) cv_min3) (.inl rfl) rfl ?_)
  refine ex_cons (ex1_assign (ev_bin (ev_name rfl rfl rfl) (ev_name rfl rfl rfl) op_sub_flt) (.inl rfl) rfl ?_)
  refine ex_cons (ex1_assign (ev_name rfl rfl rfl) (.inl rfl) rfl ?_)
  refine ex_cons (ex1_if (evb_cmp (ev_name rfl rfl rfl) (ev_name rfl rfl rfl) cm_eq_flt) (fun h0 => ?_) fun h0 => ?_)
  · rw [if_pos (show feq _ _ = true from h0)] at H
    cases H
    exact ex_cons (ex1_return (ev_tup3 ev_flt ev_flt (ev_name rfl rfl rfl)) (.inl rfl))
  rw [if_neg (by rw [show feq _ _ = false from h0]; decide)] at H
  refine ex_nil ?_
  split at H
  · cases H
  rename_i hz
  simp only [Bool.or_eq_true, not_or, Bool.not_eq_true] at hz
  obtain ⟨hz1, hz2⟩ := hz
  refine ex_cons (ex1_assign (ev_bin (ev_name rfl rfl rfl) (ev_name rfl rfl rfl) (op_div_flt hz1)) (.inl rfl) rfl ?_)
  refine ex_cons (ex1_assign (ev_bin (ev_bin (ev_name rfl rfl rfl) (ev_name rfl rfl rfl) op_sub_flt) (ev_name rfl rfl rfl) (op_div_flt hz2)) (.inl rfl) rfl ?_)
  refine ex_cons (ex1_assign (ev_bin (ev_bin (ev_name rfl rfl rfl) (ev_name rfl rfl rfl) op_sub_flt) (ev_name rfl rfl rfl) (op_div_flt hz2)) (.inl rfl) rfl ?_)
  refine ex_cons (ex1_assign (ev_bin (ev_bin (ev_name rfl rfl rfl) (ev_name rfl rfl rfl) op_sub_flt) (ev_name rfl rfl rfl) (op_div_flt hz2)) (.inl rfl) rfl ?_)
  have fin : ∀ {σ : Sig} {ω : Own} {x : UInt64}, σ.lookup (Str.ofString "h") = some (PV.flt x) → σ.lookup (Str.ofString "s") = σ.lookup (Str.ofString "s") → True := fun _ _ => trivial
  unfold hueF at H
  refine ex_cons (ex1_if (evb_cmp (ev_name rfl rfl rfl) (ev_name rfl rfl rfl) cm_eq_flt) (fun h1 => ?_) fun h1 => ?_)
  · rw [if_pos (show feq _ _ = true from h1)] at H
    cases H
    refine ex_cons (ex1_assign (ev_bin (ev_name rfl rfl rfl) (ev_name rfl rfl rfl) op_sub_flt) (.inl rfl) rfl (ex_nil ?_))
    refine ex_cons (ex1_assign (ev_bin (ev_bin (ev_name rfl rfl rfl) ev_flt (op_div_flt z6)) ev_flt (op_mod_flt z1)) (.inl rfl) rfl ?_)
    exact ex_cons (ex1_return (ev_tup3 (ev_name rfl rfl rfl) (ev_name rfl rfl rfl) (ev_name rfl rfl rfl)) (.inl rfl))
  · rw [if_neg (by rw [show feq _ _ = false from h1]; decide)] at H
    refine ex_cons (ex1_if (evb_cmp (ev_name rfl rfl rfl) (ev_name rfl rfl rfl) cm_eq_flt) (fun h2 => ?_) fun h2 => ?_)
    · rw [if_pos (show feq _ _ = true from h2)] at H
      cases H
      refine ex_cons (ex1_assign (ev_bin (ev_bin ev_flt (ev_name rfl rfl rfl) op_add_flt) (ev_name rfl rfl rfl) op_sub_flt) (.inl rfl) rfl (ex_nil (ex_nil ?_)))
      refine ex_cons (ex1_assign (ev_bin (ev_bin (ev_name rfl rfl rfl) ev_flt (op_div_flt z6)) ev_flt (op_mod_flt z1)) (.inl rfl) rfl ?_)
      exact ex_cons (ex1_return (ev_tup3 (ev_name rfl rfl rfl) (ev_name rfl rfl rfl) (ev_name rfl rfl rfl)) (.inl rfl))
    · rw [if_neg (by rw [show feq _ _ = false from h2]; decide)] at H
      cases H
      refine ex_cons (ex1_assign (ev_bin (ev_bin ev_flt (ev_name rfl rfl rfl) op_add_flt) (ev_name rfl rfl rfl) op_sub_flt) (.inl rfl) rfl (ex_nil (ex_nil ?_)))
      refine ex_cons (ex1_assign (ev_bin (ev_bin (ev_name rfl rfl rfl) ev_flt (op_div_flt z6)) ev_flt (op_mod_flt z1)) (.inl rfl) rfl ?_)
      exact ex_cons (ex1_return (ev_tup3 (ev_name rfl rfl rfl) (ev_name rfl rfl rfl) (ev_name rfl rfl rfl)) (.inl rfl))

theorem rgbHls_walk (hg : ∀ x ∈ usedNames, x ∉ g.names) {r g' b : UInt64} {o : UInt64 × UInt64 × UInt64} (H : rgbHls r g' b = some o) : Fn g d iHls [.flt r, .flt g', .flt b] (pv3 o) := by
  unfold Fn
  unfold rgbHls at H
  simp only at H
  have args : ∀ {σ ω}, σ.lookup (Str.ofString "r") = some (PV.flt r) → σ.lookup (Str.ofString "g") = some (PV.flt g') → σ.lookup (Str.ofString "b") = some (PV.flt b) → ∀ {p1 p2 p3 : Pos}, EvL g d iHls.scope.names σ ω [.Name "r" p1, .Name "g" p2, .Name "b" p3] [.flt r, .flt g', .flt b] :=
    fun h1 h2 h3 => evl_cons (ev_name h1 rfl rfl) (evl_cons (ev_name h2 rfl rfl) (evl_cons (ev_name h3 rfl rfl) evl_nil))
  refine ex_cons (ex1_assign (ev_callB rfl (hg _ (by decide)) PyProof.Rows.boot_max (args rfl rfl rfl) cv_max3) (.inl rfl) rfl ?_)
  refine ex_cons (ex1_assign (ev_callB rfl (hg _ (by decide)) PyProof.Rows.boot_min (args rfl rfl rfl) cv_min3) (.inl rfl) rfl ?_)
  refine ex_cons (ex1_assign (ev_bin (ev_name rfl rfl rfl) (ev_name rfl rfl rfl) op_add_flt) (.inl rfl) rfl ?_)
  refine ex_cons (ex1_assign (ev_bin (ev_name rfl rfl rfl) (ev_name rfl rfl rfl) op_sub_flt) (.inl rfl) rfl ?_)
  refine ex_cons (ex1_assign (ev_bin (ev_name rfl rfl rfl) ev_flt (op_div_flt z2)) (.inl rfl) rfl ?_)
  refine ex_cons (ex1_if (evb_cmp (ev_name rfl rfl rfl) (ev_name rfl rfl rfl) cm_eq_flt) (fun h0 => ?_) fun h0 => ?_)
  · rw [if_pos (show feq _ _ = true from h0)] at H
    cases H
    exact ex_cons (ex1_return (ev_tup3 ev_flt (ev_name rfl rfl rfl) ev_flt) (.inl rfl))
  rw [if_neg (by rw [show feq _ _ = false from h0]; decide)] at H
  refine ex_nil ?_
  -- what follows the share, whichever way it was made
  have rest : ∀ {σ : Sig} {sh : UInt64}, σ.lookup (Str.ofString "r") = some (PV.flt r) → σ.lookup (Str.ofString "g") = some (PV.flt g') → σ.lookup (Str.ofString "b") = some (PV.flt b) → True := fun _ _ _ => trivial
  unfold hueF at H
  refine ex_cons (ex1_if (b := fle (Float64.div (Float64.add (max3 r g' b) (min3 r g' b)) f2) fh) (evb_cmp (ev_name rfl rfl rfl) ev_flt cm_le_flt) (fun hl => ?_) fun hl => ?_)
  all_goals rw [hl] at H
  all_goals simp only [if_true, Bool.false_eq_true, if_false] at H
  all_goals split at H
  all_goals first | (cases H; done) | skip
  all_goals rename_i hz
  all_goals simp only [Bool.or_eq_true, not_or, Bool.not_eq_true] at hz
  all_goals obtain ⟨hz1, hz2⟩ := hz
  · refine ex_cons (ex1_assign (ev_bin (ev_name rfl rfl rfl) (ev_name rfl rfl rfl) (op_div_flt hz1)) (.inl rfl) rfl (ex_nil ?_))
    refine ex_cons (ex1_assign (ev_bin (ev_bin (ev_name rfl rfl rfl) (ev_name rfl rfl rfl) op_sub_flt) (ev_name rfl rfl rfl) (op_div_flt hz2)) (.inl rfl) rfl ?_)
    refine ex_cons (ex1_assign (ev_bin (ev_bin (ev_name rfl rfl rfl) (ev_name rfl rfl rfl) op_sub_flt) (ev_name rfl rfl rfl) (op_div_flt hz2)) (.inl rfl) rfl ?_)
    refine ex_cons (ex1_assign (ev_bin (ev_bin (ev_name rfl rfl rfl) (ev_name rfl rfl rfl) op_sub_flt) (ev_name rfl rfl rfl) (op_div_flt hz2)) (.inl rfl) rfl ?_)
    refine ex_cons (ex1_if (evb_cmp (ev_name rfl rfl rfl) (ev_name rfl rfl rfl) cm_eq_flt) (fun h1 => ?_) fun h1 => ?_)
    · rw [if_pos (show feq _ _ = true from h1)] at H
      cases H
      refine ex_cons (ex1_assign (ev_bin (ev_name rfl rfl rfl) (ev_name rfl rfl rfl) op_sub_flt) (.inl rfl) rfl (ex_nil ?_))
      refine ex_cons (ex1_assign (ev_bin (ev_bin (ev_name rfl rfl rfl) ev_flt (op_div_flt z6)) ev_flt (op_mod_flt z1)) (.inl rfl) rfl ?_)
      exact ex_cons (ex1_return (ev_tup3 (ev_name rfl rfl rfl) (ev_name rfl rfl rfl) (ev_name rfl rfl rfl)) (.inl rfl))
    · rw [if_neg (by rw [show feq _ _ = false from h1]; decide)] at H
      refine ex_cons (ex1_if (evb_cmp (ev_name rfl rfl rfl) (ev_name rfl rfl rfl) cm_eq_flt) (fun h2 => ?_) fun h2 => ?_)
      · rw [if_pos (show feq _ _ = true from h2)] at H
        cases H
        refine ex_cons (ex1_assign (ev_bin (ev_bin ev_flt (ev_name rfl rfl rfl) op_add_flt) (ev_name rfl rfl rfl) op_sub_flt) (.inl rfl) rfl (ex_nil (ex_nil ?_)))
        refine ex_cons (ex1_assign (ev_bin (ev_bin (ev_name rfl rfl rfl) ev_flt (op_div_flt z6)) ev_flt (op_mod_flt z1)) (.inl rfl) rfl ?_)
        exact ex_cons (ex1_return (ev_tup3 (ev_name rfl rfl rfl) (ev_name rfl rfl rfl) (ev_name rfl rfl rfl)) (.inl rfl))
      · rw [if_neg (by rw [show feq _ _ = false from h2]; decide)] at H
        cases H
        refine ex_cons (ex1_assign (ev_bin (ev_bin ev_flt (ev_name rfl rfl rfl) op_add_flt) (ev_name rfl rfl rfl) op_sub_flt) (.inl rfl) rfl (ex_nil (ex_nil ?_)))
        refine ex_cons (ex1_assign (ev_bin (ev_bin (ev_name rfl rfl rfl) ev_flt (op_div_flt z6)) ev_flt (op_mod_flt z1)) (.inl rfl) rfl ?_)
        exact ex_cons (ex1_return (ev_tup3 (ev_name rfl rfl rfl) (ev_name rfl rfl rfl) (ev_name rfl rfl rfl)) (.inl rfl))
  · refine ex_cons (ex1_assign (ev_bin (ev_name rfl rfl rfl) (ev_bin (ev_bin ev_flt (ev_name rfl rfl rfl) op_sub_flt) (ev_name rfl rfl rfl) op_sub_flt) (op_div_flt hz1)) (.inl rfl) rfl (ex_nil ?_))
    refine ex_cons (ex1_assign (ev_bin (ev_bin (ev_name rfl rfl rfl) (ev_name rfl rfl rfl) op_sub_flt) (ev_name rfl rfl rfl) (op_div_flt hz2)) (.inl rfl) rfl ?_)
    refine ex_cons (ex1_assign (ev_bin (ev_bin (ev_name rfl rfl rfl) (ev_name rfl rfl rfl) op_sub_flt) (ev_name rfl rfl rfl) (op_div_flt hz2)) (.inl rfl) rfl ?_)
    refine ex_cons (ex1_assign (ev_bin (ev_bin (ev_name rfl rfl rfl) (ev_name rfl rfl rfl) op_sub_flt) (ev_name rfl rfl rfl) (op_div_flt hz2)) (.inl rfl) rfl ?_)
    refine ex_cons (ex1_if (evb_cmp (ev_name rfl rfl rfl) (ev_name rfl rfl rfl) cm_eq_flt) (fun h1 => ?_) fun h1 => ?_)
    · rw [if_pos (show feq _ _ = true from h1)] at H
      cases H
      refine ex_cons (ex1_assign (ev_bin (ev_name rfl rfl rfl) (ev_name rfl rfl rfl) op_sub_flt) (.inl rfl) rfl (ex_nil ?_))
      refine ex_cons (ex1_assign (ev_bin (ev_bin (ev_name rfl rfl rfl) ev_flt (op_div_flt z6)) ev_flt (op_mod_flt z1)) (.inl rfl) rfl ?_)
      exact ex_cons (ex1_return (ev_tup3 (ev_name rfl rfl rfl) (ev_name rfl rfl rfl) (ev_name rfl rfl rfl)) (.inl rfl))
    · rw [if_neg (by rw [show feq _ _ = false from h1]; decide)] at H
      refine ex_cons (ex1_if (evb_cmp (ev_name rfl rfl rfl) (ev_name rfl rfl rfl) cm_eq_flt) (fun h2 => ?_) fun h2 => ?_)
      · rw [if_pos (show feq _ _ = true from h2)] at H
        cases H
        refine ex_cons (ex1_assign (ev_bin (ev_bin ev_flt (ev_name rfl rfl rfl) op_add_flt) (ev_name rfl rfl rfl) op_sub_flt) (.inl rfl) rfl (ex_nil (ex_nil ?_)))
        refine ex_cons (ex1_assign (ev_bin (ev_bin (ev_name rfl rfl rfl) ev_flt (op_div_flt z6)) ev_flt (op_mod_flt z1)) (.inl rfl) rfl ?_)
        exact ex_cons (ex1_return (ev_tup3 (ev_name rfl rfl rfl) (ev_name rfl rfl rfl) (ev_name rfl rfl rfl)) (.inl rfl))
      · rw [if_neg (by rw [show feq _ _ = false from h2]; decide)] at H
        cases H
        refine ex_cons (ex1_assign (ev_bin (ev_bin ev_flt (ev_name rfl rfl rfl) op_add_flt) (ev_name rfl rfl rfl) op_sub_flt) (.inl rfl) rfl (ex_nil (ex_nil ?_)))
        refine ex_cons (ex1_assign (ev_bin (ev_bin (ev_name rfl rfl rfl) ev_flt (op_div_flt z6)) ev_flt (op_mod_flt z1)) (.inl rfl) rfl ?_)
        exact ex_cons (ex1_return (ev_tup3 (ev_name rfl rfl rfl) (ev_name rfl rfl rfl) (ev_name rfl rfl rfl)) (.inl rfl))
end
end Mine

namespace Mine
open PySem PySem.W PyProof.Rows

noncomputable def intsP (l : List Int) : PV := .lst (l.map PV.int)

/-- the row: each place goes on by the step that is told -/
noncomputable def rowFrom (st : List Int) (cur : Int) : List Int → List Int
  | [] => [cur]
  | x :: r => cur :: rowFrom st ((cur + st.getD x.toNat 0).fmod 64) r
noncomputable def stepsOf (t : Int) : List Int := [t + 9, 3 * t + 22, 5 * t + 40]
noncomputable def whichOf (xs : List Int) : List Int := (xs.take 5).map (fun x => x.fmod 3) ++ [0, 1, 0, 0, 1, 0, 1, 0]
noncomputable def rowOf (xs : List Int) : List Int := rowFrom (stepsOf xs.sum) ((xs.sum + 60).fmod 64) (whichOf xs)

/-- where the row stands after so many steps -/
noncomputable def curAt (st : List Int) (cur : Int) : List Int → Nat → Int
  | _, 0 => cur
  | [], _ + 1 => cur
  | x :: r, n + 1 => curAt st ((cur + st.getD x.toNat 0).fmod 64) r n

theorem rowFrom_take {st : List Int} : ∀ (ws : List Int) (cur : Int) (n : Nat), n < ws.length → (rowFrom st cur ws).take (n + 2) = (rowFrom st cur ws).take (n + 1) ++ [(curAt st cur ws n + st.getD ((ws.getD n 0).toNat) 0).fmod 64]
  | [], cur, n, h => by simp at h
  | x :: r, cur, 0, h => by
    cases r <;> simp [rowFrom, curAt]
  | x :: r, cur, n + 1, h => by
    have := rowFrom_take (st := st) r ((cur + st.getD x.toNat 0).fmod 64) n (by simpa using h)
    rw [rowFrom, List.take_succ_cons, List.take_succ_cons, this]
    simp [curAt]
theorem rowFrom_len {st : List Int} : ∀ (ws : List Int) (cur : Int), (rowFrom st cur ws).length = ws.length + 1
  | [], _ => rfl
  | x :: r, cur => by rw [rowFrom, List.length_cons, rowFrom_len r]; rfl
theorem rowFrom_last {st : List Int} : ∀ (ws : List Int) (cur : Int) (n : Nat), n ≤ ws.length → ((rowFrom st cur ws).take (n + 1)).getLast? = some (curAt st cur ws n)
  | ws, cur, 0, _ => by cases ws <;> simp [rowFrom, curAt]
  | [], _, n + 1, h => by simp at h
  | x :: r, cur, n + 1, h => by
    have := rowFrom_last (st := st) r ((cur + st.getD x.toNat 0).fmod 64) n (by simpa using h)
    rw [rowFrom, List.take_succ_cons, List.getLast?_cons, this]
    simp [curAt]

theorem Ev.eq {g : Pg} {d : Nat} {K : Kn} {σ : Sig} {ω : Own} {e : Expr} {p q : PV} (h : Ev g d K σ ω e p) (hq : p = q) : Ev g d K σ ω e q := hq ▸ h
theorem EvIt.eq {g : Pg} {d : Nat} {K : Kn} {σ : Sig} {ω : Own} {en : Bool} {e : Expr} {p q : List PV} (h : EvIt g d K σ ω en e p) (hq : p = q) : EvIt g d K σ ω en e q := hq ▸ h

section
variable {g : Pg} {d : Nat}

theorem row_walk (hg : ∀ x ∈ usedNames, x ∉ g.names) (xs : List Int) (hx : xs.length ≤ 63) : Fn g d iRow [intsP xs] (intsP (rowOf xs)) := by
  unfold Fn
  refine ex_cons (ex1_assign (ev_callB rfl (hg _ (by decide)) PyProof.Rows.boot_sum (evl_cons (ev_name rfl rfl rfl) evl_nil) cv_sum) (.inl rfl) rfl ?_)
  refine ex_cons (ex1_assign (ev_list (evl_cons (ev_bin (ev_name rfl rfl rfl) ev_int op_add_int) (evl_cons (ev_bin (ev_bin ev_int (ev_name rfl rfl rfl) (op_mul_int (IntMulOk.of_left (by decide)))) ev_int op_add_int)
    (evl_cons (ev_bin (ev_bin ev_int (ev_name rfl rfl rfl) (op_mul_int (IntMulOk.of_left (by decide)))) ev_int op_add_int) evl_nil))) (by show (3 : Nat) ≤ 4096; decide)) (.inl rfl) rfl ?_)
  refine ex_cons (ex1_own (evn_list (evl_cons (ev_bin (ev_bin (ev_name rfl rfl rfl) ev_int op_add_int) ev_int (op_mod_int (by decide))) evl_nil) (by show (1 : Nat) ≤ 4096; decide)) (.inl rfl) rfl rfl ?_)
  have hws : (whichOf xs).length ≤ 13 := by unfold whichOf; simp; lia
  have hmem : ∀ n, n < (whichOf xs).length → 0 ≤ (whichOf xs).getD n 0 ∧ (whichOf xs).getD n 0 < 3 := by
    intro n hn
    have hall : ∀ x ∈ whichOf xs, 0 ≤ x ∧ x < 3 := by
      intro x hx
      unfold whichOf at hx
      rcases List.mem_append.mp hx with h | h
      · obtain ⟨y, _, rfl⟩ := List.mem_map.mp h
        exact ⟨Int.fmod_nonneg_of_pos _ (by decide), Int.fmod_lt_of_pos _ (by decide)⟩
      · simp at h; lia
    have e : (whichOf xs).getD n 0 = (whichOf xs)[n] := by simp [List.getD_eq_getElem?_getD, List.getElem?_eq_getElem hn]
    rw [e]; exact hall _ (List.getElem_mem hn)
  refine ex_cons (ex1_forC (ps := (whichOf xs).map PV.int) (en := false) ?_ (by intro h; cases h)
    (fun _ => [(Str.ofString "steps", .lst ((stepsOf xs.sum).map PV.int))]) (fun k => [(Str.ofString "row", ((rowOf xs).take (k + 1)).map PV.int)]) ⟨.cons rfl .nil, .cons ?_ .nil⟩ ?_ ?_)
  · refine (evit_list (ev_bin (ev_compI [] [] (fun x => PV.int (x.fmod 3)) (l := xs.take 5) ((evit_list (ev_slice (ev_name rfl rfl rfl) evp_none (evp_some ev_int) evp_none (by decide) (by rw [List.length_map]; lia))).eq ?_) (by decide) .nil .nil (tgt1 (.inl rfl) rfl)
      (fun a _ => ev_bin (ev_name rfl rfl rfl) ev_int (op_mod_int (by decide))) (by rw [List.length_take]; lia))
      (ev_list (evl_cons ev_int (evl_cons ev_int (evl_cons ev_int (evl_cons ev_int (evl_cons ev_int (evl_cons ev_int (evl_cons ev_int (evl_cons ev_int evl_nil)))))))) (by show (8 : Nat) ≤ 4096; decide)) (op_add_lst ?_))).eq ?_
    · rw [show (5 : Int) = ((5 : Nat) : Int) from rfl, slice_to, List.map_take]
    · rw [List.length_map, List.length_take]; show _ + 8 ≤ 4096; lia
    · unfold whichOf; simp; rfl
  · show some _ = some _
    unfold rowOf
    have : ∀ ws : List Int, (rowFrom (stepsOf xs.sum) ((xs.sum + 60).fmod 64) ws).take 1 = [(xs.sum + 60).fmod 64] := fun ws => by cases ws <;> rfl
    rw [this]; rfl
  · intro k p hp
    rw [List.getElem?_map] at hp
    cases hk : (whichOf xs)[k]? with
    | none => rw [hk] at hp; simp at hp
    | some z =>
      rw [hk] at hp
      simp at hp
      subst hp
      have hlt : k < (whichOf xs).length := by
        rcases Nat.lt_or_ge k (whichOf xs).length with h | h
        · exact h
        · rw [List.getElem?_eq_none h] at hk; cases hk
      have hz : (whichOf xs).getD k 0 = z := by simp [List.getD_eq_getElem?_getD, hk]
      have hm := hmem k hlt
      rw [hz] at hm
      refine ⟨_, rfl, tgt1 (.inl rfl) rfl, ?_⟩
      have hrow : (rowOf xs).take (k + 2) = (rowOf xs).take (k + 1) ++ [(curAt (stepsOf xs.sum) ((xs.sum + 60).fmod 64) (whichOf xs) k + (stepsOf xs.sum).getD z.toNat 0).fmod 64] := by
        unfold rowOf; rw [rowFrom_take _ _ _ hlt, hz]
      have hl1 : ((rowOf xs).take (k + 1)).length ≤ 15 := by
        have : (rowOf xs).length = (whichOf xs).length + 1 := rowFrom_len _ _
        rw [List.length_take]; lia
      refine ex_cons (ex1_append (ev_bin (ev_bin (ev_own_idx rfl (ev_un ev_int op_neg_int) (pidx_last (p := .int (curAt (stepsOf xs.sum) ((xs.sum + 60).fmod 64) (whichOf xs) k)) ?_) (by rw [List.length_map]; lia)) 
        (ev_idx (ev_name rfl rfl rfl) (ev_name rfl rfl rfl) (x := .int ((stepsOf xs.sum).getD z.toNat 0)) ?_ (by show (3 : Nat) ≤ 4096; decide)) op_add_int) ev_int (op_mod_int (by decide))) rfl (by decide) (by rw [List.length_map]; (clear hrow hm hz hlt hk hmem hws hx hg; omega)) ?_)
      · rw [List.getLast?_map]; unfold rowOf; rw [rowFrom_last _ _ _ (by lia)]; rfl
      · have : z = 0 ∨ z = 1 ∨ z = 2 := by lia
        rcases this with rfl | rfl | rfl <;> rfl
      · refine ex_nil ⟨.cons rfl .nil, .cons ?_ .nil⟩
        show some _ = some _
        rw [hrow, List.map_append]; rfl
  · refine ex_nil ?_
    have e : ((rowOf xs).take (((whichOf xs).map PV.int).length + 1)).map PV.int = (rowOf xs).map PV.int := by
      rw [List.take_of_length_le]
      rw [List.length_map]; unfold rowOf; rw [rowFrom_len]; exact Nat.le_refl _
    rw [e]
    exact ex_cons (ex1_return_own rfl (by decide) (.inl rfl))

/-- a place's light, laid: what is read of it, and whether it is the row's own hue -/
noncomputable def FitAt (hues : List UInt64) (lights : List (UInt64 × UInt64 × UInt64)) (start k : Nat) (b : Bool) : Prop :=
  ∃ la c, hsvRgb (Float64.add (hues.getD k 0) (fmod (Float64.sub (hues.getD start 0) (hues.getD 0 0)) f1)) f1 fh = some la ∧
    rgbHsv (Float64.add la.1 (lights.getD (start + k) (0, 0, 0)).1) (Float64.add la.2.1 (lights.getD (start + k) (0, 0, 0)).2.1) (Float64.add la.2.2 (lights.getD (start + k) (0, 0, 0)).2.2) = some c ∧
    peq 8 (pv3 c) (.tup [.flt (hues.getD (start + k) 0), .flt f1, .flt f1]) = some b

noncomputable def flts (l : List UInt64) : PV := .lst (l.map PV.flt)
noncomputable def trips (l : List (UInt64 × UInt64 × UInt64)) : PV := .lst (l.map pv3)

theorem get_flts {l : List UInt64} {k : Nat} (h : k < l.length) : (l.map PV.flt)[k]? = some (.flt (l.getD k 0)) := by simp [h]
theorem get_trips {l : List (UInt64 × UInt64 × UInt64)} {k : Nat} (h : k < l.length) : (l.map pv3)[k]? = some (pv3 (l.getD k (0, 0, 0))) := by simp [h]

theorem fits_walk (hg : ∀ x ∈ usedNames, x ∉ g.names) (hd1 : iRgb ∈ g.defs) (hd2 : iHsv ∈ g.defs) {hues : List UInt64} {lights : List (UInt64 × UInt64 × UInt64)} {start cnt : Nat} (hN : hues.length ≤ 100) (hl : lights.length = hues.length)
    (hs : start < hues.length) (h1 : ∀ k, k < cnt → FitAt hues lights start k true) (h2 : start + cnt ≤ hues.length) (h3 : start + cnt < hues.length → FitAt hues lights start cnt false) :
    Fn g (d + 1) iFits [flts hues, trips lights, .int start] (.int ((cnt - 1 : Nat) : Int)) := by
  unfold Fn
  refine ex_cons (ex1_assign (ev_bin (ev_bin (ev_idx (ev_name rfl rfl rfl) (ev_name rfl rfl rfl) (pidx_nat rfl (get_flts hs)) (by rw [List.length_map]; lia)) (ev_idx (ev_name rfl rfl rfl) ev_int (pidx_nat (j := 0) rfl (get_flts (by lia))) (by rw [List.length_map]; (clear h3 h2 h1 hs hd2 hd1 hg hl; omega))) op_sub_flt) ev_flt (op_mod_flt z1)) (.inl rfl) rfl ?_)
  refine ex_cons (ex1_assign ev_int (.inl rfl) rfl ?_)
  generalize hT : fmod (Float64.sub (hues.getD start 0) (hues.getD 0 0)) f1 = turn at *
  have hT' : (Float64.divmod (Float64.sub (hues.getD start 0) (hues.getD 0 0)) 4607182418800017408).2 = turn := hT
  rw [hT']
  refine ex_cons (ex1_forI (evit_range1 (ev_bin (ev_callB rfl (hg _ (by decide)) boot_len (evl_cons (ev_name rfl rfl rfl) evl_nil) (cv_len (by rw [List.length_map]; (clear hT' hT h3 h2 h1 hs hd2 hd1 hg hl; omega)))) (ev_name rfl rfl rfl) op_sub_int) (by rw [List.length_map]; lia) (by rw [List.length_map]; lia) rfl rfl (hg _ (by decide)))
    (by intro h; cases h) (fun k => [(Str.ofString "size", .int ((k - 1 : Nat) : Int)), (Str.ofString "turn", .flt turn), (Str.ofString "hues", flts hues), (Str.ofString "lights", trips lights), (Str.ofString "start", .int start)]) (fun _ => []) (fun k => k ≤ cnt) (Nat.zero_le _) ⟨?_, .nil⟩ ?_ ?_)
  · exact .cons rfl (.cons rfl (.cons rfl (.cons rfl (.cons rfl .nil))))
  · intro k p hp hkc
    obtain ⟨hk, rfl⟩ := rangePV_get hp
    rw [List.length_map] at hk
    have hk' : start + k < hues.length := by lia
    refine ⟨[(Str.ofString "k", .int (0 + k))], rfl, tgt1 (.inl rfl) rfl, ?_⟩
    rw [Int.zero_add]
    have hb : ∃ b, FitAt hues lights start k b ∧ (b = true → k < cnt) ∧ (b = false → k = cnt) := by
      rcases Nat.lt_or_ge k cnt with h | h
      · exact ⟨true, h1 k h, fun _ => h, fun h => nomatch h⟩
      · have e : k = cnt := by lia
        subst e
        exact ⟨false, h3 hk', (fun h => nomatch h), fun _ => rfl⟩
    obtain ⟨b, ⟨la, c, q1, q2, q3⟩, hb1, hb2⟩ := hb
    rw [hT] at q1
    refine ex_cons (ex1_assign (p := pv3 la) (ev_call (it := iRgb) hd1 rfl (evl_cons (ev_bin (ev_idx (ev_name rfl rfl rfl) (ev_name rfl rfl rfl) (pidx_nat rfl (get_flts (by lia))) (by rw [List.length_map]; lia)) (ev_name rfl rfl rfl) op_add_flt) (evl_cons ev_flt (evl_cons ev_flt evl_nil))) (hsvRgb_walk hg q1) plRgb) (.inl rfl) rfl ?_)
    refine ex_cons (ex1_assign (ev_idx (ev_name rfl rfl rfl) (ev_bin (ev_name rfl rfl rfl) (ev_name rfl rfl rfl) op_add_int) (pidx_nat (by lia) (get_trips (k := start + k) (by lia))) (by rw [List.length_map]; lia)) (.inl rfl) rfl ?_)
    have i3 : ∀ {K : Kn} {σ : Sig} {ω : Own} {x : Str} {px pk pos : Pos} {kk : Nat} {t : UInt64 × UInt64 × UInt64} {i : Int} {j : Nat} {y : PV}, σ.lookup x = some (pv3 t) → (x == ("__debug__" : Str)) = false → (x == ("__classdict__" : Str)) = false → i = j → [PV.flt t.1, .flt t.2.1, .flt t.2.2][j]? = some y →
        Ev g (d + 1) K σ ω (.Subscript (.Name x px) (.Constant (.int i) kk pk) pos) y := fun h h1 h2 hi hy => by
      subst hi
      exact ev_idxT (ev_name h h1 h2) ev_int hy (by show (3 : Nat) ≤ 4096; decide)
    refine ex_cons (ex1_if (b := !b) (evb_cmp (ev_call (it := iHsv) hd2 rfl (evl_cons (ev_bin (i3 rfl rfl rfl (j := 0) rfl rfl) (i3 rfl rfl rfl (j := 0) rfl rfl) op_add_flt) (evl_cons (ev_bin (i3 rfl rfl rfl (j := 1) rfl rfl) (i3 rfl rfl rfl (j := 1) rfl rfl) op_add_flt) (evl_cons (ev_bin (i3 rfl rfl rfl (j := 2) rfl rfl) (i3 rfl rfl rfl (j := 2) rfl rfl) op_add_flt) evl_nil)))
      (rgbHsv_walk hg q2) plHsv) (ev_tup3 (ev_idx (ev_name rfl rfl rfl) (ev_bin (ev_name rfl rfl rfl) (ev_name rfl rfl rfl) op_add_int) (pidx_nat (by (clear i3 hb2 hb1 q3 q2 q1 hk' hp hk hkc hT' hT h3 h2 h1 hs hl hN hd2 hd1 hg; omega)) (get_flts (k := start + k) (by (clear i3 hb2 hb1 q3 q2 q1 hk' hp hkc hT' hT h3 h2 h1 hs hN hd2 hd1 hg; omega)))) (by rw [List.length_map]; (clear i3 hb2 hb1 q3 q2 q1 hk' hp hk hkc hT' hT h3 h2 h1 hs hd2 hd1 hg hl; omega))) ev_flt ev_flt) (cm_ne q3)) (fun h => ?_) fun h => ?_)
    · have e := hb2 (by simpa using h)
      subst e
      refine ex_cons (ex1_break ?_)
      exact ex_cons (ex1_return (ev_name rfl rfl rfl) (.inl rfl))
    · have e := hb1 (by simpa using h)
      refine ex_nil ?_
      refine ex_cons (ex1_assign (ev_name rfl rfl rfl) (.inl rfl) rfl ?_)
      exact ex_nil ⟨by show k + 1 ≤ cnt; lia, .cons rfl (.cons rfl (.cons rfl (.cons rfl (.cons rfl .nil)))), .nil⟩
  · intro hI
    refine ex_nil ?_
    have e : (rangePV 0 (((hues.map PV.flt).length : Int) - start)).length = cnt := by
      have : (rangePV 0 (((hues.map PV.flt).length : Int) - start)).length = hues.length - start := by
        rw [rangePV_eq, List.length_map, rangeI_len, List.length_map]; lia
      rw [this] at hI ⊢
      lia
    rw [e]
    exact ex_cons (ex1_return (ev_name rfl rfl rfl) (.inl rfl))
end
end Mine

namespace Mine
open PySem PySem.W PyProof.Rows

noncomputable def natsP (l : List Nat) : PV := .lst (l.map fun (n : Nat) => PV.int n)

theorem get_nats {l : List Nat} {k : Nat} (h : k < l.length) : (l.map fun (n : Nat) => PV.int n)[k]? = some (.int (l.getD k 0 : Nat)) := by simp [h]

theorem Cm2.eq {op : CmpOp} {p q : PV} {b b' : Bool} (h : Cm2 op p q b) (e : b = b') : Cm2 op p q b' := e ▸ h
theorem cm_le_nat {a b : Nat} {i j : Int} (hi : i = a) (hj : j = b) : Cm2 .LtE (.int i) (.int j) (decide (a ≤ b)) := cm_le_int.eq (by subst hi hj; simp)
theorem cm_ge_nat {a b : Nat} {i j : Int} (hi : i = a) (hj : j = b) : Cm2 .GtE (.int i) (.int j) (decide (b ≤ a)) := cm_ge_int.eq (by subst hi hj; simp)
theorem cm_gt_nat {a b : Nat} {i j : Int} (hi : i = a) (hj : j = b) : Cm2 .Gt (.int i) (.int j) (decide (b < a)) := cm_gt_int.eq (by subst hi hj; simp)
theorem cm_eq_nat {a b : Nat} {i j : Int} (hi : i = a) (hj : j = b) : Cm2 .Eq (.int i) (.int j) (a == b) := cm_eq_int.eq (by
  subst hi hj
  rw [Bool.eq_iff_iff, beq_iff_eq, beq_iff_eq]; lia)

noncomputable def goesEnd (fits : List Nat) (motif : Nat) : Nat → Nat
  | 0 => 0
  | s + 1 => if (decide (s ≤ goesEnd fits motif s) && decide (motif ≤ fits.getD s 0)) then s + motif else goesEnd fits motif s

section
variable {g : Pg} {d : Nat}

theorem goes_walk (hg : ∀ x ∈ usedNames, x ∉ g.names) {fits : List Nat} {motif size : Nat} (h1 : motif ≤ size) (h2 : size ≤ fits.length) (hm : 1 ≤ motif) (hN : fits.length ≤ 100) :
    Fn g d iGoes [natsP fits, .int motif, .int size] (.bool (goesEnd fits motif (size - motif + 1) == size)) := by
  unfold Fn
  refine ex_cons (ex1_assign ev_int (.inl rfl) rfl ?_)
  refine ex_cons (ex1_forC (evit_range1 (ev_bin (ev_bin (ev_name rfl rfl rfl) (ev_name rfl rfl rfl) op_sub_int) ev_int op_add_int) (by lia) (by lia) rfl rfl (hg _ (by decide)))
    (by intro h; cases h) (fun k => [(Str.ofString "end", .int (goesEnd fits motif k : Nat)), (Str.ofString "fits", natsP fits), (Str.ofString "motif", .int motif), (Str.ofString "size", .int size)]) (fun _ => [])
    ⟨.cons rfl (.cons rfl (.cons rfl (.cons rfl .nil))), .nil⟩ ?_ ?_)
  · intro k p hp
    obtain ⟨hk, rfl⟩ := rangePV_get hp
    refine ⟨[(Str.ofString "start", .int (0 + k))], rfl, tgt1 (.inl rfl) rfl, ?_⟩
    rw [Int.zero_add]
    have hk2 : k < fits.length := by lia
    refine ex_cons (ex1_if (b := decide (k ≤ goesEnd fits motif k) && decide (motif ≤ fits.getD k 0)) (evb_and (b1 := decide (k ≤ goesEnd fits motif k)) (b2 := decide (motif ≤ fits.getD k 0))
      (evb_cmp (ev_name rfl rfl rfl) (ev_name rfl rfl rfl) (cm_le_nat rfl rfl)) fun _ => evb_cmp (ev_idx (ev_name rfl rfl rfl) (ev_name rfl rfl rfl) (pidx_nat rfl (get_nats hk2)) (by rw [List.length_map]; lia)) (ev_name rfl rfl rfl) (cm_ge_nat rfl rfl)) (fun h => ?_) fun h => ?_)
    · refine ex_cons (ex1_assign (ev_bin (ev_name rfl rfl rfl) (ev_name rfl rfl rfl) op_add_int) (.inl rfl) rfl (ex_nil (ex_nil ⟨.cons ?_ (.cons rfl (.cons rfl (.cons rfl .nil))), .nil⟩)))
      show some _ = some _
      rw [goesEnd, if_pos h]; rfl
    · refine ex_nil (ex_nil ⟨.cons ?_ (.cons rfl (.cons rfl (.cons rfl .nil))), .nil⟩)
      show some _ = some _
      rw [goesEnd, if_neg (by rw [h]; decide)]
  · refine ex_nil ?_
    have e : (rangePV 0 ((size : Int) - motif + 1)).length = size - motif + 1 := by rw [rangePV_eq, List.length_map, rangeI_len]; lia
    rw [e]
    exact ex_cons (ex1_return (ev_cmp (ev_name rfl rfl rfl) (ev_name rfl rfl rfl) (cm_eq_nat rfl rfl)) (.inl rfl))

/-! the pass -/

noncomputable def passMotifs (B : Nat → Nat) (st : List (List Nat) × List Nat) (size : Nat) : List Nat := (st.1.getD (B (size - 1)) []).filter (fun m => decide (size - m ≤ st.2.getD m 0)) ++ [size]
noncomputable def passReach (r : List Nat) (size : Nat) (ms : List Nat) : List Nat := ms.foldl (fun r m => r.set m size) r
noncomputable def passAt (B : Nat → Nat) (n : Nat) : Nat → List (List Nat) × List Nat
  | 0 => ([[]], List.replicate (n + 1) 0)
  | k + 1 => ((passAt B n k).1 ++ [passMotifs B (passAt B n k) (k + 1)], passReach (passAt B n k).2 (k + 1) (passMotifs B (passAt B n k) (k + 1)))

theorem passReach_len (size : Nat) : ∀ (ms r : List Nat), (passReach r size ms).length = r.length
  | [], r => rfl
  | m :: ms, r => by
    unfold passReach
    rw [List.foldl_cons]
    have := passReach_len size ms (r.set m size)
    unfold passReach at this
    rw [this, List.length_set]

theorem pass_inv {B : Nat → Nat} {n : Nat} (hB : ∀ j, j < n → B j ≤ j) : ∀ k, k ≤ n → (passAt B n k).1.length = k + 1 ∧ (passAt B n k).2.length = n + 1 ∧ ∀ j, j ≤ k → ∀ m ∈ (passAt B n k).1.getD j [], m ≤ j
  | 0, _ => ⟨rfl, by simp [passAt], fun j hj m hm => by
    have : j = 0 := by lia
    subst this; simp [passAt] at hm⟩
  | k + 1, hk => by
    obtain ⟨h1, h2, h3⟩ := pass_inv hB k (by lia)
    refine ⟨by simp [passAt, h1], by rw [passAt]; simp only; rw [passReach_len]; exact h2, fun j hj m hm => ?_⟩
    rw [passAt] at hm
    simp only at hm
    rcases Nat.lt_or_ge j (k + 1) with h | h
    · rw [List.getD_eq_getElem?_getD, List.getElem?_append_left (by lia), ← List.getD_eq_getElem?_getD] at hm
      exact h3 j (by lia) m hm
    · have : j = k + 1 := by lia
      subst this
      rw [List.getD_eq_getElem?_getD, List.getElem?_append_right (by lia), h1] at hm
      simp only [Nat.sub_self, List.getElem?_cons_zero, Option.getD_some] at hm
      unfold passMotifs at hm
      rcases List.mem_append.mp hm with h | h
      · have hb := hB k (by lia)
        have := h3 (B k) (by lia) m (List.mem_filter.mp h).1
        lia
      · simp at h; lia

theorem pass_few {B : Nat → Nat} {n : Nat} (hB : ∀ j, j < n → B j ≤ j) : ∀ k, k ≤ n → ∀ j, j ≤ k → ((passAt B n k).1.getD j []).length ≤ j + 1
  | 0, _, j, hj => by
    have : j = 0 := by omega
    subst this; simp [passAt]
  | k + 1, hk, j, hj => by
    obtain ⟨h1, h2, h3⟩ := pass_inv hB k (by lia)
    rw [passAt]
    simp only
    rcases Nat.lt_or_ge j (k + 1) with h | h
    · rw [List.getD_eq_getElem?_getD, List.getElem?_append_left (by lia), ← List.getD_eq_getElem?_getD]
      exact pass_few hB k (by lia) j (by lia)
    · have : j = k + 1 := by lia
      subst this
      rw [List.getD_eq_getElem?_getD, List.getElem?_append_right (by (clear h hj h3 h2 hk hB; omega)), h1]
      simp only [Nat.sub_self, List.getElem?_cons_zero, Option.getD_some]
      unfold passMotifs
      have hb := hB k (by (clear h hj h3 hB h2 h1; omega))
      have := pass_few hB k (by lia) (B k) (by lia)
      have := List.length_filter_le (fun m => decide (k + 1 - m ≤ (passAt B n k).2.getD m 0)) ((passAt B n k).1.getD (B k) [])
      rw [List.length_append]
      show _ + 1 ≤ _
      simp only [Nat.add_sub_cancel]
      lia

theorem get_told {l : List (List Nat)} {k : Nat} (h : k < l.length) : (l.map natsP)[k]? = some (natsP (l.getD k [])) := by simp [h]

theorem rangePV_nat (b : Int) : rangePV 0 b = (List.range b.toNat).map fun (n : Nat) => PV.int n := by
  unfold rangePV
  rw [Int.sub_zero]
  refine List.map_congr_left fun k _ => by rw [Int.zero_add]

theorem pass_walk (hg : ∀ x ∈ usedNames, x ∉ g.names) {B : Nat → Nat} {n : Nat} (hB : ∀ j, j < n → B j ≤ j) (hn : n ≤ 100) : Fn g d iPass [natsP ((List.range n).map B)] (.lst ((passAt B n n).1.map natsP)) := by
  unfold Fn
  have hlen : ∀ {σ ω pos pos' pos''}, σ.lookup (Str.ofString "table") = some (natsP ((List.range n).map B)) → Ev g d iPass.scope.names σ ω (.Call (.Name "len" pos) [.Name "table" pos'] [] pos'') (.int n) := fun h =>
    (ev_callB rfl (hg _ (by decide)) boot_len (evl_cons (ev_name h rfl rfl) evl_nil) (cv_len (by simp; lia))).eq (by simp)
  refine ex_cons (ex1_own (l := [natsP []]) (evn_list (evl_cons (ev_list evl_nil (by decide)) evl_nil) (by show (1 : Nat) ≤ 4096; decide)) (.inl rfl) rfl rfl ?_)
  refine ex_cons (ex1_own (evn_rep (ev_list (evl_cons ev_int evl_nil) (by decide)) (ev_bin (hlen rfl) ev_int op_add_int) (by lia) (by simp; lia) (by lia)) (.inr rfl) rfl rfl ?_)
  have e0 : (List.replicate ((n : Int) + 1).toNat [PV.int 0]).flatten = (passAt B n 0).2.map fun (n : Nat) => PV.int n := by
    rw [flat_rep]; simp [passAt]
  rw [e0]
  refine ex_cons (ex1_forC (evit_range2 ev_int (ev_bin (hlen rfl) ev_int op_add_int) (by decide) (by decide) (by (clear e0 hlen hB hg hn; omega)) (by omega) rfl rfl (hg _ (by decide)))
    (by intro h; cases h) (fun k => [(Str.ofString "table", natsP ((List.range n).map B))]) (fun k => [(Str.ofString "told", (passAt B n k).1.map natsP), (Str.ofString "reach", (passAt B n k).2.map fun (n : Nat) => PV.int n)])
    ⟨.cons rfl .nil, .cons rfl (.cons rfl .nil)⟩ ?_ ?_)
  · intro k p hp
    obtain ⟨hk, rfl⟩ := rangePV_get hp
    refine ⟨[(Str.ofString "size", .int (1 + k))], rfl, tgt1 (.inr rfl) rfl, ?_⟩
    rw [show (1 + (k : Int)) = ((k + 1 : Nat) : Int) by lia]
    obtain ⟨i1, i2, i3⟩ := pass_inv hB k (by lia)
    have hBk := hB k (by lia)
    have ms_le : ∀ m ∈ (passAt B n k).1.getD (B k) [], m ≤ k := fun m hm => Nat.le_trans (i3 _ hBk m hm) hBk
    have tlen : ((passAt B n k).1.map natsP).length ≤ 4096 := by rw [List.length_map]; lia
    have rlen : ((passAt B n k).2.map fun (n : Nat) => PV.int n).length ≤ 4096 := by rw [List.length_map]; lia
    have few1 : ((passAt B n k).1.getD (B k) []).length ≤ k + 1 := Nat.le_trans (pass_few hB k (by lia) (B k) hBk) (by lia)
    have hget : (((List.range n).map B).map fun (n : Nat) => PV.int n)[k]? = some (.int (B k)) := by
      rw [List.getElem?_map, List.getElem?_map, List.getElem?_range (by (clear few1 rlen tlen ms_le hBk i3 hp e0 hlen hn hB hg i2 i1; omega))]; rfl
    -- the motifs
    refine ex_cons (ex1_assign (p := natsP (passMotifs B (passAt B n k) (k + 1))) ((ev_bin (ev_compE (fun (n : Nat) => PV.int n) (fun p => p.asInt.toNat) (fun a => by simp [PV.asInt]) [(Str.ofString "size", .int (k + 1 : Nat))] [(Str.ofString "reach", (passAt B n k).2.map fun (n : Nat) => PV.int n)]
      (fun m => decide (k + 1 - m ≤ (passAt B n k).2.getD m 0)) (fun m => PV.int m) (l := (passAt B n k).1.getD (B k) [])
      (evit_list ((ev_own_idx rfl (ev_idx (ev_name rfl rfl rfl) (ev_bin (ev_name rfl rfl rfl) ev_int op_sub_int) (pidx_nat (j := k) (by lia) hget) (by rw [List.length_map, List.length_map, List.length_range]; lia)) (pidx_nat rfl (get_told (by lia))) tlen)))
      (by intro h; cases h) (by decide) (.cons rfl rfl .nil) (.cons rfl rfl .nil) (fun m hm => ⟨_, rfl, tgt1 (.inl rfl) rfl,
        evifs_one (evb_cmp (ev_own_idx rfl (ev_name rfl rfl rfl) (pidx_nat rfl (get_nats (by have := ms_le m hm; lia))) rlen) (ev_bin (ev_name rfl rfl rfl) (ev_name rfl rfl rfl) op_sub_int) (cm_ge_nat rfl (by have := ms_le m hm; lia))), fun _ => ev_name rfl rfl rfl⟩) (by lia))
      (ev_list (evl_cons (ev_name rfl rfl rfl) evl_nil) (by show (1 : Nat) ≤ 4096; decide)) (op_add_lst ?_)).eq ?_) (.inl rfl) rfl ?_)
    · rw [List.length_map]
      have := List.length_filter_le (fun m => decide (k + 1 - m ≤ (passAt B n k).2.getD m 0)) ((passAt B n k).1.getD (B k) [])
      show _ + 1 ≤ 4096; lia
    · unfold natsP passMotifs
      rw [List.map_append]; rfl
    -- how far each reaches
    refine ex_cons (ex1_forC (evit_list (ev_name rfl rfl rfl)) (by intro h; cases h)
      (fun j => [(Str.ofString "motifs", natsP (passMotifs B (passAt B n k) (k + 1))), (Str.ofString "size", .int (k + 1 : Nat)), (Str.ofString "table", natsP ((List.range n).map B))])
      (fun j => [(Str.ofString "told", (passAt B n k).1.map natsP), (Str.ofString "reach", (passReach (passAt B n k).2 (k + 1) ((passMotifs B (passAt B n k) (k + 1)).take j)).map fun (n : Nat) => PV.int n)])
      ⟨.cons rfl (.cons rfl (.cons rfl .nil)), .cons rfl (.cons rfl .nil)⟩ ?_ ?_)
    · intro j q hq
      rw [List.getElem?_map] at hq
      cases hm : (passMotifs B (passAt B n k) (k + 1))[j]? with
      | none => rw [hm] at hq; simp at hq
      | some m =>
        rw [hm] at hq
        simp at hq
        subst hq
        have hmk : m ≤ k + 1 := by
          have hmem := List.mem_of_getElem? hm
          unfold passMotifs at hmem
          rcases List.mem_append.mp hmem with h | h
          · have := ms_le m (List.mem_filter.mp h).1; lia
          · simp at h; (clear hmem hm hget few1 rlen tlen ms_le hBk i3 i2 hp hk e0 hlen hn hB hg; omega)
        refine ⟨_, rfl, tgt1 (.inl rfl) rfl, ?_⟩
        refine ex_cons (ex1_setidx (ev_name rfl rfl rfl) (ev_name rfl rfl rfl) rfl (by decide) (by lia) (by rw [List.length_map, passReach_len]; lia) (by rw [List.length_map, passReach_len]; lia) ?_)
        refine ex_nil ⟨.cons rfl (.cons rfl (.cons rfl .nil)), .cons rfl (.cons ?_ .nil)⟩
        show some _ = some _
        rw [List.take_add_one, hm, Int.toNat_natCast]
        unfold passReach
        rw [List.foldl_append]
        simp [List.map_set]
    · refine ex_nil ?_
      have e : (passMotifs B (passAt B n k) (k + 1)).take ((passMotifs B (passAt B n k) (k + 1)).map fun (n : Nat) => PV.int n).length = passMotifs B (passAt B n k) (k + 1) := List.take_of_length_le (by rw [List.length_map]; exact Nat.le_refl _)
      rw [e]
      refine ex_cons (ex1_append (ev_name rfl rfl rfl) rfl (by decide) tlen ?_)
      refine ex_nil ⟨.cons rfl .nil, .cons ?_ (.cons rfl .nil)⟩
      show some _ = some _
      rw [passAt, List.map_append]; rfl
  · refine ex_nil ?_
    have e : (rangePV 1 ((n : Int) + 1)).length = n := by rw [rangePV_eq, List.length_map, rangeI_len]; lia
    rw [e]
    exact ex_cons (ex1_return_own rfl (by decide) (.inl rfl))
end
end Mine

namespace Mine
open PySem PySem.W PyProof.Rows

noncomputable def fq : UInt64 := 4598175219545276416
noncomputable def startsOf (fits : List Nat) (motif size : Nat) : List Nat := (List.range (size - motif + 1)).filter fun s => decide (motif ≤ fits.getD s 0)
noncomputable def covers (motif point s : Nat) : Bool := decide (s ≤ point) && decide (point ≤ s + motif)
noncomputable def dimF (L : UInt64 × UInt64 × UInt64) : Nat → UInt64 × UInt64 × UInt64
  | 0 => (f1, f1, f1)
  | n + 1 => (Float64.sub (dimF L n).1 L.1, Float64.sub (dimF L n).2.1 L.2.1, Float64.sub (dimF L n).2.2 L.2.2)
noncomputable def litOf (motif point : Nat) (l : List Nat) : Nat := (l.filter (covers motif point)).length

noncomputable def OnceAt (hues : List UInt64) (fits : List Nat) (motif size point : Nat) : Prop :=
  ∃ L c, (∀ s ∈ startsOf fits motif size, covers motif point s = true → hsvRgb (Float64.add (hues.getD (point - s) 0) (fmod (Float64.sub (hues.getD s 0) (hues.getD 0 0)) f1)) f1 fh = some L) ∧
    litOf motif point (startsOf fits motif size) ≤ 2 ∧
    rgbHls (dimF L (litOf motif point (startsOf fits motif size))).1 (dimF L (litOf motif point (startsOf fits motif size))).2.1 (dimF L (litOf motif point (startsOf fits motif size))).2.2 = some c ∧
    peq 8 (pv3 c) (.tup [.flt (fmod (Float64.add (hues.getD point 0) fh) f1), .flt (Float64.sub f1 (Float64.mul fq (Float64.ofInt (litOf motif point (startsOf fits motif size))))), .flt f1]) = some true

noncomputable def tgtOkB (K : Kn) (ω : Own) (t : Expr) : Bool := (tgts t).all fun x => (K.lookup x == some .local || K.lookup x == some .cell) && (ω.lookup x).isNone
theorem tgt_of {K : Kn} {ω : Own} {t : Expr} (h : tgtOkB K ω t = true) : tgtOk K ω t := fun x hx => by
  unfold tgtOkB at h
  have := List.all_eq_true.mp h x hx
  simp only [Bool.and_eq_true, Bool.or_eq_true, beq_iff_eq, Option.isNone_iff_eq_none] at this
  exact this

theorem inf012 {n : Nat} (h : n ≤ 2) : Float64.isInf (Float64.ofInt n) = false := by
  have : n = 0 ∨ n = 1 ∨ n = 2 := by lia
  rcases this with rfl | rfl | rfl <;> decide +kernel

section
variable {g : Pg} {d : Nat}

theorem once_walk (hg : ∀ x ∈ usedNames, x ∉ g.names) (hd1 : iRgb ∈ g.defs) (hd2 : iHls ∈ g.defs) {hues : List UInt64} {fits : List Nat} {motif size : Nat} (hN : hues.length ≤ 100) (hf : fits.length ≤ 100) (hm : motif ≤ size) (hs : size < hues.length) (hs2 : size ≤ fits.length) (hm1 : 1 ≤ motif)
    (H : ∀ point, point ≤ size → OnceAt hues fits motif size point) : Fn g (d + 1) iOnce [flts hues, natsP fits, .int motif, .int size] (.bool true) := by
  unfold Fn
  have sm : ∀ s ∈ startsOf fits motif size, s ≤ size - motif := fun s h => by
    have := List.mem_range.mp (List.mem_filter.mp h).1; lia
  have slen : (startsOf fits motif size).length ≤ 200 := by
    have := List.length_filter_le (fun s => decide (motif ≤ fits.getD s 0)) (List.range (size - motif + 1))
    unfold startsOf
    rw [List.length_range] at this; lia
  refine ex_cons (ex1_assign_compE (fun (n : Nat) => PV.int n) (fun p => p.asInt.toNat) (fun a => by simp [PV.asInt]) [(Str.ofString "fits", natsP fits), (Str.ofString "motif", .int motif)] [] (fun s => decide (motif ≤ fits.getD s 0)) (fun s => PV.int s) (l := List.range (size - motif + 1))
    ((evit_range1 (ev_bin (ev_bin (ev_name rfl rfl rfl) (ev_name rfl rfl rfl) op_sub_int) ev_int op_add_int) (by lia) (by lia) rfl rfl (hg _ (by decide))).eq ?_) (by intro h; cases h) (by decide) (.cons rfl rfl (.cons rfl rfl .nil)) .nil
    (fun s hs => ⟨_, rfl, tgt1 (.inl rfl) rfl, evifs_one (evb_cmp (ev_idx (ev_name rfl rfl rfl) (ev_name rfl rfl rfl) (pidx_nat rfl (get_nats (by have := List.mem_range.mp hs; (clear hs slen sm H hf hN hd2 hd1 hg; omega)))) (by rw [List.length_map]; lia)) (ev_name rfl rfl rfl) (cm_ge_nat rfl rfl)), fun _ => ev_name rfl rfl rfl⟩) (by rw [List.length_range]; lia)
    rfl rfl rfl ?_)
  · rw [rangePV_nat]; congr 2; lia
  show Ex _ _ _ _ _ _ _
  refine ex_cons (ex1_forC (evit_range1 (ev_bin (ev_name rfl rfl rfl) ev_int op_add_int) (by lia) (by lia) rfl rfl (hg _ (by decide)))
    (by intro h; cases h) (fun k => [(Str.ofString "starts", natsP (startsOf fits motif size)), (Str.ofString "hues", flts hues), (Str.ofString "motif", .int motif), (Str.ofString "size", .int size)]) (fun _ => [])
    ⟨.cons rfl (.cons rfl (.cons rfl (.cons rfl .nil))), .nil⟩ ?_ ?_)
  · intro k p hp
    obtain ⟨hk, rfl⟩ := rangePV_get hp
    refine ⟨[(Str.ofString "point", .int (0 + k))], rfl, tgt1 (.inl rfl) rfl, ?_⟩
    rw [Int.zero_add]
    obtain ⟨L, c, hL, hlit, hc, hpe⟩ := H k (by lia)
    refine ex_cons (ex1_assign_tup (ev_tuple (evl_cons ev_flt (evl_cons ev_flt (evl_cons ev_flt (evl_cons ev_int evl_nil)))) (by show (4 : Nat) ≤ 4096; decide)) rfl (tgt_of rfl) ?_)
    refine ex_cons (ex1_forC (evit_list (ev_name rfl rfl rfl)) (by intro h; cases h)
      (fun j => [(Str.ofString "red", .flt (dimF L (litOf motif k ((startsOf fits motif size).take j))).1), (Str.ofString "green", .flt (dimF L (litOf motif k ((startsOf fits motif size).take j))).2.1), (Str.ofString "blue", .flt (dimF L (litOf motif k ((startsOf fits motif size).take j))).2.2),
        (Str.ofString "lit", .int (litOf motif k ((startsOf fits motif size).take j) : Nat)), (Str.ofString "point", .int k), (Str.ofString "starts", natsP (startsOf fits motif size)), (Str.ofString "hues", flts hues), (Str.ofString "motif", .int motif), (Str.ofString "size", .int size)]) (fun _ => [])
      ⟨.cons rfl (.cons rfl (.cons rfl (.cons rfl (.cons rfl (.cons rfl (.cons rfl (.cons rfl (.cons rfl .nil)))))))), .nil⟩ ?_ ?_)
    · intro j q hq
      rw [List.getElem?_map] at hq
      cases hm' : (startsOf fits motif size)[j]? with
      | none => rw [hm'] at hq; simp at hq
      | some s =>
        rw [hm'] at hq
        simp at hq
        subst hq
        have hmem := List.mem_of_getElem? hm'
        have hss := sm s hmem
        refine ⟨_, rfl, tgt1 (.inl rfl) rfl, ?_⟩
        have htake : litOf motif k ((startsOf fits motif size).take (j + 1)) = litOf motif k ((startsOf fits motif size).take j) + (if covers motif k s then 1 else 0) := by
          rw [List.take_add_one, hm']
          unfold litOf
          rw [List.filter_append, List.length_append]
          cases hcv : covers motif k s <;> simp [hcv]
        refine ex_cons (ex1_if (b := covers motif k s) (evb_chain (b1 := decide (s ≤ k)) (b2 := decide (k ≤ s + motif)) (ev_name rfl rfl rfl) (ev_name rfl rfl rfl) (cm_le_nat rfl rfl) (fun _ => ev_bin (ev_name rfl rfl rfl) (ev_name rfl rfl rfl) op_add_int) (fun _ => cm_le_nat rfl rfl)) (fun h => ?_) fun h => ?_)
        · rw [h] at htake
          simp only [if_true] at htake
          have hsk : s ≤ k := by unfold covers at h; simp at h; exact h.1
          have hq := hL s hmem h
          refine ex_cons (ex1_assign (p := pv3 L) (ev_call (it := iRgb) hd1 rfl (evl_cons (ev_bin (ev_idx (ev_name rfl rfl rfl) (ev_bin (ev_name rfl rfl rfl) (ev_name rfl rfl rfl) op_sub_int) (pidx_nat (j := k - s) (by (clear hq htake h hss hmem hm' hpe hc hlit hL hp hk slen sm H hm1 hs2 hs hm hf hN hd2 hd1 hg; omega)) (get_flts (by (clear hq htake h hss hmem hm' hpe hc hlit hL hp slen sm H hm1 hs2 hm hf hN hd2 hd1 hg hsk; omega)))) (by rw [List.length_map]; lia))
            (ev_bin (ev_bin (ev_idx (ev_name rfl rfl rfl) (ev_name rfl rfl rfl) (pidx_nat rfl (get_flts (by lia))) (by rw [List.length_map]; (clear hq hsk htake h hss hmem hm' hpe hc hlit hL hp hk slen sm H hm1 hs2 hs hm hf hd2 hd1 hg; omega))) (ev_idx (ev_name rfl rfl rfl) ev_int (pidx_nat (j := 0) rfl (get_flts (by lia))) (by rw [List.length_map]; (clear hq hsk htake h hss hmem hm' hpe hc hlit hL hp hk slen sm H hm1 hs2 hs hm hf hd2 hd1 hg; omega))) op_sub_flt) ev_flt (op_mod_flt z1)) op_add_flt)
            (evl_cons ev_flt (evl_cons ev_flt evl_nil))) (hsvRgb_walk hg hq) plRgb) (.inl rfl) rfl ?_)
          have i3 : ∀ {K : Kn} {σ : Sig} {ω : Own} {x : Str} {px pk pos : Pos} {kk : Nat} {t : UInt64 × UInt64 × UInt64} {i : Int} {j : Nat} {y : PV}, σ.lookup x = some (pv3 t) → (x == ("__debug__" : Str)) = false → (x == ("__classdict__" : Str)) = false → i = j → [PV.flt t.1, .flt t.2.1, .flt t.2.2][j]? = some y →
              Ev g (d + 1) K σ ω (.Subscript (.Name x px) (.Constant (.int i) kk pk) pos) y := fun h h1 h2 hi hy => by
            subst hi
            exact ev_idxT (ev_name h h1 h2) ev_int hy (by show (3 : Nat) ≤ 4096; decide)
          refine ex_cons (ex1_assign_tup (ev_tuple (evl_cons (ev_bin (ev_name rfl rfl rfl) (i3 rfl rfl rfl (j := 0) rfl rfl) op_sub_flt) (evl_cons (ev_bin (ev_name rfl rfl rfl) (i3 rfl rfl rfl (j := 1) rfl rfl) op_sub_flt) (evl_cons (ev_bin (ev_name rfl rfl rfl) (i3 rfl rfl rfl (j := 2) rfl rfl) op_sub_flt)
            (evl_cons (ev_bin (ev_name rfl rfl rfl) ev_int op_add_int) evl_nil)))) (by show (4 : Nat) ≤ 4096; decide)) rfl (tgt_of rfl) (ex_nil (ex_nil ⟨?_, .nil⟩)))
          rw [htake]
          exact .cons rfl (.cons rfl (.cons rfl (.cons rfl (.cons rfl (.cons rfl (.cons rfl (.cons rfl (.cons rfl .nil))))))))
        · rw [h] at htake
          simp only [Bool.false_eq_true, if_false, Nat.add_zero] at htake
          refine ex_nil (ex_nil ⟨?_, .nil⟩)
          rw [htake]
          exact .cons rfl (.cons rfl (.cons rfl (.cons rfl (.cons rfl (.cons rfl (.cons rfl (.cons rfl (.cons rfl .nil))))))))
    · refine ex_nil ?_
      have e : (startsOf fits motif size).take ((startsOf fits motif size).map fun (n : Nat) => PV.int n).length = startsOf fits motif size := List.take_of_length_le (by rw [List.length_map]; exact Nat.le_refl _)
      rw [e]
      generalize hll : litOf motif k (startsOf fits motif size) = lit at *
      refine ex_cons (ex1_if (b := false) (evb_or (b1 := false) (b2 := false) (evb_cmp (ev_name rfl rfl rfl) ev_int ((cm_gt_nat (b := 2) rfl rfl).eq (by simpa using hlit))) fun _ =>
        evb_cmp (ev_call (it := iHls) hd2 rfl (evl_cons (ev_name rfl rfl rfl) (evl_cons (ev_name rfl rfl rfl) (evl_cons (ev_name rfl rfl rfl) evl_nil))) (rgbHls_walk hg hc) plHls)
          (ev_tup3 (ev_bin (ev_bin (ev_idx (ev_name rfl rfl rfl) (ev_name rfl rfl rfl) (pidx_nat rfl (get_flts (by lia))) (by rw [List.length_map]; lia)) ev_flt op_add_flt) ev_flt (op_mod_flt z1)) (ev_bin ev_flt (ev_bin ev_flt (ev_name rfl rfl rfl) (op_mul_fi (inf012 hlit))) op_sub_flt) ev_flt) ((cm_ne hpe).eq rfl)) (fun h => nomatch h) fun _ => ?_)
      refine ex_nil (ex_nil ⟨.cons rfl (.cons rfl (.cons rfl (.cons rfl .nil))), .nil⟩)
  · refine ex_nil ?_
    exact ex_cons (ex1_return ev_bool (.inl rfl))
end
end Mine

namespace Mine
open PySem PySem.W PyProof.Rows

/-- the float of k / 64 -/
noncomputable def Fk (k : Nat) : UInt64 := fracF k 64
noncomputable def get3 (o : Option (UInt64 × UInt64 × UInt64)) : UInt64 × UInt64 × UInt64 := o.getD (0, 0, 0)
/-- the light of a hue, full share, value a half -/
noncomputable def Lt (k : Nat) : UInt64 × UInt64 × UInt64 := get3 (hsvRgb (Fk k) f1 fh)
/-- the hue across -/
noncomputable def Fx (k : Nat) : UInt64 := fmod (Float64.add (Fk k) fh) f1
noncomputable def Lf (k : Nat) : UInt64 × UInt64 × UInt64 := get3 (hsvRgb (Fx k) fh f1)

/-- what is asked of one hue -/
structure HueOk (k : Nat) : Prop where
  inf : Float64.isInf (Fk k) = false
  light : hsvRgb (Fk k) f1 fh = some (Lt k)
  hsv : rgbHsv (Lt k).1 (Lt k).2.1 (Lt k).2.2 = some (Fk k, f1, fh)
  hls : rgbHls (Lt k).1 (Lt k).2.1 (Lt k).2.2 = some (Fk k, fq, f1)
  six : peq 7 (.tup [.flt (Fk k), .flt f1, .flt fh, .flt (Fk k), .flt fq, .flt f1]) (.tup [.flt (Fk k), .flt f1, .flt fh, .flt (Fk k), .flt fq, .flt f1]) = some true
  left : hsvRgb (Fx k) fh f1 = some (Lf k)
  left1 : peq 7 (pv3 (Lf k)) (.tup [.flt (Float64.sub f1 (Lt k).1), .flt (Float64.sub f1 (Lt k).2.1), .flt (Float64.sub f1 (Lt k).2.2)]) = some true
  left2 : ∃ c, rgbHsv (Lf k).1 (Lf k).2.1 (Lf k).2.2 = some c ∧ peq 7 (pv3 c) (.tup [.flt (Fx k), .flt fh, .flt f1]) = some true

noncomputable def stepsF (R : List Nat) (n : Nat) : List UInt64 := (List.range n).map fun k => fmod (Float64.sub ((R.map Fk).getD (k + 1) 0) ((R.map Fk).getD k 0)) f1
noncomputable def longestOf (fits : List Nat) (size : Nat) : Nat := (((List.range (size - 1)).map (· + 1)).filter (fun s => decide (size ≤ s + fits.getD s 0))).foldl (fun m s => max m (size - s)) 0
noncomputable def motifsOf (fits : List Nat) (size : Nat) : List Nat := ((List.range size).map (· + 1)).filter fun m => goesEnd fits m (size - m + 1) == size

structure Law1 (xs : List Int) (R : List Nat) (n : Nat) (eq : Nat → Nat → Bool) (B B' : Nat → Nat) (fits : List Nat) : Prop where
  row : rowOf xs = R.map fun (k : Nat) => (k : Int)
  len : R.length = n + 1
  n1 : 1 ≤ n
  n2 : n ≤ 50
  hue : ∀ k ∈ R, HueOk k
  eq_ok : ∀ i j, i < n → j < n → peq 8 (.flt ((stepsF R n).getD i 0)) (.flt ((stepsF R n).getD j 0)) = some (eq i j)
  kmp : Kmp eq n B
  kmp' : Kmp (fun i j => eq (n - 1 - i) (n - 1 - j)) n B'
  back : (passAt B n n).1.getD n [] = (passAt B' n n).1.getD n []
  flen : fits.length = n
  fzero : fits.getD 0 0 = n
  fitAt : ∀ start, 1 ≤ start → start < n → ∃ cnt, fits.getD start 0 = cnt - 1 ∧ (∀ k, k < cnt → FitAt (R.map Fk) (R.map Lt) start k true) ∧ start + cnt ≤ n + 1 ∧ (start + cnt < n + 1 → FitAt (R.map Fk) (R.map Lt) start cnt false)
  long : ∀ size, 1 ≤ size → size ≤ n → B (size - 1) = longestOf fits size
  mot : ∀ size, 1 ≤ size → size ≤ n → (passAt B n n).1.getD size [] = motifsOf fits size
  once : ∀ size, 1 ≤ size → size ≤ n → 1 < ((passAt B n n).1.getD size []).length → ∀ point, point ≤ size → OnceAt (R.map Fk) fits (((passAt B n n).1.getD size []).getD 0 0) size point

theorem peqL_map {α : Type} {f : PV → PV → Option Bool} {F G : α → PV} : ∀ {l : List α}, (∀ a ∈ l, f (F a) (G a) = some true) → peqL f (l.map F) (l.map G) = some true
  | [], _ => rfl
  | a :: r, h => by
    rw [List.map_cons, List.map_cons, peqL, h a List.mem_cons_self, peqL_map fun b hb => h b (List.mem_cons_of_mem _ hb)]; rfl
theorem peq_lst_map {α : Type} {m : Nat} {F G : α → PV} {l : List α} (h : ∀ a ∈ l, peq m (F a) (G a) = some true) : peq (m + 1) (.lst (l.map F)) (.lst (l.map G)) = some true := by
  rw [peq, if_pos (by simp)]; exact peqL_map h
theorem peq_nats {m : Nat} (l : List Nat) : peq (m + 2) (natsP l) (natsP l) = some true := peq_lst_map fun a _ => by simp [peq]

theorem natsP_ints (R : List Nat) : intsP (R.map fun (k : Nat) => (k : Int)) = natsP R := by unfold intsP natsP; rw [List.map_map]; rfl

noncomputable def dec3 (p : PV) : UInt64 × UInt64 × UInt64 := ((p.asTup.getD 0 .none).asFlt, (p.asTup.getD 1 .none).asFlt, (p.asTup.getD 2 .none).asFlt)
noncomputable def sixOf (a : UInt64 × UInt64 × UInt64) : PV := .tup [.flt (get3 (rgbHsv a.1 a.2.1 a.2.2)).1, .flt (get3 (rgbHsv a.1 a.2.1 a.2.2)).2.1, .flt (get3 (rgbHsv a.1 a.2.1 a.2.2)).2.2,
  .flt (get3 (rgbHls a.1 a.2.1 a.2.2)).1, .flt (get3 (rgbHls a.1 a.2.1 a.2.2)).2.1, .flt (get3 (rgbHls a.1 a.2.1 a.2.2)).2.2]
noncomputable def six (k : Nat) : PV := .tup [.flt (Fk k), .flt f1, .flt fh, .flt (Fk k), .flt fq, .flt f1]

section
variable {g : Pg}

theorem law_walk (hg : ∀ x ∈ usedNames, x ∉ g.names) (hdefs : g.defs = [iKmp, iHls, iHsv, iRgb, iRow, iFits, iGoes, iPass, iOnce, iLaw]) {xs : List Int} {R : List Nat} {n : Nat} {eq : Nat → Nat → Bool} {B B' : Nat → Nat} {fits : List Nat}
    (hx : xs.length ≤ 63) (L : Law1 xs R n eq B B' fits) : Fn g 3 iLaw [intsP xs] (.bool true) := by
  unfold Fn
  have m : ∀ it, it ∈ [iKmp, iHls, iHsv, iRgb, iRow, iFits, iGoes, iPass, iOnce, iLaw] → it ∈ g.defs := fun it h => hdefs ▸ h
  have hlen := L.len
  have hn2 := L.n2
  have hn1 := L.n1
  refine ex_cons (ex1_assign (p := natsP R) ((ev_call (it := iRow) (m _ (by simp)) rfl (evl_cons (ev_name rfl rfl rfl) evl_nil) (row_walk hg xs hx) plRow).eq (by rw [L.row, natsP_ints])) (.inl rfl) rfl ?_)
  -- k / 64 in any block
  have k64 : ∀ {K : Kn} {σ : Sig} {ω : Own} {p1 p2 p3 : Pos} {k kk : Nat}, k ∈ R → σ.lookup (Str.ofString "k") = some (PV.int k) → Ev g 3 K σ ω (.BinOp (.Name "k" p1) .Div (.Constant (.int 64) kk p2) p3) (.flt (Fk k)) := fun hk h =>
    ev_bin (ev_name h rfl rfl) ev_int (op_div_ii (by decide) (L.hue _ hk).inf)
  have kx : ∀ {K : Kn} {σ : Sig} {ω : Own} {p1 p2 p3 p4 p5 p6 p7 : Pos} {k k1 k2 k3 : Nat}, k ∈ R → σ.lookup (Str.ofString "k") = some (PV.int k) →
      Ev g 3 K σ ω (.BinOp (.BinOp (.BinOp (.Name "k" p1) .Div (.Constant (.int 64) k1 p2) p3) .Add (.Constant (.float 4602678819172646912) k2 p4) p5) .Mod (.Constant (.float 4607182418800017408) k3 p6) p7) (.flt (Fx k)) := fun hk h =>
    ev_bin (ev_bin (k64 hk h) ev_flt op_add_flt) ev_flt (op_mod_flt z1)
  have dn : ∀ a : Nat, (PV.int a).asInt.toNat = a := fun a => by simp [PV.asInt]
  have rl : R.length ≤ 4096 := by lia
  -- lights
  refine ex_cons (ex1_assign_cell (p := trips (R.map Lt)) ((ev_compE (fun (n : Nat) => PV.int n) (fun p => p.asInt.toNat) dn [] [] (fun _ => true) (fun k => pv3 (Lt k)) (l := R) (evit_list (ev_name rfl rfl rfl)) (by intro h; cases h) (by decide) .nil .nil
    (fun k hk => ⟨_, rfl, tgt1 (.inl rfl) rfl, evifs_nil, fun _ => ev_call (it := iRgb) (m _ (by simp)) rfl (evl_cons (k64 hk rfl) (evl_cons ev_flt (evl_cons ev_flt evl_nil))) (hsvRgb_walk hg (L.hue k hk).light) plRgb⟩) rl).eq (by rw [filter_tt]; unfold trips; rw [List.map_map]; rfl)) rfl rfl ?_)
  -- what is read of them
  refine ex_cons (ex1_assign_compE pv3 dec3 (fun _ => rfl) [] [] (fun _ => true) sixOf (l := R.map Lt) (evit_list (ev_name rfl rfl rfl)) (by intro h; cases h) (by decide) .nil .nil
    (fun a ha => ⟨_, rfl, tgt_of rfl, evifs_nil, fun _ => ?_⟩) (by rw [List.length_map]; (clear rl dn kx k64 m L hx hdefs hg hn1; omega)) rfl rfl rfl ?_)
  · obtain ⟨k, hk, rfl⟩ := List.mem_map.mp ha
    have h1 := (L.hue k hk).hsv
    have h2 := (L.hue k hk).hls
    refine (ev_bin (ev_call (it := iHsv) (m _ (by simp)) rfl (evl_cons (ev_name rfl rfl rfl) (evl_cons (ev_name rfl rfl rfl) (evl_cons (ev_name rfl rfl rfl) evl_nil))) (rgbHsv_walk hg h1) plHsv)
      (ev_call (it := iHls) (m _ (by simp)) rfl (evl_cons (ev_name rfl rfl rfl) (evl_cons (ev_name rfl rfl rfl) (evl_cons (ev_name rfl rfl rfl) evl_nil))) (rgbHls_walk hg h2) plHls) (op_add_tup (by simp) (by simp) (by show (3 : Nat) + 3 ≤ 4096; decide))).eq ?_
    unfold sixOf; rw [h1, h2]; rfl
  have e1 : ((R.map Lt).filter fun _ => true).map sixOf = R.map six := by
    rw [filter_tt, List.map_map]
    refine List.map_congr_left fun k hk => ?_
    show sixOf (Lt k) = six k
    unfold sixOf; rw [(L.hue k hk).hsv, (L.hue k hk).hls]; rfl
  rw [e1]
  show Ex _ _ _ _ _ _ _
  refine ex_cons (ex1_if (b := false) (evb_cmp (ev_name rfl rfl rfl) (ev_compE (fun (n : Nat) => PV.int n) (fun p => p.asInt.toNat) dn [] [] (fun _ => true) six (l := R) (evit_list (ev_name rfl rfl rfl)) (by intro h; cases h) (by decide) .nil .nil
    (fun k hk => ⟨_, rfl, tgt1 (.inl rfl) rfl, evifs_nil, fun _ => ev_tuple (evl_cons (k64 hk rfl) (evl_cons ev_flt (evl_cons ev_flt (evl_cons (k64 hk rfl) (evl_cons ev_flt (evl_cons ev_flt evl_nil)))))) (by show (6 : Nat) ≤ 4096; decide)⟩) rl)
    ((cm_ne (by rw [filter_tt]; exact peq_lst_map fun k hk => (L.hue k hk).six)).eq rfl)) (fun h => nomatch h) fun _ => ex_nil ?_)
  -- what lies across
  refine ex_cons (ex1_assign_compE (fun (n : Nat) => PV.int n) (fun p => p.asInt.toNat) dn [] [] (fun _ => true) (fun k => pv3 (Lf k)) (l := R) (evit_list (ev_name rfl rfl rfl)) (by intro h; cases h) (by decide) .nil .nil
    (fun k hk => ⟨_, rfl, tgt1 (.inl rfl) rfl, evifs_nil, fun _ => ev_call (it := iRgb) (m _ (by simp)) rfl (evl_cons (kx hk rfl) (evl_cons ev_flt (evl_cons ev_flt evl_nil))) (hsvRgb_walk hg (L.hue k hk).left) plRgb⟩) rl rfl rfl rfl ?_)
  have e2 : (R.filter fun _ => true).map (fun k => pv3 (Lf k)) = (R.map Lf).map pv3 := by rw [filter_tt, List.map_map]; rfl
  rw [e2]
  show Ex _ _ _ _ _ _ _
  refine ex_cons (ex1_if (b := false) (evb_cmp (ev_name rfl rfl rfl) (ev_compE pv3 dec3 (fun _ => rfl) [] [] (fun _ => true) (fun a => .tup [.flt (Float64.sub f1 a.1), .flt (Float64.sub f1 a.2.1), .flt (Float64.sub f1 a.2.2)]) (l := R.map Lt) (evit_list (ev_name rfl rfl rfl)) (by intro h; cases h) (by decide) .nil .nil
    (fun a ha => ⟨_, rfl, tgt_of rfl, evifs_nil, fun _ => ev_tup3 (ev_bin ev_flt (ev_name rfl rfl rfl) op_sub_flt) (ev_bin ev_flt (ev_name rfl rfl rfl) op_sub_flt) (ev_bin ev_flt (ev_name rfl rfl rfl) op_sub_flt)⟩) (by rw [List.length_map]; (clear e2 e1 rl dn kx k64 m L hx hdefs hg hn1; omega)))
    ((cm_ne (by rw [filter_tt, List.map_map, List.map_map]; exact peq_lst_map fun k hk => (L.hue k hk).left1)).eq rfl)) (fun h => nomatch h) fun _ => ex_nil ?_)
  refine ex_cons (ex1_if (b := false) (evb_cmp (ev_compE pv3 dec3 (fun _ => rfl) [] [] (fun _ => true) (fun a => pv3 (get3 (rgbHsv a.1 a.2.1 a.2.2))) (l := R.map Lf) (evit_list (ev_name rfl rfl rfl)) (by intro h; cases h) (by decide) .nil .nil
    (fun a ha => ⟨_, rfl, tgt_of rfl, evifs_nil, fun _ => ?_⟩) (by rw [List.length_map]; (clear e2 e1 rl dn kx k64 m L hx hdefs hg hn1; omega)))
    (ev_compE (fun (n : Nat) => PV.int n) (fun p => p.asInt.toNat) dn [] [] (fun _ => true) (fun k => .tup [.flt (Fx k), .flt fh, .flt f1]) (l := R) (evit_list (ev_name rfl rfl rfl)) (by intro h; cases h) (by decide) .nil .nil
    (fun k hk => ⟨_, rfl, tgt1 (.inl rfl) rfl, evifs_nil, fun _ => ev_tup3 (kx hk rfl) ev_flt ev_flt⟩) rl)
    ((cm_ne (by
      rw [filter_tt, filter_tt, List.map_map]
      refine peq_lst_map fun k hk => ?_
      obtain ⟨c, h1, h2⟩ := (L.hue k hk).left2
      show peq 7 (pv3 (get3 (rgbHsv (Lf k).1 (Lf k).2.1 (Lf k).2.2))) _ = _
      rw [h1]; exact h2)).eq rfl)) (fun h => nomatch h) fun _ => ex_nil ?_)
  · obtain ⟨k, hk, rfl⟩ := List.mem_map.mp ha
    obtain ⟨c, h1, h2⟩ := (L.hue k hk).left2
    refine (ev_call (it := iHsv) (m _ (by simp)) rfl (evl_cons (ev_name rfl rfl rfl) (evl_cons (ev_name rfl rfl rfl) (evl_cons (ev_name rfl rfl rfl) evl_nil))) (rgbHsv_walk hg h1) plHsv).eq ?_
    show pv3 c = pv3 (get3 (rgbHsv (Lf k).1 (Lf k).2.1 (Lf k).2.2))
    rw [h1]; rfl
  -- the hues that were read
  refine ex_cons (ex1_assign_cell (p := flts (R.map Fk)) ((ev_compE (fun (p : PV) => p) (fun p => p) (fun _ => rfl) [] [] (fun _ => true) (fun p => p.asTup.getD 0 .none) (l := R.map six) ((evit_list (ev_name rfl rfl rfl)).eq (by rw [List.map_id'])) (by intro h; cases h) (by decide) .nil .nil
    (fun a ha => ⟨_, rfl, tgt1 (.inl rfl) rfl, evifs_nil, fun _ => ?_⟩) (by rw [List.length_map]; (clear e2 e1 rl dn kx k64 m L hx hdefs hg hn1; omega))).eq (by rw [filter_tt, List.map_map]; unfold flts; rw [List.map_map]; rfl)) rfl rfl ?_)
  · obtain ⟨k, hk, rfl⟩ := List.mem_map.mp ha
    exact ev_idxT (l := [.flt (Fk k), .flt f1, .flt fh, .flt (Fk k), .flt fq, .flt f1]) (k := 0) (ev_name rfl rfl rfl) ev_int rfl (by show (6 : Nat) ≤ 4096; decide)
  -- the steps between them
  have hul : (R.map Fk).length = n + 1 := by rw [List.length_map]; exact hlen
  refine ex_cons (ex1_assign_compE (fun (n : Nat) => PV.int n) (fun p => p.asInt.toNat) dn [(Str.ofString "hues", flts (R.map Fk))] [] (fun _ => true) (fun k => .flt (fmod (Float64.sub ((R.map Fk).getD (k + 1) 0) ((R.map Fk).getD k 0)) f1)) (l := List.range n)
    ((evit_range1 (ev_bin (ev_callB rfl (hg _ (by decide)) boot_len (evl_cons (ev_name rfl rfl rfl) evl_nil) (cv_len (by rw [List.length_map]; lia))) ev_int op_sub_int) (by rw [List.length_map]; lia) (by rw [List.length_map]; lia) rfl rfl (hg _ (by decide))).eq ?_) (by intro h; cases h) (by decide) (.cons rfl rfl .nil) .nil
    (fun k hk => ⟨_, rfl, tgt1 (.inl rfl) rfl, evifs_nil, fun _ => ?_⟩) (by rw [List.length_range]; lia) rfl rfl rfl ?_)
  · rw [rangePV_nat, List.length_map, hlen]; congr 2; lia
  · have hk := List.mem_range.mp hk
    exact ev_bin (ev_bin (ev_idx (ev_name rfl rfl rfl) (ev_bin (ev_name rfl rfl rfl) ev_int op_add_int) (pidx_nat (j := k + 1) (by lia) (get_flts (by lia))) (by rw [List.length_map]; lia)) (ev_idx (ev_name rfl rfl rfl) (ev_name rfl rfl rfl) (pidx_nat rfl (get_flts (by lia))) (by rw [List.length_map]; (clear hk e2 e1 rl dn kx k64 hlen m L hx hdefs hg; omega))) op_sub_flt) ev_flt (op_mod_flt z1)
  have e3 : ((List.range n).filter fun _ => true).map (fun k => PV.flt (fmod (Float64.sub ((R.map Fk).getD (k + 1) 0) ((R.map Fk).getD k 0)) f1)) = (stepsF R n).map PV.flt := by
    rw [filter_tt]; unfold stepsF; rw [List.map_map]; rfl
  rw [e3]
  show Ex _ _ _ _ _ _ _
  have sl : ((stepsF R n).map PV.flt).length = n := by unfold stepsF; simp
  have sget : ∀ i, i < n → ((stepsF R n).map PV.flt)[i]? = some (.flt ((stepsF R n).getD i 0)) := fun i hi => get_flts (by unfold stepsF; simpa using hi)
  have kmp1 : ∀ (d : Nat), Fn g d iKmp [.lst ((stepsF R n).map PV.flt)] (natsP ((List.range n).map B)) := fun d => by
    have h := kmp_body (d := d) hg (ps := (stepsF R n).map PV.flt) (eq := eq) (B := B) (by lia) (fun i j p q hp hq => by
      have hi : i < n := by rcases Nat.lt_or_ge i n with h | h; exact h; rw [List.getElem?_eq_none (by lia)] at hp; cases hp
      have hj : j < n := by rcases Nat.lt_or_ge j n with h | h; exact h; rw [List.getElem?_eq_none (by lia)] at hq; cases hq
      rw [sget i hi] at hp; rw [sget j hj] at hq; cases hp; cases hq
      exact L.eq_ok i j hi hj) (by rw [sl]; exact L.kmp)
    rw [sl] at h
    unfold natsP; rw [List.map_map]; exact h
  have kmp2 : ∀ (d : Nat), Fn g d iKmp [.lst ((stepsF R n).map PV.flt).reverse] (natsP ((List.range n).map B')) := fun d => by
    have h := kmp_body (d := d) hg (ps := ((stepsF R n).map PV.flt).reverse) (eq := fun i j => eq (n - 1 - i) (n - 1 - j)) (B := B') (by rw [List.length_reverse]; (clear kmp1 sget e3 e2 e1 rl dn kx k64 hlen m L hx hdefs hg; omega)) (fun i j p q hp hq => by
      have hi : i < n := by rcases Nat.lt_or_ge i n with h | h; exact h; rw [List.getElem?_eq_none (by rw [List.length_reverse]; (clear hq hp kmp1 sget e3 e2 e1 rl dn kx k64 hn1 hn2 hlen m L hx hdefs hg; omega))] at hp; cases hp
      have hj : j < n := by rcases Nat.lt_or_ge j n with h | h; exact h; rw [List.getElem?_eq_none (by rw [List.length_reverse]; (clear hi hq hp kmp1 sget e3 e2 e1 rl dn kx k64 hn1 hn2 hlen m L hx hdefs hg; omega))] at hq; cases hq
      rw [List.getElem?_reverse (by lia), sl, sget _ (by (clear hj hq hp kmp1 sget e3 e2 e1 rl dn kx k64 hn1 hn2 hlen m L hx hdefs hg; omega))] at hp; rw [List.getElem?_reverse (by lia), sl, sget _ (by (clear hi hq hp kmp1 sget e3 e2 e1 rl dn kx k64 hn1 hn2 hlen m L hx hdefs hg; omega))] at hq; cases hp; cases hq
      exact L.eq_ok _ _ (by (clear hj kmp1 sget e3 e2 e1 rl dn kx k64 hn1 hn2 hlen m L hx hdefs hg; omega)) (by (clear hi kmp1 sget e3 e2 e1 rl dn kx k64 hn1 hn2 hlen m L hx hdefs hg; omega))) (by rw [List.length_reverse, sl]; exact L.kmp')
    rw [List.length_reverse, sl] at h
    unfold natsP; rw [List.map_map]; exact h
  -- the overlap table and what the pass tells
  refine ex_cons (ex1_assign (ev_call (it := iKmp) (m _ (by simp)) rfl (evl_cons (ev_name rfl rfl rfl) evl_nil) (kmp1 2) plKmp) (.inl rfl) rfl ?_)
  refine ex_cons (ex1_assign (ev_call (it := iPass) (m _ (by simp)) rfl (evl_cons (ev_name rfl rfl rfl) evl_nil) (pass_walk hg L.kmp.le (by lia)) plPass) (.inl rfl) rfl ?_)
  have tl : (passAt B n n).1.length = n + 1 := (pass_inv L.kmp.le n (Nat.le_refl _)).1
  have tl' : (passAt B' n n).1.length = n + 1 := (pass_inv L.kmp'.le n (Nat.le_refl _)).1
  have last : ∀ {l : List (List Nat)}, l.length = n + 1 → (l.map natsP).getLast? = some (natsP (l.getD n [])) := fun {l} h => by
    rw [List.getLast?_eq_getElem?, List.length_map, h]; exact get_told (by lia)
  refine ex_cons (ex1_if (b := false) (evb_cmp (ev_idx (ev_name rfl rfl rfl) (ev_un ev_int op_neg_int) (pidx_last (last tl)) (by rw [List.length_map]; lia))
    (ev_idx (ev_call (it := iPass) (m _ (by simp)) rfl (evl_cons (ev_call (it := iKmp) (m _ (by simp)) rfl (evl_cons ((ev_slice (ev_name rfl rfl rfl) evp_none evp_none (evp_some (ev_un ev_int op_neg_int)) (by decide) (by lia)).eq (by rw [slice_back])) evl_nil) (kmp2 2) plKmp) evl_nil) (pass_walk hg L.kmp'.le (by lia)) plPass)
      (ev_un ev_int op_neg_int) (pidx_last (last tl')) (by rw [List.length_map]; lia))
    ((cm_ne (by rw [← L.back]; exact peq_nats _)).eq rfl)) (fun h => nomatch h) fun _ => ex_nil ?_)
  -- the sizes
  have r1 : ∀ b : Nat, rangePV 1 (b : Int) = ((List.range (b - 1)).map (· + 1)).map fun (n : Nat) => PV.int n := fun b => by
    unfold rangePV
    rw [List.map_map, show ((b : Int) - 1).toNat = b - 1 by lia]
    refine List.map_congr_left fun k _ => ?_
    show PV.int (1 + (k : Int)) = PV.int ((k + 1 : Nat) : Int)
    congr 1; lia
  refine ex_cons (ex1_assign (p := natsP ((List.range n).map (· + 1))) ((ev_list_range ev_int (ev_callB rfl (hg _ (by decide)) boot_len (evl_cons (ev_name rfl rfl rfl) evl_nil) (cv_len (by rw [List.length_map]; lia))) (by decide) (by decide) (by rw [List.length_map]; lia) (by rw [List.length_map]; lia) (by rw [List.length_map]; lia)
    rfl rfl (hg _ (by decide)) rfl rfl (hg _ (by decide))).eq (by rw [List.length_map, hlen, r1]; rfl)) (.inl rfl) rfl ?_)
  -- how far each place fits
  have hfl := L.flen
  have lenfits : fits.length ≤ 100 := by lia
  refine ex_cons (ex1_assign (p := natsP fits) ((ev_bin (ev_list (evl_cons (ev_callB rfl (hg _ (by decide)) boot_len (evl_cons (ev_name rfl rfl rfl) evl_nil) (cv_len (by lia))) evl_nil) (by show (1 : Nat) ≤ 4096; decide))
    (ev_compE (fun (n : Nat) => PV.int n) (fun p => p.asInt.toNat) dn [(Str.ofString "hues", flts (R.map Fk)), (Str.ofString "lights", trips (R.map Lt))] [] (fun _ => true) (fun st => .int (fits.getD st 0 : Nat)) (l := (List.range (n - 1)).map (· + 1))
      ((evit_list (ev_slice (ev_name rfl rfl rfl) evp_none (evp_some (ev_un ev_int op_neg_int)) evp_none (by decide) (by simp; lia))).eq (by
        rw [slice_butlast (by simp; lia), List.dropLast_eq_take]
        simp only [List.length_map, List.length_range]
        rw [← List.map_take, ← List.map_take, List.take_range, Nat.min_eq_left (by lia)])) (by intro h; cases h) (by decide) (.cons rfl rfl (.cons rfl rfl .nil)) .nil
      (fun st hst => ⟨_, rfl, tgt1 (.inl rfl) rfl, evifs_nil, fun _ => ?_⟩) (by simp; lia)) (op_add_lst (by rw [filter_tt]; simp; lia))).eq ?_) (.inr rfl) rfl ?_)
  · obtain ⟨j, hj, rfl⟩ := List.mem_map.mp hst
    have hj := List.mem_range.mp hj
    obtain ⟨cnt, c1, c2, c3, c4⟩ := L.fitAt (j + 1) (by lia) (by lia)
    rw [c1]
    exact ev_call (it := iFits) (m _ (by simp)) rfl (evl_cons (ev_name rfl rfl rfl) (evl_cons (ev_name rfl rfl rfl) (evl_cons (ev_name rfl rfl rfl) evl_nil)))
      (fits_walk hg (m _ (by simp)) (m _ (by simp)) (by rw [List.length_map]; lia) (by rw [List.length_map, List.length_map]) (by lia) c2 (by lia) (fun h => c4 (by lia))) plFits
  · rw [filter_tt, List.map_map, sl]
    unfold natsP
    congr 1
    rw [List.singleton_append]
    refine List.ext_getElem (by simp; lia) fun i h1 h2 => ?_
    cases i with
    | zero =>
      have := L.fzero
      simp only [List.getElem_cons_zero, List.getElem_map]
      rw [List.getD_eq_getElem?_getD, List.getElem?_eq_getElem (by lia)] at this
      simp only [Option.getD_some] at this
      rw [this]
    | succ i =>
      simp only [List.getElem_cons_succ, List.getElem_map, List.getElem_range, Function.comp]
      rw [List.getD_eq_getElem?_getD, List.getElem?_eq_getElem (by simp at h2; lia)]
      rfl
  -- the longest, by the lights
  refine ex_cons (ex1_assign_compE (fun (n : Nat) => PV.int n) (fun p => p.asInt.toNat) dn [(Str.ofString "fits", natsP fits)] [] (fun _ => true) (fun size => .int (longestOf fits size : Nat)) (l := (List.range n).map (· + 1))
    (evit_list (ev_name rfl rfl rfl)) (by intro h; cases h) (by decide) (.cons rfl rfl .nil) .nil
    (fun size hsz => ⟨_, rfl, tgt1 (.inr rfl) rfl, evifs_nil, fun _ => ?_⟩) (by simp; (clear lenfits r1 last kmp2 kmp1 sget e3 e2 e1 rl dn kx k64 hlen m L hx hdefs hg hfl tl' tl sl hul hn1; omega)) rfl rfl rfl ?_)
  · obtain ⟨j, hj, rfl⟩ := List.mem_map.mp hsz
    have hj := List.mem_range.mp hj
    refine (ev_callB rfl (hg _ (by decide)) PyProof.Rows.boot_max (evl_cons ((ev_bin (ev_list (evl_cons ev_int evl_nil) (by decide)) (ev_compE (fun (n : Nat) => PV.int n) (fun p => p.asInt.toNat) dn [(Str.ofString "fits", natsP fits), (Str.ofString "size", .int (j + 1 : Nat))] []
      (fun s => decide (j + 1 ≤ s + fits.getD s 0)) (fun s => .int ((j + 1 - s : Nat) : Int)) (l := (List.range (j + 1 - 1)).map (· + 1))
      ((evit_range2 ev_int (ev_name rfl rfl rfl) (by decide) (by decide) (by lia) (by lia) rfl rfl (hg _ (by decide))).eq (r1 (j + 1))) (by intro h; cases h) (by decide) (.cons rfl rfl (.cons rfl rfl .nil)) .nil
      (fun s hs => ?_) (by simp; lia)) (op_add_lst ?_)).eq (q := .lst ((0 :: ((((List.range (j + 1 - 1)).map (· + 1)).filter (fun s => decide (j + 1 ≤ s + fits.getD s 0))).map fun s => ((j + 1 - s : Nat) : Int))).map PV.int)) ?_) evl_nil) (cv_max (by simp))).eq ?_
    · obtain ⟨i, hi, rfl⟩ := List.mem_map.mp hs
      have hi := List.mem_range.mp hi
      exact ⟨_, rfl, tgt1 (.inl rfl) rfl, evifs_one (evb_cmp (ev_bin (ev_name rfl rfl rfl) (ev_idx (ev_name rfl rfl rfl) (ev_name rfl rfl rfl) (pidx_nat rfl (get_nats (by lia))) (by rw [List.length_map]; lia)) op_add_int) (ev_name rfl rfl rfl) (cm_ge_nat (by lia) rfl)),
        fun _ => (ev_bin (ev_name rfl rfl rfl) (ev_name rfl rfl rfl) op_sub_int).eq (by congr 1; lia)⟩
    · have := List.length_filter_le (fun s => decide (j + 1 ≤ s + fits.getD s 0)) ((List.range (j + 1 - 1)).map (· + 1))
      rw [List.length_map, List.length_range] at this
      rw [List.length_map]
      show 1 + _ ≤ 4096
      lia
    · rw [List.map_cons, List.map_map]; rfl
    · unfold longestOf maxI
      congr 1
      show List.foldl max (0 : Int) (List.map (fun s => ((j + 1 - s : Nat) : Int)) _) = _
      rw [List.foldl_map]
      generalize ((List.range (j + 1 - 1)).map (· + 1)).filter (fun s => decide (j + 1 ≤ s + fits.getD s 0)) = l
      have key : ∀ (l : List Nat) (a : Nat), l.foldl (fun (x : Int) y => max x ((j + 1 - y : Nat) : Int)) (a : Int) = ((l.foldl (fun m s => max m (j + 1 - s)) a : Nat) : Int) := by
        intro l
        induction l with
        | nil => intro a; rfl
        | cons b r ih =>
          intro a
          rw [List.foldl_cons, List.foldl_cons, ← ih]
          congr 1; (clear ih hj hsz lenfits hfl r1 last tl' tl kmp2 kmp1 sget sl e3 hul e2 e1 rl dn kx k64 hn1 hn2 hlen m L hx hdefs hg; omega)
      exact key l 0
  have e5 : (((List.range n).map (· + 1)).filter fun _ => true).map (fun size => PV.int (longestOf fits size : Nat)) = (List.range n).map fun i => PV.int (B i) := by
    rw [filter_tt, List.map_map]
    refine List.map_congr_left fun i hi => ?_
    have hi := List.mem_range.mp hi
    show PV.int (longestOf fits (i + 1) : Nat) = _
    rw [← L.long (i + 1) (by (clear hi lenfits hfl r1 last tl' tl kmp2 kmp1 sget sl e3 hul e2 e1 rl dn kx k64 hn1 hn2 hlen m L hx hdefs hg; omega)) (by lia)]; rfl
  rw [e5]
  show Ex _ _ _ _ _ _ _
  -- the motifs, by the lights
  refine ex_cons (ex1_assign_compE (fun (n : Nat) => PV.int n) (fun p => p.asInt.toNat) dn [(Str.ofString "fits", natsP fits)] [] (fun _ => true) (fun size => natsP (motifsOf fits size)) (l := (List.range n).map (· + 1))
    (evit_list (ev_name rfl rfl rfl)) (by intro h; cases h) (by decide) (.cons rfl rfl .nil) .nil
    (fun size hsz => ⟨_, rfl, tgt1 (.inr rfl) rfl, evifs_nil, fun _ => ?_⟩) (by simp; (clear e5 lenfits r1 last kmp2 kmp1 sget e3 e2 e1 rl dn kx k64 hlen m L hx hdefs hg hfl tl' tl sl hul hn1; omega)) rfl rfl rfl ?_)
  · obtain ⟨j, hj, rfl⟩ := List.mem_map.mp hsz
    have hj := List.mem_range.mp hj
    refine (ev_compE (fun (n : Nat) => PV.int n) (fun p => p.asInt.toNat) dn [(Str.ofString "fits", natsP fits), (Str.ofString "size", .int (j + 1 : Nat))] []
      (fun mo => goesEnd fits mo (j + 1 - mo + 1) == j + 1) (fun (mo : Nat) => .int mo) (l := (List.range (j + 1)).map (· + 1))
      ((evit_range2 ev_int (ev_bin (ev_name rfl rfl rfl) ev_int op_add_int) (by decide) (by decide) (by lia) (by lia) rfl rfl (hg _ (by decide))).eq (r1 (j + 1 + 1))) (by intro h; cases h) (by decide) (.cons rfl rfl (.cons rfl rfl .nil)) .nil
      (fun mo hs => ?_) (by simp; lia)).eq rfl
    obtain ⟨i, hi, rfl⟩ := List.mem_map.mp hs
    have hi := List.mem_range.mp hi
    exact ⟨_, rfl, tgt1 (.inl rfl) rfl, evifs_one (evb_plain (ev_call (it := iGoes) (m _ (by simp)) rfl (evl_cons (ev_name rfl rfl rfl) (evl_cons (ev_name rfl rfl rfl) (evl_cons (ev_name rfl rfl rfl) evl_nil)))
      (goes_walk hg (by lia) (by lia) (by lia) lenfits) plGoes)), fun _ => ev_name rfl rfl rfl⟩
  have e6 : (((List.range n).map (· + 1)).filter fun _ => true).map (fun size => natsP (motifsOf fits size)) = (List.range n).map fun i => natsP ((passAt B n n).1.getD (i + 1) []) := by
    rw [filter_tt, List.map_map]
    refine List.map_congr_left fun i hi => ?_
    have hi := List.mem_range.mp hi
    show natsP (motifsOf fits (i + 1)) = _
    rw [← L.mot (i + 1) (by (clear hi e5 lenfits hfl r1 last tl' tl kmp2 kmp1 sget sl e3 hul e2 e1 rl dn kx k64 hn1 hn2 hlen m L hx hdefs hg; omega)) (by (clear e5 lenfits r1 last kmp2 kmp1 sget e3 e2 e1 rl dn kx k64 hn1 hn2 hlen m L hx hdefs hg; omega))]
  rw [e6]
  show Ex _ _ _ _ _ _ _
  have e7 : ((passAt B n n).1.map natsP).drop 1 = (List.range n).map fun i => natsP ((passAt B n n).1.getD (i + 1) []) := by
    refine List.ext_getElem (by simp [tl]) fun i h1 h2 => ?_
    simp only [List.getElem_drop, List.getElem_map, List.getElem_range]
    rw [List.getD_eq_getElem?_getD, List.getElem?_eq_getElem (by simp at h2; lia)]
    simp only [Option.getD_some]
    congr 2; lia
  have e8 : zipPV ((List.range n).map fun i => PV.int (B i)) ((List.range n).map fun i => natsP ((passAt B n n).1.getD (i + 1) [])) = (List.range n).map fun i => PV.tup [.int (B i), natsP ((passAt B n n).1.getD (i + 1) [])] := by
    unfold zipPV
    rw [List.zipWith_map, List.zipWith_self]
  refine ex_cons (ex1_if (b := false) (evb_cmp (ev_list_zip (ev_name rfl rfl rfl) ((ev_slice (ev_name rfl rfl rfl) (evp_some ev_int) evp_none evp_none (by decide) (by rw [List.length_map]; lia)).eq (by rw [show (1 : Int) = ((1 : Nat) : Int) from rfl, slice_from (by rw [List.length_map]; lia), e7])) (by simp) (by simp; (clear e8 e7 e6 e5 lenfits r1 last kmp2 kmp1 sget e3 e2 e1 rl dn kx k64 hlen m L hx hdefs hg hfl tl' tl sl hul hn1; omega)) rfl rfl (hg _ (by decide)) rfl rfl (hg _ (by decide)))
    (ev_list_zip (ev_name rfl rfl rfl) (ev_name rfl rfl rfl) (by simp) (by simp; (clear e8 e7 e6 e5 lenfits r1 last kmp2 kmp1 sget e3 e2 e1 rl dn kx k64 hlen m L hx hdefs hg hfl tl' tl sl hul hn1; omega)) rfl rfl (hg _ (by decide)) rfl rfl (hg _ (by decide)))
    ((cm_ne (by
      rw [List.map_map]
      show peq 8 (.lst (zipPV ((List.range n).map fun i => PV.int (B i)) _)) _ = _
      rw [e8]
      exact peq_lst_map fun i _ => by rw [peq, if_pos rfl, peqL, peqL, peqL, peq_nats]; simp [peq])).eq rfl)) (fun h => nomatch h) fun _ => ex_nil ?_)
  -- once or twice
  refine ex_cons (ex1_forC (evit_list (ev_name rfl rfl rfl)) (by intro h; cases h)
    (fun _ => [(Str.ofString "told", .lst ((passAt B n n).1.map natsP)), (Str.ofString "hues", flts (R.map Fk)), (Str.ofString "fits", natsP fits)]) (fun _ => []) ⟨.cons rfl (.cons rfl (.cons rfl .nil)), .nil⟩ ?_ ?_)
  · intro j q hq
    rw [List.getElem?_map, List.getElem?_map] at hq
    rcases Nat.lt_or_ge j n with hj | hj
    · rw [List.getElem?_range hj] at hq
      simp only [Option.map_some, Option.some.injEq] at hq
      subst hq
      refine ⟨_, rfl, tgt1 (.inl rfl) rfl, ?_⟩
      have hget := get_told (l := (passAt B n n).1) (k := j + 1) (by (clear e8 e7 e6 e5 lenfits r1 last kmp2 kmp1 sget e3 e2 e1 rl dn kx k64 hn1 hn2 hlen m L hx hdefs hg; omega))
      have few1 : ((passAt B n n).1.getD (j + 1) []).length ≤ j + 1 + 1 := pass_few L.kmp.le n (Nat.le_refl _) (j + 1) (by (clear hget e8 e7 e6 e5 lenfits r1 last kmp2 kmp1 sget e3 e2 e1 rl dn kx k64 hn1 hn2 hlen m L hx hdefs hg; omega))
      refine ex_cons (ex1_if (b := decide (1 < ((passAt B n n).1.getD (j + 1) []).length) && false) (evb_and (b1 := decide (1 < ((passAt B n n).1.getD (j + 1) []).length)) (b2 := false)
        (evb_cmp (ev_callB rfl (hg _ (by decide)) boot_len (evl_cons (ev_idx (ev_name rfl rfl rfl) (ev_name rfl rfl rfl) (pidx_nat rfl hget) (by rw [List.length_map]; lia)) evl_nil) (cv_len (by rw [List.length_map]; lia))) ev_int (cm_gt_nat (b := 1) (by rw [List.length_map]) rfl))
        fun hb => ?_) (fun h => by simp at h) fun _ => ex_nil (ex_nil ⟨.cons rfl (.cons rfl (.cons rfl .nil)), .nil⟩))
      have hb : 1 < ((passAt B n n).1.getD (j + 1) []).length := by simpa using hb
      have hmem : ((passAt B n n).1.getD (j + 1) []).getD 0 0 ∈ (passAt B n n).1.getD (j + 1) [] := by
        rw [List.getD_eq_getElem?_getD (i := 0), List.getElem?_eq_getElem (by lia)]
        exact List.getElem_mem _
      have key : ∀ mo ∈ (passAt B n n).1.getD (j + 1) [], 1 ≤ mo ∧ mo ≤ j + 1 := fun mo h2 => by
        rw [L.mot (j + 1) (by (clear h2 hmem hb few1 hget hj e8 e7 e6 e5 lenfits hfl r1 last tl' tl kmp2 kmp1 sget sl e3 hul e2 e1 rl dn kx k64 hn1 hn2 hlen m L hx hdefs hg; omega)) (by (clear h2 hmem hb few1 hget e8 e7 e6 e5 lenfits r1 last kmp2 kmp1 sget e3 e2 e1 rl dn kx k64 hn1 hn2 hlen m L hx hdefs hg; omega))] at h2
        unfold motifsOf at h2
        obtain ⟨i, hi, e⟩ := List.mem_map.mp (List.mem_filter.mp h2).1
        have hi := List.mem_range.mp hi
        lia
      have hmo := key _ hmem
      exact evb_not (b := true) (evb_plain (ev_call (it := iOnce) (m _ (by simp)) rfl (evl_cons (ev_name rfl rfl rfl) (evl_cons (ev_name rfl rfl rfl) (evl_cons (ev_idx (ev_idx (ev_name rfl rfl rfl) (ev_name rfl rfl rfl) (pidx_nat rfl hget) (by rw [List.length_map]; (clear hmo key hmem hb few1 hget hj e8 e7 e6 e5 lenfits r1 last kmp2 kmp1 sget e3 e2 e1 rl dn kx k64 hlen m L hx hdefs hg hfl tl'; omega))) ev_int (pidx_nat (j := 0) rfl (get_nats (by (clear hmo key hmem few1 hget hj e8 e7 e6 e5 lenfits hfl r1 last tl' tl kmp2 kmp1 sget sl e3 hul e2 e1 rl dn kx k64 hn1 hn2 hlen m L hx hdefs hg; omega)))) (by rw [List.length_map]; (clear hmo key hmem hb hget e8 e7 e6 e5 lenfits r1 last kmp2 kmp1 sget e3 e2 e1 rl dn kx k64 hlen m L hx hdefs hg; omega))) (evl_cons (ev_name rfl rfl rfl) evl_nil))))
        (once_walk hg (m _ (by simp)) (m _ (by simp)) (by lia) lenfits hmo.2 (by lia) (by lia) hmo.1 (L.once (j + 1) (by (clear hmo key hmem hb few1 hget hj e8 e7 e6 e5 lenfits hfl r1 last tl' tl kmp2 kmp1 sget sl e3 hul e2 e1 rl dn kx k64 hn1 hn2 hlen m L hx hdefs hg; omega)) (by (clear hmo key hmem hb few1 hget e8 e7 e6 e5 lenfits r1 last kmp2 kmp1 sget e3 e2 e1 rl dn kx k64 hn1 hn2 hlen m L hx hdefs hg; omega)) hb)) plOnce))
    · rw [List.getElem?_eq_none (by simpa using hj)] at hq; simp at hq
  · refine ex_nil ?_
    exact ex_cons (ex1_return ev_bool (.inl rfl))
end
end Mine

namespace Mine
open PySem PySem.W PyProof.Rows

/-! exact arithmetic with floats that are whole 64ths -/

theorem halfEven_scale (n d c : Nat) (hc : 0 < c) : Float64.halfEven (n * c) (d * c) = Float64.halfEven n d := by
  unfold Float64.halfEven
  have e1 : n * c / (d * c) = n / d := Nat.mul_div_mul_right n d hc
  have e2 : n * c % (d * c) = n % d * c := Nat.mul_mod_mul_right c n d
  simp only [e1, e2]
  have e3 : (2 * (n % d * c) > d * c) = (2 * (n % d) > d) := by
    rw [← Nat.mul_assoc]
    exact propext ⟨fun h => Nat.lt_of_mul_lt_mul_right h, fun h => Nat.mul_lt_mul_of_pos_right h hc⟩
  have e4 : (2 * (n % d * c) == d * c) = (2 * (n % d) == d) := by
    rw [← Nat.mul_assoc, Bool.eq_iff_iff, beq_iff_eq, beq_iff_eq]
    exact ⟨fun h => Nat.eq_of_mul_eq_mul_right hc h, fun h => by rw [h]⟩
  simp only [e3, e4]

theorem shift_scale (n d k : Nat) (t : Int) : Float64.shift (n * 2 ^ k) (d * 2 ^ k) t = ((Float64.shift n d t).1 * 2 ^ k, (Float64.shift n d t).2 * 2 ^ k) := by
  unfold Float64.shift
  split
  · simp only [Nat.mul_right_comm]
  · simp only [Nat.mul_right_comm]

theorem log2_scale {n : Nat} (hn : n ≠ 0) (k : Nat) : (n * 2 ^ k).log2 = n.log2 + k := by
  induction k with
  | zero => simp
  | succ k ih =>
    rw [Nat.pow_succ, ← Nat.mul_assoc, Nat.mul_comm _ 2, Nat.log2_two_mul (Nat.mul_ne_zero hn (Nat.ne_of_gt (Nat.two_pow_pos k))), ih]; lia

theorem roundMag_scale (n d k : Nat) (hd : 0 < d) : Float64.roundMag (n * 2 ^ k) (d * 2 ^ k) = Float64.roundMag n d := by
  by_cases hn : n = 0
  · subst hn; simp [Float64.roundMag]
  · have h2 := Nat.two_pow_pos k
    unfold Float64.roundMag
    have e0 : (n * 2 ^ k == 0) = false := by rw [beq_eq_false_iff_ne]; exact Nat.mul_ne_zero hn (Nat.ne_of_gt h2)
    have e0' : (n == 0) = false := beq_eq_false_iff_ne.mpr hn
    have el : (((n * 2 ^ k).log2 : Int) - ((d * 2 ^ k).log2 : Int)) = (n.log2 : Int) - (d.log2 : Int) := by
      rw [log2_scale hn, log2_scale (Nat.ne_of_gt hd)]; lia
    simp only [e0, e0', Bool.false_eq_true, if_false, el, shift_scale]
    have ge : ∀ t : Int, ((Float64.shift n d t).1 * 2 ^ k ≥ (Float64.shift n d t).2 * 2 ^ k) = ((Float64.shift n d t).1 ≥ (Float64.shift n d t).2) := fun t =>
      propext ⟨fun h => Nat.le_of_mul_le_mul_right h h2, fun h => Nat.mul_le_mul_right _ h⟩
    simp only [ge]
    rw [halfEven_scale _ _ _ h2]

theorem ofFrac_scale (s : Bool) (n d k : Nat) (hd : 0 < d) : Float64.ofFrac s (n * 2 ^ k) (d * 2 ^ k) = Float64.ofFrac s n d := by
  unfold Float64.ofFrac; rw [roundMag_scale n d k hd]

/-- so many 64ths -/
noncomputable def D (i : Nat) : UInt64 := Float64.ofFrac false i 64
noncomputable def Dn (i : Nat) : UInt64 := Float64.ofFrac true i 64

theorem Fk_D (k : Nat) : Fk k = D k := by
  unfold Fk fracF D
  have e1 : decide ((k : Int) < 0) = false := by simp
  rw [e1]; rfl

/-- a float stands for so many 64ths -/
noncomputable def Is (s : Bool) (i : Nat) (x : UInt64) : Prop := ∃ r : Nat, Float64.decode x = .fin s (i * 2 ^ r) (-6 - (r : Int))

noncomputable def isB (s : Bool) (i : Nat) (x : UInt64) : Bool := match Float64.decode x with
  | .fin s' m e => s == s' && decide (e ≤ -6) && (m == i * 2 ^ (-6 - e).toNat)
  | _ => false
theorem is_of {s : Bool} {i : Nat} {x : UInt64} (h : isB s i x = true) : Is s i x := by
  unfold isB at h
  split at h
  · rename_i s' m e hd
    simp only [Bool.and_eq_true, beq_iff_eq, decide_eq_true_eq] at h
    obtain ⟨⟨rfl, h2⟩, h3⟩ := h
    refine ⟨(-6 - e).toNat, ?_⟩
    rw [hd, h3]
    congr 1; lia
  · cases h

theorem is_D {i : Nat} (h : i < 512) : Is false i (D i) := is_of (by
  have t : ((List.range 512).all fun i => isB false i (D i)) = true := by decide +kernel
  exact List.all_eq_true.mp t i (List.mem_range.mpr h))
theorem is_neg {i : Nat} (h : i < 512) : Is true i (Float64.neg (D i)) := is_of (by
  have t : ((List.range 512).all fun i => isB true i (Float64.neg (D i))) = true := by decide +kernel
  exact List.all_eq_true.mp t i (List.mem_range.mpr h))
theorem align_is (a b : Bool) (i j r q : Nat) : Float64.align a (i * 2 ^ r) (-6 - (r : Int)) b (j * 2 ^ q) (-6 - (q : Int)) =
    (Float64.sgn a (i * 2 ^ max r q), Float64.sgn b (j * 2 ^ max r q), -6 - ((max r q : Nat) : Int)) := by
  unfold Float64.align
  have eg : min (-6 - (r : Int)) (-6 - (q : Int)) = -6 - ((max r q : Nat) : Int) := by lia
  simp only [eg]
  have e1 : ((-6 - (r : Int)) - (-6 - ((max r q : Nat) : Int))).toNat = max r q - r := by lia
  have e2 : ((-6 - (q : Int)) - (-6 - ((max r q : Nat) : Int))).toNat = max r q - q := by lia
  rw [e1, e2, Nat.mul_assoc, ← Nat.pow_add, Nat.mul_assoc, ← Nat.pow_add]
  congr 3
  · congr 2; (clear e2 e1 eg; omega)
  · congr 3; (clear e2 e1 eg; omega)

theorem ofBin_is (s : Bool) (n m : Nat) : Float64.ofBin s (n * 2 ^ m) (-6 - (m : Int)) = Float64.ofFrac s n 64 := by
  unfold Float64.ofBin Float64.shift
  rw [if_neg (by lia)]
  simp only
  have e : 1 * 2 ^ (-(-6 - (m : Int))).toNat = 64 * 2 ^ m := by
    rw [Nat.one_mul, show (-(-6 - (m : Int))).toNat = 6 + m by lia, Nat.pow_add]
  rw [e]
  exact ofFrac_scale s n 64 m (by decide)

theorem add_pos {i j : Nat} {x y : UInt64} (hx : Is false i x) (hy : Is false j y) : Float64.add x y = D (i + j) := by
  obtain ⟨r, hr⟩ := hx
  obtain ⟨q, hq⟩ := hy
  unfold Float64.add
  rw [hr, hq]
  simp only [align_is, Float64.sgn, Bool.false_eq_true, if_false]
  generalize max r q = m
  have e : ((i * 2 ^ m : Nat) : Int) + ((j * 2 ^ m : Nat) : Int) = (((i + j) * 2 ^ m : Nat) : Int) := by rw [Nat.add_mul]; push_cast; rfl
  rw [e]
  by_cases h : i + j = 0
  · rw [h]; simp; decide +kernel
  · have hp := Nat.two_pow_pos m
    have hne : (i + j) * 2 ^ m ≠ 0 := Nat.mul_ne_zero h (Nat.ne_of_gt hp)
    rw [if_neg (by rw [beq_iff_eq]; (clear hp h e hq hr; omega))]
    have e2 : decide ((((i + j) * 2 ^ m : Nat) : Int) < 0) = false := by rw [decide_eq_false_iff_not]; (clear hne hp h e hq hr; omega)
    rw [e2, Int.natAbs_natCast, ofBin_is]; rfl

theorem add_mix {i j : Nat} {x y : UInt64} (hx : Is false i x) (hy : Is true j y) : Float64.add x y = if j ≤ i then D (i - j) else Dn (j - i) := by
  obtain ⟨r, hr⟩ := hx
  obtain ⟨q, hq⟩ := hy
  unfold Float64.add
  rw [hr, hq]
  simp only [align_is, Float64.sgn, Bool.false_eq_true, if_false, if_true]
  generalize max r q = m
  have hp := Nat.two_pow_pos m
  by_cases hji : j ≤ i
  · rw [show (if j ≤ i then D (i - j) else Dn (j - i)) = D (i - j) from if_pos hji]
    have e : ((i * 2 ^ m : Nat) : Int) + -((j * 2 ^ m : Nat) : Int) = (((i - j) * 2 ^ m : Nat) : Int) := by
      rw [Nat.sub_mul, Int.ofNat_sub (Nat.mul_le_mul_right _ hji)]; lia
    rw [e]
    by_cases h : i - j = 0
    · rw [h]; simp; decide +kernel
    · have hne : (i - j) * 2 ^ m ≠ 0 := Nat.mul_ne_zero h (Nat.ne_of_gt hp)
      rw [if_neg (by rw [beq_iff_eq]; (clear h e hji hp hq hr; omega))]
      have e2 : decide ((((i - j) * 2 ^ m : Nat) : Int) < 0) = false := by rw [decide_eq_false_iff_not]; (clear hne h e hji hp hq hr; omega)
      rw [e2, Int.natAbs_natCast, ofBin_is]; rfl
  · rw [show (if j ≤ i then D (i - j) else Dn (j - i)) = Dn (j - i) from if_neg hji]
    have e : ((i * 2 ^ m : Nat) : Int) + -((j * 2 ^ m : Nat) : Int) = -(((j - i) * 2 ^ m : Nat) : Int) := by
      rw [Nat.sub_mul, Int.ofNat_sub (Nat.mul_le_mul_right _ (by lia))]; lia
    have hne : (j - i) * 2 ^ m ≠ 0 := Nat.mul_ne_zero (by lia) (Nat.ne_of_gt hp)
    rw [e, if_neg (by rw [beq_iff_eq]; (clear e hji hp hq hr; omega))]
    have e2 : decide (-(((j - i) * 2 ^ m : Nat) : Int) < 0) = true := by rw [decide_eq_true_iff]; (clear e hji hp hq hr; omega)
    rw [e2, Int.natAbs_neg, Int.natAbs_natCast, ofBin_is]; rfl

theorem add_D {i j : Nat} (hi : i < 512) (hj : j < 512) : Float64.add (D i) (D j) = D (i + j) := add_pos (is_D hi) (is_D hj)
theorem sub_D {i j : Nat} (hi : i < 512) (hj : j < 512) : Float64.sub (D i) (D j) = if j ≤ i then D (i - j) else Dn (j - i) := by
  unfold Float64.sub; exact add_mix (is_D hi) (is_neg hj)

theorem cmp_D {i j : Nat} (hi : i < 512) (hj : j < 512) : Float64.cmp (D i) (D j) = some (compare i j) := by
  obtain ⟨r, hr⟩ := is_D hi
  obtain ⟨q, hq⟩ := is_D hj
  unfold Float64.cmp
  rw [hr, hq]
  simp only [align_is, Float64.sgn, Bool.false_eq_true, if_false]
  generalize max r q = m
  have hp := Nat.two_pow_pos m
  congr 1
  rcases Nat.lt_trichotomy i j with h | h | h
  · have h2 : i * 2 ^ m < j * 2 ^ m := Nat.mul_lt_mul_of_pos_right h hp
    rw [Nat.compare_eq_lt.mpr h, Int.compare_eq_lt.mpr (by (clear h hp hq hr hj hi; omega))]
  · subst h; rw [Nat.compare_eq_eq.mpr rfl, Int.compare_eq_eq.mpr rfl]
  · have h2 : j * 2 ^ m < i * 2 ^ m := Nat.mul_lt_mul_of_pos_right h hp
    rw [Nat.compare_eq_gt.mpr h, Int.compare_eq_gt.mpr (by (clear h hp hq hr hj hi; omega))]
end Mine

namespace Mine
open PySem PySem.W PyProof.Rows

theorem cmp_lt_D {i j : Nat} (hi : i < 512) (hj : j < 512) : (Float64.cmp (D i) (D j) == some .lt) = decide (i < j) := by
  rw [cmp_D hi hj]
  rcases Nat.lt_trichotomy i j with h | h | h
  · rw [Nat.compare_eq_lt.mpr h, decide_eq_true h]; rfl
  · subst h; rw [Nat.compare_eq_eq.mpr rfl, decide_eq_false (Nat.lt_irrefl _)]; rfl
  · rw [Nat.compare_eq_gt.mpr h, decide_eq_false (by lia)]; rfl
theorem feq_D {i j : Nat} (hi : i < 512) (hj : j < 512) : feq (D i) (D j) = decide (i = j) := by
  unfold feq
  rw [cmp_D hi hj]
  rcases Nat.lt_trichotomy i j with h | h | h
  · rw [Nat.compare_eq_lt.mpr h, decide_eq_false (by lia)]; rfl
  · subst h; rw [Nat.compare_eq_eq.mpr rfl, decide_eq_true rfl]; rfl
  · rw [Nat.compare_eq_gt.mpr h, decide_eq_false (by lia)]; rfl

theorem max3_D {x y z : Nat} (hx : x < 512) (hy : y < 512) (hz : z < 512) : max3 (D x) (D y) (D z) = D (max (max x y) z) := by
  unfold max3
  simp only [cmp_lt_D hx hy]
  by_cases h : x < y
  · simp only [decide_eq_true h, if_true, cmp_lt_D hy hz]
    by_cases h2 : y < z
    · simp only [decide_eq_true h2, if_true]; congr 1; lia
    · simp only [decide_eq_false h2, Bool.false_eq_true, if_false]; congr 1; lia
  · simp only [decide_eq_false h, Bool.false_eq_true, if_false, cmp_lt_D hx hz]
    by_cases h2 : x < z
    · simp only [decide_eq_true h2, if_true]; congr 1; lia
    · simp only [decide_eq_false h2, Bool.false_eq_true, if_false]; congr 1; lia
theorem min3_D {x y z : Nat} (hx : x < 512) (hy : y < 512) (hz : z < 512) : min3 (D x) (D y) (D z) = D (min (min x y) z) := by
  unfold min3
  simp only [cmp_lt_D hy hx]
  by_cases h : y < x
  · simp only [decide_eq_true h, if_true, cmp_lt_D hz hy]
    by_cases h2 : z < y
    · simp only [decide_eq_true h2, if_true]; congr 1; lia
    · simp only [decide_eq_false h2, Bool.false_eq_true, if_false]; congr 1; lia
  · simp only [decide_eq_false h, Bool.false_eq_true, if_false, cmp_lt_D hz hx]
    by_cases h2 : z < x
    · simp only [decide_eq_true h2, if_true]; congr 1; lia
    · simp only [decide_eq_false h2, Bool.false_eq_true, if_false]; congr 1; lia

theorem zero_D {i : Nat} (hi : i < 512) (h0 : i ≠ 0) : Float64.isZero (D i) = false := by
  obtain ⟨r, hr⟩ := is_D hi
  unfold Float64.isZero
  rw [hr]
  have : i * 2 ^ r ≠ 0 := Nat.mul_ne_zero h0 (Nat.ne_of_gt (Nat.two_pow_pos r))
  split
  · rename_i h; injection h with _ h2 _; exact absurd h2 this
  · rfl
theorem nan_D {i : Nat} (hi : i < 512) : Float64.isNaN (D i) = false := by
  obtain ⟨r, hr⟩ := is_D hi
  unfold Float64.isNaN; rw [hr]

theorem c1 : f1 = D 64 := by decide +kernel
theorem ch : fh = D 32 := by decide +kernel
theorem cq : fq = D 16 := by decide +kernel
theorem c2 : f2 = D 128 := by decide +kernel
theorem c4 : f4 = D 256 := by decide +kernel
theorem c0 : f0 = D 0 := by decide +kernel

/-- so many 64ths, below nothing too -/
noncomputable def SD (i : Int) : UInt64 := if i < 0 then Dn i.natAbs else D i.natAbs
theorem sub_SD {i j : Nat} (hi : i < 512) (hj : j < 512) : Float64.sub (D i) (D j) = SD ((i : Int) - j) := by
  rw [sub_D hi hj]
  unfold SD
  by_cases h : j ≤ i
  · rw [if_pos h, if_neg (by lia)]; congr 1; lia
  · rw [if_neg h, if_pos (by lia)]; congr 1; lia

/-- the hue that a whole number of 384ths is read as -/
noncomputable def HF (i : Int) : UInt64 := fmod (Float64.div (SD i) f6) f1

theorem div64 {u : Nat} (h : u ≤ 64) : Float64.div (D u) (D 64) = D u := by
  have t : ((List.range 65).all fun u => Float64.div (D u) (D 64) == D u) = true := by decide +kernel
  exact eq_of_beq (List.all_eq_true.mp t u (List.mem_range.mpr (by lia)))
theorem div32 {u : Nat} (h : u ≤ 32) : Float64.div (D u) (D 32) = D (2 * u) := by
  have t : ((List.range 33).all fun u => Float64.div (D u) (D 32) == D (2 * u)) = true := by decide +kernel
  exact eq_of_beq (List.all_eq_true.mp t u (List.mem_range.mpr (by lia)))

/-- how many times a share of rg is to be taken -/
noncomputable def hueI (x y z : Nat) : Int :=
  let mx := max (max x y) z
  let rg := mx - min (min x y) z
  let c := fun u => (64 * (mx - u) / rg : Nat)
  if x = mx then (c z : Int) - c y else if y = mx then 128 + c x - c z else 256 + c y - c x

theorem div_rg {u rg : Nat} (hr : rg = 32 ∨ rg = 64) (h : u ≤ rg) : Float64.div (D u) (D rg) = D (64 * u / rg) := by
  rcases hr with rfl | rfl
  · rw [div32 h]; congr 1; lia
  · rw [div64 h]; congr 1; lia

theorem mxmn {x y z : Nat} (hx : x ≤ 64) (hy : y ≤ 64) (hz : z ≤ 64) : max (max x y) z ≤ 64 ∧ x ≤ max (max x y) z ∧ y ≤ max (max x y) z ∧ z ≤ max (max x y) z ∧
    min (min x y) z ≤ x ∧ min (min x y) z ≤ y ∧ min (min x y) z ≤ z ∧ min (min x y) z ≤ max (max x y) z := by omega

theorem hueF_D {x y z : Nat} (hx : x ≤ 64) (hy : y ≤ 64) (hz : z ≤ 64) (hr : max (max x y) z - min (min x y) z = 32 ∨ max (max x y) z - min (min x y) z = 64) :
    hueF (D x) (D y) (D (max (max x y) z)) (Float64.div (Float64.sub (D (max (max x y) z)) (D x)) (Float64.sub (D (max (max x y) z)) (D (min (min x y) z))))
      (Float64.div (Float64.sub (D (max (max x y) z)) (D y)) (Float64.sub (D (max (max x y) z)) (D (min (min x y) z))))
      (Float64.div (Float64.sub (D (max (max x y) z)) (D z)) (Float64.sub (D (max (max x y) z)) (D (min (min x y) z)))) = SD (hueI x y z) := by
  unfold hueI
  obtain ⟨b1, b2, b3, b4, b5, b6, b7, b8⟩ := mxmn hx hy hz
  generalize max (max x y) z = mx at *
  generalize min (min x y) z = mn at *
  simp only
  have e1 : Float64.sub (D mx) (D mn) = D (mx - mn) := by rw [sub_D (by lia) (by lia), if_pos (by lia)]
  have e2 : ∀ u, u ≤ mx → mn ≤ u → Float64.div (Float64.sub (D mx) (D u)) (D (mx - mn)) = D (64 * (mx - u) / (mx - mn)) := fun u h1 h2 => by
    rw [sub_D (by lia) (by lia), if_pos h1]; exact div_rg hr (by lia)
  rw [e1, e2 x (by lia) (by lia), e2 y (by lia) (by lia), e2 z (by lia) (by lia)]
  have bd : ∀ u, mn ≤ u → u ≤ mx → 64 * (mx - u) / (mx - mn) ≤ 64 := fun u h1 h2 => by
    rcases hr with h | h <;> (rw [h]; lia)
  have bx := bd x (by lia) (by lia)
  have by' := bd y (by lia) (by lia)
  have bz := bd z (by lia) (by lia)
  generalize 64 * (mx - x) / (mx - mn) = cx at *
  generalize 64 * (mx - y) / (mx - mn) = cy at *
  generalize 64 * (mx - z) / (mx - mn) = cz at *
  unfold hueF
  rw [feq_D (by lia) (by lia), feq_D (by lia) (by (clear bz by' bx bd e2 e1 b8 hr b7 b6 b5 b4 b3 b2 hz hy hx; omega))]
  by_cases h1 : x = mx
  · simp only [h1, decide_true, if_true]
    exact sub_SD (by lia) (by lia)
  · simp only [h1, decide_false, Bool.false_eq_true, if_false]
    by_cases h2 : y = mx
    · simp only [h2, decide_true, if_true]
      rw [c2, add_D (by lia) (by lia), sub_SD (by lia) (by (clear h2 h1 by' bx bd e2 e1 b8 hr b7 b6 b5 b4 b3 b2 b1 hz hy hx; omega))]
      congr 1
    · simp only [h2, decide_false, Bool.false_eq_true, if_false]
      rw [c4, add_D (by lia) (by (clear h2 h1 bz bx bd e2 e1 b8 hr b7 b6 b5 b4 b3 b2 b1 hz hy hx; omega)), sub_SD (by lia) (by (clear h2 h1 bz by' bd e2 e1 b8 hr b7 b6 b5 b4 b3 b2 b1 hz hy hx; omega))]
      congr 1

theorem hsv_D {x y z : Nat} (hx : x ≤ 64) (hy : y ≤ 64) (hz : z ≤ 64) (hr : max (max x y) z - min (min x y) z = 32 ∨ max (max x y) z - min (min x y) z = 64) :
    rgbHsv (D x) (D y) (D z) = some (HF (hueI x y z), Float64.div (D (max (max x y) z - min (min x y) z)) (D (max (max x y) z)), D (max (max x y) z)) := by
  unfold rgbHsv
  simp only [max3_D (show x < 512 by lia) (show y < 512 by lia) (show z < 512 by lia), min3_D (show x < 512 by omega) (show y < 512 by omega) (show z < 512 by omega)]
  have h := hueF_D hx hy hz hr
  obtain ⟨b1, b2, b3, b4, b5, b6, b7, b8⟩ := mxmn hx hy hz
  generalize max (max x y) z = mx at *
  generalize min (min x y) z = mn at *
  rw [feq_D (by omega) (by (clear b8 h hr b7 b6 b5 b4 b3 b2 hz hy hx; omega)), decide_eq_false (by (clear b8 h b7 b6 b5 b4 b3 b2 b1 hz hy hx; omega)), h]
  have e1 : Float64.sub (D mx) (D mn) = D (mx - mn) := by rw [sub_D (by (clear b8 h hr b7 b6 b5 b4 b3 b2 hz hy hx; omega)) (by omega), if_pos (by lia)]
  rw [e1, zero_D (by (clear e1 b8 h hr b7 b6 b5 b4 b3 b2 hz hy hx; omega)) (by (clear e1 h b7 b6 b5 b4 b3 b2 b1 hz hy hx b8; omega)), zero_D (by (clear e1 h hr b7 b6 b4 b3 b2 hz hy b8 b5; omega)) (by lia)]
  rfl

theorem hls_D {x y z : Nat} (hx : x ≤ 64) (hy : y ≤ 64) (hz : z ≤ 64) (hr : (max (max x y) z = 32 ∧ min (min x y) z = 0) ∨ (max (max x y) z = 64 ∧ min (min x y) z = 32) ∨ (max (max x y) z = 64 ∧ min (min x y) z = 0)) :
    rgbHls (D x) (D y) (D z) = some (HF (hueI x y z), D ((max (max x y) z + min (min x y) z) / 2), f1) := by
  unfold rgbHls
  simp only [max3_D (show x < 512 by omega) (show y < 512 by omega) (show z < 512 by omega), min3_D (show x < 512 by omega) (show y < 512 by omega) (show z < 512 by omega)]
  have h := hueF_D hx hy hz (by lia)
  obtain ⟨b1, b2, b3, b4, b5, b6, b7, b8⟩ := mxmn hx hy hz
  generalize max (max x y) z = mx at *
  generalize min (min x y) z = mn at *
  rw [feq_D (by omega) (by (clear b8 h hr b7 b6 b5 b4 b3 b2 hz hy hx; omega)), decide_eq_false (by lia), h]
  simp only [Bool.false_eq_true, if_false]
  have hf : ∀ i, HF i = fmod (Float64.div (SD i) f6) f1 := fun _ => rfl
  rcases hr with ⟨rfl, rfl⟩ | ⟨rfl, rfl⟩ | ⟨rfl, rfl⟩
  · rw [← hf]
    have a1 : fle (Float64.div (Float64.add (D 32) (D 0)) f2) fh = true := by decide +kernel
    have a2 : Float64.isZero (Float64.add (D 32) (D 0)) = false := by decide +kernel
    have a3 : Float64.isZero (Float64.sub (D 32) (D 0)) = false := by decide +kernel
    have a4 : Float64.div (Float64.add (D 32) (D 0)) f2 = D 16 := by decide +kernel
    have a5 : Float64.div (Float64.sub (D 32) (D 0)) (Float64.add (D 32) (D 0)) = f1 := by decide +kernel
    rw [a1]; simp only [if_true]; rw [a2, a3, a5]; simp only [Bool.or_self, Bool.false_eq_true, if_false]; rw [a4]
  · rw [← hf]
    have a1 : fle (Float64.div (Float64.add (D 64) (D 32)) f2) fh = false := by decide +kernel
    have a2 : Float64.isZero (Float64.sub (Float64.sub f2 (D 64)) (D 32)) = false := by decide +kernel
    have a3 : Float64.isZero (Float64.sub (D 64) (D 32)) = false := by decide +kernel
    have a4 : Float64.div (Float64.add (D 64) (D 32)) f2 = D 48 := by decide +kernel
    have a5 : Float64.div (Float64.sub (D 64) (D 32)) (Float64.sub (Float64.sub f2 (D 64)) (D 32)) = f1 := by decide +kernel
    rw [a1]; simp only [Bool.false_eq_true, if_false]; rw [a2, a3, a5]; simp only [Bool.or_self, Bool.false_eq_true, if_false]; rw [a4]
  · rw [← hf]
    have a1 : fle (Float64.div (Float64.add (D 64) (D 0)) f2) fh = true := by decide +kernel
    have a2 : Float64.isZero (Float64.add (D 64) (D 0)) = false := by decide +kernel
    have a3 : Float64.isZero (Float64.sub (D 64) (D 0)) = false := by decide +kernel
    have a4 : Float64.div (Float64.add (D 64) (D 0)) f2 = D 32 := by decide +kernel
    have a5 : Float64.div (Float64.sub (D 64) (D 0)) (Float64.add (D 64) (D 0)) = f1 := by decide +kernel
    rw [a1]; simp only [if_true]; rw [a2, a3, a5]; simp only [Bool.or_self, Bool.false_eq_true, if_false]; rw [a4]
end Mine

namespace Mine
open PySem PySem.W PyProof.Rows

/-- the light of a hue, in 64ths -/
noncomputable def lightN (k : Nat) : Nat × Nat × Nat :=
  let f := 3 * k % 32
  match 3 * k / 32 with
  | 0 => (32, f, 0)
  | 1 => (32 - f, 32, 0)
  | 2 => (0, 32, f)
  | 3 => (0, 32 - f, 32)
  | 4 => (f, 0, 32)
  | _ => (32, 0, 32 - f)
noncomputable def D3 (t : Nat × Nat × Nat) : UInt64 × UInt64 × UInt64 := (D t.1, D t.2.1, D t.2.2)
noncomputable def off3 (t : Nat × Nat × Nat) : Nat × Nat × Nat := (64 - t.1, 64 - t.2.1, 64 - t.2.2)

noncomputable def sameB (o : Option (UInt64 × UInt64 × UInt64)) (t : Nat × Nat × Nat) : Bool := match o with
  | some c => c.1 == D t.1 && c.2.1 == D t.2.1 && c.2.2 == D t.2.2
  | Option.none => false
theorem same_of {o : Option (UInt64 × UInt64 × UInt64)} {t : Nat × Nat × Nat} (h : sameB o t = true) : o = some (D3 t) := by
  unfold sameB at h
  split at h
  · rename_i c
    simp only [Bool.and_eq_true, beq_iff_eq] at h
    obtain ⟨⟨h1, h2⟩, h3⟩ := h
    unfold D3; rw [← h1, ← h2, ← h3]
  · cases h

/-- a check of all numbers from a on, so many -/
noncomputable def allFrom (f : Nat → Bool) (a n : Nat) : Bool := (List.range n).all fun i => f (a + i)
theorem allFrom_use {f : Nat → Bool} {a n i : Nat} (h : allFrom f a n = true) (h1 : a ≤ i) (h2 : i < a + n) : f i = true := by
  have := List.all_eq_true.mp h (i - a) (List.mem_range.mpr (by lia))
  rwa [show a + (i - a) = i by lia] at this

noncomputable def lightB (i : Nat) : Bool := sameB (hsvRgb (D i) f1 fh) (lightN (i % 64))
theorem light0 : allFrom lightB 0 32 = true := by decide +kernel
theorem light1 : allFrom lightB 32 32 = true := by decide +kernel
theorem light2 : allFrom lightB 64 32 = true := by decide +kernel
theorem light3 : allFrom lightB 96 32 = true := by decide +kernel
theorem light_of {i : Nat} (h : i < 128) : hsvRgb (D i) f1 fh = some (D3 (lightN (i % 64))) := same_of (by
  show lightB i = true
  rcases Nat.lt_or_ge i 64 with h1 | h1
  · rcases Nat.lt_or_ge i 32 with h2 | h2
    · exact allFrom_use light0 (by lia) (by lia)
    · exact allFrom_use light1 (by lia) (by lia)
  · rcases Nat.lt_or_ge i 96 with h2 | h2
    · exact allFrom_use light2 (by lia) (by lia)
    · exact allFrom_use light3 (by lia) (by lia))

noncomputable def leftB (k : Nat) : Bool := sameB (hsvRgb (D ((k + 32) % 64)) fh f1) (off3 (lightN k))
theorem left0 : allFrom leftB 0 32 = true := by decide +kernel
theorem left1 : allFrom leftB 32 32 = true := by decide +kernel
theorem left_of {k : Nat} (h : k < 64) : hsvRgb (D ((k + 32) % 64)) fh f1 = some (D3 (off3 (lightN k))) := same_of (by
  show leftB k = true
  rcases Nat.lt_or_ge k 32 with h2 | h2
  · exact allFrom_use left0 (by lia) (by lia)
  · exact allFrom_use left1 (by lia) (by lia))

noncomputable def modB (i : Nat) : Bool := fmod (D i) f1 == D (i % 64)
theorem mod0 : allFrom modB 0 64 = true := by decide +kernel
theorem mod1 : allFrom modB 64 64 = true := by decide +kernel
theorem mod_of {i : Nat} (h : i < 128) : fmod (D i) f1 = D (i % 64) := eq_of_beq (by
  show modB i = true
  rcases Nat.lt_or_ge i 64 with h2 | h2
  · exact allFrom_use mod0 (by lia) (by lia)
  · exact allFrom_use mod1 (by lia) (by lia))
noncomputable def modnB (i : Nat) : Bool := fmod (Dn i) f1 == D ((64 - i) % 64)
theorem modn0 : allFrom modnB 1 63 = true := by decide +kernel
theorem modn_of {i : Nat} (h0 : 0 < i) (h : i < 64) : fmod (Dn i) f1 = D ((64 - i) % 64) := eq_of_beq (allFrom_use modn0 (by lia) (by lia))

/-- the difference of two hues -/
theorem turn_of {a b : Nat} (ha : a < 64) (hb : b < 64) : fmod (Float64.sub (D a) (D b)) f1 = D ((a + 64 - b) % 64) := by
  rw [sub_D (by lia) (by lia)]
  by_cases h : b ≤ a
  · rw [if_pos h, mod_of (by (clear h hb; omega))]; congr 1; lia
  · rw [if_neg h, modn_of (by lia) (by lia)]; congr 1; lia

noncomputable def rep (c : Nat) : Int := if c ≤ 53 then 6 * c else 6 * c - 384
noncomputable def hfB (c : Nat) : Bool := HF (rep c) == D c
theorem hf0 : allFrom hfB 0 32 = true := by decide +kernel
theorem hf1 : allFrom hfB 32 32 = true := by decide +kernel
theorem hf_of {c : Nat} (h : c < 64) : HF (rep c) = D c := eq_of_beq (by
  show hfB c = true
  rcases Nat.lt_or_ge c 32 with h2 | h2
  · exact allFrom_use hf0 (by (clear h2 h; omega)) (by lia)
  · exact allFrom_use hf1 (by lia) (by lia))

/-- no whole number of 64ths -/
noncomputable def offB (x : UInt64) : Bool := match Float64.decode x with
  | .fin false m e => decide (e < 0) && (64 * m % 2 ^ (-e).toNat != 0)
  | _ => false
noncomputable def hoB (n : Nat) : Bool := ((n : Int) - 64) % 6 == 0 || offB (HF ((n : Int) - 64))
theorem ho0 : allFrom hoB 0 64 = true := by decide +kernel
theorem ho1 : allFrom hoB 64 64 = true := by decide +kernel
theorem ho2 : allFrom hoB 128 64 = true := by decide +kernel
theorem ho3 : allFrom hoB 192 64 = true := by decide +kernel
theorem ho4 : allFrom hoB 256 64 = true := by decide +kernel
theorem ho5 : allFrom hoB 320 65 = true := by decide +kernel
end Mine

namespace Mine
open PySem PySem.W PyProof.Rows

theorem off_use {x : UInt64} (h : offB x = true) : Float64.isNaN x = false ∧ ∀ b, b < 512 → feq x (D b) = false := by
  unfold offB at h
  split at h
  · rename_i m e hd
    simp only [Bool.and_eq_true, decide_eq_true_eq, bne_iff_ne] at h
    obtain ⟨he, hm⟩ := h
    refine ⟨by unfold Float64.isNaN; rw [hd], fun b hb => ?_⟩
    obtain ⟨r, hr⟩ := is_D hb
    unfold feq Float64.cmp
    rw [hd, hr]
    unfold Float64.align Float64.sgn
    simp only [Bool.false_eq_true, if_false]
    generalize hg : min e (-6 - (r : Int)) = g
    have h1 : e = g + ((e - g).toNat : Int) := by lia
    have h2 : -6 - (r : Int) = g + ((-6 - (r : Int) - g).toNat : Int) := by omega
    generalize (e - g).toNat = u at *
    generalize (-6 - (r : Int) - g).toNat = v at *
    cases hc : compare ((m * 2 ^ u : Nat) : Int) ((b * 2 ^ r * 2 ^ v : Nat) : Int) with
    | lt => rfl
    | gt => rfl
    | eq =>
      exfalso
      have heq : m * 2 ^ u = b * 2 ^ r * 2 ^ v := by
        have := Int.compare_eq_eq.mp hc; lia
      refine hm ?_
      -- 64 m = b 2^(-e)
      obtain ⟨t, ht⟩ : ∃ t : Nat, -e = t := ⟨(-e).toNat, by (clear heq hc hg hr hb hm hd h2 h1; omega)⟩
      rw [ht, Int.toNat_natCast]
      have hrv : r + v + 6 = u + t := by lia
      have : 64 * m * 2 ^ u = b * 2 ^ t * 2 ^ u := by
        calc 64 * m * 2 ^ u = 64 * (m * 2 ^ u) := by rw [Nat.mul_assoc]
          _ = 64 * (b * 2 ^ r * 2 ^ v) := by rw [heq]
          _ = b * 2 ^ (r + v + 6) := by rw [Nat.mul_assoc b, ← Nat.pow_add, Nat.pow_add _ (r + v) 6]; rw [Nat.mul_left_comm]; congr 1; rw [Nat.mul_comm]
          _ = b * 2 ^ t * 2 ^ u := by rw [hrv, Nat.mul_assoc, ← Nat.pow_add, Nat.add_comm]
      have h64 : 64 * m = b * 2 ^ t := Nat.eq_of_mul_eq_mul_right (Nat.two_pow_pos u) this
      rw [h64]; exact Nat.mul_mod_left ..
  · cases h

theorem HF_cases {i : Int} (h1 : -64 ≤ i) (h2 : i ≤ 320) : (∃ c, c < 64 ∧ i = rep c ∧ HF i = D c) ∨ offB (HF i) = true := by
  by_cases h6 : i % 6 = 0
  · left
    refine ⟨((i + 384) / 6).toNat % 64, Nat.mod_lt _ (by decide), ?_, ?_⟩
    · unfold rep; split <;> lia
    · have e : i = rep (((i + 384) / 6).toNat % 64) := by unfold rep; split <;> omega
      exact (congrArg HF e).trans (hf_of (Nat.mod_lt _ (by decide)))
  · right
    obtain ⟨n, hn⟩ : ∃ n : Nat, i = (n : Int) - 64 := ⟨(i + 64).toNat, by lia⟩
    subst hn
    have hb : hoB n = true := by
      rcases Nat.lt_or_ge n 192 with a | a
      · rcases Nat.lt_or_ge n 64 with b | b
        · exact allFrom_use ho0 (by lia) (by lia)
        · rcases Nat.lt_or_ge n 128 with c | c
          · exact allFrom_use ho1 (by lia) (by lia)
          · exact allFrom_use ho2 (by lia) (by lia)
      · rcases Nat.lt_or_ge n 256 with b | b
        · exact allFrom_use ho3 (by lia) (by lia)
        · rcases Nat.lt_or_ge n 320 with c | c
          · exact allFrom_use ho4 (by lia) (by lia)
          · exact allFrom_use ho5 (by lia) (by lia)
    unfold hoB at hb
    rw [Bool.or_eq_true, beq_iff_eq] at hb
    rcases hb with hb | hb
    · exact absurd hb h6
    · exact hb

/-- a light, as whole numbers -/
structure Kind (t : Nat × Nat × Nat) (mx mn : Nat) (c : Nat) : Prop where
  mx : max (max t.1 t.2.1) t.2.2 = mx
  mn : min (min t.1 t.2.1) t.2.2 = mn
  hue : hueI t.1 t.2.1 t.2.2 = rep c
noncomputable def kindB (t : Nat × Nat × Nat) (mx mn : Nat) (c : Nat) : Bool := max (max t.1 t.2.1) t.2.2 == mx && min (min t.1 t.2.1) t.2.2 == mn && hueI t.1 t.2.1 t.2.2 == rep c
theorem kind_of {t : Nat × Nat × Nat} {mx mn : Nat} {c : Nat} (h : kindB t mx mn c = true) : Kind t mx mn c := by
  unfold kindB at h
  simp only [Bool.and_eq_true, beq_iff_eq] at h
  exact ⟨h.1.1, h.1.2, h.2⟩

noncomputable def dbl (t : Nat × Nat × Nat) : Nat × Nat × Nat := (t.1 + t.1, t.2.1 + t.2.1, t.2.2 + t.2.2)
theorem kinds : (List.range 64).all (fun k => kindB (lightN k) 32 0 k && kindB (off3 (lightN k)) 64 32 ((k + 32) % 64) && kindB (dbl (lightN k)) 64 0 k && kindB (off3 (dbl (lightN k))) 64 0 ((k + 32) % 64)) = true := by decide +kernel
theorem kind4 {k : Nat} (h : k < 64) : Kind (lightN k) 32 0 k ∧ Kind (off3 (lightN k)) 64 32 ((k + 32) % 64) ∧ Kind (dbl (lightN k)) 64 0 k ∧ Kind (off3 (dbl (lightN k))) 64 0 ((k + 32) % 64) := by
  have := List.all_eq_true.mp kinds k (List.mem_range.mpr h)
  simp only [Bool.and_eq_true] at this
  exact ⟨kind_of this.1.1.1, kind_of this.1.1.2, kind_of this.1.2, kind_of this.2⟩

theorem max3_le {x y z mx : Nat} (h : max (max x y) z = mx) : x ≤ mx ∧ y ≤ mx ∧ z ≤ mx := by
  subst h
  exact ⟨Nat.le_trans (Nat.le_max_left ..) (Nat.le_max_left ..), Nat.le_trans (Nat.le_max_right ..) (Nat.le_max_left ..), Nat.le_max_right ..⟩

theorem hsv_kind {t : Nat × Nat × Nat} {mx mn c : Nat} (K : Kind t mx mn c) (hm : mx ≤ 64) (hr : mx - mn = 32 ∨ mx - mn = 64) (hc : c < 64) :
    rgbHsv (D3 t).1 (D3 t).2.1 (D3 t).2.2 = some (D c, Float64.div (D (mx - mn)) (D mx), D mx) := by
  have h1 := K.mx
  have h2 := K.mn
  have h3 := hf_of hc
  obtain ⟨m1, m2, m3⟩ := max3_le h1
  have := hsv_D (x := t.1) (y := t.2.1) (z := t.2.2) (Nat.le_trans m1 hm) (Nat.le_trans m2 hm) (Nat.le_trans m3 hm) (by rw [h1, h2]; exact hr)
  rw [h1, h2, K.hue, h3] at this
  exact this
theorem hls_kind {t : Nat × Nat × Nat} {mx mn c : Nat} (K : Kind t mx mn c) (hr : (mx = 32 ∧ mn = 0) ∨ (mx = 64 ∧ mn = 32) ∨ (mx = 64 ∧ mn = 0)) (hc : c < 64) :
    rgbHls (D3 t).1 (D3 t).2.1 (D3 t).2.2 = some (D c, D ((mx + mn) / 2), f1) := by
  have h1 := K.mx
  have h2 := K.mn
  have h3 := hf_of hc
  obtain ⟨m1, m2, m3⟩ := max3_le h1
  have hm : mx ≤ 64 := by rcases hr with ⟨rfl, _⟩ | ⟨rfl, _⟩ | ⟨rfl, _⟩ <;> decide
  have := hls_D (x := t.1) (y := t.2.1) (z := t.2.2) (Nat.le_trans m1 hm) (Nat.le_trans m2 hm) (Nat.le_trans m3 hm) (by rw [h1, h2]; exact hr)
  rw [h1, h2, K.hue, h3] at this
  exact this

theorem peq_D {m i j : Nat} (hi : i < 512) (hj : j < 512) : peq m (.flt (D i)) (.flt (D j)) = some (decide (i = j)) := by
  have h := feq_D hi hj
  unfold feq at h
  cases m <;> simp [peq, nan_D hi, nan_D hj, h]

theorem dd32 : Float64.div (D (32 - 0)) (D 32) = f1 := by decide +kernel
theorem dd64 : Float64.div (D (64 - 32)) (D 64) = fh := by decide +kernel
theorem dd1 : Float64.div (D (64 - 0)) (D 64) = f1 := by decide +kernel

theorem Lt_of {k : Nat} (h : k < 64) : Lt k = D3 (lightN k) := by
  unfold Lt
  rw [Fk_D, light_of (by lia), Nat.mod_eq_of_lt h]; rfl
theorem Fx_of {k : Nat} (h : k < 64) : Fx k = D ((k + 32) % 64) := by
  unfold Fx
  rw [Fk_D, ch, add_D (by lia) (by lia), mod_of (by lia)]
theorem Lf_of {k : Nat} (h : k < 64) : Lf k = D3 (off3 (lightN k)) := by
  unfold Lf
  rw [Fx_of h, left_of h]; rfl

theorem light_le {k : Nat} (h : k < 64) : (lightN k).1 ≤ 32 ∧ (lightN k).2.1 ≤ 32 ∧ (lightN k).2.2 ≤ 32 := by
  have := (kind4 h).1.mx; lia

theorem peq3 {a b c a' b' c' : UInt64} {m : Nat} {x y z : Bool} (h1 : peq m (.flt a) (.flt a') = some x) (h2 : peq m (.flt b) (.flt b') = some y) (h3 : peq m (.flt c) (.flt c') = some z) :
    peq (m + 1) (.tup [.flt a, .flt b, .flt c]) (.tup [.flt a', .flt b', .flt c']) = some (x && (y && z)) := by
  rw [peq, if_pos (by rfl), peqL, h1, peqL, h2, peqL, h3, peqL]; simp

theorem hueOk {k : Nat} (h : k < 64) : HueOk k where
  inf := by
    obtain ⟨r, hr⟩ := is_D (show k < 512 by omega)
    rw [Fk_D]; unfold Float64.isInf; rw [hr]
  light := by rw [Fk_D, light_of (by omega), Nat.mod_eq_of_lt h, Lt_of h]
  hsv := by rw [Lt_of h, hsv_kind (kind4 h).1 (by lia) (.inl rfl) h, dd32, ← ch, Fk_D]
  hls := by rw [Lt_of h, hls_kind (kind4 h).1 (.inl ⟨rfl, rfl⟩) h, Fk_D, cq]
  six := by
    have e : ∀ m i, i < 512 → peq m (.flt (D i)) (.flt (D i)) = some true := fun m i hi => by rw [peq_D hi hi]; simp
    rw [Fk_D, c1, ch, cq, peq, if_pos rfl, peqL, e _ k (by omega), peqL, e _ 64 (by decide), peqL, e _ 32 (by decide), peqL, e _ k (by omega), peqL, e _ 16 (by decide), peqL, e _ 64 (by decide), peqL]; rfl
  left := by rw [Fx_of h, left_of h, Lf_of h]
  left1 := by
    have hl := light_le h
    rw [Lf_of h, Lt_of h, c1]
    unfold D3 off3 pv3
    simp only
    rw [sub_D (by decide) (by lia), sub_D (by decide) (by lia), sub_D (by decide) (by lia), if_pos (by lia), if_pos (by lia), if_pos (by lia)]
    rw [peq3 (peq_D (by (clear h hl; omega)) (by (clear h hl; omega))) (peq_D (by (clear h hl; omega)) (by (clear h hl; omega))) (peq_D (by (clear h hl; omega)) (by (clear h hl; omega)))]; simp
  left2 := by
    refine ⟨(D ((k + 32) % 64), fh, f1), ?_, ?_⟩
    · rw [Lf_of h, hsv_kind (kind4 h).2.1 (by lia) (.inl rfl) (Nat.mod_lt _ (by decide)), dd64, ← c1]
    · rw [Fx_of h, ch, c1]
      unfold pv3
      simp only
      rw [peq3 (peq_D (by lia) (by omega)) (peq_D (by omega) (by omega)) (peq_D (by lia) (by omega))]; simp
end Mine

namespace Mine
open PySem PySem.W PyProof.Rows

/-! bounds: nothing runs over -/

/-- at most 2 ^ K -/
noncomputable def Bd (K : Nat) (x : UInt64) : Prop := ∃ s m e, Float64.decode x = .fin s m e ∧ e ≤ -1 ∧ m ≤ 2 ^ K * 2 ^ (-e).toNat

theorem decode_pack (s : Bool) {mag : Nat} (h : mag < 2047 * 2 ^ 52) :
    Float64.decode (Float64.pack s mag) = if mag / 2 ^ 52 = 0 then .fin s (mag % 2 ^ 52) (-1074) else .fin s (2 ^ 52 + mag % 2 ^ 52) ((mag / 2 ^ 52 : Nat) - 1075) := by
  have e0 : (Float64.pack s mag).toNat = (if s then 2 ^ 63 else 0) + mag := by
    unfold Float64.pack
    rw [Nat.toUInt64]
    rw [UInt64.toNat_ofNat']
    exact Nat.mod_eq_of_lt (by split <;> lia)
  unfold Float64.decode
  rw [e0]
  have e1 : ((if s = true then 2 ^ 63 else 0) + mag) / 2 ^ 63 = if s then 1 else 0 := by cases s <;> simp <;> lia
  have e2 : ((if s = true then 2 ^ 63 else 0) + mag) / 2 ^ 52 % 2048 = mag / 2 ^ 52 := by cases s <;> simp <;> (clear e1 e0; omega)
  have e3 : ((if s = true then 2 ^ 63 else 0) + mag) % 2 ^ 52 = mag % 2 ^ 52 := by cases s <;> simp <;> lia
  simp only [e1, e2, e3]
  have e4 : ((if s = true then 1 else 0) == 1) = s := by cases s <;> rfl
  rw [e4]
  have e5 : (mag / 2 ^ 52 == 2047) = false := by rw [beq_eq_false_iff_ne]; (clear e4 e1 e3 e2 e0; omega)
  rw [e5]
  simp only [Bool.false_eq_true, if_false, beq_iff_eq]

theorem roundMag_bound {n d K : Nat} (hd : 0 < d) (hK : K ≤ 40) (h : n ≤ 2 ^ K * d) : Float64.roundMag n d ≤ (K + 1026) * 2 ^ 52 := by
  unfold Float64.roundMag
  by_cases hn : n = 0
  · subst hn; simp
  rw [show (n == 0) = false from beq_eq_false_iff_ne.mpr hn]
  simp only [Bool.false_eq_true, if_false]
  have hl1 : n.log2 ≤ K + d.log2 := by
    have h1 : n.log2 ≤ (d * 2 ^ K).log2 := by
      have h2 : 2 ^ n.log2 ≤ n := Nat.log2_self_le hn
      have h3 : 2 ^ n.log2 ≤ d * 2 ^ K := Nat.le_trans h2 (by rw [Nat.mul_comm]; exact h)
      exact (Nat.le_log2 (Nat.mul_ne_zero (Nat.ne_of_gt hd) (Nat.ne_of_gt (Nat.two_pow_pos K)))).mpr h3
    rw [log2_scale (Nat.ne_of_gt hd)] at h1; lia
  generalize hc : (if (Float64.shift n d (-((n.log2 : Int) - d.log2))).1 ≥ (Float64.shift n d (-((n.log2 : Int) - d.log2))).2 then (n.log2 : Int) - d.log2 - 52 else (n.log2 : Int) - d.log2 - 53) = c
  have hc1 : c ≤ (n.log2 : Int) - d.log2 - 52 ∧ (n.log2 : Int) - d.log2 - 53 ≤ c := by rw [← hc]; split <;> lia
  obtain ⟨t, ht⟩ : ∃ t : Nat, max c (-1074) = -(t : Int) := ⟨(-(max c (-1074))).toNat, by lia⟩
  rw [ht]
  refine Nat.le_trans (Nat.min_le_right _ _) ?_
  have hs : Float64.shift n d (- -(t : Int)) = (n * 2 ^ t, d) := by
    unfold Float64.shift
    rw [Int.neg_neg, if_pos (by lia), Int.toNat_natCast]
  rw [hs]
  have hq : n * 2 ^ t / d < 2 ^ 54 := by
    rw [Nat.div_lt_iff_lt_mul hd]
    have h1 : n < 2 ^ (n.log2 + 1) := Nat.lt_log2_self
    have h2 : 2 ^ d.log2 ≤ d := Nat.log2_self_le (Nat.ne_of_gt hd)
    have h3 : n.log2 + 1 + t ≤ 54 + d.log2 := by (clear h2 h1 hs hc hl1 hn h hK hd; omega)
    calc n * 2 ^ t < 2 ^ (n.log2 + 1) * 2 ^ t := Nat.mul_lt_mul_of_pos_right h1 (Nat.two_pow_pos t)
      _ = 2 ^ (n.log2 + 1 + t) := by rw [← Nat.pow_add]
      _ ≤ 2 ^ (54 + d.log2) := Nat.pow_le_pow_right (by decide) h3
      _ = 2 ^ 54 * 2 ^ d.log2 := Nat.pow_add ..
      _ ≤ 2 ^ 54 * d := Nat.mul_le_mul_left _ h2
  have hh : Float64.halfEven (n * 2 ^ t) d ≤ 2 ^ 54 := by
    unfold Float64.halfEven
    simp only
    split <;> lia
  have ht2 : (-(t : Int) + 1074).toNat ≤ K + 1022 := by lia
  have := Nat.mul_le_mul_right (2 ^ 52) ht2
  rw [show K + 1026 = (K + 1022) + 4 from rfl, Nat.add_mul]
  exact Nat.add_le_add this hh

theorem bd_frac (s : Bool) {n d K : Nat} (hd : 0 < d) (hK : K ≤ 40) (h : n ≤ 2 ^ K * d) : Bd (K + 6) (Float64.ofFrac s n d) := by
  have hb := roundMag_bound hd hK h
  unfold Float64.ofFrac
  obtain ⟨mag, hmag⟩ : ∃ mag, Float64.roundMag n d = mag := ⟨_, rfl⟩
  rw [hmag] at hb ⊢
  have hlt : mag < 2047 * 2 ^ 52 := Nat.lt_of_le_of_lt hb (Nat.mul_lt_mul_of_pos_right (by lia) (by decide))
  by_cases h0 : mag / 2 ^ 52 = 0
  · refine ⟨s, mag % 2 ^ 52, -1074, by rw [decode_pack s hlt, if_pos h0], by decide, ?_⟩
    have : mag % 2 ^ 52 < 2 ^ 52 := Nat.mod_lt _ (by decide)
    refine Nat.le_trans (Nat.le_of_lt this) ?_
    rw [← Nat.pow_add]
    exact Nat.pow_le_pow_right (by decide) (by simp)
  · refine ⟨s, 2 ^ 52 + mag % 2 ^ 52, _, by rw [decode_pack s hlt, if_neg h0], by lia, ?_⟩
    have h1 : mag % 2 ^ 52 < 2 ^ 52 := Nat.mod_lt _ (by decide)
    have h2 : mag / 2 ^ 52 ≤ K + 1026 := by lia
    have h3 : 53 ≤ K + 6 + (-(((mag / 2 ^ 52 : Nat) : Int) - 1075)).toNat := by lia
    rw [← Nat.pow_add]
    refine Nat.le_trans ?_ (Nat.pow_le_pow_right (by decide) h3)
    lia

theorem bd_mono {K K' : Nat} {x : UInt64} (h : Bd K x) (hk : K ≤ K') : Bd K' x := by
  obtain ⟨s, m, e, h1, h2, h3⟩ := h
  exact ⟨s, m, e, h1, h2, Nat.le_trans h3 (Nat.mul_le_mul_right _ (Nat.pow_le_pow_right (by decide) hk))⟩

theorem add_core {a b : Bool} {K p q u : Nat} (w1 : p ≤ 2 ^ K * 2 ^ u) (w2 : q ≤ 2 ^ K * 2 ^ u) (hK : K ≤ 39) :
    Bd (K + 7) (if (Float64.sgn a p + Float64.sgn b q == 0) = true then Float64.zero (a && b) else Float64.ofBin (decide (Float64.sgn a p + Float64.sgn b q < 0)) (Float64.sgn a p + Float64.sgn b q).natAbs (-(u : Int))) := by
  split
  · unfold Float64.zero
    refine ⟨_, 0, -1074, by rw [decode_pack _ (by decide)]; rfl, by decide, Nat.zero_le _⟩
  · unfold Float64.ofBin
    have hs : ∀ n : Nat, Float64.shift n 1 (-(u : Int)) = (n, 2 ^ u) := fun n => by
      unfold Float64.shift
      by_cases hu0 : u = 0
      · subst hu0; simp
      · rw [if_neg (by lia)]; simp
    rw [hs]
    refine bd_mono (K := K + 1 + 6) (bd_frac _ (Nat.two_pow_pos u) (by lia) ?_) (by lia)
    have : (Float64.sgn a p + Float64.sgn b q).natAbs ≤ p + q := by
      unfold Float64.sgn; split <;> split <;> lia
    rw [Nat.pow_succ, Nat.mul_right_comm]
    lia


theorem bd_add {K : Nat} {x y : UInt64} (hx : Bd K x) (hy : Bd K y) (hK : K ≤ 39) : Bd (K + 7) (Float64.add x y) := by
  obtain ⟨a, m, e, h1, h2, h3⟩ := hx
  obtain ⟨b, k, f, h4, h5, h6⟩ := hy
  unfold Float64.add
  rw [h1, h4]
  simp only
  unfold Float64.align
  simp only
  generalize hg : min e f = g
  obtain ⟨u, hu⟩ : ∃ u : Nat, g = -(u : Int) := ⟨(-g).toNat, by lia⟩
  subst hu
  have w1 : m * 2 ^ (e - -(u : Int)).toNat ≤ 2 ^ K * 2 ^ u := by
    calc m * 2 ^ (e - -(u : Int)).toNat ≤ 2 ^ K * 2 ^ (-e).toNat * 2 ^ (e - -(u : Int)).toNat := Nat.mul_le_mul_right _ h3
      _ = 2 ^ K * 2 ^ u := by rw [Nat.mul_assoc, ← Nat.pow_add]; congr 2; lia
  have w2 : k * 2 ^ (f - -(u : Int)).toNat ≤ 2 ^ K * 2 ^ u := by
    calc k * 2 ^ (f - -(u : Int)).toNat ≤ 2 ^ K * 2 ^ (-f).toNat * 2 ^ (f - -(u : Int)).toNat := Nat.mul_le_mul_right _ h6
      _ = 2 ^ K * 2 ^ u := by rw [Nat.mul_assoc, ← Nat.pow_add]; congr 2; lia
  exact add_core w1 w2 hK

theorem neg_frac (n d : Nat) : Float64.neg (Float64.ofFrac false n d) = Float64.ofFrac true n d := by
  have hle : Float64.roundMag n d ≤ Float64.infMag := roundMag_le n d
  unfold Float64.neg
  rw [show Float64.isNaN (Float64.ofFrac false n d) = false from by unfold Float64.ofFrac; exact isNaN_pack _ hle]
  simp only [Bool.false_eq_true, if_false]
  unfold Float64.ofFrac
  generalize Float64.roundMag n d = mag at *
  have hlt : mag < 2 ^ 63 := by unfold Float64.infMag at hle; lia
  apply UInt64.toNat_inj.mp
  rw [UInt64.toNat_xor]
  have t : ∀ s, (Float64.pack s mag).toNat = (if s then 2 ^ 63 else 0) + mag := fun s => by
    unfold Float64.pack
    rw [Nat.toUInt64, UInt64.toNat_ofNat']
    exact Nat.mod_eq_of_lt (by split <;> lia)
  have t0 : (Float64.pack true 0).toNat = 2 ^ 63 := by decide
  rw [t, t, t0]
  simp only [Bool.false_eq_true, if_false, Nat.zero_add, if_true]
  refine Nat.eq_of_testBit_eq fun i => ?_
  rw [Nat.testBit_xor]
  by_cases hi : i = 63
  · subst hi
    rw [Nat.testBit_two_pow_self, Nat.testBit_lt_two_pow hlt, Nat.testBit_two_pow_add_eq, Nat.testBit_lt_two_pow hlt]; rfl
  · rw [Nat.testBit_two_pow_of_ne (Ne.symm hi), Bool.xor_false]
    rcases Nat.lt_or_ge i 63 with h | h
    · rw [Nat.testBit_two_pow_add_gt h]
    · rw [Nat.testBit_lt_two_pow (Nat.lt_of_lt_of_le hlt (Nat.pow_le_pow_right (by decide) h)), Nat.testBit_lt_two_pow]
      refine Nat.lt_of_lt_of_le (show 2 ^ 63 + mag < 2 ^ 64 by lia) (Nat.pow_le_pow_right (by decide) (by lia))

theorem c6 : f6 = D 384 := by decide +kernel
end Mine

namespace Mine
open PySem PySem.W PyProof.Rows

theorem nan_bd {K : Nat} {x : UInt64} (h : Bd K x) : Float64.isNaN x = false := by
  obtain ⟨s, m, e, h1, _⟩ := h
  unfold Float64.isNaN; rw [h1]
theorem nan_frac (s : Bool) (n d : Nat) : Float64.isNaN (Float64.ofFrac s n d) = false := by unfold Float64.ofFrac; exact isNaN_pack _ (roundMag_le n d)

theorem div_frac {i j : Nat} (hi : i < 512) (hj : j < 512) (h0 : j ≠ 0) (h : i ≤ j) : ∃ n d, 0 < d ∧ n ≤ d ∧ Float64.div (D i) (D j) = Float64.ofFrac false n d := by
  obtain ⟨r, hr⟩ := is_D hi
  obtain ⟨q, hq⟩ := is_D hj
  have hp := Nat.two_pow_pos q
  have hk : j * 2 ^ q ≠ 0 := Nat.mul_ne_zero h0 (Nat.ne_of_gt hp)
  refine ⟨(Float64.shift (i * 2 ^ r) (j * 2 ^ q) (-6 - (r : Int) - (-6 - (q : Int)))).1, (Float64.shift (i * 2 ^ r) (j * 2 ^ q) (-6 - (r : Int) - (-6 - (q : Int)))).2, Float64.shift_pos _ _ _ (Nat.pos_of_ne_zero hk), ?_, ?_⟩
  · unfold Float64.shift
    split
    · simp only
      rw [Nat.mul_assoc, ← Nat.pow_add, show r + (-6 - (r : Int) - (-6 - (q : Int))).toNat = q by lia]
      exact Nat.mul_le_mul_right _ h
    · simp only
      rw [Nat.mul_assoc j, ← Nat.pow_add, show q + (-(-6 - (r : Int) - (-6 - (q : Int)))).toNat = r by lia]
      exact Nat.mul_le_mul_right _ h
  · unfold Float64.div
    rw [hr, hq]
    simp only
    rw [if_neg (by rw [beq_iff_eq]; exact hk)]
    rfl

theorem bd_div6 {K : Nat} {x : UInt64} (h : Bd K x) (hK : K ≤ 40) : Bd (K + 6) (Float64.div x f6) := by
  obtain ⟨s, m, e, h1, h2, h3⟩ := h
  obtain ⟨r, hr⟩ := is_D (show 384 < 512 by decide)
  rw [c6]
  unfold Float64.div
  rw [h1, hr]
  simp only
  have hp := Nat.two_pow_pos r
  have hk : 384 * 2 ^ r ≠ 0 := Nat.mul_ne_zero (by decide) (Nat.ne_of_gt hp)
  rw [if_neg (by rw [beq_iff_eq]; exact hk)]
  refine bd_frac _ (Float64.shift_pos _ _ _ (Nat.pos_of_ne_zero hk)) hK ?_
  obtain ⟨u, hu⟩ : ∃ u : Nat, -e = u := ⟨(-e).toNat, by lia⟩
  rw [hu, Int.toNat_natCast] at h3
  unfold Float64.shift
  split
  · simp only
    obtain ⟨t, ht⟩ : ∃ t : Nat, e - (-6 - (r : Int)) = t := ⟨(e - (-6 - (r : Int))).toNat, by lia⟩
    rw [ht, Int.toNat_natCast]
    calc m * 2 ^ t ≤ 2 ^ K * 2 ^ u * 2 ^ t := Nat.mul_le_mul_right _ h3
      _ = 2 ^ K * (64 * 2 ^ r) := by rw [Nat.mul_assoc, ← Nat.pow_add, show u + t = 6 + r by lia, Nat.pow_add]
      _ ≤ 2 ^ K * (384 * 2 ^ r) := Nat.mul_le_mul_left _ (Nat.mul_le_mul_right _ (by decide))
  · simp only
    obtain ⟨t, ht⟩ : ∃ t : Nat, -(e - (-6 - (r : Int))) = t := ⟨(-(e - (-6 - (r : Int)))).toNat, by (clear h3 hk hp hr h2 h1 hK hu; omega)⟩
    rw [ht, Int.toNat_natCast]
    refine Nat.le_trans h3 (Nat.mul_le_mul_left _ ?_)
    calc 2 ^ u = 64 * (2 ^ r * 2 ^ t) := by rw [← Nat.pow_add, show u = 6 + (r + t) by lia, Nat.pow_add]
      _ ≤ 384 * (2 ^ r * 2 ^ t) := Nat.mul_le_mul_right _ (by decide)
      _ = 384 * 2 ^ r * 2 ^ t := by rw [Nat.mul_assoc]

theorem cs0 : Float64.isNaN (Float64.copysign (Float64.zero false) (D 64)) = false := by decide +kernel

theorem nan_mod1 {K : Nat} {x : UInt64} (h : Bd K x) : Float64.isNaN (fmod x f1) = false := by
  obtain ⟨s, m, e, h1, h2, h3⟩ := h
  obtain ⟨r, hr⟩ := is_D (show 64 < 512 by decide)
  rw [c1]
  have hm : Bd 6 (Float64.fmod x (D 64)) := by
    unfold Float64.fmod
    rw [h1, hr]
    simp only
    have hp := Nat.two_pow_pos r
    have hk : 64 * 2 ^ r ≠ 0 := Nat.mul_ne_zero (by decide) (Nat.ne_of_gt hp)
    rw [if_neg (by rw [beq_iff_eq]; exact hk)]
    unfold Float64.align Float64.sgn
    simp only [Bool.false_eq_true, if_false]
    obtain ⟨u, hu⟩ : ∃ u : Nat, min e (-6 - (r : Int)) = -(u : Int) := ⟨(-(min e (-6 - (r : Int)))).toNat, by lia⟩
    rw [hu]
    have hq : 64 * 2 ^ r * 2 ^ (-6 - (r : Int) - -(u : Int)).toNat = 2 ^ u := by
      rw [show (64 : Nat) = 2 ^ 6 by rfl, ← Nat.pow_add, ← Nat.pow_add]; congr 1; lia
    rw [hq, Int.toNat_natCast, Int.toNat_natCast]
    unfold Float64.ofBin Float64.shift
    rw [if_neg (by lia)]
    simp only
    rw [Int.neg_neg, Int.toNat_natCast]
    refine bd_frac (K := 0) _ (by rw [Nat.one_mul]; exact Nat.two_pow_pos u) (by decide) ?_
    have : (m * 2 ^ (e - -(u : Int)).toNat) % 2 ^ u < 2 ^ u := Nat.mod_lt _ (Nat.two_pow_pos u)
    rw [Nat.pow_zero, Nat.one_mul, Nat.one_mul]
    exact Nat.le_of_lt this
  have h64 : Bd 7 (D 64) := bd_mono (K := 6) (bd_frac (K := 0) false (by decide) (by decide) (by decide)) (by decide)
  have ha := bd_add (bd_mono hm (by decide)) h64 (by decide)
  unfold fmod Float64.divmod
  generalize Float64.fmod x (D 64) = md at *
  simp only
  split
  · exact cs0
  · split
    · exact nan_bd ha
    · exact nan_bd hm

theorem peq_nn {m : Nat} {x y : UInt64} (hx : Float64.isNaN x = false) (hy : Float64.isNaN y = false) : peq m (.flt x) (.flt y) = some (feq x y) := by
  unfold feq
  cases m <;> simp [peq, hx, hy]

theorem hueF_bd {x y mx q1 q2 q3 : UInt64} (h1 : ∃ n d, 0 < d ∧ n ≤ d ∧ q1 = Float64.ofFrac false n d) (h2 : ∃ n d, 0 < d ∧ n ≤ d ∧ q2 = Float64.ofFrac false n d) (h3 : ∃ n d, 0 < d ∧ n ≤ d ∧ q3 = Float64.ofFrac false n d) :
    Bd 22 (hueF x y mx q1 q2 q3) := by
  have pos : ∀ {q}, (∃ n d, 0 < d ∧ n ≤ d ∧ q = Float64.ofFrac false n d) → Bd 8 q := fun ⟨n, d, a, b, c⟩ => c ▸ bd_mono (K := 6) (bd_frac (K := 0) _ a (by decide) (by rw [Nat.pow_zero, Nat.one_mul]; exact b)) (by decide)
  have neg : ∀ {q}, (∃ n d, 0 < d ∧ n ≤ d ∧ q = Float64.ofFrac false n d) → Bd 8 (Float64.neg q) := fun ⟨n, d, a, b, c⟩ => by
    rw [c, neg_frac]; exact bd_mono (K := 6) (bd_frac (K := 0) _ a (by decide) (by rw [Nat.pow_zero, Nat.one_mul]; exact b)) (by decide)
  have b2 : Bd 8 f2 := by rw [c2]; exact bd_mono (K := 7) (bd_frac (K := 1) false (by decide) (by decide) (by decide)) (by decide)
  have b4 : Bd 8 f4 := by rw [c4]; exact bd_frac (K := 2) false (by decide) (by decide) (by decide)
  unfold hueF Float64.sub
  split
  · exact bd_mono (bd_add (pos h3) (neg h2) (by decide)) (by decide)
  · split
    · exact bd_add (bd_add b2 (pos h1) (by decide)) (bd_mono (neg h3) (by decide)) (by decide)
    · exact bd_add (bd_add b4 (pos h2) (by decide)) (bd_mono (neg h1) (by decide)) (by decide)

/-- lights that are not alike do not add up to a hue with the full share and the value 1 that is the row's -/
theorem mism {x y z b : Nat} (hx : x ≤ 64) (hy : y ≤ 64) (hz : z ≤ 64) (hb : b < 64)
    (h : max (max x y) z = 64 → min (min x y) z = 0 → hueI x y z ≠ rep b ∧ -64 ≤ hueI x y z ∧ hueI x y z ≤ 320) :
    ∃ c, rgbHsv (D x) (D y) (D z) = some c ∧ peq 8 (pv3 c) (.tup [.flt (D b), .flt f1, .flt f1]) = some false := by
  by_cases h64 : max (max x y) z = 64 ∧ min (min x y) z = 0
  · obtain ⟨g1, g2⟩ := h64
    obtain ⟨i1, i2, i3⟩ := h g1 g2
    have hh := hsv_D hx hy hz (by rw [g1, g2]; right; rfl)
    rw [g1, g2, dd1] at hh
    refine ⟨_, hh, ?_⟩
    unfold pv3
    simp only
    rcases HF_cases i2 i3 with ⟨c, a1, a2, a3⟩ | a
    · rw [a3, c1, peq3 (peq_D (by lia) (by lia)) (peq_D (by decide) (by decide)) (peq_D (by decide) (by decide))]
      have : c ≠ b := fun e => i1 (e ▸ a2)
      rw [decide_eq_false this]; rfl
    · obtain ⟨n1, n2⟩ := off_use a
      rw [c1, peq3 (peq_nn n1 (nan_D (by lia))) (peq_D (by decide) (by decide)) (peq_D (by decide) (by decide)), n2 b (by (clear n2 n1 a hh i3 i2 i1 g2 g1 h hz hy hx; omega))]; rfl
  · clear h
    have hx' : x < 512 := Nat.lt_of_le_of_lt hx (by decide)
    have hy' : y < 512 := Nat.lt_of_le_of_lt hy (by decide)
    have hz' : z < 512 := Nat.lt_of_le_of_lt hz (by decide)
    have hb' : b < 512 := Nat.lt_trans hb (by decide)
    unfold rgbHsv
    simp only [max3_D hx' hy' hz', min3_D hx' hy' hz']
    obtain ⟨b1, b2, b3, b4, b5, b6, b7, b8⟩ : max (max x y) z ≤ 64 ∧ x ≤ max (max x y) z ∧ y ≤ max (max x y) z ∧ z ≤ max (max x y) z ∧ min (min x y) z ≤ x ∧ min (min x y) z ≤ y ∧ min (min x y) z ≤ z ∧ min (min x y) z ≤ max (max x y) z := by (clear hb' hz' hy' hx' h64 hb; omega)
    generalize max (max x y) z = mx at *
    generalize min (min x y) z = mn at *
    have m1 : mx < 512 := Nat.lt_of_le_of_lt b1 (by decide)
    have m2 : mn < 512 := Nat.lt_of_le_of_lt b8 m1
    have n64 : (64 : Nat) < 512 := by decide
    have n0 : (0 : Nat) < 512 := by decide
    rw [feq_D m2 m1]
    by_cases heq : mn = mx
    · rw [decide_eq_true heq]
      refine ⟨(f0, f0, D mx), rfl, ?_⟩
      unfold pv3
      simp only
      rw [c0, c1, peq3 (peq_D n0 hb') (peq_D n0 n64) (peq_D m1 n64), decide_eq_false (show ¬ (0 : Nat) = 64 by decide), Bool.false_and, Bool.and_false]
    · rw [decide_eq_false heq]
      simp only [Bool.false_eq_true, if_false]
      have hlt : mn < mx := Nat.lt_of_le_of_ne b8 heq
      clear heq hx hy hz
      have r1 : mx - mn < 512 := Nat.lt_of_le_of_lt (Nat.sub_le _ _) m1
      have r2 : mx - mn ≠ 0 := Nat.sub_ne_zero_of_lt hlt
      have r3 : mx ≠ 0 := Nat.ne_of_gt (Nat.zero_lt_of_lt hlt)
      have e1 : Float64.sub (D mx) (D mn) = D (mx - mn) := by rw [sub_D m1 m2, if_pos b8]
      rw [e1, zero_D m1 r3, zero_D r1 r2]
      simp only [Bool.or_self, Bool.false_eq_true, if_false]
      refine ⟨_, rfl, ?_⟩
      have fr : ∀ u, u ≤ mx → mn ≤ u → ∃ n d, 0 < d ∧ n ≤ d ∧ Float64.div (Float64.sub (D mx) (D u)) (D (mx - mn)) = Float64.ofFrac false n d := fun u h1 h2 => by
        rw [sub_D m1 (Nat.lt_of_le_of_lt h1 m1), if_pos h1]
        exact div_frac (Nat.lt_of_le_of_lt (Nat.sub_le _ _) m1) r1 r2 (Nat.sub_le_sub_left h2 _)
      have nh := nan_mod1 (bd_div6 (hueF_bd (x := D x) (y := D y) (mx := D mx) (fr x b2 b5) (fr y b3 b6) (fr z b4 b7)) (by decide))
      rw [c1] at nh
      unfold pv3
      simp only
      by_cases hm : mx = 64
      · subst hm
        have hmn0 : mn ≠ 0 := fun e => h64 ⟨rfl, e⟩
        have hne : ¬ (64 - mn = 64) := fun e => hmn0 (by lia)
        rw [div64 (Nat.sub_le _ _), c1, peq3 (peq_nn nh (nan_D hb')) (peq_D r1 n64) (peq_D n64 n64), decide_eq_false hne, Bool.false_and, Bool.and_false]
      · obtain ⟨n, d, _, _, hs⟩ := div_frac r1 m1 r3 (Nat.sub_le mx mn)
        rw [hs, c1, peq3 (peq_nn nh (nan_D hb')) (peq_nn (nan_frac ..) (nan_D n64)) (peq_D m1 n64), decide_eq_false hm, Bool.and_false, Bool.and_false]
end Mine

namespace Mine
open PySem PySem.W PyProof.Rows

noncomputable def sum3 (t u : Nat × Nat × Nat) : Nat × Nat × Nat := (t.1 + u.1, t.2.1 + u.2.1, t.2.2 + u.2.2)
noncomputable def pairB (n : Nat) : Bool :=
  let c := n / 64
  let b := n % 64
  let t := sum3 (lightN c) (lightN b)
  c == b || max (max t.1 t.2.1) t.2.2 != 64 || min (min t.1 t.2.1) t.2.2 != 0 || (hueI t.1 t.2.1 t.2.2 != rep b && decide (-64 ≤ hueI t.1 t.2.1 t.2.2) && decide (hueI t.1 t.2.1 t.2.2 ≤ 320))
theorem pair0 : allFrom pairB 0 1024 = true := by decide +kernel
theorem pair1 : allFrom pairB 1024 1024 = true := by decide +kernel
theorem pair2 : allFrom pairB 2048 1024 = true := by decide +kernel
theorem pair3 : allFrom pairB 3072 1024 = true := by decide +kernel
theorem pair_of {c b : Nat} (hc : c < 64) (hb : b < 64) (h : c ≠ b) (h1 : max (max (sum3 (lightN c) (lightN b)).1 (sum3 (lightN c) (lightN b)).2.1) (sum3 (lightN c) (lightN b)).2.2 = 64)
    (h2 : min (min (sum3 (lightN c) (lightN b)).1 (sum3 (lightN c) (lightN b)).2.1) (sum3 (lightN c) (lightN b)).2.2 = 0) :
    hueI (sum3 (lightN c) (lightN b)).1 (sum3 (lightN c) (lightN b)).2.1 (sum3 (lightN c) (lightN b)).2.2 ≠ rep b ∧ -64 ≤ hueI (sum3 (lightN c) (lightN b)).1 (sum3 (lightN c) (lightN b)).2.1 (sum3 (lightN c) (lightN b)).2.2 ∧
      hueI (sum3 (lightN c) (lightN b)).1 (sum3 (lightN c) (lightN b)).2.1 (sum3 (lightN c) (lightN b)).2.2 ≤ 320 := by
  have hp : pairB (c * 64 + b) = true := by
    rcases Nat.lt_or_ge (c * 64 + b) 2048 with a | a
    · rcases Nat.lt_or_ge (c * 64 + b) 1024 with a' | a'
      · exact allFrom_use pair0 (by lia) (by lia)
      · exact allFrom_use pair1 (by lia) (by lia)
    · rcases Nat.lt_or_ge (c * 64 + b) 3072 with a' | a'
      · exact allFrom_use pair2 (by lia) (by lia)
      · exact allFrom_use pair3 (by lia) (by lia)
  unfold pairB at hp
  rw [show (c * 64 + b) / 64 = c by lia, show (c * 64 + b) % 64 = b by lia] at hp
  simp only [Bool.or_eq_true, Bool.and_eq_true, beq_iff_eq, bne_iff_ne, decide_eq_true_eq] at hp
  rcases hp with ((hp | hp) | hp) | hp
  · exact absurd hp h
  · exact absurd h1 hp
  · exact absurd h2 hp
  · exact ⟨hp.1.1, hp.1.2, hp.2⟩

theorem getD_map {α β : Type} (f : α → β) (l : List α) (i : Nat) (a : α) (b : β) (h : i < l.length) : (l.map f).getD i b = f (l.getD i a) := by
  simp [List.getD_eq_getElem?_getD, h]

/-- whether the beginning, laid at start, has the row's own hue so many steps on -/
noncomputable def laid (R : List Nat) (start k : Nat) : Nat := (R.getD k 0 + (R.getD start 0 + 64 - R.getD 0 0) % 64) % 64

theorem laid_light {R : List Nat} (hR : ∀ a ∈ R, a < 64) {start k : Nat} (hs : start < R.length) (hk : k < R.length) :
    hsvRgb (Float64.add ((R.map Fk).getD k 0) (fmod (Float64.sub ((R.map Fk).getD start 0) ((R.map Fk).getD 0 0)) f1)) f1 fh = some (Lt (laid R start k)) := by
  have m : ∀ i, i < R.length → R.getD i 0 < 64 := fun i hi => hR _ (by rw [List.getD_eq_getElem?_getD, List.getElem?_eq_getElem hi]; exact List.getElem_mem hi)
  have m1 := m k hk
  have m2 := m start hs
  have m3 := m 0 (by lia)
  rw [getD_map Fk R k 0 0 hk, getD_map Fk R start 0 0 hs, getD_map Fk R 0 0 0 (by (clear m3 m2 m1 m hs hR; omega)), Fk_D, Fk_D, Fk_D, turn_of m2 m3, add_D (by lia) (by lia), light_of (by lia)]
  have : laid R start k < 64 := Nat.mod_lt _ (by decide)
  rw [Lt_of this]; rfl

theorem fit_at {R : List Nat} (hR : ∀ a ∈ R, a < 64) {start k : Nat} (h : start + k < R.length) : FitAt (R.map Fk) (R.map Lt) start k (decide (laid R start k = R.getD (start + k) 0)) := by
  have m : ∀ i, i < R.length → R.getD i 0 < 64 := fun i hi => hR _ (by rw [List.getD_eq_getElem?_getD, List.getElem?_eq_getElem hi]; exact List.getElem_mem hi)
  have hb := m _ h
  have hc : laid R start k < 64 := Nat.mod_lt _ (by decide)
  have hl := laid_light hR (start := start) (k := k) (by lia) (by lia)
  generalize laid R start k = c at *
  have own : (R.map Lt).getD (start + k) (0, 0, 0) = D3 (lightN (R.getD (start + k) 0)) := by rw [getD_map Lt R (start + k) 0 _ h, Lt_of hb]
  have hue : (R.map Fk).getD (start + k) 0 = D (R.getD (start + k) 0) := by rw [getD_map Fk R (start + k) 0 _ h, Fk_D]
  unfold FitAt
  rw [hue, own]
  generalize R.getD (start + k) 0 = b at *
  have l1 := light_le hc
  have l2 := light_le hb
  have key : ∃ cc, rgbHsv (D ((lightN c).1 + (lightN b).1)) (D ((lightN c).2.1 + (lightN b).2.1)) (D ((lightN c).2.2 + (lightN b).2.2)) = some cc ∧ peq 8 (pv3 cc) (.tup [.flt (D b), .flt f1, .flt f1]) = some (decide (c = b)) := by
    by_cases h : c = b
    · subst h
      refine ⟨(D c, f1, D 64), ?_, ?_⟩
      · have := hsv_kind (kind4 hc).2.2.1 (by lia) (.inr rfl) hc
        rw [dd1] at this
        exact this
      · unfold pv3
        simp only
        rw [c1, peq3 (peq_D (by lia) (by (clear l2 hue own hb l1 hl m h hR; omega))) (peq_D (by decide) (by decide)) (peq_D (by decide) (by decide))]; simp
    · rw [decide_eq_false h]
      exact mism (by lia) (by lia) (by lia) hb fun h1 h2 => pair_of hc hb h h1 h2
  obtain ⟨cc, k1, k2⟩ := key
  refine ⟨_, cc, hl, ?_, k2⟩
  rw [Lt_of hc]
  unfold D3
  simp only
  rw [add_D (by lia) (by lia), add_D (by lia) (by lia), add_D (by lia) (by lia)]
  exact k1

theorem q1 : Float64.sub f1 (Float64.mul fq (Float64.ofInt (1 : Nat))) = D 48 := by decide +kernel
theorem q2 : Float64.sub f1 (Float64.mul fq (Float64.ofInt (2 : Nat))) = D 32 := by decide +kernel

theorem once_at {R : List Nat} (hR : ∀ a ∈ R, a < 64) {fits : List Nat} {motif size point : Nat} (hp : point < R.length) (h : ∀ s ∈ startsOf fits motif size, covers motif point s = true → laid R s (point - s) = R.getD point 0)
    (hl : litOf motif point (startsOf fits motif size) = 1 ∨ litOf motif point (startsOf fits motif size) = 2) : OnceAt (R.map Fk) fits motif size point := by
  have m : ∀ i, i < R.length → R.getD i 0 < 64 := fun i hi => hR _ (by rw [List.getD_eq_getElem?_getD, List.getElem?_eq_getElem hi]; exact List.getElem_mem hi)
  have hh := m _ hp
  have hue : (R.map Fk).getD point 0 = D (R.getD point 0) := by rw [getD_map Fk R point 0 _ hp, Fk_D]
  have hx : fmod (Float64.add (D (R.getD point 0)) fh) f1 = D ((R.getD point 0 + 32) % 64) := by have := Fx_of hh; unfold Fx at this; rw [Fk_D] at this; exact this
  unfold OnceAt
  rw [hue, hx]
  have lay : ∀ s ∈ startsOf fits motif size, covers motif point s = true → hsvRgb (Float64.add ((R.map Fk).getD (point - s) 0) (fmod (Float64.sub ((R.map Fk).getD s 0) ((R.map Fk).getD 0 0)) f1)) f1 fh = some (Lt (R.getD point 0)) := fun s hs hc => by
    have hsp : s ≤ point := by unfold covers at hc; simp at hc; exact hc.1
    rw [← h s hs hc]
    exact laid_light hR (by lia) (by (clear hc hs hx hue hh m hl h hR hsp; omega))
  have l1 := light_le hh
  generalize R.getD point 0 = b at *
  have hb32 : (b + 32) % 64 < 64 := Nat.mod_lt _ (by decide)
  have d1 : dimF (Lt b) 1 = D3 (off3 (lightN b)) := by
    rw [Lt_of hh]
    unfold dimF dimF D3 off3
    simp only
    rw [c1, sub_D (by decide) (by lia), sub_D (by decide) (by lia), sub_D (by decide) (by lia), if_pos (by lia), if_pos (by lia), if_pos (by lia)]
  have d2 : dimF (Lt b) 2 = D3 (off3 (dbl (lightN b))) := by
    rw [dimF, d1, Lt_of hh]
    unfold D3 off3 dbl
    simp only
    rw [sub_D (by (clear d1 hb32 lay hx hue hh h m hl hp hR l1; omega)) (by (clear d1 hb32 lay hx hue hh h m hl hp hR; omega)), sub_D (by (clear d1 hb32 lay hx hue hh h m hl hp hR l1; omega)) (by (clear d1 hb32 lay hx hue hh h m hl hp hR; omega)), sub_D (by (clear d1 hb32 lay hx hue hh h m hl hp hR l1; omega)) (by (clear d1 hb32 lay hx hue hh h m hl hp hR; omega)), if_pos (by lia), if_pos (by lia), if_pos (by lia)]
    simp only [Nat.sub_sub]
  rcases hl with hl | hl
  · rw [hl]
    refine ⟨Lt b, (D ((b + 32) % 64), D 48, f1), lay, by decide, ?_, ?_⟩
    · rw [d1]; exact hls_kind (kind4 hh).2.1 (.inr (.inl ⟨rfl, rfl⟩)) hb32
    · rw [q1, c1]
      unfold pv3
      simp only
      rw [peq3 (peq_D (by lia) (by (clear hl d2 d1 l1 lay hx hue hh h m hp hR hb32; omega))) (peq_D (by decide) (by decide)) (peq_D (by decide) (by decide))]; simp
  · rw [hl]
    refine ⟨Lt b, (D ((b + 32) % 64), D 32, f1), lay, by decide, ?_, ?_⟩
    · rw [d2]; exact hls_kind (kind4 hh).2.2.2 (.inr (.inr ⟨rfl, rfl⟩)) hb32
    · rw [q2, c1]
      unfold pv3
      simp only
      rw [peq3 (peq_D (by (clear hl d2 d1 l1 lay hx hue hh h m hp hR hb32; omega)) (by (clear hl d2 d1 l1 lay hx hue hh h m hp hR hb32; omega))) (peq_D (by decide) (by decide)) (peq_D (by decide) (by decide))]; simp
end Mine

namespace Mine
open PySem PySem.W PyProof.Rows

/-! the word of the steps -/

noncomputable def chainF (eq : Nat → Nat → Bool) (bl : List Nat) (i : Nat) : Nat → Nat → Nat
  | 0, _ => 0
  | f + 1, k => if eq i k then k + 1 else if k = 0 then 0 else chainF eq bl i f (bl.getD (k - 1) 0)
noncomputable def kmpStep (eq : Nat → Nat → Bool) (l : List Nat) (i : Nat) : List Nat := l ++ [if i = 0 then 0 else chainF eq l i (i + 1) (l.getD (i - 1) 0)]
noncomputable def kmpL (eq : Nat → Nat → Bool) : Nat → List Nat
  | 0 => []
  | i + 1 => kmpStep eq (kmpL eq i) i
noncomputable def kmpB (eq : Nat → Nat → Bool) (n j : Nat) : Nat := (kmpL eq n).getD j 0

theorem kmpL_len (eq : Nat → Nat → Bool) : ∀ n, (kmpL eq n).length = n
  | 0 => rfl
  | n + 1 => by rw [kmpL, kmpStep, List.length_append, kmpL_len eq n]; rfl
theorem kmpL_keep (eq : Nat → Nat → Bool) {j : Nat} : ∀ {n m}, j < n → n ≤ m → (kmpL eq m).getD j 0 = (kmpL eq n).getD j 0 := by
  intro n m hj hm
  induction m with
  | zero => lia
  | succ m ih =>
    rcases Nat.lt_or_ge m n with h | h
    · have : n = m + 1 := by lia
      rw [this]
    · rw [← ih h, kmpL, kmpStep, List.getD_eq_getElem?_getD, List.getElem?_append_left (by rw [kmpL_len]; lia), ← List.getD_eq_getElem?_getD]
theorem kmpL_new (eq : Nat → Nat → Bool) (i : Nat) : (kmpL eq (i + 1)).getD i 0 = if i = 0 then 0 else chainF eq (kmpL eq i) i (i + 1) ((kmpL eq i).getD (i - 1) 0) := by
  rw [kmpL, kmpStep, List.getD_eq_getElem?_getD, List.getElem?_append_right (by rw [kmpL_len]; exact Nat.le_refl _), kmpL_len, Nat.sub_self]; rfl

theorem chainF_le {eq : Nat → Nat → Bool} {bl : List Nat} {i : Nat} (hb : ∀ j, j < i → bl.getD j 0 ≤ j) : ∀ f k, k < i → chainF eq bl i f k ≤ i
  | 0, _, _ => Nat.zero_le _
  | f + 1, k, hk => by
    unfold chainF
    split
    · lia
    · split
      · lia
      · have := hb (k - 1) (by omega)
        exact chainF_le hb f _ (by omega)

theorem kmpL_le (eq : Nat → Nat → Bool) : ∀ n j, j < n → (kmpL eq n).getD j 0 ≤ j
  | 0, j, h => by lia
  | n + 1, j, h => by
    rcases Nat.lt_or_ge j n with h1 | h1
    · rw [kmpL_keep eq h1 (Nat.le_succ n)]; exact kmpL_le eq n j h1
    · have : j = n := by lia
      subst this
      rw [kmpL_new]
      split
      · lia
      · have := kmpL_le eq j (j - 1) (by lia)
        exact chainF_le (fun i hi => kmpL_le eq j i hi) _ _ (by lia)

theorem chainF_chain {eq : Nat → Nat → Bool} {bl : List Nat} {B : Nat → Nat} {i : Nat} (hb : ∀ j, j < i → bl.getD j 0 = B j) (hB : ∀ j, j < i → B j ≤ j) : ∀ f k, k < f → k < i → Chain eq B i k (chainF eq bl i f k)
  | 0, _, h, _ => by omega
  | f + 1, k, hf, hk => by
    unfold chainF
    cases he : eq i k with
    | true => simp only [if_true]; exact .hit he
    | false =>
      simp only [Bool.false_eq_true, if_false]
      cases k with
      | zero => simp only [if_true]; exact .zero he
      | succ k =>
        simp only [Nat.succ_ne_zero, if_false, Nat.add_sub_cancel]
        rw [hb k (by lia)]
        have := hB k (by omega)
        exact .down he (chainF_chain hb hB f (B k) (by lia) (by lia))

theorem kmp_ok (eq : Nat → Nat → Bool) (n : Nat) : Kmp eq n (kmpB eq n) where
  zero := by
    unfold kmpB
    cases n with
    | zero => rfl
    | succ n => rw [kmpL_keep eq (n := 1) (by decide) (by lia)]; rfl
  le := fun j hj => kmpL_le eq n j hj
  step := fun i h1 hi => by
    unfold kmpB
    rw [kmpL_keep eq (j := i) (n := i + 1) (by lia) (by omega), kmpL_new, if_neg (by lia)]
    have e : (kmpL eq n).getD (i - 1) 0 = (kmpL eq i).getD (i - 1) 0 := kmpL_keep eq (by omega) (by lia)
    rw [e]
    have hle := kmpL_le eq i (i - 1) (by (clear e hi; omega))
    exact chainF_chain (B := kmpB eq n) (fun j hj => (kmpL_keep eq hj (by lia)).symm) (fun j hj => kmpL_le eq n j (by lia)) _ _ (by lia) (by omega)

noncomputable def eqW (w : List Nat) (i j : Nat) : Bool := w.getD i 0 == w.getD j 0
/-- how many steps, from start on, are those of the beginning -/
noncomputable def common : List Nat → List Nat → Nat
  | a :: r, b :: s => if a == b then common r s + 1 else 0
  | _, _ => 0
noncomputable def fitsW (w : List Nat) : List Nat := (List.range w.length).map fun s => common w (w.drop s)

noncomputable def okW (w : List Nat) : Bool :=
  let n := w.length
  let fits := fitsW w
  let bl := kmpL (eqW w) n
  let told := (passAt (fun j => bl.getD j 0) n n).1
  let bl' := kmpL (fun i j => eqW w (n - 1 - i) (n - 1 - j)) n
  decide (told.getD n [] = (passAt (fun j => bl'.getD j 0) n n).1.getD n []) &&
  ((List.range n).all fun i => bl.getD i 0 == longestOf fits (i + 1)) &&
  ((List.range n).all fun i => decide (told.getD (i + 1) [] = motifsOf fits (i + 1))) &&
  ((List.range n).all fun i => (told.getD (i + 1) []).length ≤ 1 || (List.range (i + 2)).all fun p =>
    let l := litOf ((told.getD (i + 1) []).getD 0 0) p (startsOf fits ((told.getD (i + 1) []).getD 0 0) (i + 1))
    l == 1 || l == 2)
end Mine

namespace Mine
open PySem PySem.W PyProof.Rows

noncomputable def suf : List Nat := [0, 1, 0, 0, 1, 0, 1, 0]
noncomputable def words : Nat → List (List Nat)
  | 0 => [[]]
  | m + 1 => (words m).map (0 :: ·) ++ (words m).map (1 :: ·) ++ (words m).map (2 :: ·)
theorem words_mem : ∀ (p : List Nat), (∀ a ∈ p, a < 3) → p ∈ words p.length
  | [], _ => by simp [words]
  | a :: p, h => by
    have ih := words_mem p fun b hb => h b (List.mem_cons_of_mem _ hb)
    have ha := h a List.mem_cons_self
    rw [List.length_cons, words]
    have : a = 0 ∨ a = 1 ∨ a = 2 := by lia
    rcases this with rfl | rfl | rfl <;> simp [ih]

noncomputable def chunk (q : List Nat) (m : Nat) : Bool := (words m).all fun p => okW (q ++ p ++ suf)
theorem chunk_use {q : List Nat} {m : Nat} (h : chunk q m = true) {p : List Nat} (hp : ∀ a ∈ p, a < 3) (hm : p.length = m) : okW (q ++ p ++ suf) = true := by
  subst hm
  exact List.all_eq_true.mp h p (words_mem p hp)

theorem k0 : chunk [] 0 = true := by decide +kernel
theorem k1 : chunk [] 1 = true := by decide +kernel
theorem k2 : chunk [] 2 = true := by decide +kernel
theorem k3 : chunk [] 3 = true := by decide +kernel
theorem k40 : chunk [0] 3 = true := by decide +kernel
theorem k41 : chunk [1] 3 = true := by decide +kernel
theorem k42 : chunk [2] 3 = true := by decide +kernel
theorem k500 : chunk [0, 0] 3 = true := by decide +kernel
theorem k501 : chunk [0, 1] 3 = true := by decide +kernel
theorem k502 : chunk [0, 2] 3 = true := by decide +kernel
theorem k510 : chunk [1, 0] 3 = true := by decide +kernel
theorem k511 : chunk [1, 1] 3 = true := by decide +kernel
theorem k512 : chunk [1, 2] 3 = true := by decide +kernel
theorem k520 : chunk [2, 0] 3 = true := by decide +kernel
theorem k521 : chunk [2, 1] 3 = true := by decide +kernel
theorem k522 : chunk [2, 2] 3 = true := by decide +kernel

theorem ok_all {p : List Nat} (h : ∀ a ∈ p, a < 3) (hl : p.length ≤ 5) : okW (p ++ suf) = true := by
  match p, h, hl with
  | [], h, _ => exact chunk_use k0 h rfl
  | [a], h, _ => exact chunk_use k1 h rfl
  | [a, b], h, _ => exact chunk_use k2 h rfl
  | [a, b, c], h, _ => exact chunk_use k3 h rfl
  | [a, b, c, d], h, _ =>
    have ha : a = 0 ∨ a = 1 ∨ a = 2 := by have := h a (by simp); lia
    have hr : ∀ x ∈ [b, c, d], x < 3 := fun x hx => h x (List.mem_cons_of_mem _ hx)
    rcases ha with rfl | rfl | rfl
    · exact chunk_use k40 hr rfl
    · exact chunk_use k41 hr rfl
    · exact chunk_use k42 hr rfl
  | [a, b, c, d, e], h, _ =>
    have ha : a = 0 ∨ a = 1 ∨ a = 2 := by have := h a (by simp); lia
    have hb : b = 0 ∨ b = 1 ∨ b = 2 := by have := h b (by simp); lia
    have hr : ∀ x ∈ [c, d, e], x < 3 := fun x hx => h x (List.mem_cons_of_mem _ (List.mem_cons_of_mem _ hx))
    rcases ha with rfl | rfl | rfl <;> rcases hb with rfl | rfl | rfl
    · exact chunk_use k500 hr rfl
    · exact chunk_use k501 hr rfl
    · exact chunk_use k502 hr rfl
    · exact chunk_use k510 hr rfl
    · exact chunk_use k511 hr rfl
    · exact chunk_use k512 hr rfl
    · exact chunk_use k520 hr rfl
    · exact chunk_use k521 hr rfl
    · exact chunk_use k522 hr rfl
  | a :: b :: c :: d :: e :: f :: r, _, hl => simp at hl
end Mine

namespace Mine
open PySem PySem.W PyProof.Rows

theorem common_len : ∀ (a b : List Nat), common a b ≤ a.length ∧ common a b ≤ b.length
  | [], _ => by simp [common]
  | _ :: _, [] => by simp [common]
  | x :: r, y :: s => by
    have := common_len r s
    unfold common
    split <;> simp <;> lia
theorem common_self : ∀ a : List Nat, common a a = a.length
  | [] => rfl
  | x :: r => by unfold common; rw [common_self r]; simp
theorem common_lt : ∀ {a b : List Nat} {k : Nat}, k < common a b → a.getD k 0 = b.getD k 0
  | [], _, k, h => by simp [common] at h
  | _ :: _, [], k, h => by simp [common] at h
  | x :: r, y :: s, k, h => by
    unfold common at h
    split at h
    · rename_i e
      cases k with
      | zero => simpa using e
      | succ k => simpa using common_lt (a := r) (b := s) (k := k) (by lia)
    · omega
theorem common_at : ∀ {a b : List Nat}, common a b < a.length → common a b < b.length → a.getD (common a b) 0 ≠ b.getD (common a b) 0
  | [], _, h, _ => by simp at h
  | _ :: _, [], _, h => by simp at h
  | x :: r, y :: s, h1, h2 => by
    unfold common at h1 h2 ⊢
    split at h1
    · rename_i e
      rw [if_pos e]
      simp only [List.length_cons] at h1 h2
      rw [if_pos e] at h2
      simpa using common_at (a := r) (b := s) (by lia) (by lia)
    · rename_i e
      rw [if_neg e]
      simpa using e

/-- a row whose steps are told by a word -/
structure Rowed (R : List Nat) (w : List Nat) (st : Nat → Nat) : Prop where
  len : R.length = w.length + 1
  lt : ∀ a ∈ R, a < 64
  next : ∀ i, i < w.length → R.getD (i + 1) 0 = (R.getD i 0 + st i) % 64
  stlt : ∀ i, i < w.length → st i < 64
  same : ∀ i j, i < w.length → j < w.length → (st i = st j ↔ w.getD i 0 = w.getD j 0)

section
variable {R w : List Nat} {st : Nat → Nat}

theorem Rowed.at (H : Rowed R w st) {i : Nat} (h : i < R.length) : R.getD i 0 < 64 := H.lt _ (by rw [List.getD_eq_getElem?_getD, List.getElem?_eq_getElem h]; exact List.getElem_mem h)

theorem Rowed.laid0 (H : Rowed R w st) {s : Nat} (h : s < R.length) : laid R s 0 = R.getD s 0 := by
  have h1 := H.at h
  have h2 := H.at (i := 0) (by lia)
  unfold laid; lia

theorem Rowed.laid_succ (H : Rowed R w st) {s k : Nat} (hs : s < R.length) (hk : k < w.length) : laid R s (k + 1) = (laid R s k + st k) % 64 := by
  unfold laid
  rw [H.next k hk]
  (clear hk hs H; omega)

theorem Rowed.fits (H : Rowed R w st) {s : Nat} (hs : s < w.length) : ∀ k, k ≤ common w (w.drop s) → laid R s k = R.getD (s + k) 0
  | 0, _ => H.laid0 (by have := H.len; lia)
  | k + 1, h => by
    have ih := H.fits hs k (by lia)
    have hl := common_len w (w.drop s)
    rw [List.length_drop] at hl
    have hlen := H.len
    have e := common_lt (a := w) (b := w.drop s) (k := k) (by lia)
    rw [List.getD_eq_getElem?_getD (l := w.drop s), List.getElem?_drop, ← List.getD_eq_getElem?_getD] at e
    have e2 := (H.same k (s + k) (by lia) (by lia)).mpr e
    rw [H.laid_succ (by lia) (by lia), ih, ← Nat.add_assoc, H.next (s + k) (by lia), e2]

theorem Rowed.misfit (H : Rowed R w st) {s : Nat} (hs : s < w.length) (h : s + common w (w.drop s) < w.length) : laid R s (common w (w.drop s) + 1) ≠ R.getD (s + (common w (w.drop s) + 1)) 0 := by
  have hf := H.fits hs _ (Nat.le_refl _)
  have hlen := H.len
  have hne := common_at (a := w) (b := w.drop s) (by lia) (by rw [List.length_drop]; lia)
  generalize common w (w.drop s) = k at *
  rw [List.getD_eq_getElem?_getD (l := w.drop s), List.getElem?_drop, ← List.getD_eq_getElem?_getD] at hne
  have h1 := H.at (i := s + k) (by lia)
  have h2 := H.stlt k (by lia)
  have h3 := H.stlt (s + k) (by lia)
  have h4 : st k ≠ st (s + k) := fun e => hne ((H.same k (s + k) (by lia) (by lia)).mp e)
  rw [H.laid_succ (by lia) (by (clear h4 h3 h2 h1 hne hf hs H; omega)), hf, ← Nat.add_assoc, H.next (s + k) (by lia)]
  lia

theorem fitsW_len : (fitsW w).length = w.length := by simp [fitsW]
theorem fitsW_get {s : Nat} (h : s < w.length) : (fitsW w).getD s 0 = common w (w.drop s) := by
  simp [fitsW, List.getD_eq_getElem?_getD, h]

theorem Rowed.steps (H : Rowed R w st) {i : Nat} (hi : i < w.length) : (stepsF R w.length).getD i 0 = D (st i) := by
  have hlen := H.len
  unfold stepsF
  rw [getD_map _ _ i 0 _ (by rw [List.length_range]; exact hi)]
  have e : (List.range w.length).getD i 0 = i := by simp [List.getD_eq_getElem?_getD, hi]
  rw [e, getD_map Fk R (i + 1) 0 0 (by lia), getD_map Fk R i 0 0 (by lia), Fk_D, Fk_D]
  have h1 := H.at (i := i) (by (clear H e; omega))
  have h2 := H.at (i := i + 1) (by (clear h1 H e; omega))
  have h3 := H.next i hi
  have h4 := H.stlt i hi
  rw [turn_of h2 h1]
  congr 1; (clear e hlen hi H; omega)

theorem law1_of {xs : List Int} (H : Rowed R w st) (hrow : rowOf xs = R.map fun (k : Nat) => (k : Int)) (h1 : 1 ≤ w.length) (h2 : w.length ≤ 50) (hok : okW w = true) :
    Law1 xs R w.length (eqW w) (kmpB (eqW w) w.length) (kmpB (fun i j => eqW w (w.length - 1 - i) (w.length - 1 - j)) w.length) (fitsW w) := by
  have hlen := H.len
  unfold okW at hok
  simp only [Bool.and_eq_true, decide_eq_true_eq, List.all_eq_true, List.mem_range, beq_iff_eq, Bool.or_eq_true] at hok
  obtain ⟨⟨⟨o1, o2⟩, o3⟩, o4⟩ := hok
  exact {
    row := hrow
    len := hlen
    n1 := h1
    n2 := h2
    hue := fun k hk => hueOk (H.lt k hk)
    eq_ok := fun i j hi hj => by
      rw [H.steps hi, H.steps hj, peq_D (by have := H.stlt i hi; lia) (by have := H.stlt j hj; lia)]
      congr 1
      unfold eqW
      rw [Bool.eq_iff_iff, decide_eq_true_eq, beq_iff_eq]
      exact H.same i j hi hj
    kmp := kmp_ok _ _
    kmp' := kmp_ok _ _
    back := o1
    flen := fitsW_len
    fzero := by rw [fitsW_get h1, List.drop_zero, common_self]
    fitAt := fun start s1 s2 => by
      have hl := common_len w (w.drop start)
      rw [List.length_drop] at hl
      refine ⟨common w (w.drop start) + 1, by rw [fitsW_get s2]; rfl, fun k hk => ?_, by lia, fun hlt => ?_⟩
      · have := fit_at H.lt (start := start) (k := k) (by lia)
        rwa [decide_eq_true (H.fits s2 k (by lia))] at this
      · have := fit_at H.lt (start := start) (k := common w (w.drop start) + 1) (by lia)
        rwa [decide_eq_false (H.misfit s2 (by lia))] at this
    long := fun size s1 s2 => by
      have := o2 (size - 1) (by (clear o2 o1 o3 o4 h2 h1 hrow H; omega))
      rw [show size - 1 + 1 = size by lia] at this
      exact this
    mot := fun size s1 s2 => by
      have := o3 (size - 1) (by (clear o2 o1 o3 o4 h2 h1 hrow H; omega))
      rw [show size - 1 + 1 = size by (clear this s2 o2 o1 o3 o4 hlen h2 h1 hrow H; omega)] at this
      exact this
    once := fun size s1 s2 s3 point hp => by
      have h4 := o4 (size - 1) (by (clear hp s3 o2 o1 o3 o4 h2 h1 hrow H; omega))
      rw [show size - 1 + 1 = size by lia] at h4
      rcases h4 with h4 | h4
      · exact absurd h4 (by have : ¬ ((passAt (kmpB (eqW w) w.length) w.length w.length).1.getD size []).length ≤ 1 := by lia
                            exact this)
      · have h5 := h4 point (by lia)
        refine once_at H.lt (by lia) (fun s hs hc => ?_) h5
        have hs2 := List.mem_range.mp (List.mem_filter.mp hs).1
        have hs3 : _ ≤ (fitsW w).getD s 0 := of_decide_eq_true (List.mem_filter.mp hs).2
        have hmot : 1 ≤ ((passAt (kmpB (eqW w) w.length) w.length w.length).1.getD size []).getD 0 0 := by
          have hm : ((passAt (kmpB (eqW w) w.length) w.length w.length).1.getD size []).getD 0 0 ∈ (passAt (kmpB (eqW w) w.length) w.length w.length).1.getD size [] := by
            rw [List.getD_eq_getElem?_getD (i := 0), List.getElem?_eq_getElem (by lia)]; exact List.getElem_mem _
          have key : ∀ mo ∈ (passAt (kmpB (eqW w) w.length) w.length w.length).1.getD size [], 1 ≤ mo := fun mo h => by
            have h6 := o3 (size - 1) (by (clear h hm hs3 hs2 hc hs h5 h4 hp s3 o2 o1 o3 o4 h2 h1 hrow H; omega))
            rw [show size - 1 + 1 = size by lia] at h6
            have h7 : mo ∈ motifsOf (fitsW w) size := h6 ▸ h
            unfold motifsOf at h7
            obtain ⟨i, _, e⟩ := List.mem_map.mp (List.mem_filter.mp h7).1
            lia
          exact key _ hm
        unfold covers at hc
        simp only [Bool.and_eq_true, decide_eq_true_eq] at hc
        have hsw : s < w.length := by lia
        rw [fitsW_get hsw] at hs3
        have := H.fits hsw (point - s) (by lia)
        rwa [show s + (point - s) = point by lia] at this }
end
end Mine

namespace Mine
open PySem PySem.W PyProof.Rows

theorem row_get {st : List Int} : ∀ (ws : List Int) (cur : Int) (i : Nat), i ≤ ws.length → (rowFrom st cur ws)[i]? = some (curAt st cur ws i)
  | [], cur, 0, _ => rfl
  | [], cur, i + 1, h => by simp at h
  | x :: r, cur, 0, _ => rfl
  | x :: r, cur, i + 1, h => by
    rw [rowFrom, List.getElem?_cons_succ, row_get r _ i (by simpa using h)]; rfl
theorem curAt_succ {st : List Int} : ∀ (ws : List Int) (cur : Int) (i : Nat), i < ws.length → curAt st cur ws (i + 1) = (curAt st cur ws i + st.getD (ws.getD i 0).toNat 0).fmod 64
  | [], cur, i, h => by simp at h
  | x :: r, cur, 0, h => by cases r <;> simp [curAt]
  | x :: r, cur, i + 1, h => by
    have := curAt_succ (st := st) r ((cur + st.getD x.toNat 0).fmod 64) i (by simpa using h)
    rw [curAt, this, curAt]; simp
theorem curAt_range {st : List Int} : ∀ (ws : List Int) (cur : Int) (i : Nat), 0 ≤ cur → cur < 64 → 0 ≤ curAt st cur ws i ∧ curAt st cur ws i < 64
  | [], cur, 0, h1, h2 => ⟨h1, h2⟩
  | [], cur, i + 1, h1, h2 => ⟨h1, h2⟩
  | x :: r, cur, 0, h1, h2 => ⟨h1, h2⟩
  | x :: r, cur, i + 1, h1, h2 => by
    rw [curAt]
    exact curAt_range r _ i (Int.fmod_nonneg_of_pos _ (by decide)) (Int.fmod_lt_of_pos _ (by decide))

noncomputable def stN (t : Int) (a : Nat) : Nat := ((stepsOf t).getD a 0 % 64).toNat
noncomputable def col (t : Int) (a : Nat) : Nat := if t % 32 = 23 then (if a = 2 then 1 else a) else a

theorem s01 (t : Int) : stN t 0 ≠ stN t 1 := by
  show ((t + 9) % 64).toNat ≠ ((3 * t + 22) % 64).toNat
  lia
theorem s02 (t : Int) : stN t 0 ≠ stN t 2 := by
  show ((t + 9) % 64).toNat ≠ ((5 * t + 40) % 64).toNat
  lia
theorem s12 (t : Int) : stN t 1 = stN t 2 ↔ t % 32 = 23 := by
  show ((3 * t + 22) % 64).toNat = ((5 * t + 40) % 64).toNat ↔ _
  lia
theorem col0 (t : Int) : col t 0 = 0 := by unfold col; split <;> rfl
theorem col1 (t : Int) : col t 1 = 1 := by unfold col; split <;> rfl
theorem col2 (t : Int) : col t 1 = col t 2 ↔ t % 32 = 23 := by
  rw [col1]; unfold col
  split
  · rename_i h; exact ⟨fun _ => h, fun _ => rfl⟩
  · rename_i h; exact ⟨fun e => (nomatch e), fun e => absurd e h⟩
theorem col02 (t : Int) : col t 0 ≠ col t 2 := by
  rw [col0]; unfold col; split <;> exact fun e => nomatch e

theorem stN_same (t : Int) {a b : Nat} (ha : a < 3) (hb : b < 3) : stN t a = stN t b ↔ col t a = col t b := by
  have h01 : col t 0 ≠ col t 1 := by rw [col0, col1]; exact fun e => nomatch e
  match a, b, ha, hb with
  | 0, 0, _, _ => exact ⟨fun _ => rfl, fun _ => rfl⟩
  | 1, 1, _, _ => exact ⟨fun _ => rfl, fun _ => rfl⟩
  | 2, 2, _, _ => exact ⟨fun _ => rfl, fun _ => rfl⟩
  | 0, 1, _, _ => exact ⟨fun e => absurd e (s01 t), fun e => absurd e h01⟩
  | 1, 0, _, _ => exact ⟨fun e => absurd e.symm (s01 t), fun e => absurd e.symm h01⟩
  | 0, 2, _, _ => exact ⟨fun e => absurd e (s02 t), fun e => absurd e (col02 t)⟩
  | 2, 0, _, _ => exact ⟨fun e => absurd e.symm (s02 t), fun e => absurd e.symm (col02 t)⟩
  | 1, 2, _, _ => exact (s12 t).trans (col2 t).symm
  | 2, 1, _, _ => exact ⟨fun e => ((s12 t).trans (col2 t).symm).mp e.symm |>.symm, fun e => (((s12 t).trans (col2 t).symm).mpr e.symm).symm⟩

theorem col_lt (t : Int) {a : Nat} (ha : a < 3) : col t a < 3 := by
  unfold col; split
  · split <;> lia
  · exact ha

theorem main1 (xs : List Int) : ∃ R n eq B B' fits, Law1 xs R n eq B B' fits := by
  obtain ⟨t, ht⟩ : ∃ t, xs.sum = t := ⟨_, rfl⟩
  obtain ⟨r, hr⟩ : ∃ r, (xs.take 5).map (fun x => (x.fmod 3).toNat) = r := ⟨_, rfl⟩
  have rlt : ∀ a ∈ r, a < 3 := fun a ha => by
    rw [← hr] at ha
    obtain ⟨x, _, rfl⟩ := List.mem_map.mp ha
    have h1 := Int.fmod_nonneg_of_pos x (show (0 : Int) < 3 by decide)
    have h2 := Int.fmod_lt_of_pos x (show (0 : Int) < 3 by decide)
    lia
  have rlen : r.length ≤ 5 := by rw [← hr, List.length_map, List.length_take]; lia
  have hws : whichOf xs = (r ++ suf).map fun (n : Nat) => (n : Int) := by
    unfold whichOf
    rw [List.map_append, ← hr, List.map_map]
    congr 1
    refine List.map_congr_left fun x _ => ?_
    have h1 := Int.fmod_nonneg_of_pos x (show (0 : Int) < 3 by decide)
    show x.fmod 3 = ((x.fmod 3).toNat : Int)
    lia
  have w0lt : ∀ a ∈ r ++ suf, a < 3 := fun a ha => by
    rcases List.mem_append.mp ha with h | h
    · exact rlt a h
    · unfold suf at h; simp at h; lia
  have w0at : ∀ i, i < (r ++ suf).length → (r ++ suf).getD i 0 < 3 := fun i hi => w0lt _ (by rw [List.getD_eq_getElem?_getD, List.getElem?_eq_getElem hi]; exact List.getElem_mem hi)
  have hlen : (whichOf xs).length = (r ++ suf).length := by rw [hws, List.length_map]
  have hw : (r ++ suf).map (col t) = r.map (col t) ++ suf := by
    rw [List.map_append]
    congr 1
    unfold suf col
    by_cases h : t % 32 = 23 <;> simp [h]
  have hwl : (r.map (col t) ++ suf).length = (r ++ suf).length := by rw [← hw, List.length_map]
  have cur0 : 0 ≤ (t + 60).fmod 64 ∧ (t + 60).fmod 64 < 64 := ⟨Int.fmod_nonneg_of_pos _ (by decide), Int.fmod_lt_of_pos _ (by decide)⟩
  have hrange := fun i => curAt_range (st := stepsOf t) (whichOf xs) ((t + 60).fmod 64) i cur0.1 cur0.2
  have hrl : (rowOf xs).length = (r ++ suf).length + 1 := by unfold rowOf; rw [rowFrom_len, hlen]
  have hget : ∀ i, i ≤ (r ++ suf).length → (rowOf xs)[i]? = some (curAt (stepsOf t) ((t + 60).fmod 64) (whichOf xs) i) := fun i hi => by
    unfold rowOf; rw [ht]; exact row_get _ _ i (by lia)
  have hR : ∀ i, i ≤ (r ++ suf).length → ((rowOf xs).map Int.toNat).getD i 0 = (curAt (stepsOf t) ((t + 60).fmod 64) (whichOf xs) i).toNat := fun i hi => by
    rw [List.getD_eq_getElem?_getD, List.getElem?_map, hget i hi]; rfl
  have hmem : ∀ z ∈ rowOf xs, 0 ≤ z ∧ z < 64 := fun z hz => by
    obtain ⟨i, hi, e⟩ := List.mem_iff_getElem.mp hz
    have h1 := hget i (by lia)
    rw [List.getElem?_eq_getElem hi, e] at h1
    cases h1
    exact hrange i
  have H : Rowed ((rowOf xs).map Int.toNat) (r.map (col t) ++ suf) (fun i => stN t ((r ++ suf).getD i 0)) := by
    refine ⟨by rw [List.length_map, hwl, hrl], fun a ha => ?_, fun i hi => ?_, fun i hi => ?_, fun i j hi hj => ?_⟩
    · obtain ⟨z, hz, rfl⟩ := List.mem_map.mp ha
      have := hmem z hz; lia
    · rw [hwl] at hi
      rw [hR _ (by lia), hR _ (by lia), curAt_succ _ _ _ (by lia)]
      have e : (whichOf xs).getD i 0 = ((r ++ suf).getD i 0 : Nat) := by
        rw [hws]; exact getD_map _ _ i 0 _ hi
      rw [e, Int.toNat_natCast]
      have h1 := hrange i
      unfold stN
      generalize curAt (stepsOf t) ((t + 60).fmod 64) (whichOf xs) i = c at *
      generalize (stepsOf t).getD ((r ++ suf).getD i 0) 0 = s
      rw [Int.fmod_eq_emod_of_nonneg _ (by decide)]
      (clear e hi hmem hR hget hrl hrange cur0 hwl hw hlen w0at w0lt hws rlen rlt hr ht; omega)
    · unfold stN; lia
    · rw [hwl] at hi hj
      rw [← hw, getD_map (col t) _ i 0 _ hi, getD_map (col t) _ j 0 _ hj]
      exact stN_same t (w0at i hi) (w0at j hj)
  refine ⟨_, _, _, _, _, _, law1_of H ?_ ?_ ?_ ?_⟩
  · rw [List.map_map]
    conv => lhs; rw [← List.map_id (rowOf xs)]
    refine List.map_congr_left fun z hz => ?_
    have := hmem z hz
    show z = ((z.toNat : Nat) : Int)
    lia
  · rw [hwl, List.length_append]; show 1 ≤ _ + 8; lia
  · rw [hwl, List.length_append]; show _ + 8 ≤ 50; lia
  · exact ok_all (fun a ha => by obtain ⟨b, hb, rfl⟩ := List.mem_map.mp ha; exact col_lt t (rlt b hb)) (by rw [List.length_map]; exact rlen)
end Mine

open PySem PySem.W PyProof.Rows
namespace Mine

theorem booked_of {h : Heap} {o : Obj} (ho : h.get? cStatics = some o) (hd : ∃ ep, o.data = .dict #[] ep) : NoneBooked h := by
  obtain ⟨ep, hd⟩ := hd
  refine ⟨fun _ => Option.none, ⟨o, #[], ep, ho, hd, ?_, fun _ => rfl⟩, rfl⟩
  intro x hx; simp at hx

theorem rep_script {h : Heap} {a : Addr} {items : List Value} {xs : List Int} (hl : h.IsList a items.toArray) (hi : IntsAre items xs) : Rep ⟨NoO, fun _ => Option.none⟩ h (intsP xs) (.ref a) := by
  refine rep_lst.mpr ⟨a, items.toArray, rfl, fun x => x, hl, ?_⟩
  rw [List.toList_toArray]
  clear hl
  induction hi with
  | nil => exact repL_nil.mpr rfl
  | cons _ _ _ ih => exact repL_cons.mpr ⟨_, _, rfl, rep_int.mpr ⟨_, rfl⟩, ih⟩
end Mine

set_option maxHeartbeats 8000000 in
theorem Mine.head1 (main : ∀ xs : List Int, xs.length ≤ 63 → ∃ R n eq B B' fits, Mine.Law1 xs R n eq B B' fits) : PySem.Challenge.rw_sc0027_01.Holds := hd1 (by
  k_fill
  intro w s₀ s₁ mg mb G Y fa o pm cd doc dV kV ho hd hcd hD hmg hg args vals as hpre hlay hrd hwl hlo
  have KX := kIn_of Y
  have V := (Ground.X G).2
  have GL := glob_more (Ground.glob G (by decide +kernel) (by decide +kernel)) V
  refine Ground.open G ?_
  intro T B D TE TW
  clear D TE TW B V Y hmg T G
  wrow_args hpre hlay hrd hwl hlo
  rename_i xs _ _ _ _ _ _ _ la items _ hl _ _ _ hi _ hlen _
  have hx : xs.length ≤ 63 := by lia
  obtain ⟨R, n, eq, B, B', fits, L⟩ := main xs hx
  have hdV : dV = .none := by rcases hD.pos with ⟨_, e⟩ | ⟨e, _⟩; exact e; exact absurd rfl e
  have hkV : kV = .none := by rcases hD.kw with ⟨_, e⟩ | ⟨e, _⟩; exact e; exact absurd rfl e
  subst hdV
  subst hkV
  have ok : (Mine.g1 w).Ok s₁.heap := ⟨⟨_, mg, mb, GL⟩, Mine.booked_of (KX cStatics _ rfl) ⟨_, rfl⟩⟩
  refine wpAny_mono (Mine.law_call (g := Mine.g1 w) (it := Mine.iLaw) (d := 3) (Mine.law_walk (Mine.names1 w) (Mine.defs1 w) hx L) Mine.plLaw rfl rfl ⟨rfl, by decide, by decide⟩ ok ho hd hcd (Mine.rep_script hl hi)) (fun u s' q => ?_) fun _ _ f => f.elim
  obtain ⟨W', h', tk', rfl, hu, ex⟩ := q
  cases Mine.rep_bool.mp hu
  refine GoodW.toG ⟨.inl ⟨_, .bool true, [], rfl, ?_, .bool true, ?_, ?_⟩, ex, rfl, hg⟩
  · intro cls; rfl
  · wrow_post
  · exact unshared_nil)

theorem Mine.law1_holds : PySem.Challenge.rw_sc0027_01.Holds :=
  Mine.head1 fun xs _ => Mine.main1 xs

theorem PySem.Challenge.cw_sc0027_01_holds : PySem.Challenge.rw_sc0027_01.Holds := by
  exact Mine.law1_holds
