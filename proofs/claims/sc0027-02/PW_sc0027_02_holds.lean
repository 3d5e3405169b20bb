import PyProof.Rows.All
import Wide.All
import OpenK.AllK
import Wide.FinOn
import PySem.Challenge.RW_sc0027_02
set_option Elab.async false
set_option linter.unusedVariables false
set_option genSizeOf false
set_option maxRecDepth 100000
namespace Mine
open PySem PySem.W PyProof.Rows

inductive PV where
  | none
  | bool (b : Bool)
  | int (i : Int)
  | flt (x : UInt64)
  | tup (l : List PV)
  | lst (l : List PV)

/-- the addresses that no plain value reaches (lists in the making), and which float each token was made with -/
structure Wd where
  O : Addr → Prop
  T : Tok → Option UInt64

mutual
noncomputable def Rep (W : Wd) (h : Heap) : PV → Value → Prop
  | .none, v => v = .none
  | .bool b, v => v = .bool b
  | .int i, v => ∃ t, v = .int i t
  | .flt x, v => ∃ t, v = .float x t ∧ W.T t = some x
  | .tup l, v => ∃ a items, v = .ref a ∧ ¬ W.O a ∧ h.IsTuple a items ∧ RepL W h l items.toList
  | .lst l, v => ∃ a items, v = .ref a ∧ ¬ W.O a ∧ h.IsList a items ∧ RepL W h l items.toList
noncomputable def RepL (W : Wd) (h : Heap) : List PV → List Value → Prop
  | [], vs => vs = []
  | p :: ps, vs => ∃ v r, vs = v :: r ∧ Rep W h p v ∧ RepL W h ps r
end

noncomputable def Ext (h h' : Heap) : Prop := ∀ b o, h.get? b = some o → h'.get? b = some o

theorem Ext.refl (h : Heap) : Ext h h := fun _ _ e => e
theorem Ext.trans {a b c : Heap} (x : Ext a b) (y : Ext b c) : Ext a c := fun _ _ e => y _ _ (x _ _ e)

/-- the objects that a statement leaves alone, whatever it turns of the frame's own -/
noncomputable def Stays (o : Obj) : Prop := match o.data with | .dict .. => False | .cell _ => False | _ => True
noncomputable def IsSeq (o : Obj) : Prop := match o.data with | .seq .. => True | _ => False
theorem IsSeq.stays {o : Obj} (x : IsSeq o) : Stays o := by
  unfold IsSeq at x; unfold Stays
  split at x
  · rename_i e; rw [e]; trivial
  · exact x.elim

structure Mod (O : Addr → Prop) (h h' : Heap) : Prop where
  keep : ∀ b o, h.get? b = some o → ¬ O b → Stays o → h'.get? b = some o
  alive : ∀ b o, h.get? b = some o → ∃ o', h'.get? b = some o'

/-- lists and tuples outside O stand as they stood -/
noncomputable def ModS (O : Addr → Prop) (h h' : Heap) : Prop := ∀ b o, h.get? b = some o → ¬ O b → IsSeq o → h'.get? b = some o

/-- nothing is forbidden -/
noncomputable def NoO : Addr → Prop := fun _ => False
theorem Mod.any {O : Addr → Prop} {h h' : Heap} (m : Mod NoO h h') : Mod O h h' := ⟨fun b o e _ hs => m.keep b o e (fun x => x) hs, m.alive⟩

theorem Mod.refl (O : Addr → Prop) (h : Heap) : Mod O h h := ⟨fun _ _ e _ _ => e, fun _ o e => ⟨o, e⟩⟩
theorem Ext.mod {O : Addr → Prop} {h h' : Heap} (x : Ext h h') : Mod O h h' := ⟨fun _ _ e _ _ => x _ _ e, fun _ o e => ⟨o, x _ _ e⟩⟩
theorem Mod.seq {O : Addr → Prop} {h h' : Heap} (x : Mod O h h') : ModS O h h' := fun b o e hO hs => x.keep b o e hO hs.stays
theorem Ext.modS {O : Addr → Prop} {h h' : Heap} (x : Ext h h') : ModS O h h' := fun _ _ e _ _ => x _ _ e

/-- the new forbidden addresses are fresh ones -/
noncomputable def OGrow (O O' : Addr → Prop) (h : Heap) : Prop := (∀ a, O a → O' a) ∧ ∀ a, O' a → O a ∨ h.get? a = Option.none

theorem OGrow.refl (O : Addr → Prop) (h : Heap) : OGrow O O h := ⟨fun _ x => x, fun _ x => .inl x⟩

theorem OGrow.trans {O O' O'' : Addr → Prop} {h h' : Heap} (x : OGrow O O' h) (y : OGrow O' O'' h') (m : Mod O h h') : OGrow O O'' h :=
  ⟨fun a q => y.1 a (x.1 a q), fun a q => (y.2 a q).elim (x.2 a) fun hn => by
    cases e : h.get? a with
    | none => exact .inr rfl
    | some o => obtain ⟨o', e'⟩ := m.alive a o e; rw [hn] at e'; cases e'⟩

theorem Mod.trans {O O' : Addr → Prop} {h h' h'' : Heap} (x : Mod O h h') (gr : OGrow O O' h) (y : Mod O' h' h'') : Mod O h h'' :=
  ⟨fun b o e hO hs => y.keep b o (x.keep b o e hO hs) (fun q => (gr.2 b q).elim hO fun hn => by rw [e] at hn; cases hn) hs,
   fun b o e => let ⟨o', e'⟩ := x.alive b o e; y.alive b o' e'⟩

/-- a later world: more forbidden (fresh) addresses, more tokens -/
structure Grow (W W' : Wd) (h : Heap) : Prop where
  o : OGrow W.O W'.O h
  t : ∀ t x, W.T t = some x → W'.T t = some x

theorem Grow.refl (W : Wd) (h : Heap) : Grow W W h := ⟨OGrow.refl _ _, fun _ _ e => e⟩
theorem Grow.trans {W W' W'' : Wd} {h h' : Heap} (x : Grow W W' h) (y : Grow W' W'' h') (m : Mod W.O h h') : Grow W W'' h := ⟨x.o.trans y.o m, fun t u e => y.t t u (x.t t u e)⟩

mutual
theorem Rep.mono {W W' : Wd} {h h' : Heap} (hm : ModS W.O h h') (hg : Grow W W' h) : ∀ {p : PV} {v : Value}, Rep W h p v → Rep W' h' p v
  | .none, v, x => by unfold Rep at x ⊢; exact x
  | .bool b, v, x => by unfold Rep at x ⊢; exact x
  | .int b, v, x => by unfold Rep at x ⊢; exact x
  | .flt b, v, x => by unfold Rep at x ⊢; exact let ⟨t, e, k⟩ := x; ⟨t, e, hg.t t b k⟩
  | .tup l, v, x => by
    unfold Rep at x ⊢
    obtain ⟨a, items, hv, ha, ⟨o, ho, hc, n, hd⟩, hr⟩ := x
    exact ⟨a, items, hv, fun hO => (hg.o.2 a hO).elim ha (fun hn => by rw [ho] at hn; cases hn), ⟨o, hm a o ho ha (by unfold IsSeq; rw [hd]; trivial), hc, n, hd⟩, RepL.mono hm hg hr⟩
  | .lst l, v, x => by
    unfold Rep at x ⊢
    obtain ⟨a, items, hv, ha, ⟨o, ho, hc, n, hd⟩, hr⟩ := x
    exact ⟨a, items, hv, fun hO => (hg.o.2 a hO).elim ha (fun hn => by rw [ho] at hn; cases hn), ⟨o, hm a o ho ha (by unfold IsSeq; rw [hd]; trivial), hc, n, hd⟩, RepL.mono hm hg hr⟩
theorem RepL.mono {W W' : Wd} {h h' : Heap} (hm : ModS W.O h h') (hg : Grow W W' h) : ∀ {ps : List PV} {vs : List Value}, RepL W h ps vs → RepL W' h' ps vs
  | [], vs, x => by unfold RepL at x ⊢; exact x
  | p :: ps, vs, x => by
    unfold RepL at x ⊢
    obtain ⟨v, r, hv, hp, hr⟩ := x
    exact ⟨v, r, hv, Rep.mono hm hg hp, RepL.mono hm hg hr⟩
end

mutual
theorem Rep.weaken {W W' : Wd} {h : Heap} (hs : ∀ a, W'.O a → W.O a) (ht : ∀ t, W'.T t = W.T t) : ∀ {p : PV} {v : Value}, Rep W h p v → Rep W' h p v
  | .none, v, x => by unfold Rep at x ⊢; exact x
  | .bool b, v, x => by unfold Rep at x ⊢; exact x
  | .int b, v, x => by unfold Rep at x ⊢; exact x
  | .flt b, v, x => by unfold Rep at x ⊢; exact let ⟨t, e, k⟩ := x; ⟨t, e, (ht t).trans k⟩
  | .tup l, v, x => by
    unfold Rep at x ⊢
    obtain ⟨a, items, hv, ha, hi, hr⟩ := x
    exact ⟨a, items, hv, fun hO => ha (hs a hO), hi, RepL.weaken hs ht hr⟩
  | .lst l, v, x => by
    unfold Rep at x ⊢
    obtain ⟨a, items, hv, ha, hi, hr⟩ := x
    exact ⟨a, items, hv, fun hO => ha (hs a hO), hi, RepL.weaken hs ht hr⟩
theorem RepL.weaken {W W' : Wd} {h : Heap} (hs : ∀ a, W'.O a → W.O a) (ht : ∀ t, W'.T t = W.T t) : ∀ {ps : List PV} {vs : List Value}, RepL W h ps vs → RepL W' h ps vs
  | [], vs, x => by unfold RepL at x ⊢; exact x
  | p :: ps, vs, x => by
    unfold RepL at x ⊢
    obtain ⟨v, r, hv, hp, hr⟩ := x
    exact ⟨v, r, hv, Rep.weaken hs ht hp, RepL.weaken hs ht hr⟩
end

theorem Rep.ext {W : Wd} {h h' : Heap} {p : PV} {v : Value} (x : Rep W h p v) (e : Ext h h') : Rep W h' p v := x.mono e.modS (Grow.refl _ _)
theorem RepL.ext {W : Wd} {h h' : Heap} {p : List PV} {v : List Value} (x : RepL W h p v) (e : Ext h h') : RepL W h' p v := x.mono e.modS (Grow.refl _ _)

section inv
variable {W : Wd} {h : Heap}
theorem rep_none {v : Value} : Rep W h .none v ↔ v = .none := by unfold Rep; rfl
theorem rep_bool {b : Bool} {v : Value} : Rep W h (.bool b) v ↔ v = .bool b := by unfold Rep; rfl
theorem rep_int {i : Int} {v : Value} : Rep W h (.int i) v ↔ ∃ t, v = .int i t := by unfold Rep; rfl
theorem rep_flt {i : UInt64} {v : Value} : Rep W h (.flt i) v ↔ ∃ t, v = .float i t ∧ W.T t = some i := by unfold Rep; rfl
theorem rep_tup {l : List PV} {v : Value} : Rep W h (.tup l) v ↔ ∃ a items, v = .ref a ∧ ¬ W.O a ∧ h.IsTuple a items ∧ RepL W h l items.toList := by rw [Rep]
theorem rep_lst {l : List PV} {v : Value} : Rep W h (.lst l) v ↔ ∃ a items, v = .ref a ∧ ¬ W.O a ∧ h.IsList a items ∧ RepL W h l items.toList := by rw [Rep]
theorem repL_nil {vs : List Value} : RepL W h [] vs ↔ vs = [] := by rw [RepL]
theorem repL_cons {p : PV} {ps : List PV} {vs : List Value} : RepL W h (p :: ps) vs ↔ ∃ v r, vs = v :: r ∧ Rep W h p v ∧ RepL W h ps r := by rw [RepL]

theorem RepL.length : ∀ {ps : List PV} {vs : List Value}, RepL W h ps vs → vs.length = ps.length
  | [], vs, x => by rw [repL_nil] at x; rw [x]; rfl
  | p :: ps, vs, x => by
    rw [repL_cons] at x
    obtain ⟨v, r, rfl, _, hr⟩ := x
    simp [RepL.length hr]

theorem RepL.get : ∀ {ps : List PV} {vs : List Value} (_ : RepL W h ps vs) (i : Nat) (p : PV), ps[i]? = some p → ∃ v, vs[i]? = some v ∧ Rep W h p v
  | [], vs, x, i, p, e => by simp at e
  | q :: ps, vs, x, i, p, e => by
    rw [repL_cons] at x
    obtain ⟨v, r, rfl, hq, hr⟩ := x
    cases i with
    | zero => simp at e; subst e; exact ⟨v, by simp, hq⟩
    | succ i => simp at e; simpa using RepL.get hr i p e

theorem RepL.getV : ∀ {ps : List PV} {vs : List Value} (_ : RepL W h ps vs) (i : Nat) (v : Value), vs[i]? = some v → ∃ p, ps[i]? = some p ∧ Rep W h p v
  | [], vs, x, i, p, e => by rw [repL_nil] at x; subst x; simp at e
  | q :: ps, vs, x, i, p, e => by
    rw [repL_cons] at x
    obtain ⟨v, r, rfl, hq, hr⟩ := x
    cases i with
    | zero => simp at e; subst e; exact ⟨q, by simp, hq⟩
    | succ i => simp at e; simpa using RepL.getV hr i p e

theorem RepL.append : ∀ {ps qs : List PV} {vs ws : List Value}, RepL W h ps vs → RepL W h qs ws → RepL W h (ps ++ qs) (vs ++ ws)
  | [], qs, vs, ws, x, y => by rw [repL_nil] at x; subst x; simpa using y
  | p :: ps, qs, vs, ws, x, y => by
    rw [repL_cons] at x
    obtain ⟨v, r, rfl, hp, hr⟩ := x
    rw [List.cons_append, repL_cons]
    exact ⟨v, r ++ ws, rfl, hp, RepL.append hr y⟩

theorem RepL.of_get : ∀ {ps : List PV} {vs : List Value}, vs.length = ps.length → (∀ (i : Nat) (p : PV) (v : Value), ps[i]? = some p → vs[i]? = some v → Rep W h p v) → RepL W h ps vs
  | [], vs, e, _ => by rw [repL_nil]; exact List.length_eq_zero_iff.mp e
  | p :: ps, vs, e, f => by
    cases vs with
    | nil => simp at e
    | cons v r =>
      rw [repL_cons]
      refine ⟨v, r, rfl, f 0 p v rfl rfl, RepL.of_get (by simpa using e) fun i q u hq hu => f (i + 1) q u (by simpa using hq) (by simpa using hu)⟩
end inv

theorem fresh_not {O : Addr → Prop} {h : Heap} (hv : ∀ a, O a → ∃ o, h.get? a = some o) : ¬ O h.objs.size := fun hO => by
  obtain ⟨o, ho⟩ := hv _ hO
  exact Nat.lt_irrefl _ (Heap.lt_size ho)

theorem get_fresh (h : Heap) : h.get? h.objs.size = Option.none := by
  cases e : h.get? h.objs.size with
  | none => rfl
  | some o => exact absurd (Heap.lt_size e) (Nat.lt_irrefl _)

theorem ext_push (h : Heap) (o : Obj) : Ext h (h.push o) := fun _ _ e => Heap.get?_push_of_some _ e

end Mine

namespace Mine
open PySem PySem.W PyProof.Rows

noncomputable abbrev Kn := List (Str × NameKind)
noncomputable abbrev Sig := List (Str × PV)
noncomputable abbrev Own := List (Str × List PV)

structure Cx where
  env : Env
  base : Heap
  O : Addr → Prop

structure Pg where
  prog : Program
  w : World
  defs : List DefItem
  consts : List (Str × PyData)
  names : List Str

noncomputable def Pg.Ok (g : Pg) (h : Heap) : Prop := (∃ N mg mb, Glob N mg mb g.defs g.consts [] g.names h) ∧ NoneBooked h
theorem Pg.Ok.ext {g : Pg} {h h' : Heap} (x : g.Ok h) (e : Ext h h') : g.Ok h' :=
  ⟨let ⟨N, mg, mb, G⟩ := x.1; ⟨N, mg, mb, G.keeps e⟩, let ⟨mc, h1, h2⟩ := x.2; ⟨mc, h1.keeps e, h2⟩⟩

noncomputable def Loc (K : Kn) (env : Env) (h : Heap) (x : Str) (v : Value) : Prop :=
  (K.lookup x = some .local ∧ ∃ m, h.Ns env.locals m ∧ m x = some v) ∨
  ((K.lookup x = some .cell ∨ K.lookup x = some .free) ∧ ∃ k, env.cells.lookup x = some k ∧ h.IsCell k (some v))

/-- a list that may be written: nothing hangs at it but its items -/
noncomputable def OwnL (h : Heap) (a : Addr) (items : Array Value) : Prop := ∃ o, h.get? a = some o ∧ ∃ n, o = { cls := .type "list", data := .seq items n }
theorem OwnL.iff {h : Heap} {a : Addr} {items : Array Value} : OwnL h a items ↔ h.PlainList a items :=
  ⟨fun ⟨_, e, n, q⟩ => ⟨n, q ▸ e⟩, fun ⟨n, e⟩ => ⟨_, e, n, rfl⟩⟩

theorem OwnL.isList {h : Heap} {a : Addr} {items : Array Value} (x : OwnL h a items) : h.IsList a items := Heap.PlainList.isList (OwnL.iff.mp x)

theorem OwnL.ext {h h' : Heap} {a : Addr} {items : Array Value} (x : OwnL h a items) (e : Ext h h') : OwnL h' a items := let ⟨o, ho, r⟩ := x; ⟨o, e _ _ ho, r⟩
structure OwnAt (c : Cx) (K : Kn) (W : Wd) (h : Heap) (x : Str) (l : List PV) (a : Addr) : Prop where
  loc : Loc K c.env h x (.ref a)
  inO : W.O a
  side : (K.lookup x = some .free → ∃ o, c.base.get? a = some o) ∧ (K.lookup x ≠ some .free → ¬ c.O a ∧ c.base.get? a = Option.none)
  list : ∃ items, OwnL h a items ∧ RepL W h l items.toList

structure St (g : Pg) (c : Cx) (K : Kn) (W : Wd) (σ : Sig) (ω : Own) (h : Heap) (tk : Nat) : Prop where
  ext : Ext c.base h
  ok : g.Ok c.base
  kind : c.env.scope.kind = .function
  globals : c.env.globals = mainGlobals
  builtins : c.env.builtins = builtinsNs
  ns : ∃ m, h.Ns c.env.locals m
  lfresh : c.base.get? c.env.locals = none
  known : ∀ x kd, K.lookup x = some kd → c.env.kindOf x = some kd ∨ (kd = .free ∧ c.env.kindOf x = some .cell)
  cell : ∀ x, (K.lookup x = some .cell ∨ K.lookup x = some .free) → ∃ k ov, c.env.cells.lookup x = some k ∧ h.IsCell k ov
  cfresh : ∀ x k, K.lookup x = some .cell → c.env.cells.lookup x = some k → c.base.get? k = none
  apart : c.env.cells.Pairwise fun x y => x.2 ≠ y.2
  vars : ∀ x p, σ.lookup x = some p → ∃ v, Loc K c.env h x v ∧ Rep W h p v
  owns : ∃ ad : Str → Addr, (∀ x l, ω.lookup x = some l → OwnAt c K W h x l (ad x)) ∧
    ∀ x y, x ≠ y → (ω.lookup x).isSome = true → (ω.lookup y).isSome = true → ad x ≠ ad y
  sub : ∀ a, c.O a → W.O a
  valid : ∀ a, W.O a → ∃ o, h.get? a = some o
  tok : ∀ t x, W.T t = some x → t ≠ 0 ∧ t < tk
  pos : 0 < tk

theorem Ns.uniq {h : Heap} {a : Addr} {m m' : Str → Option Value} (x : h.Ns a m) (y : h.Ns a m') : m = m' := funext (x.agree y)

theorem ns_ne_cell {h : Heap} {a b : Addr} {m : Str → Option Value} {ov : Option Value} (x : h.Ns a m) (y : h.IsCell b ov) : a ≠ b := by
  rintro rfl
  obtain ⟨o, es, ep, h1, h2, _, _⟩ := x
  obtain ⟨o', h1', h2'⟩ := y
  rw [h1] at h1'; cases h1'
  rw [h2] at h2'; cases h2'

theorem ns_ne_list {h : Heap} {a b : Addr} {m : Str → Option Value} {items : Array Value} (x : h.Ns a m) (y : h.IsList b items) : a ≠ b := by
  rintro rfl
  obtain ⟨o, es, ep, h1, h2, _, _⟩ := x
  obtain ⟨o', h1', _, n, h2'⟩ := y
  rw [h1] at h1'; cases h1'
  rw [h2] at h2'; cases h2'

theorem cell_ne_list {h : Heap} {a b : Addr} {ov : Option Value} {items : Array Value} (x : h.IsCell a ov) (y : h.IsList b items) : a ≠ b := by
  rintro rfl
  obtain ⟨o, h1, h2⟩ := x
  obtain ⟨o', h1', _, n, h2'⟩ := y
  rw [h1] at h1'; cases h1'
  rw [h2] at h2'; cases h2'

theorem Loc.ext {K : Kn} {env : Env} {h h' : Heap} {x : Str} {v : Value} (l : Loc K env h x v) (e : Ext h h') : Loc K env h' x v := by
  rcases l with ⟨hk, m, hn, hm⟩ | ⟨hk, k, hc, hv⟩
  · exact .inl ⟨hk, m, hn.keeps e, hm⟩
  · exact .inr ⟨hk, k, hc, hv.keeps e⟩

theorem isList_ext {h h' : Heap} {a : Addr} {items : Array Value} (x : h.IsList a items) (e : Ext h h') : h'.IsList a items := let ⟨o, ho, r⟩ := x; ⟨o, e _ _ ho, r⟩
section
variable {g : Pg} {c : Cx} {K : Kn} {W W' : Wd} {σ : Sig} {ω : Own} {h h' : Heap} {tk tk' : Nat}

/-- what an expression leaves behind: nothing turned, the same forbidden addresses, more tokens -/
structure Up (W W' : Wd) (h h' : Heap) (tk tk' : Nat) : Prop where
  ext : Ext h h'
  o : W'.O = W.O
  t : ∀ t x, W.T t = some x → W'.T t = some x
  tok : ∀ t x, W'.T t = some x → t ≠ 0 ∧ t < tk'
  le : tk ≤ tk'

theorem Up.refl (S : St g c K W σ ω h tk) : Up W W h h tk tk := ⟨Ext.refl _, rfl, fun _ _ e => e, S.tok, Nat.le_refl _⟩
theorem Up.grow (u : Up W W' h h' tk tk') : Grow W W' h := ⟨by unfold OGrow; rw [u.o]; exact ⟨fun _ x => x, fun _ x => .inl x⟩, u.t⟩
theorem Up.trans {W'' : Wd} {h'' : Heap} {tk'' : Nat} (x : Up W W' h h' tk tk') (y : Up W' W'' h' h'' tk' tk'') : Up W W'' h h'' tk tk'' :=
  ⟨x.ext.trans y.ext, y.o.trans x.o, fun t u e => y.t t u (x.t t u e), y.tok, Nat.le_trans x.le y.le⟩
theorem Rep.up {p : PV} {v : Value} (r : Rep W h p v) (u : Up W W' h h' tk tk') : Rep W' h' p v := r.mono u.ext.modS u.grow
theorem RepL.up {p : List PV} {v : List Value} (r : RepL W h p v) (u : Up W W' h h' tk tk') : RepL W' h' p v := r.mono u.ext.modS u.grow

theorem OwnAt.up {x : Str} {l : List PV} {a : Addr} (y : OwnAt c K W h x l a) (u : Up W W' h h' tk tk') : OwnAt c K W' h' x l a :=
  ⟨y.loc.ext u.ext, u.o ▸ y.inO, y.side, let ⟨items, h1, h2⟩ := y.list; ⟨items, h1.ext u.ext, h2.up u⟩⟩

theorem St.keeps (S : St g c K W σ ω h tk) (u : Up W W' h h' tk tk') : St g c K W' σ ω h' tk' where
  ext := S.ext.trans u.ext
  ok := S.ok
  kind := S.kind
  globals := S.globals
  builtins := S.builtins
  ns := let ⟨m, hm⟩ := S.ns; ⟨m, hm.keeps u.ext⟩
  lfresh := S.lfresh
  known := S.known
  cell := fun x hx => let ⟨k, ov, h1, h2⟩ := S.cell x hx; ⟨k, ov, h1, h2.keeps u.ext⟩
  cfresh := S.cfresh
  apart := S.apart
  vars := fun x p hp => let ⟨v, h1, h2⟩ := S.vars x p hp; ⟨v, h1.ext u.ext, h2.up u⟩
  owns := let ⟨ad, h1, h2⟩ := S.owns; ⟨ad, fun x l hl => (h1 x l hl).up u, h2⟩
  sub := fun a ha => u.o ▸ S.sub a ha
  valid := fun a ha => let ⟨o, ho⟩ := S.valid a (u.o ▸ ha); ⟨o, u.ext _ _ ho⟩
  tok := u.tok
  pos := Nat.lt_of_lt_of_le S.pos u.le

/-- fewer names known -/
theorem St.less {σ' : Sig} {ω' : Own} (S : St g c K W σ ω h tk) (h1 : ∀ x p, σ'.lookup x = some p → σ.lookup x = some p) (h2 : ∀ x l, ω'.lookup x = some l → ω.lookup x = some l) :
    St g c K W σ' ω' h tk where
  ext := S.ext
  ok := S.ok
  kind := S.kind
  globals := S.globals
  builtins := S.builtins
  ns := S.ns
  lfresh := S.lfresh
  known := S.known
  cell := S.cell
  cfresh := S.cfresh
  apart := S.apart
  vars := fun x p hp => S.vars x p (h1 x p hp)
  owns := let ⟨ad, q1, q2⟩ := S.owns; ⟨ad, fun x l hl => q1 x l (h2 x l hl), fun x y hxy hx hy => by
    obtain ⟨l, hl⟩ := Option.isSome_iff_exists.mp hx
    obtain ⟨l', hl'⟩ := Option.isSome_iff_exists.mp hy
    exact q2 x y hxy (by rw [h2 x l hl]; rfl) (by rw [h2 y l' hl']; rfl)⟩
  sub := S.sub
  valid := S.valid
  tok := S.tok
  pos := S.pos

theorem St.toks (S : St g c K W σ ω h tk) (hle : tk ≤ tk') : St g c K W σ ω h tk' where
  ext := S.ext
  ok := S.ok
  kind := S.kind
  globals := S.globals
  builtins := S.builtins
  ns := S.ns
  lfresh := S.lfresh
  known := S.known
  cell := S.cell
  cfresh := S.cfresh
  apart := S.apart
  vars := S.vars
  owns := S.owns
  sub := S.sub
  valid := S.valid
  tok := fun t x e => ⟨(S.tok t x e).1, Nat.lt_of_lt_of_le (S.tok t x e).2 hle⟩
  pos := Nat.lt_of_lt_of_le S.pos hle

theorem St.okNow (S : St g c K W σ ω h tk) : g.Ok h := S.ok.ext S.ext
theorem St.freshO (S : St g c K W σ ω h tk) : ¬ W.O h.objs.size := fresh_not S.valid

/-- what a store into the frame's own names leaves: the objects outside them -/
theorem Loc.stored {env : Env} {x y : Str} {v u : Value} (l : Loc K env h y u) (hy : y ≠ x)
    (hk : (K.lookup x = some .local ∧ ∃ m, h.Ns env.locals m ∧ h'.Ns env.locals (fun z => if z = x then some v else m z) ∧ Heap.SameBut env.locals h h') ∨
      (K.lookup x = some .cell ∧ ∃ k ov, env.cells.lookup x = some k ∧ h.IsCell k ov ∧ h'.IsCell k (some v) ∧ Heap.SameBut k h h'))
    (hap : env.cells.Pairwise fun x y => x.2 ≠ y.2) : Loc K env h' y u := by
  rcases hk with ⟨hkx, m, hm, hm', hs⟩ | ⟨hkx, k, ov, hc, hv, hv', hs⟩
  · rcases l with ⟨hky, m₁, hn, hy1⟩ | ⟨hky, k, hc, hv⟩
    · cases Ns.uniq hn hm
      exact .inl ⟨hky, _, hm', by simp [hy, hy1]⟩
    · exact .inr ⟨hky, k, hc, hv.sameBut hs (ns_ne_cell hm hv).symm⟩
  · rcases l with ⟨hky, m₁, hn, hy1⟩ | ⟨hky, k', hc', hv1⟩
    · exact .inl ⟨hky, m₁, hn.sameBut hs (ns_ne_cell hn hv), hy1⟩
    · have hne : k' ≠ k := fun e => hy (name_of_addr hap (mem_of_lookup hc') (e ▸ mem_of_lookup hc))
      exact .inr ⟨hky, k', hc', hv1.sameBut hs hne⟩

theorem sameBut_mod {O : Addr → Prop} {b : Addr} (hs : Heap.SameBut b h h') (hb : ∀ o, h.get? b = some o → ¬ O b → Stays o → False) (hb' : ∃ o, h'.get? b = some o) : Mod O h h' :=
  ⟨fun x o e hO hst => by
    by_cases hxb : x = b
    · subst hxb; exact (hb o e hO hst).elim
    · rw [hs.2 x hxb]; exact e,
   fun x o e => by
    by_cases hxb : x = b
    · subst hxb; exact hb'
    · exact ⟨o, (hs.2 x hxb).trans e⟩⟩

theorem not_stays_ns {O : Addr → Prop} {m : Str → Option Value} {a : Addr} (x : h.Ns a m) : ∀ o, h.get? a = some o → ¬ O a → Stays o → False := fun o e _ hst => by
  obtain ⟨o', es, ep, h1, h2, _, _⟩ := x
  rw [h1] at e; cases e
  unfold Stays at hst; rw [h2] at hst; exact hst
theorem not_stays_cell {O : Addr → Prop} {ov : Option Value} {a : Addr} (x : h.IsCell a ov) : ∀ o, h.get? a = some o → ¬ O a → Stays o → False := fun o e _ hst => by
  obtain ⟨o', h1, h2⟩ := x
  rw [h1] at e; cases e
  unfold Stays at hst; rw [h2] at hst; exact hst

/-- one address of the frame's own is turned (its names, one of its cells), and the name x holds v behind it -/
theorem St.stored {x : Str} {v : Value} {b : Addr} (S : St g c K W σ ω h tk) (hs : Heap.SameBut b h h') (hbf : c.base.get? b = Option.none) (hle : tk ≤ tk')
    (hbk : (∃ m, h.Ns b m) ∨ ∃ ov, h.IsCell b ov) (hb' : ∃ o, h'.get? b = some o) (hn' : ∃ m, h'.Ns c.env.locals m)
    (hcell' : ∀ y, (K.lookup y = some .cell ∨ K.lookup y = some .free) → ∃ k ov, c.env.cells.lookup y = some k ∧ h'.IsCell k ov)
    (hloc : ∀ y u, y ≠ x → Loc K c.env h y u → Loc K c.env h' y u) (hx : Loc K c.env h' x v) {p : PV} (hp : Rep W h p v) (hω : ω.lookup x = Option.none) :
    St g c K W ((x, p) :: σ) ω h' tk' ∧ Mod NoO h h' := by
  have hmod0 : Mod NoO h h' := sameBut_mod hs (fun o e hO hst => by
    rcases hbk with ⟨m, hm⟩ | ⟨ov, hov⟩
    · exact not_stays_ns (O := NoO) hm o e hO hst
    · exact not_stays_cell (O := NoO) hov o e hO hst) hb'
  have hmod : Mod W.O h h' := hmod0.any
  have hbl : ∀ a items, h.IsList a items → a ≠ b := fun a items ha => by
    rcases hbk with ⟨m, hm⟩ | ⟨ov, hov⟩
    · exact (ns_ne_list hm ha).symm
    · exact (cell_ne_list hov ha).symm
  refine ⟨⟨fun a o e => ?_, S.ok, S.kind, S.globals, S.builtins, hn', S.lfresh, S.known, hcell', S.cfresh, S.apart, ?_, ?_, S.sub, fun a ha => ?_, (S.toks hle).tok, (S.toks hle).pos⟩, hmod0⟩
  · exact (hs.2 a (fun e' => by rw [e', hbf] at e; cases e)).trans (S.ext a o e)
  · intro y q hq
    rw [List.lookup_cons] at hq
    cases hb : y == x with
    | true =>
      rw [hb] at hq; cases hq
      rw [beq_iff_eq.mp hb]
      exact ⟨v, hx, hp.mono hmod.seq (Grow.refl _ _)⟩
    | false =>
      rw [hb] at hq
      obtain ⟨u, hu, hr⟩ := S.vars y q hq
      exact ⟨u, hloc y u (beq_eq_false_iff_ne.mp hb) hu, hr.mono hmod.seq (Grow.refl _ _)⟩
  · obtain ⟨ad, q1, q2⟩ := S.owns
    refine ⟨ad, fun y l hl => ?_, q2⟩
    have hyx : y ≠ x := by rintro rfl; rw [hω] at hl; cases hl
    obtain ⟨a1, a2, a3, items, a5, a6⟩ := q1 y l hl
    obtain ⟨o, ho, hr⟩ := id a5
    exact ⟨hloc y _ hyx a1, a2, a3, items, ⟨o, (hs.2 _ (hbl _ _ a5.isList)).trans ho, hr⟩, a6.mono hmod.seq (Grow.refl _ _)⟩
  · obtain ⟨o, ho⟩ := S.valid a ha
    by_cases hab : a = b
    · exact hab ▸ hb'
    · exact ⟨o, (hs.2 a hab).trans ho⟩

section
variable {M : Model} {A : Around} {E : Value → Shared → Prop} {s : Shared}

theorem not_class (S : St g c K W σ ω h tk) : (c.env.scope.kind == .class || (c.env.scope.kind == .module && c.env.locals != c.env.globals)) = false := by
  rw [S.kind]; rfl

theorem St.store {x : Str} {v : Value} {p : PV} {Q : Unit → Shared → Prop} (S : St g c K W σ ω s.heap s.toks) (hK : K.lookup x = some .local ∨ K.lookup x = some .cell) (hω : ω.lookup x = Option.none)
    (hp : Rep W s.heap p v) (hQ : ∀ h' tk, St g c K W ((x, p) :: σ) ω h' tk → Mod NoO s.heap h' → s.toks ≤ tk → Q () { s with heap := h', toks := tk }) : wpAny M A (storeName c.env x v) Q E s := by
  obtain ⟨m, hm⟩ := S.ns
  rcases hK with hK | hK
  · have hl : c.env.kindOf x = some .local := by rcases S.known x _ hK with h1 | ⟨h1, _⟩; exact h1; cases h1
    refine wpAny_storeName_local hl hm (fun h' hn' hs' => ?_) (not_class S)
    have hk : (K.lookup x = some .local ∧ ∃ m, s.heap.Ns c.env.locals m ∧ h'.Ns c.env.locals (fun z => if z = x then some v else m z) ∧ Heap.SameBut c.env.locals s.heap h') ∨
      (K.lookup x = some .cell ∧ ∃ k ov, c.env.cells.lookup x = some k ∧ s.heap.IsCell k ov ∧ h'.IsCell k (some v) ∧ Heap.SameBut k s.heap h') := .inl ⟨hK, m, hm, hn', hs'⟩
    obtain ⟨S', hmod⟩ := S.stored (v := v) hs' S.lfresh (Nat.le_succ _) (.inl ⟨m, hm⟩) (let ⟨o, _, _, e, _⟩ := hn'; ⟨o, e⟩) ⟨_, hn'⟩
      (fun y hy => let ⟨k, ov, e1, e2⟩ := S.cell y hy; ⟨k, ov, e1, e2.sameBut hs' (ns_ne_cell hm e2).symm⟩)
      (fun y u hy hl => hl.stored hy hk S.apart) (.inl ⟨hK, _, hn', by simp⟩) hp hω
    exact hQ h' _ S' hmod (Nat.le_succ _)
  · have hl : c.env.kindOf x = some .cell := by rcases S.known x _ hK with h1 | ⟨h1, _⟩; exact h1; cases h1
    obtain ⟨k, ov, hc, hov⟩ := S.cell x (.inl hK)
    refine wpAny_storeName_cell S.kind hl hc hov fun h' hv' hs' => ?_
    have hk : (K.lookup x = some .local ∧ ∃ m, s.heap.Ns c.env.locals m ∧ h'.Ns c.env.locals (fun z => if z = x then some v else m z) ∧ Heap.SameBut c.env.locals s.heap h') ∨
      (K.lookup x = some .cell ∧ ∃ k ov, c.env.cells.lookup x = some k ∧ s.heap.IsCell k ov ∧ h'.IsCell k (some v) ∧ Heap.SameBut k s.heap h') := .inr ⟨hK, k, ov, hc, hov, hv', hs'⟩
    obtain ⟨S', hmod⟩ := S.stored (v := v) hs' (S.cfresh x k hK hc) (Nat.le_refl _) (.inr ⟨ov, hov⟩) (let ⟨o, e, _⟩ := hv'; ⟨o, e⟩) ⟨m, hm.sameBut hs' (ns_ne_cell hm hov)⟩
      (fun y hy => by
        obtain ⟨k', ov', e1, e2⟩ := S.cell y hy
        by_cases hkk : k' = k
        · subst hkk; exact ⟨k', _, e1, hv'⟩
        · exact ⟨k', ov', e1, e2.sameBut hs' hkk⟩)
      (fun y u hy hl => hl.stored hy hk S.apart) (.inr ⟨.inl hK, k, hc, hv'⟩) hp hω
    exact hQ h' s.toks S' hmod (Nat.le_refl _)

theorem St.load {x : Str} {v : Value} {Q : Value → Shared → Prop} (S : St g c K W σ ω h tk) (hl : Loc K c.env s.heap x v) (hQ : Q v s) (hn : (x == ("__classdict__" : Str)) = false) :
    wpAny M A (loadName c.env x) Q E s := by
  rcases hl with ⟨hk, m, hn, hm⟩ | ⟨hk, k, hc, hv⟩
  · have hl : c.env.kindOf x = some .local := by rcases S.known x _ hk with h1 | ⟨h1, _⟩; exact h1; cases h1
    exact wpAny_loadName_local S.kind hl hn hm hQ
  · have hl : c.env.kindOf x = some .cell ∨ c.env.kindOf x = some .free := by
      rcases hk with hk | hk
      · rcases S.known x _ hk with h1 | ⟨h1, _⟩
        · exact .inl h1
        · cases h1
      · rcases S.known x _ hk with h1 | ⟨h1, h2⟩
        · exact .inr h1
        · exact .inl h2
    rcases hl with hl | hl
    · exact wpAny_loadName_cell S.kind hl hc hv hQ
    · exact wpAny_loadName_free S.kind hl hc hv hQ hn
end
end

end Mine

namespace Mine
open PySem PySem.W PyProof.Rows

structure Room (d : Nat) (A : Around) : Prop where
  hd : A.handled = Option.none
  dep : A.depth + d < recursionLimit
  un : A.units + 3 * d + 200 < cLine

section
variable {d : Nat} {A : Around}
theorem Room.deeper (r : Room (d + 1) A) (env : Env) : Room d (A.deeper env) :=
  ⟨r.hd, by have := r.dep; show A.depth + 1 + d < _; lia, by have := r.un; show A.units + 3 + 3 * d + 200 < _; lia⟩
theorem Room.unit (r : Room d A) : A.units + 200 < cLine := by have := r.un; lia
theorem Room.zero (R : Room d A) : Room 0 A := ⟨R.hd, by have := R.dep; lia, by have := R.un; lia⟩
end

/-- what an operation asks of the state -/
structure Sok (W : Wd) (h : Heap) (tk : Nat) : Prop where
  valid : ∀ a, W.O a → ∃ o, h.get? a = some o
  tok : ∀ t x, W.T t = some x → t ≠ 0 ∧ t < tk
  pos : 0 < tk
  booked : NoneBooked h
  nolimit : h.NoLimit

theorem St.sok {g : Pg} {c : Cx} {K : Kn} {W : Wd} {σ : Sig} {ω : Own} {h : Heap} {tk : Nat} (S : St g c K W σ ω h tk) : Sok W h tk :=
  ⟨S.valid, S.tok, S.pos, S.okNow.2, let ⟨⟨_, _, _, G⟩, _⟩ := S.okNow; G.nolimit⟩

noncomputable def ValPost (W : Wd) (p : PV) (s : Shared) (v : Value) (s' : Shared) : Prop :=
  ∃ W' h' tk', s' = { s with heap := h', toks := tk' } ∧ Rep W' h' p v ∧ Up W W' s.heap h' s.toks tk'
noncomputable def BoolPost (W : Wd) (b : Bool) (s : Shared) (v : Bool) (s' : Shared) : Prop :=
  ∃ W' h' tk', s' = { s with heap := h', toks := tk' } ∧ v = b ∧ Up W W' s.heap h' s.toks tk'
noncomputable def ListPost (W : Wd) (p : List PV) (s : Shared) (v : List Value) (s' : Shared) : Prop :=
  ∃ W' h' tk', s' = { s with heap := h', toks := tk' } ∧ RepL W' h' p v ∧ Up W W' s.heap h' s.toks tk'

section judge
variable (g : Pg) (d : Nat) (K : Kn) (σ : Sig) (ω : Own)

/-- in every frame of these names the expression gives p, and turns nothing that stood -/
noncomputable def Ev (e : Expr) (p : PV) : Prop :=
  ∀ (c : Cx) (W : Wd) (A : Around) (s : Shared), Room d A → St g c K W σ ω s.heap s.toks →
    wpAny (model g.prog g.w) A (eval e c.env) (ValPost W p s) (fun _ _ => False) s

/-- as a test -/
noncomputable def EvB (e : Expr) (b : Bool) : Prop :=
  ∀ (c : Cx) (W : Wd) (A : Around) (s : Shared), Room d A → St g c K W σ ω s.heap s.toks →
    wpAny (model g.prog g.w) A (isTrue e c.env (eval e c.env)) (BoolPost W b s) (fun _ _ => False) s

noncomputable def EvL (es : List Expr) (ps : List PV) : Prop :=
  ∀ (c : Cx) (W : Wd) (A : Around) (s : Shared) (pos : Pos), Room d A → St g c K W σ ω s.heap s.toks →
    wpAny (model g.prog g.w) A (spliced (backTo pos (starEach es c.env))) (ListPost W ps s) (fun _ _ => False) s
end judge

/-- a binary operation on values that stand for p and q gives one for r -/
noncomputable def Op2 (op : Operator) (p q r : PV) : Prop :=
  ∀ (prog : Program) (w : World) (W : Wd) (A : Around) (s : Shared) (v u : Value), Room 0 A → Sok W s.heap s.toks → Rep W s.heap p v → Rep W s.heap q u →
    wpAny (model prog w) A (binaryOp op v u) (ValPost W r s) (fun _ _ => False) s
noncomputable def Op1 (op : UnaryOp) (p r : PV) : Prop :=
  ∀ (prog : Program) (w : World) (W : Wd) (A : Around) (s : Shared) (v : Value), Room 0 A → Sok W s.heap s.toks → Rep W s.heap p v →
    wpAny (model prog w) A (unaryOp op v) (ValPost W r s) (fun _ _ => False) s
/-- a comparison: it gives the bool b and turns nothing -/
noncomputable def Cm2 (op : CmpOp) (p q : PV) (b : Bool) : Prop :=
  ∀ (prog : Program) (w : World) (W : Wd) (A : Around) (s : Shared) (v u : Value) (Q : Value → Shared → Prop) (E : Value → Shared → Prop), Room 0 A → Sok W s.heap s.toks → Rep W s.heap p v → Rep W s.heap q u →
    Q (.bool b) s → wpAny (model prog w) A (compareOp op v u) Q E s

section
variable {g : Pg} {d : Nat} {K : Kn} {σ : Sig} {ω : Own} {c : Cx} {W : Wd} {A : Around} {s : Shared} {E : Value → Shared → Prop}

theorem Ev.run {e : Expr} {p : PV} {Q : Value → Shared → Prop} (H : Ev g d K σ ω e p) (R : Room d A) (S : St g c K W σ ω s.heap s.toks)
    (hQ : ∀ v W' h' tk', Rep W' h' p v → Up W W' s.heap h' s.toks tk' → Q v { s with heap := h', toks := tk' }) : wpAny (model g.prog g.w) A (eval e c.env) Q E s :=
  wpAny_mono (H c W A s R S) (fun v s' ⟨W', h', tk, e, r, k⟩ => by subst e; exact hQ v W' h' tk r k) fun _ _ f => f.elim
theorem EvB.run {e : Expr} {b : Bool} {Q : Bool → Shared → Prop} (H : EvB g d K σ ω e b) (R : Room d A) (S : St g c K W σ ω s.heap s.toks)
    (hQ : ∀ W' h' tk', Up W W' s.heap h' s.toks tk' → Q b { s with heap := h', toks := tk' }) : wpAny (model g.prog g.w) A (isTrue e c.env (eval e c.env)) Q E s :=
  wpAny_mono (H c W A s R S) (fun v s' ⟨W', h', tk, e, r, k⟩ => by subst e; subst r; exact hQ W' h' tk k) fun _ _ f => f.elim
theorem EvL.run {es : List Expr} {ps : List PV} {pos : Pos} {Q : List Value → Shared → Prop} (H : EvL g d K σ ω es ps) (R : Room d A) (S : St g c K W σ ω s.heap s.toks)
    (hQ : ∀ vs W' h' tk', RepL W' h' ps vs → Up W W' s.heap h' s.toks tk' → Q vs { s with heap := h', toks := tk' }) : wpAny (model g.prog g.w) A (spliced (backTo pos (starEach es c.env))) Q E s :=
  wpAny_mono (H c W A s pos R S) (fun v s' ⟨W', h', tk, e, r, k⟩ => by subst e; exact hQ v W' h' tk r k) fun _ _ f => f.elim

theorem up_toks (S : Sok W s.heap s.toks) {tk : Nat} (h : s.toks ≤ tk) : Up W W s.heap s.heap s.toks tk :=
  ⟨Ext.refl _, rfl, fun _ _ e => e, fun t x e => ⟨(S.tok t x e).1, Nat.lt_of_lt_of_le (S.tok t x e).2 h⟩, h⟩
theorem up_ext (S : Sok W s.heap s.toks) {h' : Heap} (x : Ext s.heap h') {tk : Nat} (h : s.toks ≤ tk) : Up W W s.heap h' s.toks tk :=
  ⟨x, rfl, fun _ _ e => e, fun t x e => ⟨(S.tok t x e).1, Nat.lt_of_lt_of_le (S.tok t x e).2 h⟩, h⟩

theorem val_int (S : Sok W s.heap s.toks) {i : Int} {t : Tok} {tk : Nat} (h : s.toks ≤ tk) : ValPost W (.int i) s (.int i t) { s with toks := tk } :=
  ⟨W, s.heap, tk, rfl, rep_int.mpr ⟨t, rfl⟩, up_toks S h⟩
theorem val_bool (S : Sok W s.heap s.toks) {b : Bool} : ValPost W (.bool b) s (.bool b) s := ⟨W, s.heap, s.toks, rfl, rep_bool.mpr rfl, up_toks S (Nat.le_refl _)⟩
/-- a float just made: its token is new -/
theorem val_flt (S : Sok W s.heap s.toks) {x : UInt64} : ValPost W (.flt x) s (.float x s.toks) { s with toks := s.toks + 1 } := by
  refine ⟨⟨W.O, fun t => if t = s.toks then some x else W.T t⟩, s.heap, s.toks + 1, rfl, rep_flt.mpr ⟨s.toks, rfl, by simp⟩, Ext.refl _, rfl, fun t y e => ?_, fun t y e => ?_, Nat.le_succ _⟩
  · have := (S.tok t y e).2
    simp only
    rw [if_neg (Nat.ne_of_lt this)]; exact e
  · simp only at e
    split at e
    · rename_i h; rw [h]; exact ⟨Nat.ne_of_gt S.pos, Nat.lt_succ_self _⟩
    · exact ⟨(S.tok t y e).1, Nat.lt_succ_of_lt (S.tok t y e).2⟩

theorem ev_int {i : Int} {k : Nat} {pos : Pos} : Ev g d K σ ω (.Constant (.int i) k pos) (.int i) := fun _ _ _ _ _ S =>
  wpAny_Constant_int (val_int S.sok (Nat.le_succ _))
theorem ev_flt {i : UInt64} {k : Nat} {pos : Pos} : Ev g d K σ ω (.Constant (.float i) k pos) (.flt i) := fun _ _ _ _ _ S =>
  AutoFloatOps.wpAny_Constant_float (val_flt S.sok)
theorem ev_bool {b : Bool} {k : Nat} {pos : Pos} : Ev g d K σ ω (.Constant (.bool b) k pos) (.bool b) := fun _ _ _ _ _ S =>
  wpAny_pure (val_bool S.sok)

theorem ev_name {x : Str} {pos : Pos} {p : PV} (h : σ.lookup x = some p) (h1 : (x == ("__debug__" : Str)) = false) (h2 : (x == ("__classdict__" : Str)) = false) :
    Ev g d K σ ω (.Name x pos) p := fun c W A s R S => by
  obtain ⟨v, hl, hr⟩ := S.vars x p h
  exact wpAny_Name (S.load hl ⟨W, s.heap, s.toks, rfl, hr, Up.refl S⟩ h2) h1

theorem ev_bin {l r : Expr} {op : Operator} {pos : Pos} {p q x : PV} (h1 : Ev g d K σ ω l p) (h2 : Ev g d K σ ω r q) (h3 : Op2 op p q x) :
    Ev g d K σ ω (.BinOp l op r pos) x := fun c W A s R S =>
  wpAny_BinOp (h1.run R S fun v W' h' tk rv e => h2.run R (S.keeps e) fun u W'' h'' tk' ru e' =>
    wpAny_mono (h3 g.prog g.w W'' A _ v u R.zero ((S.keeps e).keeps e').sok (rv.up e') ru)
      (fun x s' ⟨W3, h3, tk3, es, rx, k⟩ => by subst es; exact ⟨W3, h3, tk3, rfl, rx, (e.trans e').trans k⟩) fun _ _ f => f.elim)

theorem ev_un {l : Expr} {op : UnaryOp} {pos : Pos} {p x : PV} (h1 : Ev g d K σ ω l p) (h3 : Op1 op p x) :
    Ev g d K σ ω (.UnaryOp op l pos) x := fun c W A s R S =>
  wpAny_UnaryOp (h1.run R S fun v W' h' tk rv e => 
    wpAny_mono (h3 g.prog g.w W' A _ v R.zero (S.keeps e).sok rv)
      (fun x s' ⟨W3, h3, tk3, es, rx, k⟩ => by subst es; exact ⟨W3, h3, tk3, rfl, rx, e.trans k⟩) fun _ _ f => f.elim)

theorem op_int {op : Operator} {a b k : Int}
    (h : ∀ (prog : Program) (w : World) (A : Around) (s : Shared) (t u : Tok) (Q : Value → Shared → Prop), Room 0 A → s.heap.NoLimit → Q (.int k s.toks) { s with toks := s.toks + 1 } → wpAny (model prog w) A (binaryOp op (.int a t) (.int b u)) Q (fun _ _ => False) s) :
    Op2 op (.int a) (.int b) (.int k) := fun prog w W A s v u hA S hv hu => by
  obtain ⟨t, rfl⟩ := rep_int.mp hv
  obtain ⟨t', rfl⟩ := rep_int.mp hu
  exact h prog w A s t t' _ hA S.nolimit (val_int S (Nat.le_succ _))

theorem op_add_int {a b : Int} : Op2 .Add (.int a) (.int b) (.int (a + b)) := op_int fun _ _ _ _ _ _ _ _ _ h => wpAny_add_int h
theorem op_sub_int {a b : Int} : Op2 .Sub (.int a) (.int b) (.int (a - b)) := op_int fun _ _ _ _ _ _ _ _ _ h => sub_int' h
theorem op_mul_int {a b : Int} (hm : IntMulOk a b) : Op2 .Mult (.int a) (.int b) (.int (a * b)) := op_int fun _ _ _ _ _ _ _ _ _ h => mul_int h hm
theorem op_mod_int {a b : Int} (hb : b ≠ 0) : Op2 .Mod (.int a) (.int b) (.int (a.fmod b)) := op_int fun _ _ _ _ _ _ _ _ _ h => mod_int' hb h
theorem op_fdiv_int {a b : Int} (hb : b ≠ 0) (hs : b.natAbs < 1073741824) : Op2 .FloorDiv (.int a) (.int b) (.int (a.fdiv b)) :=
  op_int fun _ _ _ _ _ _ _ _ _ h => floordiv_int hb h (.inl (PyProof.noPylong_small hs))
theorem op_pow_int {a b : Int} (hn : 0 ≤ b) (hs : (Builtin.Int.intBits a : Int) * b ≤ 2 ^ 27) : Op2 .Pow (.int a) (.int b) (.int (a ^ b.toNat)) :=
  op_int fun _ _ _ _ _ _ _ _ _ h => pow_int hn hs h
theorem op_neg_int {a : Int} : Op1 .USub (.int a) (.int (-a)) := fun prog w W A s v hA S hv => by
  obtain ⟨t, rfl⟩ := rep_int.mp hv
  exact PyProof.Rows.neg_int (val_int S (Nat.le_succ _))

theorem op_flt {op : Operator} {a b k : UInt64}
    (h : ∀ (prog : Program) (w : World) (A : Around) (s : Shared) (t u : Tok) (Q : Value → Shared → Prop), Room 0 A → Q (.float k s.toks) { s with toks := s.toks + 1 } → wpAny (model prog w) A (binaryOp op (.float a t) (.float b u)) Q (fun _ _ => False) s) :
    Op2 op (.flt a) (.flt b) (.flt k) := fun prog w W A s v u hA S hv hu => by
  obtain ⟨t, rfl, _⟩ := rep_flt.mp hv
  obtain ⟨t', rfl, _⟩ := rep_flt.mp hu
  exact h prog w A s t t' _ hA (val_flt S)
theorem op_add_flt {a b : UInt64} : Op2 .Add (.flt a) (.flt b) (.flt (Float64.add a b)) := op_flt fun _ _ _ _ _ _ _ _ h => add_float h
theorem op_sub_flt {a b : UInt64} : Op2 .Sub (.flt a) (.flt b) (.flt (Float64.sub a b)) := op_flt fun _ _ _ _ _ _ _ _ h => sub_float h
theorem op_mul_flt {a b : UInt64} : Op2 .Mult (.flt a) (.flt b) (.flt (Float64.mul a b)) := op_flt fun _ _ _ _ _ _ _ _ h => mul_float h
theorem op_div_flt {a b : UInt64} (hb : Float64.isZero b = false) : Op2 .Div (.flt a) (.flt b) (.flt (Float64.div a b)) := op_flt fun _ _ _ _ _ _ _ _ h => AutoFloatOps.truediv_1 (by rw [hb]; exact Bool.false_ne_true) h
theorem op_mod_flt {a b : UInt64} (hb : Float64.isZero b = false) : Op2 .Mod (.flt a) (.flt b) (.flt (Float64.divmod a b).2) := op_flt fun _ _ _ _ _ _ _ _ h => AutoFloatOps.mod_1 (by rw [hb]; exact Bool.false_ne_true) h

theorem op_sub_fi {a : UInt64} {b : Int} (hb : Float64.isInf (Float64.ofInt b) = false) : Op2 .Sub (.flt a) (.int b) (.flt (Float64.sub a (Float64.ofInt b))) := fun prog w W A s v u hA S hv hu => by
  obtain ⟨t, rfl, _⟩ := rep_flt.mp hv
  obtain ⟨t', rfl⟩ := rep_int.mp hu
  exact AutoFloatOps.sub_fi_1 (by rw [hb]; exact Bool.false_ne_true) (val_flt S)
theorem op_div_fi {a : UInt64} {b : Int} (hb : Float64.isInf (Float64.ofInt b) = false) (hz : Float64.isZero (Float64.ofInt b) = false) : Op2 .Div (.flt a) (.int b) (.flt (Float64.div a (Float64.ofInt b))) := fun prog w W A s v u hA S hv hu => by
  obtain ⟨t, rfl, _⟩ := rep_flt.mp hv
  obtain ⟨t', rfl⟩ := rep_int.mp hu
  exact AutoFloatOps.truediv_fi_2 (by rw [hb]; exact Bool.false_ne_true) (by rw [hz]; exact Bool.false_ne_true) (val_flt S)
theorem op_mul_if {a : UInt64} {b : Int} (hb : Float64.isInf (Float64.ofInt b) = false) : Op2 .Mult (.int b) (.flt a) (.flt (Float64.mul (Float64.ofInt b) a)) := fun prog w W A s v u hA S hv hu => by
  obtain ⟨t', rfl⟩ := rep_int.mp hv
  obtain ⟨t, rfl, _⟩ := rep_flt.mp hu
  exact AutoFloatOps.mul_if_1 (by rw [hb]; exact Bool.false_ne_true) (val_flt S)
/-- the float that int / int gives -/
noncomputable def fracF (a b : Int) : UInt64 := Float64.ofFrac (decide (a < 0) != decide (b < 0)) a.natAbs b.natAbs
theorem op_div_ii {a b : Int} (hb : b ≠ 0) (hi : Float64.isInf (fracF a b) = false) : Op2 .Div (.int a) (.int b) (.flt (fracF a b)) := fun prog w W A s v u hA S hv hu => by
  obtain ⟨t, rfl⟩ := rep_int.mp hv
  obtain ⟨t', rfl⟩ := rep_int.mp hu
  exact AutoIntOps.truediv_2 (by simpa using hb) (by unfold fracF at hi; rw [hi]; exact Bool.false_ne_true) (val_flt S)
end

end Mine

namespace Mine
open PySem PySem.W PyProof.Rows PySem.SeqAt

theorem cmp_self {x : UInt64} (h : Float64.isNaN x = false) : Float64.cmp x x = some .eq := by
  unfold Float64.cmp
  unfold Float64.isNaN at h
  cases hd : Float64.decode x with
  | nan => rw [hd] at h; cases h
  | inf a => simp
  | fin a m e => simp [Float64.align]

/-- == of two values, where it is told -/
noncomputable def peqL (f : PV → PV → Option Bool) : List PV → List PV → Option Bool
  | [], [] => some true
  | p :: ps, q :: qs => match f p q, peqL f ps qs with
    | some a, some b => some (a && b)
    | _, _ => Option.none
  | _, _ => Option.none

noncomputable def peq : Nat → PV → PV → Option Bool
  | _, .none, .none => some true
  | _, .bool a, .bool b => some (a == b)
  | _, .int a, .int b => some (a == b)
  | _, .flt x, .flt y => if Float64.isNaN x || Float64.isNaN y then Option.none else some (Float64.cmp x y == some .eq)
  | n + 1, .tup l, .tup m => if l.length = m.length then peqL (peq n) l m else Option.none
  | n + 1, .lst l, .lst m => if l.length = m.length then peqL (peq n) l m else some false
  | _, _, _ => Option.none

theorem peqL_get {f : PV → PV → Option Bool} : ∀ {l m : List PV} {b : Bool}, peqL f l m = some b → ∀ (j : Nat) (p q : PV), l[j]? = some p → m[j]? = some q → ∃ a, f p q = some a
  | [], [], _, _, j, p, q, h, _ => by simp at h
  | p :: ps, q :: qs, b, h, j, p', q', hp, hq => by
    unfold peqL at h
    split at h
    · rename_i a b' e1 e2
      cases j with
      | zero => simp at hp hq; subst hp hq; exact ⟨_, e1⟩
      | succ j => exact peqL_get e2 j p' q' (by simpa using hp) (by simpa using hq)
    · cases h
  | [], _ :: _, _, h, _, _, _, _, _ => by simp [peqL] at h
  | _ :: _, [], _, h, _, _, _, _, _ => by simp [peqL] at h

/-- all of them, place by place -/
noncomputable def allAt (f : PV → PV → Option Bool) (l m : List PV) (j : Nat) : Bool :=
  match l[j]?, m[j]? with
  | some p, some q => (f p q).getD false
  | _, _ => false

theorem peqL_all {f : PV → PV → Option Bool} : ∀ {l m : List PV} {b : Bool}, peqL f l m = some b → (List.range l.length).all (allAt f l m) = b
  | [], [], b, h => by simp [peqL] at h; simp [h]
  | p :: ps, q :: qs, b, h => by
    unfold peqL at h
    split at h
    · rename_i a b' e1 e2
      cases h
      have ih := peqL_all e2
      rw [List.length_cons, List.range_succ_eq_map, List.all_cons, List.all_map]
      have h0 : allAt f (p :: ps) (q :: qs) 0 = a := by simp [allAt, e1]
      have hs : (allAt f (p :: ps) (q :: qs)) ∘ Nat.succ = allAt f ps qs := by
        funext j; simp [allAt]
      rw [h0, hs, ih]
    · cases h
  | [], _ :: _, _, h => by simp [peqL] at h
  | _ :: _, [], _, h => by simp [peqL] at h

section
variable {A : Around} {s : Shared} {W : Wd}

theorem eqBool_flt (S : Sok W s.heap s.toks) {x y : UInt64} {t u : Tok} (ht : W.T t = some x) (hu : W.T u = some y) (hx : Float64.isNaN x = false) (hy : Float64.isNaN y = false) :
    EqAt A s (.float x t) (.float y u) (Float64.cmp x y == some .eq) := fun prog w E Q h => by
  have hrc : wpAny (model prog w) A (richCompare .Eq (.float x t) (.float y u)) (fun v s' => wpAny (model prog w) A (truthOfDropped v) Q E s') E s :=
    AutoFloatOps.eq_0 (wpAny_truthy_bool h)
  have hxy : x = y → (Float64.cmp x y == some .eq) = true := fun e => by subst e; rw [cmp_self hx]; rfl
  unfold eqBool
  refine wpAny_holding ?_
  refine wpAny_ite_split (fun hab => ?_) (fun _ => ?_)
  · have e := eq_of_beq hab
    injection e with e1 e2
    rw [hxy e1] at h
    exact wpAny_bind (wpAny_rule (wpAny_pure h))
  · refine wpAny_bind (m := isSame (.float x t) (.float y u)) ?_
    show wpAny _ A (isSame.created (x == y && !Float64.isNaN x) t u) _ E s
    have go : wpAny (model prog w) A (richCompare .Eq (.float x t) (.float y u)) (fun v s' => wpAny (model prog w) A (truthOfDropped v) Q E s') E s → wpAny (model prog w) A (if false = true then pure true else do truthOfDropped (← richCompare .Eq (.float x t) (.float y u))) Q E s :=
      fun hr => wpAny_bind hr
    unfold isSame.created
    refine wpAny_ite ?_
    split
    · rename_i h0
      rw [Bool.or_eq_true, beq_iff_eq, beq_iff_eq] at h0
      rcases h0 with h0 | h0
      · exact absurd h0 (S.tok t x ht).1
      · exact absurd h0 (S.tok u y hu).1
    refine wpAny_ite ?_
    split
    · rename_i htu
      rw [beq_iff_eq] at htu
      subst htu
      rw [ht] at hu
      have e1 : x = y := by injection hu
      rw [hxy e1] at h
      exact wpAny_pure (wpAny_pure h)
    refine wpAny_ite ?_
    split
    · exact wpAny_pure (go hrc)
    · rename_i hc
      have hxy' : x = y := by
        simp only [Bool.not_eq_true', Bool.not_eq_false, Bool.and_eq_true, beq_iff_eq] at hc
        exact hc.1
      refine wpAny_bind (wpAny_sharingNotTold_none S.booked ?_)
      simp only [Bool.false_eq_true, if_false]
      refine wpAny_bind (wpAny_sharingNotTold_none S.booked ?_)
      simp only [Bool.false_eq_true, if_false]
      refine wpAny_bind (wpAny_rule (wpAny_bind (wpAny_askSetting (wpAny_pure ?_))))
      cases (model prog w).w.params.mergeTok t == (model prog w).w.params.mergeTok u with
      | false => exact go hrc
      | true => rw [hxy hxy'] at h; exact wpAny_pure h
end

end Mine

namespace Mine
open PySem PySem.W PyProof.Rows PySem.SeqAt

mutual
theorem Rep.inj {W : Wd} {h : Heap} : ∀ {p q : PV} {v : Value}, Rep W h p v → Rep W h q v → p = q
  | .none, q, v, x, y => by
    rw [rep_none] at x; subst x
    cases q with
    | none => rfl
    | bool b => rw [rep_bool] at y; cases y
    | int i => rw [rep_int] at y; obtain ⟨t, e⟩ := y; cases e
    | flt i => rw [rep_flt] at y; obtain ⟨t, e, _⟩ := y; cases e
    | tup l => rw [rep_tup] at y; obtain ⟨a, i, e, _⟩ := y; cases e
    | lst l => rw [rep_lst] at y; obtain ⟨a, i, e, _⟩ := y; cases e
  | .bool b, q, v, x, y => by
    rw [rep_bool] at x; subst x
    cases q with
    | none => rw [rep_none] at y; cases y
    | bool b => rw [rep_bool] at y; cases y; rfl
    | int i => rw [rep_int] at y; obtain ⟨t, e⟩ := y; cases e
    | flt i => rw [rep_flt] at y; obtain ⟨t, e, _⟩ := y; cases e
    | tup l => rw [rep_tup] at y; obtain ⟨a, i, e, _⟩ := y; cases e
    | lst l => rw [rep_lst] at y; obtain ⟨a, i, e, _⟩ := y; cases e
  | .int b, q, v, x, y => by
    rw [rep_int] at x; obtain ⟨t, rfl⟩ := x
    cases q with
    | none => rw [rep_none] at y; cases y
    | bool b => rw [rep_bool] at y; cases y
    | int i => rw [rep_int] at y; obtain ⟨t, e⟩ := y; cases e; rfl
    | flt i => rw [rep_flt] at y; obtain ⟨t, e, _⟩ := y; cases e
    | tup l => rw [rep_tup] at y; obtain ⟨a, i, e, _⟩ := y; cases e
    | lst l => rw [rep_lst] at y; obtain ⟨a, i, e, _⟩ := y; cases e
  | .flt b, q, v, x, y => by
    rw [rep_flt] at x; obtain ⟨t, rfl, _⟩ := x
    cases q with
    | none => rw [rep_none] at y; cases y
    | bool b => rw [rep_bool] at y; cases y
    | int i => rw [rep_int] at y; obtain ⟨t, e⟩ := y; cases e
    | flt i => rw [rep_flt] at y; obtain ⟨t, e, _⟩ := y; cases e; rfl
    | tup l => rw [rep_tup] at y; obtain ⟨a, i, e, _⟩ := y; cases e
    | lst l => rw [rep_lst] at y; obtain ⟨a, i, e, _⟩ := y; cases e
  | .tup l, q, v, x, y => by
    rw [rep_tup] at x; obtain ⟨a, items, rfl, _, ⟨o, ho, hc, n, hd⟩, hr⟩ := x
    cases q with
    | none => rw [rep_none] at y; cases y
    | bool b => rw [rep_bool] at y; cases y
    | int i => rw [rep_int] at y; obtain ⟨t, e⟩ := y; cases e
    | flt i => rw [rep_flt] at y; obtain ⟨t, e, _⟩ := y; cases e
    | tup m =>
      rw [rep_tup] at y; obtain ⟨a', items', e, _, ⟨o', ho', hc', n', hd'⟩, hr'⟩ := y
      cases e
      rw [ho] at ho'; cases ho'
      rw [hd] at hd'; cases hd'
      rw [RepL.inj hr hr']
    | lst m =>
      rw [rep_lst] at y; obtain ⟨a', items', e, _, ⟨o', ho', hc', n', hd'⟩, hr'⟩ := y
      cases e
      rw [ho] at ho'; cases ho'
      rw [hc] at hc'; injection hc' with hc'; exact absurd hc' (by decide)
  | .lst l, q, v, x, y => by
    rw [rep_lst] at x; obtain ⟨a, items, rfl, _, ⟨o, ho, hc, n, hd⟩, hr⟩ := x
    cases q with
    | none => rw [rep_none] at y; cases y
    | bool b => rw [rep_bool] at y; cases y
    | int i => rw [rep_int] at y; obtain ⟨t, e⟩ := y; cases e
    | flt i => rw [rep_flt] at y; obtain ⟨t, e, _⟩ := y; cases e
    | lst m =>
      rw [rep_lst] at y; obtain ⟨a', items', e, _, ⟨o', ho', hc', n', hd'⟩, hr'⟩ := y
      cases e
      rw [ho] at ho'; cases ho'
      rw [hd] at hd'; cases hd'
      rw [RepL.inj hr hr']
    | tup m =>
      rw [rep_tup] at y; obtain ⟨a', items', e, _, ⟨o', ho', hc', n', hd'⟩, hr'⟩ := y
      cases e
      rw [ho] at ho'; cases ho'
      rw [hc] at hc'; injection hc' with hc'; exact absurd hc' (by decide)
theorem RepL.inj {W : Wd} {h : Heap} : ∀ {ps qs : List PV} {vs : List Value}, RepL W h ps vs → RepL W h qs vs → ps = qs
  | [], qs, vs, x, y => by
    rw [repL_nil] at x; subst x
    cases qs with
    | nil => rfl
    | cons q qs => rw [repL_cons] at y; obtain ⟨v, r, e, _⟩ := y; cases e
  | p :: ps, qs, vs, x, y => by
    rw [repL_cons] at x; obtain ⟨v, r, rfl, hp, hr⟩ := x
    cases qs with
    | nil => rw [repL_nil] at y; cases y
    | cons q qs =>
      rw [repL_cons] at y; obtain ⟨v', r', e, hp', hr'⟩ := y
      cases e
      rw [Rep.inj hp hp', RepL.inj hr hr']
end

theorem peqL_refl {f : PV → PV → Option Bool} (hf : ∀ p b, f p p = some b → b = true) : ∀ {l : List PV} {b : Bool}, peqL f l l = some b → b = true
  | [], b, h => by simp [peqL] at h; exact h
  | p :: ps, b, h => by
    unfold peqL at h
    split at h
    · rename_i a b' e1 e2
      cases h
      rw [hf p a e1, peqL_refl hf e2]; rfl
    · cases h

theorem peq_refl : ∀ (n : Nat) (p : PV) (b : Bool), peq n p p = some b → b = true
  | n, .none, b, h => by simp [peq] at h; exact h
  | n, .bool a, b, h => by simp [peq] at h; exact h
  | n, .int a, b, h => by simp [peq] at h; exact h
  | n, .flt x, b, h => by
    unfold peq at h
    split at h
    · cases h
    · rename_i hx
      simp only [Bool.or_self, Bool.not_eq_true] at hx
      rw [cmp_self hx] at h
      cases h; rfl
  | 0, .tup l, b, h => by simp [peq] at h
  | 0, .lst l, b, h => by simp [peq] at h
  | n + 1, .tup l, b, h => by
    unfold peq at h
    rw [if_pos rfl] at h
    exact peqL_refl (peq_refl n) h
  | n + 1, .lst l, b, h => by
    unfold peq at h
    rw [if_pos rfl] at h
    exact peqL_refl (peq_refl n) h

section
variable {s : Shared} {W : Wd}

theorem peq_at (S : Sok W s.heap s.toks) : ∀ (n : Nat) (p q : PV) (b : Bool) (A : Around) (v u : Value), peq n p q = some b → A.units + n < cLine → Rep W s.heap p v → Rep W s.heap q u →
    EqAt A s v u b ∧ RcAt A s v u b ∧ RcNeAt A s v u (!b) := by
  intro n
  induction n with
  | zero =>
    intro p q b A v u h hu hv hq
    cases p <;> cases q <;> (first | (simp [peq] at h; done) | skip)
    · simp [peq] at h; subst h; rw [rep_none] at hv hq; subst hv hq
      exact ⟨EqAt.same _, RcAt.none_none, RcNeAt.none_none⟩
    · simp [peq] at h; subst h; rw [rep_bool] at hv hq; subst hv hq
      exact ⟨EqAt.bool_bool _ _, RcAt.bool_bool _ _, RcNeAt.bool_bool _ _⟩
    · simp [peq] at h; subst h; rw [rep_int] at hv hq; obtain ⟨t, rfl⟩ := hv; obtain ⟨t', rfl⟩ := hq
      exact ⟨EqAt.int_int _ _ _ _, RcAt.int_int _ _ _ _, RcNeAt.int_int _ _ _ _⟩
    · rename_i x y
      unfold peq at h
      split at h
      · cases h
      · rename_i hx
        simp only [Bool.or_eq_true, not_or, Bool.not_eq_true] at hx
        cases h
        rw [rep_flt] at hv hq; obtain ⟨t, rfl, ht⟩ := hv; obtain ⟨t', rfl, ht'⟩ := hq
        exact ⟨eqBool_flt S ht ht' hx.1 hx.2, fun prog w E Q h => AutoFloatOps.eq_0 h, fun prog w E Q h => AutoFloatOps.ne_0 h⟩
  | succ n ih =>
    intro p q b A v u h hu hv hq
    cases p <;> cases q <;> (first | (simp [peq] at h; done) | skip)
    · simp [peq] at h; subst h; rw [rep_none] at hv hq; subst hv hq
      exact ⟨EqAt.same _, RcAt.none_none, RcNeAt.none_none⟩
    · simp [peq] at h; subst h; rw [rep_bool] at hv hq; subst hv hq
      exact ⟨EqAt.bool_bool _ _, RcAt.bool_bool _ _, RcNeAt.bool_bool _ _⟩
    · simp [peq] at h; subst h; rw [rep_int] at hv hq; obtain ⟨t, rfl⟩ := hv; obtain ⟨t', rfl⟩ := hq
      exact ⟨EqAt.int_int _ _ _ _, RcAt.int_int _ _ _ _, RcNeAt.int_int _ _ _ _⟩
    · rename_i x y
      unfold peq at h
      split at h
      · cases h
      · rename_i hx
        simp only [Bool.or_eq_true, not_or, Bool.not_eq_true] at hx
        cases h
        rw [rep_flt] at hv hq; obtain ⟨t, rfl, ht⟩ := hv; obtain ⟨t', rfl, ht'⟩ := hq
        exact ⟨eqBool_flt S ht ht' hx.1 hx.2, fun prog w E Q h => AutoFloatOps.eq_0 h, fun prog w E Q h => AutoFloatOps.ne_0 h⟩
    · rename_i l m
      have hrefl := peq_refl (n + 1) (.tup l)
      have hv0 := hv
      have hq0 := hq
      rw [rep_tup] at hv hq
      obtain ⟨a, items, rfl, _, ha, hl⟩ := hv
      obtain ⟨a', items', rfl, _, ha', hm⟩ := hq
      have h0 := h
      unfold peq at h
      split at h
      · rename_i hlen
        have n1 : items.size = l.length := by rw [← hl.length]; simp
        have n2 : items'.size = m.length := by rw [← hm.length]; simp
        have hus : A.units + 1 + n < cLine := by lia
        have he : ∀ j (h1 : j < items.size) (h2 : j < items'.size), EqAt A.in1 s items[j] items'[j] (allAt (peq n) l m j) := fun j h1 h2 => by
          obtain ⟨x, hx, rx⟩ := hl.getV j items[j] (by simp [h1])
          obtain ⟨y, hy, ry⟩ := hm.getV j items'[j] (by simp [h2])
          obtain ⟨e, he⟩ := peqL_get h j x y hx hy
          have : allAt (peq n) l m j = e := by simp [allAt, hx, hy, he]
          rw [this]
          exact (ih x y e A.in1 _ _ he hus rx ry).1
        have hall : ((List.range (min items.size items'.size)).all (allAt (peq n) l m) && items.size == items'.size) = b := by
          rw [n1, n2, ← hlen, Nat.min_self, peqL_all h]; simp
        have hrc : RcAt A s (.ref a) (.ref a') b := by rw [← hall]; exact RcAt.tuples ha ha' (by lia) he
        have hne : RcNeAt A s (.ref a) (.ref a') (!b) := by rw [← hall]; exact RcNeAt.tuples ha ha' (by (clear hrc hall he hus n2 n1 h hlen h0 hm ha' hq0 hl ha hv0 hrefl ih S; omega)) he
        refine ⟨?_, hrc, hne⟩
        by_cases haa : a = a'
        · subst haa
          have := Rep.inj hv0 hq0
          cases this
          rw [hrefl b h0]
          exact EqAt.same _
        · exact EqAt.of_refs haa hrc
      · cases h
    · rename_i l m
      have hrefl := peq_refl (n + 1) (.lst l)
      have hv0 := hv
      have hq0 := hq
      rw [rep_lst] at hv hq
      obtain ⟨a, items, rfl, _, ha, hl⟩ := hv
      obtain ⟨a', items', rfl, _, ha', hm⟩ := hq
      have h0 := h
      have n1 : items.size = l.length := by rw [← hl.length]; simp
      have n2 : items'.size = m.length := by rw [← hm.length]; simp
      have hus : A.units + 1 + n < cLine := by (clear n2 n1 h0 hm ha' hq0 hl ha hv0 hrefl h ih S; omega)
      have key : RcAt A s (.ref a) (.ref a') b ∧ RcNeAt A s (.ref a) (.ref a') (!b) := by
        unfold peq at h
        split at h
        · rename_i hlen
          have he : ∀ j (h1 : j < items.size) (h2 : j < items'.size), EqAt A.in1 s items[j] items'[j] (allAt (peq n) l m j) := fun j h1 h2 => by
            obtain ⟨x, hx, rx⟩ := hl.getV j items[j] (by simp [h1])
            obtain ⟨y, hy, ry⟩ := hm.getV j items'[j] (by simp [h2])
            obtain ⟨e, he⟩ := peqL_get h j x y hx hy
            have : allAt (peq n) l m j = e := by simp [allAt, hx, hy, he]
            rw [this]
            exact (ih x y e A.in1 _ _ he hus rx ry).1
          have hall : (List.range items.size).all (allAt (peq n) l m) = b := by rw [n1, peqL_all h]
          exact ⟨by rw [← hall]; exact RcAt.lists ha ha' (by lia) (by (clear hall he h hlen hus n2 n1 h0 hm ha' hq0 hl ha hv0 hrefl ih S; omega)) he, by rw [← hall]; exact RcNeAt.lists ha ha' (by (clear hall he h hus h0 hm ha' hq0 hl ha hv0 hrefl hu ih S; omega)) (by (clear hall he h hlen hus n2 n1 h0 hm ha' hq0 hl ha hv0 hrefl ih S; omega)) he⟩
        · rename_i hlen
          cases h
          have hsz : (items.size != items'.size) = true := by rw [n1, n2]; simpa using hlen
          exact ⟨RcAt.lists_lengths ha ha' hsz (by (clear hsz h0 hlen hus n2 n1 hm ha' hq0 hl ha hv0 hrefl ih S; omega)), RcNeAt.lists_lengths ha ha' hsz (by (clear hsz h0 hlen hus n2 n1 hm ha' hq0 hl ha hv0 hrefl ih S; omega))⟩
      refine ⟨?_, key.1, key.2⟩
      by_cases haa : a = a'
      · subst haa
        have := Rep.inj hv0 hq0
        cases this
        rw [hrefl b h0]
        exact EqAt.same _
      · exact EqAt.of_refs haa key.1
end

theorem cm_eq {p q : PV} {b : Bool} (h : peq 8 p q = some b) : Cm2 .Eq p q b := fun prog w W A s v u Q E R S hv hu hQ =>
  (peq_at S 8 p q b A v u h (by have := R.unit; lia) hv hu).2.1 prog w E Q hQ
theorem cm_ne {p q : PV} {b : Bool} (h : peq 8 p q = some b) : Cm2 .NotEq p q (!b) := fun prog w W A s v u Q E R S hv hu hQ =>
  (peq_at S 8 p q b A v u h (by have := R.unit; omega) hv hu).2.2 prog w E Q hQ

theorem cm_eq_int {a b : Int} : Cm2 .Eq (.int a) (.int b) (a == b) := cm_eq (by simp [peq])
theorem cm_eq_bool {a b : Bool} : Cm2 .Eq (.bool a) (.bool b) (a == b) := cm_eq (by simp [peq])
theorem cm_eq_flt {x y : UInt64} : Cm2 .Eq (.flt x) (.flt y) (Float64.cmp x y == some .eq) := fun prog w W A s v u Q E R S hv hu hQ => by
  rw [rep_flt] at hv hu; obtain ⟨t, rfl, _⟩ := hv; obtain ⟨t', rfl, _⟩ := hu
  exact AutoFloatOps.eq_0 hQ
theorem cm_le_flt {x y : UInt64} : Cm2 .LtE (.flt x) (.flt y) (Float64.cmp x y == some .lt || Float64.cmp x y == some .eq) := fun prog w W A s v u Q E R S hv hu hQ => by
  rw [rep_flt] at hv hu; obtain ⟨t, rfl, _⟩ := hv; obtain ⟨t', rfl, _⟩ := hu
  exact AutoFloatOps.le_0 hQ
theorem cm_lt_flt {x y : UInt64} : Cm2 .Lt (.flt x) (.flt y) (Float64.cmp x y == some .lt) := fun prog w W A s v u Q E R S hv hu hQ => by
  rw [rep_flt] at hv hu; obtain ⟨t, rfl, _⟩ := hv; obtain ⟨t', rfl, _⟩ := hu
  exact AutoFloatOps.lt_0 hQ
theorem cm_gt_int {a b : Int} : Cm2 .Gt (.int a) (.int b) (decide (b < a)) := fun prog w W A s v u Q E R S hv hu hQ => by
  rw [rep_int] at hv hu; obtain ⟨t, rfl⟩ := hv; obtain ⟨t', rfl⟩ := hu
  exact PyProof.Rows.gt_int hQ
theorem cm_ge_int {a b : Int} : Cm2 .GtE (.int a) (.int b) (decide (b ≤ a)) := fun prog w W A s v u Q E R S hv hu hQ => by
  rw [rep_int] at hv hu; obtain ⟨t, rfl⟩ := hv; obtain ⟨t', rfl⟩ := hu
  exact PyProof.Rows.ge_int hQ

end Mine

namespace Mine
open PySem PySem.W PyProof.Rows

section
variable {g : Pg} {d : Nat} {K : Kn} {σ : Sig} {ω : Own} {c : Cx} {W : Wd} {A : Around} {s : Shared}

theorem evb_cmp {l r : Expr} {op : CmpOp} {pos : Pos} {p q : PV} {b : Bool} (h1 : Ev g d K σ ω l p) (h2 : Ev g d K σ ω r q) (h3 : Cm2 op p q b)
    (hm : behindInMarks op r = false := by with_unfolding_all rfl) : EvB g d K σ ω (.Compare l [op] [r] pos) b := fun c W A s R S =>
  wpAny_isTrue_Compare1 (h1.run R S fun v W' h' tk rv e => h2.run R (S.keeps e) fun u W'' h'' tk' ru e' =>
    h3 g.prog g.w W'' A _ v u _ _ R.zero ((S.keeps e).keeps e').sok (rv.up e') ru (wpAny_truthy_bool ⟨W'', h'', tk', rfl, rfl, e.trans e'⟩)) hm

theorem ev_cmp {l r : Expr} {op : CmpOp} {pos : Pos} {p q : PV} {b : Bool} (h1 : Ev g d K σ ω l p) (h2 : Ev g d K σ ω r q) (h3 : Cm2 op p q b)
    (hm : behindInMarks op r = false := by with_unfolding_all rfl) : Ev g d K σ ω (.Compare l [op] [r] pos) (.bool b) := fun c W A s R S =>
  wpAny_Compare1 (h1.run R S fun v W' h' tk rv e => h2.run R (S.keeps e) fun u W'' h'' tk' ru e' =>
    h3 g.prog g.w W'' A _ v u _ _ R.zero ((S.keeps e).keeps e').sok (rv.up e') ru ⟨W'', h'', tk', rfl, rep_bool.mpr rfl, e.trans e'⟩) hm

theorem ev_if {t x y : Expr} {pos : Pos} {b : Bool} {p q : PV} (h1 : EvB g d K σ ω t b) (h2 : b = true → Ev g d K σ ω x p) (h3 : b = false → Ev g d K σ ω y q) :
    Ev g d K σ ω (.IfExp t x y pos) (if b then p else q) := fun c W A s R S => by
  refine wpAny_IfExp (h1.run R S fun W' h' tk e => ?_)
  cases b with
  | true => exact (h2 rfl).run R (S.keeps e) fun v W'' h'' tk' r e' => ⟨W'', h'', tk', rfl, r, e.trans e'⟩
  | false => exact (h3 rfl).run R (S.keeps e) fun v W'' h'' tk' r e' => ⟨W'', h'', tk', rfl, r, e.trans e'⟩

theorem evl_nil : EvL g d K σ ω [] [] := fun c W A s pos R S => args_nil ⟨W, s.heap, s.toks, rfl, repL_nil.mpr rfl, Up.refl S⟩
theorem evl_cons {e : Expr} {es : List Expr} {p : PV} {ps : List PV} (h1 : Ev g d K σ ω e p) (h2 : EvL g d K σ ω es ps)
    (he : ∀ env, starEach (e :: es) env = (false, eval e env) :: starEach es env := by intro _; rfl) : EvL g d K σ ω (e :: es) (p :: ps) := fun c W A s pos R S =>
  args_cons (h1.run R S fun v W' h' tk r e => h2.run R (S.keeps e) fun vs W'' h'' tk' rs e' =>
    ⟨W'', h'', tk', rfl, repL_cons.mpr ⟨v, vs, rfl, r.up e', rs⟩, e.trans e'⟩) (he _)

/-- a new sequence object -/
theorem val_tup (S : Sok W s.heap s.toks) {ps : List PV} {vs : List Value} (r : RepL W s.heap ps vs) {n : Nat} : ValPost W (.tup ps) s (.ref s.heap.objs.size) { s with heap := s.heap.push { cls := .type "tuple", data := .seq vs.toArray n } } :=
  ⟨W, _, s.toks, rfl, rep_tup.mpr ⟨_, vs.toArray, rfl, fresh_not S.valid, ⟨_, Heap.get?_push_size _ rfl, rfl, n, rfl⟩, by simpa using r.ext (ext_push _ _)⟩, up_ext S (ext_push _ _) (Nat.le_refl _)⟩
theorem val_lst (S : Sok W s.heap s.toks) {ps : List PV} {vs : List Value} (r : RepL W s.heap ps vs) {n : Nat} : ValPost W (.lst ps) s (.ref s.heap.objs.size) { s with heap := s.heap.push { cls := .type "list", data := .seq vs.toArray n } } :=
  ⟨W, _, s.toks, rfl, rep_lst.mpr ⟨_, vs.toArray, rfl, fresh_not S.valid, ⟨_, Heap.get?_push_size _ rfl, rfl, n, rfl⟩, by simpa using r.ext (ext_push _ _)⟩, up_ext S (ext_push _ _) (Nat.le_refl _)⟩

theorem ValPost.after {W W' : Wd} {p : PV} {v : Value} {s s' : Shared} {h' : Heap} {tk' : Nat} (u : Up W W' s.heap h' s.toks tk') (x : ValPost W' p { s with heap := h', toks := tk' } v s') : ValPost W p s v s' :=
  let ⟨W2, h2, tk2, e, r, u2⟩ := x; ⟨W2, h2, tk2, e, r, u.trans u2⟩

theorem few {n : Nat} (h : n ≤ 4096) : n ≤ sizeLine := Nat.le_trans h (by decide)

theorem ev_tuple {es : List Expr} {k : Nat} {pos : Pos} {ps : List PV} (h : EvL g d K σ ω es ps) (hn : ps.length ≤ 4096) : Ev g d K σ ω (.Tuple es k pos) (.tup ps) := fun c W A s R S =>
  wpAny_Tuple_spliced (h.run R S fun vs W' h' tk r e => ⟨by rw [r.length]; exact few hn, (val_tup (s := { s with heap := h', toks := tk }) (S.keeps e).sok r).after e⟩)
theorem ev_list {es : List Expr} {pos : Pos} {ps : List PV} (h : EvL g d K σ ω es ps) (hn : ps.length ≤ 4096) : Ev g d K σ ω (.List es pos) (.lst ps) := fun c W A s R S =>
  wpAny_List_spliced (h.run R S fun vs W' h' tk r e => ⟨by rw [r.length]; exact few hn, (val_lst (s := { s with heap := h', toks := tk }) (S.keeps e).sok r).after e⟩)

theorem op_add_lst {l m : List PV} (hn : l.length + m.length ≤ 4096) : Op2 .Add (.lst l) (.lst m) (.lst (l ++ m)) := fun prog w W A s v u R S hv hu => by
  rw [rep_lst] at hv hu
  obtain ⟨a, its, rfl, _, ha, hl⟩ := hv
  obtain ⟨b, its2, rfl, _, hb, hm⟩ := hu
  have n1 := hl.length
  have n2 := hm.length
  rw [Array.length_toList] at n1 n2
  obtain ⟨⟨cls, dd, data, sl⟩, ho, hc, n, hd⟩ := id ha
  obtain ⟨⟨cls2, dd2, data2, sl2⟩, ho2, hc2, n2', hd2⟩ := id hb
  simp only at hc hd hc2 hd2
  subst hc hd hc2 hd2
  refine concat_meets ⟨_, ho, rfl⟩ ⟨_, ho2, rfl⟩ noFill_list_add seq_list_add PySem.F.slot_list_add PySem.F.entry_list_add (PySem.F.args_list_add_2 _ _) (list_addW a b its its2 n n2' dd dd2 sl sl2 (by rw [n1, n2]; exact few hn)) ⟨ho, ho2, ?_⟩
  have q := val_lst S (hl.append hm) (n := 0)
  rw [show (its.toList ++ its2.toList).toArray = its ++ its2 by simp] at q
  exact q

theorem op_add_tup {l m : List PV} (h1 : l ≠ []) (h2 : m ≠ []) (hn : l.length + m.length ≤ 4096) : Op2 .Add (.tup l) (.tup m) (.tup (l ++ m)) := fun prog w W A s v u R S hv hu => by
  rw [rep_tup] at hv hu
  obtain ⟨a, its, rfl, _, ha, hl⟩ := hv
  obtain ⟨b, its2, rfl, _, hb, hm⟩ := hu
  have n1 := hl.length
  have n2 := hm.length
  rw [Array.length_toList] at n1 n2
  obtain ⟨⟨cls, dd, data, sl⟩, ho, hc, n, hd⟩ := id ha
  obtain ⟨⟨cls2, dd2, data2, sl2⟩, ho2, hc2, n2', hd2⟩ := id hb
  simp only at hc hd hc2 hd2
  subst hc hd hc2 hd2
  have e1 : ¬ its.isEmpty = true := by
    rw [Array.isEmpty_iff_size_eq_zero, n1]; exact fun e => h1 (List.length_eq_zero_iff.mp e)
  have e2 : ¬ its2.isEmpty = true := by
    rw [Array.isEmpty_iff_size_eq_zero, n2]; exact fun e => h2 (List.length_eq_zero_iff.mp e)
  refine concat_meets ⟨_, ho, rfl⟩ ⟨_, ho2, rfl⟩ noFill_tuple_add seq_tuple_add PySem.F.slot_tuple_add PySem.F.entry_tuple_add (PySem.F.args_tuple_add_2 _ _)
    (tuple_addW2 a b its its2 n n2' dd dd2 sl sl2 e1 e2 (by rw [n1, n2]; exact few hn)) ⟨ho, ho2, ?_⟩
  have q := val_tup S (hl.append hm) (n := 0)
  rw [show (its.toList ++ its2.toList).toArray = its ++ its2 by simp] at q
  exact q

/-- an item by its number, from the front or from behind -/
noncomputable def pidx (l : List PV) (k : Int) : Option PV := if 0 ≤ k then l[k.toNat]? else if -(l.length : Int) ≤ k then l[(k + l.length).toNat]? else Option.none

theorem getItem_lst (S : Sok W s.heap s.toks) {l : List PV} {k : Int} {x : PV} (hx : pidx l k = some x) (hn : l.length ≤ 4096) {a : Addr} {its : Array Value} {t : Tok} (ha : s.heap.IsList a its) (hl : RepL W s.heap l its.toList)
    {prog : Program} {w : World} {E : Value → Shared → Prop} {Q : Value → Shared → Prop} (hQ : ∀ v, Rep W s.heap x v → Q v s) : wpAny (model prog w) A (getItem (.ref a) (.int k t)) Q E s := by
  have n1 := hl.length
  rw [Array.length_toList] at n1
  unfold pidx at hx
  split at hx
  · rename_i h0
    obtain ⟨v, hv, rv⟩ := hl.get k.toNat x hx
    have hlt : k.toNat < l.length := by
      rcases Nat.lt_or_ge k.toNat l.length with h | h
      · exact h
      · rw [List.getElem?_eq_none h] at hx; cases hx
    exact wpAny_getItem_list ha h0 (by lia) (by simpa using hv) (hQ v rv)
  · split at hx
    · rename_i h0 h1
      obtain ⟨v, hv, rv⟩ := hl.get _ x hx
      exact wpAny_getItem_list_neg ha (by lia) (by lia) (by lia) (by rw [n1]; simpa using hv) (hQ v rv)
    · cases hx

theorem tail_lst {value slice : Expr} (S : Sok W s.heap s.toks) {l : List PV} {k : Int} {x : PV} (hx : pidx l k = some x) (hn : l.length ≤ 4096) {a : Addr} {its : Array Value} {t : Tok} (ha : s.heap.IsList a its) (hl : RepL W s.heap l its.toList)
    {prog : Program} {w : World} {E : Value → Shared → Prop} {Q : Value → Shared → Prop} (hQ : ∀ v, Rep W s.heap x v → Q v s) (hs : ∀ o i, subscripted slice false o i = operate [o, i] (getItem o i)) :
    wpAny (model prog w) A (subscriptTail value slice (.ref a) (.int k t)) Q E s := by
  unfold subscriptTail
  refine wpAny_bind ?_
  rw [getitemInPython_of_ne (by intro e; cases e)]
  refine wpAny_bind (wpAny_specialOf ha.typeIs list_getitem_lookup ?_)
  have fin : wpAny (model prog w) A (subscripted slice false (.ref a) (.int k t)) (fun r s₃ => wpAny (model prog w) A (letTemporaryGo value (.ref a) r >>= fun _ => pure r) Q E s₃) E s := by
    rw [hs]
    exact wpAny_operating (getItem_lst S hx hn ha hl fun v rv => wpAny_bind (wpAny_letTemporaryGo (wpAny_pure (hQ v rv))))
  first
    | exact wpAny_pure (wpAny_bind fin)
    | exact wpAny_bind (wpAny_pure (wpAny_bind fin))
    | exact wpAny_bind fin

theorem ev_idx {value slice : Expr} {pos : Pos} {l : List PV} {k : Int} {x : PV} (h1 : Ev g d K σ ω value (.lst l)) (h2 : Ev g d K σ ω slice (.int k)) (hx : pidx l k = some x) (hn : l.length ≤ 4096)
    (hs : ∀ o i, subscripted slice false o i = operate [o, i] (getItem o i) := by intro _ _; rfl) : Ev g d K σ ω (.Subscript value slice pos) x := fun c W A s R S =>
  Subscript_ (h1.run R S fun v W' h' tk rv e => h2.run R (S.keeps e) fun u W'' h'' tk' ru e' => by
    obtain ⟨a, its, rfl, _, ha, hl⟩ := rep_lst.mp (rv.up e')
    obtain ⟨t, rfl⟩ := rep_int.mp ru
    exact tail_lst (s := { s with heap := h'', toks := tk' }) ((S.keeps e).keeps e').sok hx hn ha hl (fun v r => ⟨W'', h'', tk', rfl, r, e.trans e'⟩) hs)

theorem ev_idxT {value slice : Expr} {pos : Pos} {l : List PV} {k : Nat} {x : PV} (h1 : Ev g d K σ ω value (.tup l)) (h2 : Ev g d K σ ω slice (.int k)) (hx : l[k]? = some x) (hn : l.length ≤ 4096)
    (hs : ∀ o i, subscripted slice false o i = operate [o, i] (getItem o i) := by intro _ _; rfl) : Ev g d K σ ω (.Subscript value slice pos) x := fun c W A s R S =>
  Subscript_ (h1.run R S fun v W' h' tk rv e => h2.run R (S.keeps e) fun u W'' h'' tk' ru e' => by
    obtain ⟨a, its, rfl, _, ha, hl⟩ := rep_tup.mp (rv.up e')
    obtain ⟨t, rfl⟩ := rep_int.mp ru
    obtain ⟨v, hv, r⟩ := hl.get k x hx
    have n1 := hl.length
    rw [Array.length_toList] at n1
    have hlt : k < l.length := by
      rcases Nat.lt_or_ge k l.length with h | h
      · exact h
      · rw [List.getElem?_eq_none h] at hx; cases hx
    have fin : wpAny (model g.prog g.w) A (getItem (.ref a) (.int k t)) (fun r s₃ => wpAny (model g.prog g.w) A (letTemporaryGo value (.ref a) r >>= fun _ => pure r) (ValPost W x s) (fun _ _ => False) s₃) (fun _ _ => False) { s with heap := h'', toks := tk' } :=
      PyProof.Rows.getItem_tuple (j := k) ha (by lia) (by lia) (by rw [seqIndex_of (by lia) (by lia)]; simp) (by simpa using hv)
        (wpAny_bind (wpAny_letTemporaryGo (wpAny_pure ⟨W'', h'', tk', rfl, r, e.trans e'⟩)))
    unfold subscriptTail
    refine wpAny_bind ?_
    rw [getitemInPython_of_ne (by intro e; cases e)]
    refine wpAny_bind (wpAny_specialOf (T := "tuple") (let ⟨o, ho, hc, _⟩ := ha; ⟨o, ho, hc⟩) slot_tuple_getitem.lookup ?_)
    have fin' : wpAny (model g.prog g.w) A (subscripted slice false (.ref a) (.int k t)) (fun r s₃ => wpAny (model g.prog g.w) A (letTemporaryGo value (.ref a) r >>= fun _ => pure r) (ValPost W x s) (fun _ _ => False) s₃) (fun _ _ => False) { s with heap := h'', toks := tk' } := by
      rw [hs]; exact wpAny_operating fin
    first
      | exact wpAny_pure (wpAny_bind fin')
      | exact wpAny_bind (wpAny_pure (wpAny_bind fin'))
      | exact wpAny_bind fin')
end

end Mine

namespace Mine
open PySem PySem.W PyProof.Rows

inductive Fl where
  | next | brk | cont
  | ret (p : PV)

noncomputable def FlRep (W : Wd) (h : Heap) : Fl → Flow → Prop
  | .next, f => f = .next
  | .brk, f => f = .brk
  | .cont, f => f = .cont
  | .ret p, f => ∃ v, f = .ret v ∧ Rep W h p v

structure Later (W W' : Wd) (h h' : Heap) (tk tk' : Nat) : Prop where
  mod : Mod W.O h h'
  grow : Grow W W' h
  le : tk ≤ tk'

theorem Later.trans {W W' W'' : Wd} {h h' h'' : Heap} {a b e : Nat} (x : Later W W' h h' a b) (y : Later W' W'' h' h'' b e) : Later W W'' h h'' a e :=
  ⟨x.mod.trans x.grow.o y.mod, x.grow.trans y.grow x.mod, Nat.le_trans x.le y.le⟩
theorem Up.later {W W' : Wd} {h h' : Heap} {a b : Nat} (u : Up W W' h h' a b) : Later W W' h h' a b := ⟨u.ext.mod, u.grow, u.le⟩
theorem Later.refl (W : Wd) (h : Heap) (a : Nat) : Later W W h h a a := ⟨Mod.refl _ _, Grow.refl _ _, Nat.le_refl _⟩
theorem Later.of_mod {W : Wd} {h h' : Heap} {a b : Nat} (m : Mod W.O h h') (e : a ≤ b) : Later W W h h' a b := ⟨m, Grow.refl _ _, e⟩

noncomputable abbrev PostT := Fl → Sig → Own → Prop

noncomputable def ExPost (g : Pg) (c : Cx) (K : Kn) (W : Wd) (P : PostT) (s : Shared) (f : Flow) (s' : Shared) : Prop :=
  ∃ fl σ' ω' W' h' tk', s' = { s with heap := h', toks := tk' } ∧ P fl σ' ω' ∧ FlRep ⟨c.O, W'.T⟩ h' fl f ∧ St g c K W' σ' ω' h' tk' ∧ Later W W' s.heap h' s.toks tk'

section judge
variable (g : Pg) (d : Nat) (K : Kn) (σ : Sig) (ω : Own)
noncomputable def Ex1 (st : Stmt) (P : PostT) : Prop :=
  ∀ (c : Cx) (W : Wd) (A : Around) (s : Shared), Room d A → St g c K W σ ω s.heap s.toks →
    wpAny (model g.prog g.w) A (exec st c.env) (ExPost g c K W P s) (fun _ _ => False) s
noncomputable def Ex (ss : List Stmt) (P : PostT) : Prop :=
  ∀ (c : Cx) (W : Wd) (A : Around) (s : Shared), Room d A → St g c K W σ ω s.heap s.toks →
    wpAny (model g.prog g.w) A (execs ss c.env) (ExPost g c K W P s) (fun _ _ => False) s
end judge

section
variable {g : Pg} {d : Nat} {K : Kn} {σ : Sig} {ω : Own} {c : Cx} {W : Wd} {A : Around} {s : Shared} {P : PostT}

theorem ExPost.after {W' : Wd} {f : Flow} {s' : Shared} {h' : Heap} {tk' : Nat} (l : Later W W' s.heap h' s.toks tk') (x : ExPost g c K W' P { s with heap := h', toks := tk' } f s') : ExPost g c K W P s f s' :=
  let ⟨fl, σ', ω', W2, h2, tk2, e, p, r, S, l2⟩ := x; ⟨fl, σ', ω', W2, h2, tk2, e, p, r, S, l.trans l2⟩

theorem Ex.run {ss : List Stmt} {W' : Wd} {h' : Heap} {tk' : Nat} (H : Ex g d K σ ω ss P) (R : Room d A) (S : St g c K W' σ ω h' tk') (l : Later W W' s.heap h' s.toks tk') {E : Value → Shared → Prop} :
    wpAny (model g.prog g.w) A (execs ss c.env) (ExPost g c K W P s) E { s with heap := h', toks := tk' } :=
  wpAny_mono (H c W' A { s with heap := h', toks := tk' } R S) (fun f s' x => x.after l) fun _ _ f => f.elim

theorem ex_nil (h : P .next σ ω) : Ex g d K σ ω [] P := fun c W A s R S =>
  wpAny_execs_nil ⟨.next, σ, ω, W, s.heap, s.toks, rfl, h, rfl, S, Later.refl _ _ _⟩

/-- what follows a statement -/
noncomputable def seqP (g : Pg) (d : Nat) (K : Kn) (rest : List Stmt) (P : PostT) : PostT := fun fl σ' ω' => match fl with
  | .next => Ex g d K σ' ω' rest P
  | fl => P fl σ' ω'

theorem ex_cons {st : Stmt} {rest : List Stmt} (h : Ex1 g d K σ ω st (seqP g d K rest P)) : Ex g d K σ ω (st :: rest) P := fun c W A s R S => by
  refine wpAny_execs_cons (wpAny_mono (h c W A s R S) (fun f s' x => ?_) fun _ _ f => f)
  obtain ⟨fl, σ', ω', W', h', tk', rfl, p, r, S', l⟩ := x
  cases fl with
  | next => cases r; exact Ex.run p R S' l
  | brk => cases r; exact ⟨.brk, σ', ω', W', h', tk', rfl, p, rfl, S', l⟩
  | cont => cases r; exact ⟨.cont, σ', ω', W', h', tk', rfl, p, rfl, S', l⟩
  | ret q => obtain ⟨v, rfl, hv⟩ := r; exact ⟨.ret q, σ', ω', W', h', tk', rfl, p, ⟨v, rfl, hv⟩, S', l⟩

theorem Ex.mono {ss : List Stmt} {P' : PostT} (h : Ex g d K σ ω ss P) (hp : ∀ fl σ' ω', P fl σ' ω' → P' fl σ' ω') : Ex g d K σ ω ss P' := fun c W A s R S =>
  wpAny_mono (h c W A s R S) (fun f s' ⟨fl, σ', ω', W', h', tk', e, p, x⟩ => ⟨fl, σ', ω', W', h', tk', e, hp _ _ _ p, x⟩) fun _ _ f => f
theorem Ex.less {ss : List Stmt} {σ' : Sig} {ω' : Own} (h : Ex g d K σ' ω' ss P) (h1 : ∀ x p, σ'.lookup x = some p → σ.lookup x = some p) (h2 : ∀ x l, ω'.lookup x = some l → ω.lookup x = some l) : Ex g d K σ ω ss P :=
  fun c W A s R S => h c W A s R (S.less h1 h2)

/-- the value of a plain assignment is not handed over in another order -/
theorem ex1_return {e : Expr} {pos : Pos} {p : PV} (h : Ev g d K σ ω e p) (hP : P (.ret p) σ ω) : Ex1 g d K σ ω (.Return (some e) pos) P := fun c W A s R S =>
  wpAny_Return_some (h.run R S fun v W' h' tk' r u => ⟨.ret p, σ, ω, W', h', tk', rfl, hP, ⟨v, rfl, Rep.weaken (W := W') (W' := ⟨c.O, W'.T⟩) (S.keeps u).sub (fun _ => rfl) r⟩, S.keeps u, u.later⟩)

theorem ex1_if {t : Expr} {body orelse : List Stmt} {pos : Pos} {b : Bool} (h : EvB g d K σ ω t b) (h1 : b = true → Ex g d K σ ω body P) (h2 : b = false → Ex g d K σ ω orelse P) :
    Ex1 g d K σ ω (.If t body orelse pos) P := fun c W A s R S => by
  refine wpAny_If (h.run R S fun W' h' tk' u => ?_)
  cases b with
  | true => exact (h1 rfl).run R (S.keeps u) u.later
  | false => exact (h2 rfl).run R (S.keeps u) u.later

theorem ex1_break {pos : Pos} (hP : P .brk σ ω) : Ex1 g d K σ ω (.Break pos) P := fun c W A s R S =>
  wpAny_Break ⟨.brk, σ, ω, W, s.heap, s.toks, rfl, hP, rfl, S, Later.refl _ _ _⟩

theorem ex1_assign {x : Str} {pos pos' : Pos} {e : Expr} {p : PV} (h : Ev g d K σ ω e p) (hK : K.lookup x = some .local ∨ K.lookup x = some .cell) (hω : ω.lookup x = Option.none)
    (hP : P .next ((x, p) :: σ) ω) (hs : ∀ env line, swapsWith e (some (.Name x pos')) line env = pure false := by intro _ _; rfl) :
    Ex1 g d K σ ω (.Assign [.Name x pos'] e pos) P := fun c W A s R S =>
  wpAny_Assign_Name (h.run R S fun v W' h' tk' r u => (S.keeps u).store (s := { s with heap := h', toks := tk' }) hK hω r fun h2 tk2 S2 m le =>
    ⟨.next, _, ω, W', h2, tk2, rfl, hP, rfl, S2, u.later.trans (Later.of_mod m.any le)⟩) (hs _ _)

end

section bind
theorem bindL_other {ko : Str → Option NameKind} : ∀ {binds : List (Str × Value)} {m : Str → Option Value} {x : Str}, x ∉ binds.map (·.1) → bindL ko binds m x = m x
  | [], m, x, _ => rfl
  | (n, v) :: r, m, x, h => by
    unfold bindL
    rw [bindL_other (fun e => h (List.mem_cons_of_mem _ e))]
    split
    · exact if_neg (fun e => h (by rw [e]; exact List.mem_cons_self))
    · rfl
theorem bindC_other {ko : Str → Option NameKind} : ∀ {binds : List (Str × Value)} {m : Str → Option Value} {x : Str}, x ∉ binds.map (·.1) → bindC ko binds m x = m x
  | [], m, x, _ => rfl
  | (n, v) :: r, m, x, h => by
    unfold bindC
    rw [bindC_other (fun e => h (List.mem_cons_of_mem _ e))]
    split
    · rfl
    · exact if_neg (fun e => h (by rw [e]; exact List.mem_cons_self))
theorem bindL_get {ko : Str → Option NameKind} : ∀ {binds : List (Str × Value)} {m : Str → Option Value} {x : Str} {v : Value}, (binds.map (·.1)).Nodup → binds.lookup x = some v → ko x = some .local → bindL ko binds m x = some v
  | [], m, x, v, _, h, _ => by simp at h
  | (n, u) :: r, m, x, v, hn, h, hk => by
    rw [List.map_cons, List.nodup_cons] at hn
    unfold bindL
    rw [List.lookup_cons] at h
    cases hb : x == n with
    | true =>
      rw [hb] at h; cases h
      have e := beq_iff_eq.mp hb
      subst e
      rw [bindL_other hn.1, if_pos hk]; simp
    | false =>
      rw [hb] at h
      exact bindL_get hn.2 h hk
theorem bindC_get {ko : Str → Option NameKind} : ∀ {binds : List (Str × Value)} {m : Str → Option Value} {x : Str} {v : Value}, (binds.map (·.1)).Nodup → binds.lookup x = some v → ko x ≠ some .local → bindC ko binds m x = some v
  | [], m, x, v, _, h, _ => by simp at h
  | (n, u) :: r, m, x, v, hn, h, hk => by
    rw [List.map_cons, List.nodup_cons] at hn
    unfold bindC
    rw [List.lookup_cons] at h
    cases hb : x == n with
    | true =>
      rw [hb] at h; cases h
      have e := beq_iff_eq.mp hb
      subst e
      rw [bindC_other hn.1, if_neg hk]; simp
    | false =>
      rw [hb] at h
      exact bindC_get hn.2 h hk

theorem zip_lookup {W : Wd} {h : Heap} : ∀ {ns : List Str} {ps : List PV} {vs : List Value} {x : Str} {p : PV}, RepL W h ps vs → (ns.zip ps).lookup x = some p → ∃ v, (ns.zip vs).lookup x = some v ∧ Rep W h p v
  | [], ps, vs, x, p, _, e => by simp at e
  | n :: ns, [], vs, x, p, _, e => by simp at e
  | n :: ns, q :: ps, vs, x, p, r, e => by
    rw [repL_cons] at r
    obtain ⟨v, vs', rfl, hq, hr⟩ := r
    rw [List.zip_cons_cons, List.lookup_cons] at e ⊢
    cases hb : x == n with
    | true => rw [hb] at e; cases e; exact ⟨v, rfl, hq⟩
    | false => rw [hb] at e; exact zip_lookup hr e

theorem cellsFrom_has : ∀ {names : List (Str × NameKind)} {n : Nat} {acc : List (Str × Addr)} {x : Str}, ((x, NameKind.cell) ∈ names ∨ (acc.lookup x).isSome = true) → ((cellsFrom n names acc).lookup x).isSome = true
  | [], n, acc, x, h => by
    rcases h with h | h
    · cases h
    · exact h
  | (name, kind) :: r, n, acc, x, h => by
    unfold cellsFrom
    split
    · rename_i hk
      refine cellsFrom_has ?_
      rcases h with h | h
      · rcases List.mem_cons.mp h with e | h
        · cases e; right; simp
        · exact .inl h
      · right
        rw [List.lookup_cons]
        cases x == name with
        | true => rfl
        | false => exact h
    · rename_i hk
      refine cellsFrom_has ?_
      rcases h with h | h
      · rcases List.mem_cons.mp h with e | h
        · cases e; exact absurd rfl hk
        · exact .inl h
      · exact .inr h
end bind

/-- a def of the text, called with these values, gives that one -/
structure Plain (it : DefItem) (n : Nat) : Prop where
  dflt : it.params.defaults = []
  bind : ∀ (pm cd doc : Value) (vs : List Value), vs.length = n → bindArgs (Calls.docDef it.name it.params it.body it.scope pm cd doc) ⟨vs, []⟩ = pure ((it.params.args.map (·.arg)).zip vs)
  kind : it.scope.kind = .function
  gen : it.scope.isGenerator = false
  co : it.scope.isCoroutine = false
  pars : ∀ x ∈ it.params.args.map (·.arg), it.scope.names.lookup x = some .local ∨ it.scope.names.lookup x = some .cell
  nodup : (it.params.args.map (·.arg)).Nodup
  free : ∀ y ∈ it.scope.names, y.2 ≠ .free
  len : it.params.args.length = n

noncomputable def Fn (g : Pg) (d : Nat) (it : DefItem) (ps : List PV) (p : PV) : Prop :=
  Ex g d it.scope.names ((it.params.args.map (·.arg)).zip ps) [] it.body (fun fl _ _ => fl = .ret p ∨ (fl = .next ∧ p = .none))

section
variable {g : Pg} {d : Nat} {K : Kn} {σ : Sig} {ω : Own} {c : Cx} {W : Wd} {A : Around} {s : Shared}

theorem lookup_mem_kinds {names : List (Str × NameKind)} {x : Str} {k : NameKind} (h : names.lookup x = some k) : (x, k) ∈ names := mem_of_lookup h

theorem call_fn {it : DefItem} {ps : List PV} {p : PV} (F : Fn g d it ps p) (pl : Plain it ps.length) (R : Room (d + 1) A) (S : Sok W s.heap s.toks) (ok : g.Ok s.heap) {a : Addr} {o : Obj} {pm cd doc : Value}
    (ho : s.heap.get? a = some o) (hd : o.data = .func (Calls.docDef it.name it.params it.body it.scope pm cd doc)) (hcd : s.heap.CodeRec cd it.name) {vs : List Value} (rv : RepL W s.heap ps vs) :
    wpAny (model g.prog g.w) A (call (.ref a) vs) (ValPost W p s) (fun _ _ => False) s := by
  have hlen := rv.length
  have hroom : A.depth < recursionLimit := by have := R.dep; lia
  refine wpAny_call ?_
  refine codeAny_call_function (fd := Calls.docDef it.name it.params it.body it.scope pm cd doc) hroom ho hd pl.co pl.gen rfl hcd ?_
  rw [pl.bind pm cd doc vs hlen]
  have hkind : ∀ x ∈ (it.params.args.map (·.arg)).zip vs, it.scope.names.lookup x.1 = some .local ∨ (it.scope.names.lookup x.1 = some .cell ∧ ((cellsFrom (s.heap.objs.size + 1) it.scope.names []).lookup x.1).isSome = true) := fun x hx => by
    have hm : x.1 ∈ it.params.args.map (·.arg) := (List.of_mem_zip (a := x.1) (b := x.2) hx).1
    rcases pl.pars _ hm with h | h
    · exact .inl h
    · exact .inr ⟨h, cellsFrom_has (.inl (lookup_mem_kinds h))⟩
  have hnodup : (((it.params.args.map (·.arg)).zip vs).map (·.1)).Nodup := by
    have e : ((it.params.args.map (·.arg)).zip vs).map (·.1) = it.params.args.map (·.arg) := by
      rw [← List.unzip_fst, List.unzip_zip_left]
      rw [List.length_map, pl.len, hlen]; exact Nat.le_refl _
    rw [e]; exact pl.nodup
  refine wpAny_pure (wpAny_with_toks (n := s.toks) (Nat.le_refl _) (wpAny_newFunctionEnv_cells pl.kind hkind fun env he s' x htk => ?_))
  obtain ⟨h₁, tk₁, rfl⟩ := x.toInCall.same
  have keep := x.toInCall.keep
  refine ⟨S.nolimit.keeps keep, codeAny_func ?_⟩
  have hsc : env.scope = it.scope := by rw [he]; rfl
  have hloc : env.locals = s.heap.objs.size := by rw [he]; rfl
  have hcells : env.cells = cellsFrom (s.heap.objs.size + 1) it.scope.names [] := by rw [he]; rfl
  have St0 : St g ⟨env, s.heap, W.O⟩ it.scope.names W ((it.params.args.map (·.arg)).zip ps) [] h₁ tk₁ := by
    refine ⟨keep, ok, by rw [hsc]; exact pl.kind, by rw [he]; rfl, by rw [he]; rfl, ⟨_, x.toInCall.ns⟩, ?_, ?_, ?_, ?_, x.apart, ?_, ⟨fun _ => 0, fun _ _ e => by simp at e, fun _ _ _ e => by simp at e⟩, fun a ha => ha, ?_, ?_, Nat.lt_of_lt_of_le S.pos htk⟩
    · rw [hloc]; exact get_fresh _
    · intro y kd hy; left; unfold Env.kindOf; rw [hsc]; exact hy
    · intro y hy
      rcases hy with hy | hy
      · have := cellsFrom_has (n := s.heap.objs.size + 1) (acc := []) (.inl (lookup_mem_kinds hy))
        obtain ⟨k, hk⟩ := Option.isSome_iff_exists.mp this
        exact ⟨k, _, by rw [hcells]; exact hk, x.cell y k (by rw [hcells]; exact hk)⟩
      · exact absurd rfl (pl.free _ (lookup_mem_kinds hy))
    · intro y k hy hk
      have := x.above y k (mem_of_lookup hk)
      rw [hloc] at this
      cases e : s.heap.get? k with
      | none => rfl
      | some o' => exact absurd (Heap.lt_size e) (Nat.not_lt.mpr (Nat.le_of_lt this))
    · intro y q hq
      obtain ⟨v, hv, hr⟩ := zip_lookup rv hq
      refine ⟨v, ?_, hr.ext keep⟩
      have hm : y ∈ it.params.args.map (·.arg) := (List.of_mem_zip (mem_of_lookup hq)).1
      rcases pl.pars _ hm with h | h
      · exact .inl ⟨h, _, x.toInCall.ns, bindL_get hnodup hv (by unfold Env.kindOf; rw [hsc]; exact h)⟩
      · right
        refine ⟨.inl h, ?_⟩
        have := cellsFrom_has (n := s.heap.objs.size + 1) (acc := []) (.inl (lookup_mem_kinds h))
        obtain ⟨k, hk⟩ := Option.isSome_iff_exists.mp this
        refine ⟨k, by rw [hcells]; exact hk, ?_⟩
        have hc := x.cell y k (by rw [hcells]; exact hk)
        rw [bindC_get hnodup hv (by unfold Env.kindOf; rw [hsc, h]; exact fun e => by cases e)] at hc
        exact hc
    · intro a ha; obtain ⟨o', ho'⟩ := S.valid a ha; exact ⟨o', keep _ _ ho'⟩
    · intro t y e; exact ⟨(S.tok t y e).1, Nat.lt_of_lt_of_le (S.tok t y e).2 htk⟩
  refine wpAny_mono (F ⟨env, s.heap, W.O⟩ W (A.deeper env) { s with heap := h₁, toks := tk₁ } (R.deeper env) St0) (fun f s' x => ?_) fun _ _ f => f.elim
  obtain ⟨fl, σ', ω', W', h', tk', rfl, hp, hr, S', l⟩ := x
  have up : Up W ⟨W.O, W'.T⟩ s.heap h' s.toks tk' := ⟨S'.ext, rfl, fun t y e => l.grow.t t y e, S'.tok, Nat.le_trans htk l.le⟩
  rcases hp with rfl | ⟨rfl, rfl⟩
  · obtain ⟨v, rfl, hv⟩ := hr
    exact ⟨⟨W.O, W'.T⟩, h', tk', rfl, hv, up⟩
  · cases hr
    exact ⟨⟨W.O, W'.T⟩, h', tk', rfl, rep_none.mpr rfl, up⟩

/-- a name of the module's top -/
theorem eval_global (S : St g c K W σ ω s.heap s.toks) {x : Str} {pos : Pos} (hK : K.lookup x = some .globalImplicit) {Q : Value → Shared → Prop} {E : Value → Shared → Prop}
    (h : wpAny (model g.prog g.w) A (loadGlobal c.env x) Q E s) (hd : (x == ("__debug__" : Str)) = false) : wpAny (model g.prog g.w) A (eval (.Name x pos) c.env) Q E s := by
  have hk : c.env.kindOf x = some .globalImplicit := by rcases S.known x _ hK with h1 | ⟨h1, _⟩; exact h1; cases h1
  exact Calls.Name_function_global S.kind hk h hd

theorem ev_call {it : DefItem} {e : Expr} {es : List Expr} {ps : List PV} {p : PV} {pos pos' : Pos} (hm : it ∈ g.defs) (hK : K.lookup it.name = some .globalImplicit) (ha : EvL g (d + 1) K σ ω (e :: es) ps)
    (F : Fn g d it ps p) (pl : Plain it ps.length) (he : ∀ env, starEach (e :: es) env = (false, eval e env) :: starEach es env := by intro _; rfl) (hd : (it.name == ("__debug__" : Str)) = false := by decide) :
    Ev g (d + 1) K σ ω (.Call (.Name it.name pos) (e :: es) [] pos') p := fun c W A s R S => by
  refine Call_ (eval_global S hK ?_ hd)
  obtain ⟨⟨N, mg, mb, G⟩, _⟩ := S.okNow
  obtain ⟨f, c', o, pm, doc, _, _, h3, h4, h5, h6⟩ := (G.made it hm).plain pl.dflt
  refine Calls.loadGlobal_global (mg := mg) (by rw [S.globals]; exact G.g) h3 ?_
  refine callWith_def h5 ?_ (he _)
  refine ha.run R S fun vs W' h' tk' r u => ⟨u.ext _ _ h4, ?_⟩
  refine wpAny_mono (call_fn (s := { s with heap := h', toks := tk' }) F pl R (S.keeps u).sok (S.keeps u).okNow (u.ext _ _ h4) h5 (h6.keeps u.ext) r) (fun v s' x => x.after u) fun _ _ f => f
end

end Mine

namespace Mine
open PySem PySem.W PyProof.Rows

theorem fields_not_seq {o : Obj} {vs : Array Value} (h : o.data = .fields vs) : ¬ IsSeq o := by
  unfold IsSeq; rw [h]; exact fun x => x

/-- an iterator that stands and is to give these -/
inductive ItAt (W : Wd) (h : Heap) (I : Addr) : Bool → List Addr → List PV → Prop
  | list {ax : Addr} {items : Array Value} {i : Nat} {ps : List PV} (hne : ax ≠ I) (hO : ¬ W.O ax) (hit : h.IsListIter I ax i) (hl : h.IsList ax items) (r : RepL W h ps (items.toList.drop i)) :
      ItAt W h I false [I] ps
  | range {x cc : Int} {n : Nat} {ps : List PV} (hit : IsRangeIter h I x n cc) (hp : ps = (List.range n).map fun j => .int (x + (j : Int) * cc)) : ItAt W h I false [I] ps
  | enum {it ax : Addr} {items : Array Value} {i : Nat} {old : Value} {qs : List PV} (h1 : I ≠ it) (h2 : ax ≠ I) (h3 : ax ≠ it) (hO : ¬ W.O ax) (he : IsEnum h I it i old) (hit : h.IsListIter it ax i) (hl : h.IsList ax items)
      (r : RepL W h qs (items.toList.drop i)) {ps : List PV} (hp : ps = (qs.zipIdx i).map fun x => .tup [.int x.2, x.1]) : ItAt W h I true [I, it] ps

noncomputable def KeepFp (fp : List Addr) (h h' : Heap) : Prop := ∀ b o, b ∉ fp → h.get? b = some o → h'.get? b = some o

/-- the iterator's own objects -/
noncomputable def FpOk (W : Wd) (h : Heap) (fp : List Addr) : Prop := ∀ b ∈ fp, ¬ W.O b ∧ ∃ o vs, h.get? b = some o ∧ o.data = .fields vs

theorem FpOk.modS {W : Wd} {h h' : Heap} {fp : List Addr} (f : FpOk W h fp) (k : KeepFp fp h h') : ModS W.O h h' := fun b o e _ hs => by
  refine k b o (fun hb => ?_) e
  obtain ⟨_, o', vs, e', hd⟩ := f b hb
  rw [e] at e'; cases e'
  exact fields_not_seq hd hs

theorem stays_fields {o : Obj} {vs : Array Value} (h : o.data = .fields vs) : Stays o := by unfold Stays; rw [h]; trivial
theorem stays_seq {o : Obj} {vs : Array Value} {n : Nat} (h : o.data = .seq vs n) : Stays o := by unfold Stays; rw [h]; trivial

section
variable {W W' : Wd} {h h' : Heap} {I : Addr} {en : Bool} {fp : List Addr} {ps : List PV}

theorem ItAt.mono (x : ItAt W h I en fp ps) (f : FpOk W h fp) (m : Mod W.O h h') (gr : Grow W W' h) : ItAt W' h' I en fp ps ∧ FpOk W' h' fp := by
  have F : FpOk W' h' fp := fun b hb => by
    obtain ⟨h1, o, vs, e, hd⟩ := f b hb
    exact ⟨fun q => (gr.o.2 b q).elim h1 fun hn => (by rw [e] at hn; cases hn), o, vs, m.keep b o e h1 (stays_fields hd), hd⟩
  refine ⟨?_, F⟩
  have keepF : ∀ b ∈ fp, ∀ o, h.get? b = some o → h'.get? b = some o := fun b hb o e => by
    obtain ⟨h1, o', vs, e', hd⟩ := f b hb
    rw [e] at e'; cases e'
    exact m.keep b _ e h1 (stays_fields hd)
  have keepL : ∀ a items, ¬ W.O a → h.IsList a items → h'.IsList a items := fun a items hO ⟨o, ho, hc, n, hd⟩ => ⟨o, m.keep a o ho hO (stays_seq hd), hc, n, hd⟩
  have growO : ∀ a items, ¬ W.O a → h.IsList a items → ¬ W'.O a := fun a items hO ⟨o, ho, _⟩ q => (gr.o.2 a q).elim hO fun hn => by rw [ho] at hn; cases hn
  cases x with
  | list hne hO hit hl r =>
    obtain ⟨o, ho, hr⟩ := hit
    exact .list hne (growO _ _ hO hl) ⟨o, keepF _ (by simp) o ho, hr⟩ (keepL _ _ hO hl) (r.mono m.seq gr)
  | range hit hp => exact .range (keepF _ (by simp) _ hit) hp
  | enum h1 h2 h3 hO he hit hl r hp =>
    obtain ⟨o, ho, hr⟩ := hit
    exact .enum h1 h2 h3 (growO _ _ hO hl) (keepF _ (by simp) _ he) ⟨o, keepF _ (by simp) o ho, hr⟩ (keepL _ _ hO hl) (r.mono m.seq gr) hp
end

section
variable {g : Pg} {d : Nat} {K : Kn} {σ : Sig} {ω : Own} {c : Cx} {W : Wd} {A : Around} {s : Shared} {h h' : Heap} {tk tk' : Nat} {I : Addr} {en : Bool} {fp : List Addr} {ps : List PV}

theorem St.turn (S : St g c K W σ ω h tk) (k : KeepFp fp h h') (f : FpOk W h fp) (hb : ∀ b ∈ fp, c.base.get? b = Option.none) (hle : tk ≤ tk') : St g c K W σ ω h' tk' := by
  have ms := f.modS k
  have ns : ∀ a m, h.Ns a m → h'.Ns a m := fun a m hn => by
    obtain ⟨o, es, ep, e, hd, hr⟩ := hn
    refine ⟨o, es, ep, k a o (fun hm => ?_) e, hd, hr⟩
    obtain ⟨_, o', vs, e', hd'⟩ := f a hm
    rw [e] at e'; cases e'; rw [hd] at hd'; cases hd'
  have cell : ∀ a v, h.IsCell a v → h'.IsCell a v := fun a v hc => by
    obtain ⟨o, e, hd⟩ := hc
    refine ⟨o, k a o (fun hm => ?_) e, hd⟩
    obtain ⟨_, o', vs, e', hd'⟩ := f a hm
    rw [e] at e'; cases e'; rw [hd] at hd'; cases hd'
  have loc : ∀ y v, Loc K c.env h y v → Loc K c.env h' y v := fun y v l => by
    rcases l with ⟨hk, m, hn, hm⟩ | ⟨hk, q, hc, hv⟩
    · exact .inl ⟨hk, m, ns _ _ hn, hm⟩
    · exact .inr ⟨hk, q, hc, cell _ _ hv⟩
  refine ⟨fun b o e => k b o (fun hm => by rw [hb b hm] at e; cases e) (S.ext b o e), S.ok, S.kind, S.globals, S.builtins, let ⟨m, hm⟩ := S.ns; ⟨m, ns _ _ hm⟩, S.lfresh, S.known,
    fun x hx => let ⟨q, ov, h1, h2⟩ := S.cell x hx; ⟨q, ov, h1, cell _ _ h2⟩, S.cfresh, S.apart,
    fun x p hp => let ⟨v, h1, h2⟩ := S.vars x p hp; ⟨v, loc _ _ h1, h2.mono ms (Grow.refl _ _)⟩, ?_, S.sub, fun a ha => ?_, (S.toks hle).tok, (S.toks hle).pos⟩
  · obtain ⟨ad, q1, q2⟩ := S.owns
    refine ⟨ad, fun y l hl => ?_, q2⟩
    obtain ⟨a1, a2, a3, items, ⟨o, ho, hr⟩, a6⟩ := q1 y l hl
    refine ⟨loc _ _ a1, a2, a3, items, ⟨o, k _ o (fun hm => ?_) ho, hr⟩, a6.mono ms (Grow.refl _ _)⟩
    obtain ⟨hn, _⟩ := f _ hm
    exact hn a2
  · obtain ⟨o, ho⟩ := S.valid a ha
    exact ⟨o, k a o (fun hm => (f a hm).1 ha) ho⟩

noncomputable def isTup : Expr → Bool
  | .Tuple .. => true
  | _ => false

theorem letOwned_other {prog : Program} {w : World} {t : Expr} {v : Value} {o : Obj} {n : String} {vs : Array Value} {Q : Unit → Shared → Prop} {E : Value → Shared → Prop} (ho : s.heap.get? I = some o) (hc : o.cls = .type n) (hd : o.data = .fields vs)
    (hn : ["enumerate", "zip", "dict_itemiterator", "dict_reverseitemiterator", "odict_iterator", "itertools.zip_longest", "itertools.pairwise"].contains n = false) (hQ : Q () s) :
    wpAny (model prog w) A (letOwnedTupleGo t (.ref I) v) Q E s := by
  have key : ∀ a : Addr, wpAny (model prog w) A (do
      let o ← load I
      match o.cls, o.data with
      | .type n, .fields vs =>
        if ["enumerate", "zip", "dict_itemiterator", "dict_reverseitemiterator", "odict_iterator", "itertools.zip_longest", "itertools.pairwise"].contains n && vs[0]? == some (rawInt a) then
          rule "for.unpacks-the-owned-tuple"
          updateField I 0 .none
      | _, _ => pure ()) Q E s := fun a => by
    refine wpAny_bind (wpAny_load ho ?_)
    rw [hc, hd]
    simp only [hn, Bool.false_and, Bool.false_eq_true, if_false]
    exact wpAny_pure hQ
  unfold letOwnedTupleGo
  split
  · cases v with
    | ref a => exact key a
    | _ => exact wpAny_pure hQ
  · cases v with
    | ref a => exact key a
    | _ => exact wpAny_pure hQ
  · exact wpAny_pure hQ

theorem it_step {prog : Program} {w : World} {t : Expr} {p : PV} {Q : Option Value → Shared → Prop} {E : Value → Shared → Prop} (S : Sok W s.heap s.toks) (x : ItAt W s.heap I en fp (p :: ps)) (f : FpOk W s.heap fp) (ht : en = true → isTup t = true)
    (hQ : ∀ v s₁, (∀ Q₂ : Unit → Shared → Prop, (∀ h' tk', Rep W h' p v → ItAt W h' I en fp ps → FpOk W h' fp → KeepFp fp s.heap h' → s.toks ≤ tk' → Q₂ () { s with heap := h', toks := tk' }) →
      wpAny (model prog w) A (letOwnedTupleGo t (.ref I) v) Q₂ E s₁) → Q (some v) s₁) : wpAny (model prog w) A (pyNext (.ref I)) Q E s := by
  cases x with
  | @list ax items i _ hne hO hit hl r =>
    rw [repL_cons] at r
    obtain ⟨v, vs, hdr, rp, rr⟩ := r
    have hx : items[i]? = some v := by
      have := congrArg (fun l => l[0]?) hdr
      simpa using this
    refine wpAny_pyNext_list_item hit hl hx fun h' hit' hs' => ?_
    refine hQ v _ fun Q₂ h2 => ?_
    have kf : KeepFp [I] s.heap h' := fun b o hb e => (hs'.2 b (by simpa using hb)).trans e
    have ms := f.modS kf
    obtain ⟨o, ho, hc, hd⟩ := id hit'
    refine letOwned_other (s := { s with heap := h' }) (n := "list_iterator") ho hc hd (by decide) (h2 h' s.toks (rp.mono ms (Grow.refl _ _)) (.list hne hO hit' (hl.extBut hs'.extBut hne) ?_) ?_ kf (Nat.le_refl _))
    · have hd1 : items.toList.drop (i + 1) = vs := by
        rw [← List.tail_drop, hdr]; rfl
      rw [hd1]; exact rr.mono ms (Grow.refl _ _)
    · intro b hb
      have hbI : b = I := by simpa using hb
      subst hbI
      exact ⟨(f b hb).1, o, _, ho, hd⟩
  | @range y cc n _ hit hp =>
    cases n with
    | zero => simp at hp
    | succ n =>
      rw [List.range_succ_eq_map, List.map_cons] at hp
      injection hp with hp1 hp2
      refine wpAny_pyNext_range_item hit (by lia) fun h' hit' hs' => ?_
      refine hQ _ _ fun Q₂ h2 => ?_
      have kf : KeepFp [I] s.heap h' := fun b o hb e => (hs'.2 b (by simpa using hb)).trans e
      refine letOwned_other (s := { s with heap := h', toks := s.toks + 1 }) (n := "range_iterator") hit' rfl rfl (by decide) (h2 h' (s.toks + 1) ?_ ?_ ?_ kf (Nat.le_succ _))
      · rw [hp1]; exact rep_int.mpr ⟨s.toks, by simp⟩
      · refine .range (n := n) (by rw [show ((n + 1 : Nat) : Int) - 1 = (n : Int) by lia] at hit'; exact hit') ?_
        rw [hp2, List.map_map]
        refine List.map_congr_left fun j _ => ?_
        simp only [Function.comp]
        congr 1
        rw [show ((j.succ : Nat) : Int) = (j : Int) + 1 by lia, Int.add_mul, Int.one_mul]; lia
      · intro b hb
        have hbI : b = I := by simpa using hb
        subst hbI
        exact ⟨(f b hb).1, _, _, hit', rfl⟩
  | @enum it ax items i old qs h1 hax h3 hO he hit hl r _ hp =>
    cases qs with
    | nil => simp at hp
    | cons q qs =>
      rw [List.zipIdx_cons, List.map_cons] at hp
      injection hp with hp1 hp2
      rw [repL_cons] at r
      obtain ⟨v, vs, hdr, rp, rr⟩ := r
      have hx : items[i]? = some v := by
        have := congrArg (fun l => l[0]?) hdr
        simpa using this
      obtain ⟨elts, k, pos, rfl⟩ : ∃ elts k pos, t = .Tuple elts k pos := by
        have := ht rfl
        cases t <;> first | exact ⟨_, _, _, rfl⟩ | cases this
      have hIlt : I < s.heap.objs.size := Heap.lt_size he
      have hitlt : it < s.heap.objs.size := by obtain ⟨_, e, _⟩ := hit; exact Heap.lt_size e
      refine wpAny_pyNext_enum_item he hit hl hx h1 fun h' ho hit' hT hsz hk => ?_
      refine hQ _ _ fun Q₂ h2 => ?_
      refine wpAny_letOwnedTupleGo_enum (s := { s with heap := h', toks := s.toks + 1 }) ho fun h'' he'' hs'' => ?_
      have kf : KeepFp [I, it] s.heap h'' := fun b o hb e => (hs''.2 b (fun q => hb (by simp [q]))).trans (hk b o (fun q => hb (by simp [q])) (fun q => hb (by simp [q])) e)
      have ms := f.modS kf
      obtain ⟨o, hoi, hci, hdi⟩ := id hit'
      have hoi'' : h''.get? it = some o := (hs''.2 it h1.symm).trans hoi
      refine h2 h'' (s.toks + 1) ?_ ?_ ?_ kf (Nat.le_succ _)
      · rw [hp1]
        refine rep_tup.mpr ⟨_, _, rfl, fresh_not S.valid, ⟨_, (hs''.2 _ (Nat.ne_of_gt hIlt)).trans hT, rfl, _, rfl⟩, ?_⟩
        exact repL_cons.mpr ⟨_, _, rfl, rep_int.mpr ⟨_, rfl⟩, repL_cons.mpr ⟨_, _, rfl, rp.mono ms (Grow.refl _ _), repL_nil.mpr rfl⟩⟩
      · have hd1 : items.toList.drop (i + 1) = vs := by
          rw [← List.tail_drop, hdr]; rfl
        have hl'' : h''.IsList ax items := by
          obtain ⟨oa, hoa, hra⟩ := hl
          exact ⟨oa, kf ax oa (by simp [hax, h3]) hoa, hra⟩
        exact .enum (i := i + 1) h1 hax h3 hO he'' ⟨o, hoi'', hci, hdi⟩ hl'' (by rw [hd1]; exact rr.mono ms (Grow.refl _ _)) hp2
      · intro b hb
        rcases List.mem_cons.mp hb with rfl | hb'
        · exact ⟨(f b hb).1, _, _, he'', rfl⟩
        · have hbI : b = it := by simpa using hb'
          subst hbI
          exact ⟨(f b hb).1, o, _, hoi'', hdi⟩

theorem it_done {prog : Program} {w : World} {Q : Option Value → Shared → Prop} {E : Value → Shared → Prop} (hh : A.handled = Option.none) (x : ItAt W s.heap I en fp [])
    (hQ : ∀ h', KeepFp fp s.heap h' → Q Option.none { s with heap := h' }) : wpAny (model prog w) A (pyNext (.ref I)) Q E s := by
  generalize hps : ([] : List PV) = ps' at x
  cases x with
  | @list ax items i _ hne hO hit hl r =>
    subst hps
    rw [repL_nil] at r
    refine wpAny_pyNext_list_end hh hit hl ?_ fun h' he => hQ h' fun b o hb e => he b o (by simpa using hb) e
    have := congrArg List.length r
    rw [List.length_drop] at this
    simp at this
    exact Array.getElem?_eq_none (by lia)
  | @range y cc n _ hit hp =>
    subst hps
    have hn : n = 0 := by
      have := congrArg List.length hp
      simpa using this.symm
    subst hn
    exact wpAny_pyNext_range_end hh hit (by lia) fun h' he => hQ h' fun b o hb e => he b o (by simpa using hb) e
  | @enum it ax items i old qs h1 h2 h3 hO he hit hl r _ hp =>
    have hq : qs = [] := by
      have := congrArg List.length hp
      rw [← hps] at this
      simp at this
      exact List.length_eq_zero_iff.mp this.symm
    subst hq
    rw [repL_nil] at r
    refine wpAny_pyNext_enum_end hh he hit hl ?_ fun h' hx => hQ h' fun b o hb e => hx b o (fun q => hb (by simp [q])) e
    have := congrArg List.length r
    rw [List.length_drop] at this
    simp at this
    exact Array.getElem?_eq_none (by omega)

theorem it_self {prog : Program} {w : World} {Q : Value → Shared → Prop} {E : Value → Shared → Prop} (x : ItAt W s.heap I en fp ps) (hQ : Q (.ref I) s) : wpAny (model prog w) A (pyIter (.ref I)) Q E s := by
  cases x with
  | list hne hO hit hl r => exact wpAny_pyIter_listiter hit hQ
  | range hit hp => exact wpAny_pyIter_rangeiter hit hQ
  | enum h1 h2 h3 hO he hit hl r hp => exact wpAny_pyIter_enum he hQ
end

end Mine

namespace Mine
open PySem PySem.W PyProof.Rows

noncomputable def bindNames : List Expr → List PV → Option Sig
  | [], [] => some []
  | .Name x _ :: es, p :: ps => (bindNames es ps).map (· ++ [(x, p)])
  | _, _ => Option.none

/-- the names that a target binds, the newest first -/
noncomputable def bindT : Expr → PV → Option Sig
  | .Name x _, p => some [(x, p)]
  | .Tuple es _ _, .tup ps => bindNames es ps
  | _, _ => Option.none

noncomputable def tgtNames : List Expr → List Str
  | .Name x _ :: es => x :: tgtNames es
  | _ => []
noncomputable def tgts : Expr → List Str
  | .Name x _ => [x]
  | .Tuple es _ _ => tgtNames es
  | _ => []

noncomputable def tgtOk (K : Kn) (ω : Own) (t : Expr) : Prop := ∀ x ∈ tgts t, (K.lookup x = some .local ∨ K.lookup x = some .cell) ∧ ω.lookup x = Option.none

section
variable {g : Pg} {d : Nat} {K : Kn} {σ : Sig} {ω : Own} {c : Cx} {W : Wd} {A : Around} {s : Shared} {P : PostT}

theorem assign_name (S : St g c K W σ ω s.heap s.toks) {x : Str} {pos : Pos} {p : PV} {v : Value} (hK : K.lookup x = some .local ∨ K.lookup x = some .cell) (hω : ω.lookup x = Option.none) (r : Rep W s.heap p v)
    {M : Model} {Q : Unit → Shared → Prop} {E : Value → Shared → Prop} (hQ : ∀ h' tk', St g c K W ((x, p) :: σ) ω h' tk' → Mod NoO s.heap h' → s.toks ≤ tk' → Q () { s with heap := h', toks := tk' }) :
    wpAny M A (assign (.Name x pos) c.env v) Q E s := wpAny_assign_Name (S.store hK hω r hQ)

theorem bindNames_inv {es : List Expr} {ps : List PV} {B : Sig} (h : bindNames es ps = some B) :
    (es = [] ∧ ps = [] ∧ B = []) ∨ ∃ x pos es' p ps' B', es = .Name x pos :: es' ∧ ps = p :: ps' ∧ bindNames es' ps' = some B' ∧ B = B' ++ [(x, p)] := by
  unfold bindNames at h
  split at h
  · cases h; exact .inl ⟨rfl, rfl, rfl⟩
  · rename_i x pos es' p ps'
    cases hB : bindNames es' ps' with
    | none => rw [hB] at h; cases h
    | some B' => rw [hB] at h; cases h; exact .inr ⟨x, pos, es', p, ps', B', rfl, rfl, hB, rfl⟩
  · cases h

theorem assign_names {M : Model} {E : Value → Shared → Prop} : ∀ (ps : List PV) {es : List Expr} {vs : List Value} {B σ : Sig} {s : Shared} {Q : Unit → Shared → Prop}, bindNames es ps = some B →
    (∀ x ∈ tgtNames es, (K.lookup x = some .local ∨ K.lookup x = some .cell) ∧ ω.lookup x = Option.none) → St g c K W σ ω s.heap s.toks → RepL W s.heap ps vs →
    (∀ h' tk', St g c K W (B ++ σ) ω h' tk' → Mod NoO s.heap h' → s.toks ≤ tk' → Q () { s with heap := h', toks := tk' }) →
    wpAny M A (assignInOrder ((assignEach es c.env).map (·.2)) vs) Q E s := by
  intro ps
  induction ps with
  | nil =>
    intro es vs B σ s Q hb _ S r hQ
    rcases bindNames_inv hb with ⟨rfl, _, rfl⟩ | ⟨x, pos, es', p, ps', B', _, e, _⟩
    · rw [repL_nil] at r; subst r
      exact wpAny_pure (hQ s.heap s.toks S (Mod.refl _ _) (Nat.le_refl _))
    · cases e
  | cons p ps ih =>
    intro es vs B σ s Q hb ht S r hQ
    rcases bindNames_inv hb with ⟨_, e, _⟩ | ⟨x, pos, es', p', ps', B', rfl, e, hB, rfl⟩
    · cases e
    · cases e
      rw [repL_cons] at r
      obtain ⟨v, vs, rfl, rp, rr⟩ := r
      have h1 := ht x (by simp [tgtNames])
      show wpAny M A (do holding vs (assign (.Name x pos) c.env v); assignInOrder ((assignEach es' c.env).map (·.2)) vs) Q E s
      refine wpAny_bind (wpAny_holding (assign_name S h1.1 h1.2 rp fun h' tk' S' m le => ?_))
      refine ih (s := { s with heap := h', toks := tk' }) hB (fun y hy => ht y (by simp [tgtNames, hy])) S' (rr.mono m.any.seq (Grow.refl _ _)) fun h'' tk'' S'' m' le' => ?_
      exact hQ h'' tk'' (by simpa using S'') (m.trans (OGrow.refl _ _) m') (Nat.le_trans le le')

theorem bindNames_len {env : Env} : ∀ (ps : List PV) {es : List Expr} {B : Sig}, bindNames es ps = some B → (assignEach es env).length = ps.length ∧ (assignEach es env).findIdx? (·.1) = Option.none := by
  intro ps
  induction ps with
  | nil =>
    intro es B hb
    rcases bindNames_inv hb with ⟨rfl, _, rfl⟩ | ⟨x, pos, es', p, ps', B', _, e, _⟩
    · exact ⟨rfl, rfl⟩
    · cases e
  | cons p ps ih =>
    intro es B hb
    rcases bindNames_inv hb with ⟨_, e, _⟩ | ⟨x, pos, es', p', ps', B', rfl, e, hB, rfl⟩
    · cases e
    · cases e
      have ih := ih hB
      have e : assignEach (.Name x pos :: es') env = (false, assign (.Name x pos) env) :: assignEach es' env := rfl
      rw [e]
      refine ⟨by simp [ih.1], ?_⟩
      rw [List.findIdx?_cons, ih.2]; rfl

theorem extBut_fresh {h h' : Heap} (e : Heap.ExtBut h.objs.size h h') : Ext h h' := fun b o hb => e b o (Nat.ne_of_lt (Heap.lt_size hb)) hb

theorem assign_tgt (S : St g c K W σ ω s.heap s.toks) (R : Room d A) {t : Expr} {p : PV} {B : Sig} {v : Value} (hb : bindT t p = some B) (ht : tgtOk K ω t) (r : Rep W s.heap p v)
    {prog : Program} {w : World} {Q : Unit → Shared → Prop} {E : Value → Shared → Prop} (hQ : ∀ h' tk', St g c K W (B ++ σ) ω h' tk' → Mod NoO s.heap h' → s.toks ≤ tk' → Q () { s with heap := h', toks := tk' }) :
    wpAny (model prog w) A (assign t c.env v) Q E s := by
  unfold bindT at hb
  split at hb
  · rename_i p x pos
    cases hb
    have h1 := ht x (by simp [tgts])
    exact assign_name S h1.1 h1.2 r fun h' tk' S' m le => hQ h' tk' S' m le
  · rename_i es k pos ps
    obtain ⟨a, items, rfl, hO, hT, rl⟩ := rep_tup.mp r
    obtain ⟨n1, n2⟩ := bindNames_len (env := c.env) _ hb
    have n3 := rl.length
    rw [Array.length_toList] at n3
    refine wpAny_assign_Tuple R.hd hT (by rw [n1, n3]) n2 fun h' he => ?_
    have ex := extBut_fresh he
    have u := up_ext S.sok ex (Nat.le_refl s.toks)
    refine assign_names (s := { s with heap := h' }) _ hb ht (S.keeps u) (rl.ext ex) fun h'' tk' S' m le => ?_
    exact hQ h'' tk' S' ((ex.mod (O := NoO)).trans (OGrow.refl _ _) m) le
  · cases hb

/-- an iterable: it is evaluated, and its iterator is to give these -/
noncomputable def EvIt (g : Pg) (d : Nat) (K : Kn) (σ : Sig) (ω : Own) (en : Bool) (iter : Expr) (ps : List PV) : Prop :=
  ∀ (c : Cx) (W : Wd) (A : Around) (s : Shared), Room d A → St g c K W σ ω s.heap s.toks →
    wpAny (model g.prog g.w) A (eval iter c.env) (fun x s₁ => wpAny (model g.prog g.w) A (pyIter x) (fun it s₂ => ∃ I fp W' h' tk', it = .ref I ∧ s₂ = { s with heap := h', toks := tk' } ∧
      ItAt W' h' I en fp ps ∧ FpOk W' h' fp ∧ (∀ b ∈ fp, s.heap.get? b = Option.none) ∧ Up W W' s.heap h' s.toks tk') (fun _ _ => False) s₁) (fun _ _ => False) s

theorem for_core {prog : Program} {w : World} {R : Result → Shared → Prop} {target : Expr} {it : Value} {body orelse : List Stmt} {env : Env} (I : Nat → Shared → Prop)
    (turn : ∀ n s, I n s → wpAny (model prog w) A (pyNext it) (fun r s₁ => match r with
      | none => wpAny (model prog w) A (execs orelse env) (fun f s₃ => R (.ok f) s₃) (fun _ _ => False) s₁
      | some v => wpAny (model prog w) A (letOwnedTupleGo target it v) (fun _ s₁' => wpAny (model prog w) A (assign target env v) (fun _ s₂ => wpAny (model prog w) A (execs body env) (fun f s₃ => match f with
          | .next | .cont => ∃ m, m < n ∧ I m s₃
          | .brk => R (.ok .next) s₃
          | .ret v => R (.ok (.ret v)) s₃) (fun _ _ => False) s₂) (fun _ _ => False) s₁') (fun _ _ => False) s₁) (fun _ _ => False) s)
    (n : Nat) (h : I n s) : codeAny (model prog w) A (.forLoop target it body orelse env) R s :=
  codeAny_forLoop_any I (fun n s hI => wpAny_mono (turn n s hI) (fun r s₁ h₁ => match r, h₁ with
    | none, h₁ => wpAny_mono h₁ (fun _ _ x => x) fun _ _ f => f.elim
    | some _, h₁ => wpAny_mono h₁ (fun _ _ h₂ => wpAny_mono h₂ (fun _ _ h₃ => wpAny_mono h₃ (fun _ _ x => x) fun _ _ f => f.elim) fun _ _ f => f.elim) fun _ _ f => f.elim) fun _ _ f => f.elim) n h

theorem Later.turn {W W' : Wd} {h h' h'' : Heap} {a b e : Nat} {fp : List Addr} (l : Later W W' h h' a b) (k : KeepFp fp h' h'') (hf : ∀ q ∈ fp, h.get? q = Option.none) (f : FpOk W' h' fp) (hal : ∀ q ∈ fp, ∃ o, h'.get? q = some o) (le : b ≤ e) : Later W W' h h'' a e := by
  have out : ∀ q o, h.get? q = some o → q ∉ fp := fun q o e hm => by rw [hf q hm] at e; cases e
  refine ⟨⟨fun q o e hO hs => k q o (out q o e) (l.mod.keep q o e hO hs), fun q o e => ?_⟩, l.grow, Nat.le_trans l.le le⟩
  obtain ⟨o', e'⟩ := l.mod.alive q o e
  exact ⟨o', k q o' (out q o e) e'⟩

/-- what a turn of a loop leaves: go on, break, or hand a value out -/
noncomputable def turnP (Inv : Sig → Own → Prop) (P : PostT) : PostT := fun fl σ ω => match fl with
  | .next | .cont => Inv σ ω
  | .brk => P .next σ ω
  | .ret q => P (.ret q) σ ω

end

end Mine

namespace Mine
open PySem PySem.W PyProof.Rows

/-! the frame of a comprehension -/

noncomputable def clFrom (cells : List (Str × Addr)) : List (Str × NameKind) → List (Str × Addr) → List (Str × Addr)
  | [], acc => acc
  | (n, k) :: r, acc => if k == .free then clFrom cells r ((n, (cells.lookup n).getD 0) :: acc) else clFrom cells r acc

theorem closureFor_eq {scope : Scope} {env : Env} (h : ∀ y ∈ scope.names, y.2 = .free → ∃ k, env.cells.lookup y.1 = some k) : closureFor scope env = pure (clFrom env.cells scope.names []) := by
  have key : ∀ (names : List (Str × NameKind)) (acc : List (Str × Addr)) (f : Str × NameKind → List (Str × Addr) → Sem (ForInStep (List (Str × Addr)))),
      (∀ n k cs, f (n, k) cs = if k == .free then (do let a ← cellOf env n; pure (.yield ((n, a) :: cs))) else pure (.yield cs)) → (∀ y ∈ names, y.2 = .free → ∃ k, env.cells.lookup y.1 = some k) →
      forIn names acc f = pure (clFrom env.cells names acc) := by
    intro names
    induction names with
    | nil => intro acc f _ _; rw [List.forIn_nil]; rfl
    | cons y r ih =>
      intro acc f hf hy
      obtain ⟨n, k⟩ := y
      rw [List.forIn_cons, hf]
      unfold clFrom
      cases hk : k == NameKind.free with
      | true =>
        obtain ⟨a, ha⟩ := hy (n, k) List.mem_cons_self (eq_of_beq hk)
        have hc : cellOf env n = pure a := by unfold cellOf; rw [show env.cells.lookup n = some a from ha]
        simp only [if_true, hc, pure_bind]
        rw [ih _ f hf (fun z hz => hy z (List.mem_cons_of_mem _ hz)), show env.cells.lookup n = some a from ha]; rfl
      | false =>
        simp only [Bool.false_eq_true, if_false, pure_bind]
        exact ih _ f hf (fun z hz => hy z (List.mem_cons_of_mem _ hz))
  simp only [closureFor]
  rw [key scope.names [] _ (fun n k cs => by cases hk : k == NameKind.free <;> simp [hk]) h]
  rfl

theorem clFrom_mem {cells : List (Str × Addr)} : ∀ {names : List (Str × NameKind)} {acc : List (Str × Addr)} {n : Str} {a : Addr}, (n, a) ∈ clFrom cells names acc → (n, a) ∈ acc ∨ ((n, NameKind.free) ∈ names ∧ a = (cells.lookup n).getD 0)
  | [], acc, n, a, h => .inl h
  | (m, k) :: r, acc, n, a, h => by
    unfold clFrom at h
    split at h
    · rename_i hk
      rcases clFrom_mem h with h | ⟨h1, h2⟩
      · rcases List.mem_cons.mp h with e | h
        · cases e; exact .inr ⟨by rw [eq_of_beq hk]; exact List.mem_cons_self, rfl⟩
        · exact .inl h
      · exact .inr ⟨List.mem_cons_of_mem _ h1, h2⟩
    · rcases clFrom_mem h with h | ⟨h1, h2⟩
      · exact .inl h
      · exact .inr ⟨List.mem_cons_of_mem _ h1, h2⟩

theorem clFrom_lookup {cells : List (Str × Addr)} : ∀ {names : List (Str × NameKind)} {acc : List (Str × Addr)} {x : Str}, ((x, NameKind.free) ∈ names ∨ acc.lookup x = some ((cells.lookup x).getD 0)) →
    (clFrom cells names acc).lookup x = some ((cells.lookup x).getD 0)
  | [], acc, x, h => by rcases h with h | h; cases h; exact h
  | (m, k) :: r, acc, x, h => by
    unfold clFrom
    split
    · refine clFrom_lookup ?_
      rcases h with h | h
      · rcases List.mem_cons.mp h with e | h
        · cases e; right; simp
        · exact .inl h
      · right
        rw [List.lookup_cons]
        cases hb : x == m with
        | true => rw [eq_of_beq hb]
        | false => exact h
    · rename_i hk
      refine clFrom_lookup ?_
      rcases h with h | h
      · rcases List.mem_cons.mp h with e | h
        · cases e; exact absurd rfl hk
        · exact .inl h
      · exact .inr h

theorem clFrom_apart {cells : List (Str × Addr)} (hc : cells.Pairwise fun x y => x.2 ≠ y.2) : ∀ {names : List (Str × NameKind)} {acc : List (Str × Addr)},
    (names.map (·.1)).Nodup → (∀ y ∈ names, y.2 = .free → ∃ k, cells.lookup y.1 = some k) → (∀ z ∈ acc, z.1 ∉ names.map (·.1) ∧ cells.lookup z.1 = some z.2) → (acc.Pairwise fun x y => x.2 ≠ y.2) →
    (clFrom cells names acc).Pairwise fun x y => x.2 ≠ y.2
  | [], acc, _, _, _, h => h
  | (m, k) :: r, acc, hn, hf, ha, hp => by
    rw [List.map_cons, List.nodup_cons] at hn
    unfold clFrom
    split
    · rename_i hk
      obtain ⟨a, e⟩ := hf (m, k) List.mem_cons_self (eq_of_beq hk)
      have e' : (cells.lookup m).getD 0 = a := by rw [show cells.lookup m = some a from e]; rfl
      rw [e']
      refine clFrom_apart hc hn.2 (fun y hy => hf y (List.mem_cons_of_mem _ hy)) (fun z hz => ?_) ?_
      · rcases List.mem_cons.mp hz with rfl | hz
        · exact ⟨hn.1, e⟩
        · exact ⟨fun q => (ha z hz).1 (List.mem_cons_of_mem _ q), (ha z hz).2⟩
      · refine List.pairwise_cons.mpr ⟨fun z hz q => ?_, hp⟩
        have h2 := (ha z hz).2
        have : m = z.1 := name_of_addr hc (mem_of_lookup e) (by have := mem_of_lookup h2; rw [← show a = z.2 from q] at this; exact this)
        exact (ha z hz).1 (by rw [← this]; exact List.mem_cons_self)
    · exact clFrom_apart hc hn.2 (fun y hy => hf y (List.mem_cons_of_mem _ hy)) (fun z hz => ⟨fun q => (ha z hz).1 (List.mem_cons_of_mem _ q), (ha z hz).2⟩) hp

/-- the cells of a block: its own new ones, and those handed in -/
theorem cellsFrom_spec : ∀ (names : List (Str × NameKind)) (h : Heap) (acc : List (Str × Addr)), (∀ z ∈ acc, z.2 < h.objs.size) → (acc.Pairwise fun x y => x.2 ≠ y.2) →
    ((cellsFrom h.objs.size names acc).Pairwise fun x y => x.2 ≠ y.2) ∧
    (∀ n a, (n, a) ∈ cellsFrom h.objs.size names acc → (n, a) ∈ acc ∨ (h.objs.size ≤ a ∧ (pushCells h names).IsCell a Option.none)) ∧
    (∀ x, (x, NameKind.cell) ∉ names → (cellsFrom h.objs.size names acc).lookup x = acc.lookup x) ∧
    (∀ x, (x, NameKind.cell) ∈ names → ∃ a, (cellsFrom h.objs.size names acc).lookup x = some a ∧ h.objs.size ≤ a ∧ (pushCells h names).IsCell a Option.none)
  | [], h, acc, h1, h2 => ⟨h2, fun n a hm => .inl hm, fun x _ => rfl, fun x hx => nomatch hx⟩
  | (m, k) :: r, h, acc, h1, h2 => by
    unfold cellsFrom pushCells
    split
    · rename_i hk
      have ih := cellsFrom_spec r (h.push { cls := .type "cell", data := .cell Option.none }) ((m, h.objs.size) :: acc)
        (fun z hz => by
          rw [Heap.size_push]
          rcases List.mem_cons.mp hz with rfl | hz
          · exact Nat.lt_succ_self _
          · exact Nat.lt_succ_of_lt (h1 z hz))
        (List.pairwise_cons.mpr ⟨fun z hz q => Nat.lt_irrefl _ (show h.objs.size < h.objs.size by have := h1 z hz; rw [← show h.objs.size = z.2 from q] at this; exact this), h2⟩)
      rw [Heap.size_push] at ih
      obtain ⟨i1, i2, i3, i4⟩ := ih
      have own : (pushCells (h.push { cls := .type "cell", data := .cell Option.none }) r).IsCell h.objs.size Option.none := ⟨_, pushCells_keeps _ _ _ _ (Heap.get?_push_size _ rfl), rfl⟩
      refine ⟨i1, fun n a hm => ?_, fun x hx => ?_, fun x hx => ?_⟩
      · rcases i2 n a hm with h3 | ⟨h3, h4⟩
        · rcases List.mem_cons.mp h3 with e | h3
          · cases e; exact .inr ⟨Nat.le_refl _, own⟩
          · exact .inl h3
        · exact .inr ⟨by lia, h4⟩
      · have hxm : x ≠ m := fun e => hx (by rw [e, ← eq_of_beq hk]; exact List.mem_cons_self)
        rw [i3 x (fun q => hx (List.mem_cons_of_mem _ q)), List.lookup_cons, beq_eq_false_iff_ne.mpr hxm]
      · by_cases hxr : (x, NameKind.cell) ∈ r
        · obtain ⟨a, e1, e2, e3⟩ := i4 x hxr
          exact ⟨a, e1, by omega, e3⟩
        · rcases List.mem_cons.mp hx with e | hx
          · cases e
            exact ⟨h.objs.size, by rw [i3 _ hxr]; simp, Nat.le_refl _, own⟩
          · exact absurd hx hxr
    · rename_i hk
      obtain ⟨i1, i2, i3, i4⟩ := cellsFrom_spec r h acc h1 h2
      refine ⟨i1, i2, fun x hx => i3 x (fun q => hx (List.mem_cons_of_mem _ q)), fun x hx => ?_⟩
      rcases List.mem_cons.mp hx with e | hx
      · cases e; exact absurd rfl hk
      · exact i4 x hx

theorem wpAny_compEnv {M : Model} {A : Around} {E : Value → Shared → Prop} {s : Shared} {scope : Scope} {cl : List (Str × Addr)} {env : Env} {Q : Env → Shared → Prop}
    (hQ : Q { scope := scope, locals := s.heap.objs.size, globals := env.globals, cells := cellsFrom (s.heap.objs.size + 1) scope.names cl, qual := env.qual, func := Option.none, code := env.code, frame := env.frame, builtins := env.builtins }
      { s with heap := pushCells (s.heap.push { cls := .type "dict", data := .dict #[] }) scope.names }) :
    wpAny M A (newFunctionEnv scope env.globals cl [] env.qual Option.none .none (some env)) Q E s := by
  simp only [newFunctionEnv, Option.isSome_some, if_true]
  refine wpAny_bind (wpAny_alloc ?_)
  refine wpAny_bind (wpAny_layCells _ (fun name kind cells => by cases hkc : kind == NameKind.cell <;> simp [hkc]) _ _ _ _ ?_)
  rw [show ({ s with heap := s.heap.push { cls := .type "dict", data := .dict #[] } } : Shared).heap.objs.size = s.heap.objs.size + 1 from Heap.size_push ..]
  refine wpAny_bind ?_
  rw [List.forIn_nil]
  exact wpAny_pure (wpAny_pure hQ)

theorem map_lookup (f : Str → NameKind → Bool) {x : Str} : ∀ (names : List (Str × NameKind)),
    (names.map fun (n, k) => if f n k = true then (n, NameKind.cell) else (n, k)).lookup x = (names.lookup x).map fun k => if f x k = true then .cell else k
  | [] => rfl
  | (n, k) :: r => by
    have ih := map_lookup f (x := x) r
    rw [List.map_cons]
    cases hb : x == n with
    | true =>
      have e := eq_of_beq hb
      subst e
      rw [List.lookup_cons, List.lookup_cons, hb]
      cases hf : f x k <;> simp [hf]
    | false =>
      rw [List.lookup_cons, List.lookup_cons, hb]
      cases f n k <;> simp only [Bool.false_eq_true, if_false, if_true, hb] <;> exact ih

theorem relabel_lookup {env : Env} {x : Str} (names : List (Str × NameKind)) :
    (names.map fun (n, k) => if (k == NameKind.free && env.scope.kind == .function && env.kindOf n == some .cell) then (n, NameKind.cell) else (n, k)).lookup x =
      (names.lookup x).map fun k => if (k == NameKind.free && env.scope.kind == .function && env.kindOf x == some .cell) then .cell else k :=
  map_lookup (fun n k => k == NameKind.free && env.scope.kind == .function && env.kindOf n == some .cell) names

end Mine

namespace Mine
open PySem PySem.W PyProof.Rows

noncomputable def compOk (K : Kn) (scope : Scope) : Bool :=
  (scope.kind == .function) && decide ((scope.names.map (·.1)).Nodup) && scope.names.all fun y => y.2 != .free || (K.lookup y.1 == some .cell || K.lookup y.1 == some .free)

theorem compOk_use {K : Kn} {scope : Scope} (h : compOk K scope = true) : scope.kind = .function ∧ (scope.names.map (·.1)).Nodup ∧ ∀ y ∈ scope.names, y.2 = .free → K.lookup y.1 = some .cell ∨ K.lookup y.1 = some .free := by
  unfold compOk at h
  simp only [Bool.and_eq_true, decide_eq_true_eq, beq_iff_eq, List.all_eq_true] at h
  refine ⟨h.1.1, h.1.2, fun y hy hf => ?_⟩
  have := h.2 y hy
  rw [hf] at this
  simpa using this

theorem lookup_of_nodup {α : Type} {l : List (Str × α)} {n : Str} {a : α} (hn : (l.map (·.1)).Nodup) (hm : (n, a) ∈ l) : l.lookup n = some a := by
  induction l with
  | nil => cases hm
  | cons q r ih =>
    obtain ⟨out, rest⟩ := List.nodup_cons.mp hn
    cases hm with
    | head => simp
    | tail _ hr =>
      cases e : n == q.1 with
      | true => exact absurd (List.mem_map_of_mem (f := (·.1)) hr) (eq_of_beq e ▸ out)
      | false => simp [List.lookup, e, ih rest hr]

/-- what a comprehension sees of the names around it -/
noncomputable def CSub {α : Type} (names : Kn) (σc σ : List (Str × α)) : Prop := ∀ q ∈ σc, σ.lookup q.1 = some q.2 ∧ names.lookup q.1 = some .free

theorem CSub.nil {α : Type} {names : Kn} {σ : List (Str × α)} : CSub names [] σ := fun _ h => nomatch h
theorem CSub.cons {α : Type} {names : Kn} {σ σc : List (Str × α)} {x : Str} {p : α} (h1 : σ.lookup x = some p) (h2 : names.lookup x = some .free) (h : CSub names σc σ) : CSub names ((x, p) :: σc) σ := fun q hq => by
  rcases List.mem_cons.mp hq with rfl | hq
  · exact ⟨h1, h2⟩
  · exact h q hq

section
variable {g : Pg} {d : Nat} {K : Kn} {σ : Sig} {ω : Own} {c : Cx} {W : Wd} {A : Around} {s : Shared} {P : PostT} {h h' : Heap} {tk tk' : Nat}

theorem St.acc {D : Addr} {items items' : Array Value} (S : St g c K W σ ω h tk) (hO : W.O D) (hb : c.base.get? D = Option.none) (hω : ∀ x l, ω.lookup x = some l → K.lookup x = some .free)
    (hl : h.IsList D items) (hl' : h'.IsList D items') (hs : Heap.SameBut D h h') (hle : tk ≤ tk') : St g c K W σ ω h' tk' := by
  have ms : ModS W.O h h' := fun b o e hO' _ => (hs.2 b (fun q => hO' (q ▸ hO))).trans e
  have ns : ∀ a m, h.Ns a m → h'.Ns a m := fun a m hn => hn.sameBut hs (ns_ne_list hn hl)
  have cell : ∀ a v, h.IsCell a v → h'.IsCell a v := fun a v hc => hc.sameBut hs (cell_ne_list hc hl)
  have loc : ∀ y v, Loc K c.env h y v → Loc K c.env h' y v := fun y v l => by
    rcases l with ⟨hk, m, hn, hm⟩ | ⟨hk, q, hc, hv⟩
    · exact .inl ⟨hk, m, ns _ _ hn, hm⟩
    · exact .inr ⟨hk, q, hc, cell _ _ hv⟩
  refine ⟨fun b o e => (hs.2 b (fun q => by rw [q, hb] at e; cases e)).trans (S.ext b o e), S.ok, S.kind, S.globals, S.builtins, let ⟨m, hm⟩ := S.ns; ⟨m, ns _ _ hm⟩, S.lfresh, S.known,
    fun x hx => let ⟨q, ov, h1, h2⟩ := S.cell x hx; ⟨q, ov, h1, cell _ _ h2⟩, S.cfresh, S.apart,
    fun x p hp => let ⟨v, h1, h2⟩ := S.vars x p hp; ⟨v, loc _ _ h1, h2.mono ms (Grow.refl _ _)⟩, ?_, S.sub, fun a ha => ?_, (S.toks hle).tok, (S.toks hle).pos⟩
  · obtain ⟨ad, q1, q2⟩ := S.owns
    refine ⟨ad, fun y l hl1 => ?_, q2⟩
    obtain ⟨a1, a2, a3, items1, ⟨o, ho, hr⟩, a6⟩ := q1 y l hl1
    have hne : ad y ≠ D := fun e => by
      obtain ⟨o', e'⟩ := a3.1 (hω y l hl1)
      rw [e, hb] at e'; cases e'
    exact ⟨loc _ _ a1, a2, a3, items1, ⟨o, (hs.2 _ hne).trans ho, hr⟩, a6.mono ms (Grow.refl _ _)⟩
  · obtain ⟨o, ho⟩ := S.valid a ha
    by_cases hab : a = D
    · subst hab; obtain ⟨o', ho', _⟩ := hl'; exact ⟨o', ho'⟩
    · exact ⟨o, (hs.2 a hab).trans ho⟩

/-- the frame of the block -/
noncomputable def cEnv (scope : Scope) (env : Env) (L : Addr) (cells : List (Str × Addr)) : Env :=
  compEnvC scope cells L env

/-- the list in the making is forbidden -/
noncomputable def inner (W : Wd) (D : Addr) : Wd := ⟨fun a => W.O a ∨ a = D, W.T⟩

theorem comp_start {scope : Scope} {σc : Sig} {ωc : Own} {W2 : Wd} {h2 : Heap} {tk2 : Nat} (S : St g c K W σ ω s.heap s.toks) (ok : compOk K scope = true) (hσ : CSub scope.names σc σ) (hω : CSub scope.names ωc ω)
    (u : Up W W2 s.heap h2 s.toks tk2) {H : Heap}
    (hH : H = pushCells ((h2.push { cls := .type "list", data := .seq ([] : List Value).toArray }).push { cls := .type "dict", data := .dict #[] }) scope.names) :
    Ext h2 H ∧ H.IsList h2.objs.size #[] ∧
    St g ⟨cEnv scope c.env (h2.objs.size + 1) (cellsFrom (h2.objs.size + 1 + 1) scope.names (clFrom c.env.cells scope.names [])), s.heap, W.O⟩ scope.names (inner W2 h2.objs.size) σc ωc H tk2 := by
  obtain ⟨hkind, hnd, hcap⟩ := compOk_use ok
  have S2 := S.keeps u
  have hcap' : ∀ y ∈ scope.names, y.2 = .free → ∃ k, c.env.cells.lookup y.1 = some k := fun y hy hf => by
    obtain ⟨k, ov, e, _⟩ := S.cell y.1 (hcap y hy hf); exact ⟨k, e⟩
  generalize hDl : ({ cls := .type "list", data := .seq ([] : List Value).toArray } : Obj) = ol at hH
  generalize hDd : ({ cls := .type "dict", data := .dict #[] } : Obj) = od at hH
  have z1 : (h2.push ol).objs.size = h2.objs.size + 1 := Heap.size_push ..
  have z2 : ((h2.push ol).push od).objs.size = h2.objs.size + 1 + 1 := by rw [Heap.size_push, z1]
  have e1 : Ext h2 (h2.push ol) := ext_push _ _
  have e2 : Ext (h2.push ol) ((h2.push ol).push od) := ext_push _ _
  have e3 : Ext ((h2.push ol).push od) H := by rw [hH]; exact pushCells_keeps _ _
  have eH : Ext h2 H := (e1.trans e2).trans e3
  have eS : Ext s.heap H := u.ext.trans eH
  have fresh : ∀ a, h2.objs.size ≤ a → s.heap.get? a = Option.none := fun a ha => by
    cases e : s.heap.get? a with
    | none => rfl
    | some o => exact absurd (Heap.lt_size (u.ext _ _ e)) (Nat.not_lt.mpr ha)
  have clm : ∀ n a, (n, a) ∈ clFrom c.env.cells scope.names [] → (n, NameKind.free) ∈ scope.names ∧ c.env.cells.lookup n = some a := fun n a hm => by
    rcases clFrom_mem hm with h | ⟨h1, h2⟩
    · cases h
    · obtain ⟨k, hk⟩ := hcap' (n, .free) h1 rfl
      rw [h2, show c.env.cells.lookup n = some k from hk]; exact ⟨h1, rfl⟩
  obtain ⟨i1, i2, i3, i4⟩ := cellsFrom_spec scope.names ((h2.push ol).push od) (clFrom c.env.cells scope.names [])
    (fun z hz => by
      obtain ⟨n, a⟩ := z
      obtain ⟨h1, h2'⟩ := clm n a hz
      obtain ⟨k, ov, e, hk⟩ := S2.cell n (hcap _ h1 rfl)
      rw [show c.env.cells.lookup n = some k from e] at h2'; cases h2'
      have := hk.lt
      rw [z2]; exact Nat.lt_of_lt_of_le this (by lia))
    (clFrom_apart S.apart hnd hcap' (fun z hz => nomatch hz) List.Pairwise.nil)
  rw [z2] at i1 i2 i3 i4
  have hfree : ∀ x, scope.names.lookup x = some .free → (cellsFrom (h2.objs.size + 1 + 1) scope.names (clFrom c.env.cells scope.names [])).lookup x = c.env.cells.lookup x := fun x hx => by
    have hm := mem_of_lookup hx
    have hnc : (x, NameKind.cell) ∉ scope.names := fun hc => by
      have := lookup_of_nodup hnd hc; rw [hx] at this; cases this
    obtain ⟨k, hk⟩ := hcap' _ hm rfl
    rw [i3 x hnc, clFrom_lookup (.inl hm), show c.env.cells.lookup x = some k from hk]; rfl
  have hnsH : H.Ns (h2.objs.size + 1) fun _ => Option.none := by
    have := (Heap.Ns.new (h2.push ol) (.type "dict"))
    rw [z1, hDd] at this
    exact this.keeps e3
  have gr : Grow W2 (inner W2 h2.objs.size) h2 := ⟨⟨fun a ha => .inl ha, fun a ha => ha.elim .inl fun e => .inr (by rw [e]; exact get_fresh _)⟩, fun t x e => e⟩
  have hlist : H.IsList h2.objs.size #[] := by
    refine ⟨ol, e3 _ _ (e2 _ _ (Heap.get?_push_size _ (by rw [← hDl]; rfl))), by rw [← hDl], 0, by rw [← hDl]⟩
  have locf : ∀ x v, scope.names.lookup x = some .free → Loc K c.env s.heap x v → Loc scope.names (cEnv scope c.env (h2.objs.size + 1) (cellsFrom (h2.objs.size + 1 + 1) scope.names (clFrom c.env.cells scope.names []))) H x v := fun x v hx l => by
    rcases l with ⟨hk, _⟩ | ⟨hk, k, hc, hv⟩
    · rcases hcap _ (mem_of_lookup hx) rfl with q | q
      · rw [show K.lookup x = some .cell from q] at hk; cases hk
      · rw [show K.lookup x = some .free from q] at hk; cases hk
    · exact .inr ⟨.inr hx, k, by show (cellsFrom _ _ _).lookup x = some k; rw [hfree x hx]; exact hc, hv.keeps eS⟩
  refine ⟨eH, hlist, eS, S.okNow, ?_, S.globals, S.builtins, ⟨_, hnsH⟩, fresh _ (by show h2.objs.size ≤ h2.objs.size + 1; lia), ?_, ?_, ?_, i1, ?_, ?_, ?_, ?_, ?_, S2.pos⟩
  · show (relabel scope c.env).kind = _; exact hkind
  · intro x kd hx
    show (relabel scope c.env).names.lookup x = some kd ∨ (kd = .free ∧ (relabel scope c.env).names.lookup x = some .cell)
    have e : (relabel scope c.env).names.lookup x = (scope.names.lookup x).map fun k => if (k == NameKind.free && c.env.scope.kind == .function && c.env.kindOf x == some .cell) then .cell else k := relabel_lookup _
    rw [e, hx]
    simp only [Option.map_some]
    cases hk : (kd == NameKind.free && c.env.scope.kind == ScopeKind.function && c.env.kindOf x == some NameKind.cell) with
    | false => simp only [Bool.false_eq_true, if_false]; exact .inl trivial
    | true =>
      simp only [if_true]
      rw [Bool.and_eq_true, Bool.and_eq_true] at hk
      have hkd : kd = .free := eq_of_beq hk.1.1
      exact .inr ⟨hkd, trivial⟩
  · intro x hx
    rcases hx with hx | hx
    · obtain ⟨a, e, _, hc⟩ := i4 x (mem_of_lookup hx)
      exact ⟨a, _, e, by rw [hH]; exact hc⟩
    · obtain ⟨k, ov, e, hk⟩ := S.cell x (hcap _ (mem_of_lookup hx) rfl)
      exact ⟨k, ov, (hfree x hx).trans e, hk.keeps eS⟩
  · intro x k hx hk
    obtain ⟨a, e, hle, _⟩ := i4 x (mem_of_lookup hx)
    have : a = k := by rw [show (cellsFrom (h2.objs.size + 1 + 1) scope.names (clFrom c.env.cells scope.names [])).lookup x = some k from hk] at e; cases e; rfl
    rw [← this]; exact fresh a (Nat.le_trans (Nat.le_add_right _ 2) hle)
  · intro x p hp
    obtain ⟨h1, hf⟩ := hσ _ (mem_of_lookup hp)
    obtain ⟨v, hl, hr⟩ := S.vars x p h1
    exact ⟨v, locf x v hf hl, (hr.up u).mono eH.modS gr⟩
  · obtain ⟨ad, q1, q2⟩ := S.owns
    refine ⟨ad, fun x l hl => ?_, fun x y hxy hx hy => ?_⟩
    · obtain ⟨h1, hf⟩ := hω _ (mem_of_lookup hl)
      obtain ⟨a1, a2, a3, items, a5, a6⟩ := q1 x l h1
      obtain ⟨o, ho, hr⟩ := id a5
      exact ⟨locf x _ hf a1, .inl (u.o ▸ a2), ⟨fun _ => ⟨o, ho⟩, fun hn => absurd hf hn⟩, items, ⟨o, eS _ _ ho, hr⟩, (a6.up u).mono eH.modS gr⟩
    · obtain ⟨l, hl⟩ := Option.isSome_iff_exists.mp hx
      obtain ⟨l', hl'⟩ := Option.isSome_iff_exists.mp hy
      exact q2 x y hxy (by rw [(hω _ (mem_of_lookup hl)).1]; rfl) (by rw [(hω _ (mem_of_lookup hl')).1]; rfl)
  · intro a ha; exact .inl (by rw [u.o]; exact ha)
  · intro a ha
    rcases ha with ha | rfl
    · obtain ⟨o, ho⟩ := S2.valid a ha; exact ⟨o, eH _ _ ho⟩
    · obtain ⟨o, ho, _⟩ := hlist; exact ⟨o, ho⟩
  · exact S2.tok
end

end Mine

namespace Mine
open PySem PySem.W PyProof.Rows

/-- the tests of a comprehension's clause -/
noncomputable def EvIfs (g : Pg) (d : Nat) (K : Kn) (σ : Sig) (ω : Own) (ifs : List Expr) (b : Bool) : Prop :=
  ∀ (c : Cx) (W : Wd) (A : Around) (s : Shared), Room d A → St g c K W σ ω s.heap s.toks →
    wpAny (model g.prog g.w) A (forIn ifs true fun e r => if r = true then do let ok ← isTrue e c.env (eval e c.env); pure (ForInStep.yield ok) else pure (ForInStep.yield r)) (BoolPost W b s) (fun _ _ => False) s

section
variable {g : Pg} {d : Nat} {K : Kn} {σ : Sig} {ω : Own} {c : Cx} {W : Wd} {A : Around} {s : Shared}

theorem evifs_nil : EvIfs g d K σ ω [] true := fun c W A s R S => wpAny_tests_nil ⟨W, s.heap, s.toks, rfl, rfl, Up.refl S⟩
theorem evifs_one {e : Expr} {b : Bool} (h : EvB g d K σ ω e b) : EvIfs g d K σ ω [e] b := fun c W A s R S => wpAny_tests_one (h c W A s R S)

theorem comp1_core {prog : Program} {w : World} {R : Result → Shared → Prop} {elt target iter : Expr} {ifs : List Expr} {scope : Scope} {pos : Pos} {it acc : Value} {env : Env} (I : Nat → Shared → Prop)
    (turn : ∀ n s, I n s → wpAny (model prog w) A (pyNext it) (fun r s₁ => match r with
      | none => R (.ok .next) s₁
      | some v => wpAny (model prog w) A (letOwnedTupleGo target it v) (fun _ s₁' => wpAny (model prog w) A (assign target env v) (fun _ s₂ =>
          wpAny (model prog w) A (forIn ifs true fun c r => if r = true then do let ok ← isTrue c env (eval c env); pure (ForInStep.yield ok) else pure (ForInStep.yield r)) (fun ok s₃ =>
            if ok = true then wpAny (model prog w) A (eval elt env) (fun x s₄ =>
              wpAny (model prog w) A (call (.builtin "list.append") [acc, x]) (fun _ s₅ => ∃ m, m < n ∧ I m s₅) (fun _ _ => False) s₄) (fun _ _ => False) s₃
            else ∃ m, m < n ∧ I m s₃) (fun _ _ => False) s₂) (fun _ _ => False) s₁') (fun _ _ => False) s₁) (fun _ _ => False) s)
    (n : Nat) (h : I n s) : codeAny (model prog w) A (.compLoop (.ListComp elt [⟨target, iter, ifs, 0⟩] scope pos) 0 it acc env) R s := by
  refine codeAny_loop rfl I (fun n s hI => ?_) n h
  show wpAny _ A ((compTurn (.ListComp elt [⟨target, iter, ifs, 0⟩] scope pos) 0 it acc env).onRaise (fun x => do noteFrame x env; theTreesLotGoes x)) _ _ s
  refine wpAny_noted ?_
  rw [compTurn_list]
  refine wpAny_bind (wpAny_standAt (wpAny_bind (wpAny_mono (turn n s hI) (fun r s₁ h₁ => ?_) fun _ _ f => f.elim)))
  cases r with
  | none => exact wpAny_pure h₁
  | some v =>
    refine wpAny_bind (wpAny_mono h₁ (fun _ s₁' h₁' => wpAny_bind (wpAny_mono h₁' (fun _ s₂ h₂ => wpAny_bind (wpAny_mono h₂ (fun ok s₃ h₃ => ?_) fun _ _ f => f.elim)) fun _ _ f => f.elim)) fun _ _ f => f.elim)
    cases ok with
    | false => exact wpAny_pure ⟨rfl, h₃⟩
    | true =>
      exact wpAny_bind (wpAny_bind (wpAny_mono h₃ (fun x s₄ h₄ => wpAny_bind (wpAny_mono h₄ (fun _ s₅ h₅ => wpAny_pure (wpAny_pure ⟨rfl, h₅⟩)) fun _ _ f => f.elim)) fun _ _ f => f.elim))

/-- what an element's turn asks -/
noncomputable def CompBody (g : Pg) (d : Nat) (names : Kn) (σc : Sig) (ωc : Own) (t : Expr) (ifs : List Expr) (elt : Expr) (ps : List PV) (test : PV → Bool) (F : PV → PV) : Prop :=
  ∀ p ∈ ps, ∃ B, bindT t p = some B ∧ tgtOk names ωc t ∧ EvIfs g d names (B ++ σc) ωc ifs (test p) ∧ (test p = true → Ev g d names (B ++ σc) ωc elt (F p))

theorem bindNames_keys : ∀ (ps : List PV) {es : List Expr} {B : Sig} {x : Str}, bindNames es ps = some B → x ∉ tgtNames es → B.lookup x = Option.none := by
  intro ps
  induction ps with
  | nil =>
    intro es B x hb _
    rcases bindNames_inv hb with ⟨rfl, _, rfl⟩ | ⟨_, _, _, _, _, _, _, e, _⟩
    · rfl
    · cases e
  | cons p ps ih =>
    intro es B x hb hx
    rcases bindNames_inv hb with ⟨_, e, _⟩ | ⟨y, pos, es', p', ps', B', rfl, e, hB, rfl⟩
    · cases e
    · cases e
      simp only [tgtNames, List.mem_cons, not_or] at hx
      rw [List.lookup_append, ih hB hx.2]
      simp [List.lookup, beq_eq_false_iff_ne.mpr hx.1]

theorem bindT_keys {t : Expr} {p : PV} {B : Sig} {x : Str} (hb : bindT t p = some B) (hx : x ∉ tgts t) : B.lookup x = Option.none := by
  unfold bindT at hb
  split at hb
  · cases hb
    simp only [tgts, List.mem_singleton] at hx
    simp [List.lookup, beq_eq_false_iff_ne.mpr hx]
  · exact bindNames_keys _ hb hx
  · cases hb

theorem lookup_append_none {α : Type} {B σ : List (Str × α)} {x : Str} (h : B.lookup x = Option.none) : (B ++ σ).lookup x = σ.lookup x := by
  rw [List.lookup_append, h]; rfl

theorem comp_loop1 {scope : Scope} {σc : Sig} {ωc : Own} {W2 : Wd} {h2 : Heap} {tk2 : Nat} {t elt iter : Expr} {ifs : List Expr} {pos : Pos} {ps : List PV} {en : Bool} {I : Addr} {fp : List Addr} {test : PV → Bool} {F : PV → PV}
    {RR : Value → Addr → Result → Shared → Prop} {E : Value → Shared → Prop}
    (R : Room d A) (S : St g c K W σ ω s.heap s.toks) (ok : compOk K scope = true) (hσ : CSub scope.names σc σ) (hω : CSub scope.names ωc ω) (u : Up W W2 s.heap h2 s.toks tk2)
    (hit : ItAt W2 h2 I en fp ps) (hfp : FpOk W2 h2 fp) (hfr : ∀ b ∈ fp, s.heap.get? b = Option.none) (het : en = true → isTup t = true)
    (body : CompBody g d scope.names σc ωc t ifs elt ps test F) (hn : ps.length ≤ 4096)
    (hRR : ∀ D C W' h' tk' items m, C ≠ D → s.heap.get? D = Option.none → s.heap.get? C = Option.none → ¬ W.O D → h'.Ns C m → h'.IsList D items → RepL W' h' ((ps.filter test).map F) items.toList → Up W W' s.heap h' s.toks tk' →
      RR (.ref D) C (.ok .next) { s with heap := h', toks := tk' }) :
    wpAny (model g.prog g.w) A (newList []) (fun acc s₃ => wpAny (model g.prog g.w) A (newFunctionEnv scope c.env.globals (clFrom c.env.cells scope.names []) [] c.env.qual Option.none .none (some c.env)) (fun cenv s₄ =>
      codeAny (model g.prog g.w) A (.compStart (.ListComp elt [⟨t, iter, ifs, 0⟩] scope pos) 0 (.ref I) acc { cenv with scope := relabel scope c.env }) (RR acc cenv.locals) s₄) E s₃) E { s with heap := h2, toks := tk2 } := by
  refine wpAny_newObj_type (wpAny_compEnv ?_) (by size_fits)
  dsimp only
  generalize hD : h2.objs.size = D
  have hz : (h2.push { cls := .type "list", data := .seq ([] : List Value).toArray }).objs.size = D + 1 := by rw [← hD]; exact Heap.size_push ..
  rw [hz]
  generalize hH : pushCells ((h2.push { cls := .type "list", data := .seq ([] : List Value).toArray }).push { cls := .type "dict", data := .dict #[] }) scope.names = H
  obtain ⟨eH, hl0, S0⟩ := comp_start S ok hσ hω u hH.symm
  rw [hD] at hl0 S0
  have S2 := S.keeps u
  have freshD : ∀ a, D ≤ a → s.heap.get? a = Option.none := fun a ha => by
    cases e : s.heap.get? a with
    | none => rfl
    | some o => exact absurd (Heap.lt_size (u.ext _ _ e)) (Nat.not_lt.mpr (hD ▸ ha))
  have hDW : ¬ W.O D := by rw [← u.o, ← hD]; exact S2.freshO
  have gr : Grow W2 (inner W2 D) h2 := ⟨⟨fun a ha => .inl ha, fun a ha => ha.elim .inl fun e => .inr (by rw [e, ← hD]; exact get_fresh _)⟩, fun t x e => e⟩
  obtain ⟨hit0, hfp0⟩ := hit.mono hfp (eH.mod (O := W2.O)) gr
  generalize hcs : cellsFrom (D + 1 + 1) scope.names (clFrom c.env.cells scope.names []) = cs at S0
  have hbase : ∀ b ∈ fp, (⟨cEnv scope c.env (D + 1) cs, s.heap, W.O⟩ : Cx).base.get? b = Option.none := hfr
  have loop : codeAny (model g.prog g.w) A (.compLoop (.ListComp elt [⟨t, iter, ifs, 0⟩] scope pos) 0 (.ref I) (.ref D) (cEnv scope c.env (D + 1) cs)) (RR (.ref D) (D + 1)) { s with heap := H, toks := tk2 } := by
    refine comp1_core (fun n s' => ∃ i items W' h' tk', n + i = ps.length ∧ s' = { s with heap := h', toks := tk' } ∧ St g ⟨cEnv scope c.env (D + 1) cs, s.heap, W.O⟩ scope.names W' σc ωc h' tk' ∧
      ItAt W' h' I en fp (ps.drop i) ∧ FpOk W' h' fp ∧ h'.IsList D items ∧ RepL W' h' (((ps.take i).filter test).map F) items.toList ∧ W'.O = (inner W2 D).O ∧ (∀ t x, W2.T t = some x → W'.T t = some x) ∧ tk2 ≤ tk') ?_ ps.length
      ⟨0, #[], inner W2 D, H, tk2, by lia, rfl, S0, by simpa using hit0, hfp0, hl0, by simp [repL_nil], rfl, fun _ _ e => e, Nat.le_refl _⟩
    rintro n s' ⟨i, items, W', h', tk', hni, rfl, S', hit', hfp', hl', rl', hO', hT', hle'⟩
    have hDO : W'.O D := by rw [hO']; exact .inr rfl
    cases hd : ps.drop i with
    | nil =>
      rw [hd] at hit'
      have hi : i = ps.length := by
        have := congrArg List.length hd
        rw [List.length_drop] at this
        simp at this; lia
      subst hi
      refine it_done (s := { s with heap := h', toks := tk' }) R.hd hit' fun h'' kf => ?_
      have S'' := S'.turn kf hfp' hbase (Nat.le_refl _)
      have hl'' : h''.IsList D items := by
        obtain ⟨o, ho, hc, n, hdd⟩ := hl'
        refine ⟨o, kf D o (fun hm => ?_) ho, hc, n, hdd⟩
        exact (hfp' D hm).1 hDO
      obtain ⟨m, hm⟩ := S''.ns
      have rl'' : RepL W' h'' ((ps.filter test).map F) items.toList := by
        have := rl'.mono (hfp'.modS kf) (Grow.refl _ _)
        rwa [List.take_length] at this
      refine hRR D (D + 1) ⟨W.O, W'.T⟩ h'' tk' items m (Nat.succ_ne_self D) (freshD D (Nat.le_refl _)) (freshD _ (Nat.le_succ _)) hDW hm hl'' ?_ ⟨S''.ext, rfl, fun t x e => hT' t x (u.t t x e), S''.tok, Nat.le_trans u.le hle'⟩
      exact RepL.weaken (W := W') (W' := ⟨W.O, W'.T⟩) (fun a ha => by rw [hO']; exact .inl (by rw [u.o]; exact ha)) (fun _ => rfl) rl''
    | cons p rest =>
      rw [hd] at hit'
      have hp : ps[i]? = some p := by
        have := congrArg (fun l => l[0]?) hd
        simpa using this
      have hrest : ps.drop (i + 1) = rest := by rw [← List.tail_drop, hd]; rfl
      have hlt : i < ps.length := by
        rcases Nat.lt_or_ge i ps.length with h | h
        · exact h
        · rw [List.getElem?_eq_none h] at hp; cases hp
      have hmem : p ∈ ps := List.mem_of_getElem? hp
      have htake : ps.take (i + 1) = ps.take i ++ [p] := by rw [List.take_add_one, hp]; rfl
      obtain ⟨B, hB, hok, hifs, helt⟩ := body p hmem
      refine it_step (s := { s with heap := h', toks := tk' }) (t := t) S'.sok hit' hfp' het fun v s₁ hgo => ?_
      refine hgo _ fun h3 tk3 rp it3 fp3 kf le3 => ?_
      have S3 := S'.turn kf hfp' hbase le3
      have hl3 : h3.IsList D items := by
        obtain ⟨o, ho, hc, n, hdd⟩ := hl'
        exact ⟨o, kf D o (fun hm => (hfp' D hm).1 hDO) ho, hc, n, hdd⟩
      have rl3 := rl'.mono (hfp'.modS kf) (Grow.refl _ _)
      have keepD : ∀ {ha hb : Heap} {its : Array Value}, ha.IsList D its → (∀ o, ha.get? D = some o → hb.get? D = some o) → hb.IsList D its := fun ⟨o, ho, r⟩ k => ⟨o, k o ho, r⟩
      -- the target's names are stored: D is no part of them
      refine assign_tgt (s := { s with heap := h3, toks := tk3 }) (c := ⟨cEnv scope c.env (D + 1) cs, s.heap, W.O⟩) S3 R hB hok rp fun h4 tk4 S4 m4 le4 => ?_
      have l4 : Later W' W' h3 h4 tk3 tk4 := Later.of_mod m4.any le4
      obtain ⟨it4, fp4⟩ := it3.mono fp3 m4.any (Grow.refl _ _)
      have hl4 : h4.IsList D items := by
        obtain ⟨o, ho, hc, n, hdd⟩ := hl3
        exact ⟨o, m4.keep D o ho (fun x => x) (stays_seq hdd), hc, n, hdd⟩
      have rl4 := rl3.mono m4.any.seq (Grow.refl _ _)
      refine wpAny_mono (hifs _ W' A { s with heap := h4, toks := tk4 } R S4) (fun okb s5 h5 => ?_) fun _ _ f => f
      obtain ⟨W5, h5, tk5, rfl, rfl, u5⟩ := h5
      have S5 := S4.keeps u5
      have less : ∀ {h' : Heap} {tk' : Nat} {W' : Wd}, St g ⟨cEnv scope c.env (D + 1) cs, s.heap, W.O⟩ scope.names W' (B ++ σc) ωc h' tk' → St g ⟨cEnv scope c.env (D + 1) cs, s.heap, W.O⟩ scope.names W' σc ωc h' tk' := fun q => by
        refine q.less (fun x p hx => ?_) fun _ _ e => e
        have hf := (hσ _ (mem_of_lookup hx)).2
        have hxt : x ∉ tgts t := fun hm => by
          rcases (hok x hm).1 with q | q <;> (rw [show scope.names.lookup x = some .free from hf] at q; cases q)
        rw [lookup_append_none (bindT_keys hB hxt)]; exact hx
      obtain ⟨it5, fp5⟩ := it4.mono fp4 u5.ext.mod u5.grow
      have hO5 : W5.O = (inner W2 D).O := u5.o.trans hO'
      have hl5 := isList_ext hl4 u5.ext
      have rl5 := rl4.up u5
      cases htest : test p with
      | false =>
        simp only [Bool.false_eq_true, if_false]
        refine ⟨n - 1, by lia, i + 1, items, W5, h5, tk5, by lia, rfl, less S5, by rw [hrest]; exact it5, fp5, hl5, ?_, hO5, fun t x e => u5.t t x (hT' t x e), Nat.le_trans hle' (Nat.le_trans le3 (Nat.le_trans le4 u5.le))⟩
        rw [htake, List.filter_append]
        simpa [htest] using rl5
      | true =>
        simp only [if_true]
        refine wpAny_mono (helt htest _ W5 A { s with heap := h5, toks := tk5 } R S5) (fun v s6 h6 => ?_) fun _ _ f => f
        obtain ⟨W6, h6, tk6, rfl, rv, u6⟩ := h6
        have S6 := less (S5.keeps u6)
        obtain ⟨it6, fp6⟩ := it5.mono fp5 u6.ext.mod u6.grow
        have hO6 : W6.O = (inner W2 D).O := u6.o.trans hO5
        have hl6 := isList_ext hl5 u6.ext
        have rl6 := rl5.up u6
        have hDO6 : W6.O D := by rw [hO6]; exact .inr rfl
        have hsz : items.size ≤ sizeLine := by
          have := rl6.length
          rw [Array.length_toList, List.length_map] at this
          have h1 := List.length_filter_le test (ps.take i)
          rw [List.length_take] at h1
          exact few (by lia)
        refine wpAny_list_append (hsz := hsz) hl6 fun h7 hl7 hs7 => ?_
        have S7 := S6.acc (tk' := tk6) hDO6 (freshD D (Nat.le_refl _)) (fun x l e => (hω _ (mem_of_lookup e)).2) hl6 hl7 hs7 (Nat.le_refl _)
        have ms7 : ModS W6.O h6 h7 := fun b o e hO' _ => (hs7.2 b (fun q => hO' (q ▸ hDO6))).trans e
        have hfpD : D ∉ fp := fun hm => (fp6 D hm).1 hDO6
        have m7 : Mod W6.O h6 h7 := ⟨fun b o e hO' _ => (hs7.2 b (fun q => hO' (q ▸ hDO6))).trans e, fun b o e => by
          by_cases hb : b = D
          · subst hb; obtain ⟨o', e', _⟩ := hl7; exact ⟨o', e'⟩
          · exact ⟨o, (hs7.2 b hb).trans e⟩⟩
        obtain ⟨it7, fp7⟩ := it6.mono fp6 m7 (Grow.refl _ _)
        refine ⟨n - 1, by lia, i + 1, items.push v, W6, h7, tk6, by lia, rfl, S7, by rw [hrest]; exact it7, fp7, hl7, ?_, hO6, fun t x e => u6.t t x (u5.t t x (hT' t x e)), Nat.le_trans hle' (Nat.le_trans le3 (Nat.le_trans le4 (Nat.le_trans u5.le u6.le)))⟩
        rw [htake, List.filter_append]
        have r1 := rl6.mono ms7 (Grow.refl _ _)
        have r2 := rv.mono ms7 (Grow.refl _ _)
        have := r1.append (repL_cons.mpr ⟨v, [], rfl, r2, repL_nil.mpr rfl⟩)
        simpa [htest] using this
  exact codeAny_compStart_list loop (it_self (s := { s with heap := H, toks := tk2 }) hit0 loop)
end

end Mine

namespace Mine
open PySem PySem.W PyProof.Rows

section
variable {g : Pg} {d : Nat} {K : Kn} {σ : Sig} {ω : Own} {c : Cx} {W : Wd} {A : Around} {s : Shared} {P : PostT}

theorem comp_clo (S : St g c K W σ ω s.heap s.toks) {scope : Scope} (ok : compOk K scope = true) : closureFor scope c.env = pure (clFrom c.env.cells scope.names []) :=
  closureFor_eq fun y hy hf => by
    obtain ⟨_, _, hcap⟩ := compOk_use ok
    obtain ⟨k, ov, e, _⟩ := S.cell y.1 (hcap y hy hf); exact ⟨k, e⟩

theorem comp_names {scope : Scope} (ok : compOk K scope = true) : ∀ x ∈ scope.names, x.2 = .local → scope.names.lookup x.1 = some .local := fun x hx hl => by
  obtain ⟨_, hnd, _⟩ := compOk_use ok
  obtain ⟨n, k⟩ := x
  have : k = .local := hl
  subst this
  exact lookup_of_nodup hnd hx

theorem ev_comp {t elt iter : Expr} {ifs : List Expr} {scope : Scope} {pos : Pos} {ps : List PV} {en : Bool} (σc : Sig) (ωc : Own) (test : PV → Bool) (F : PV → PV)
    (hi : EvIt g d K σ ω en iter ps) (het : en = true → isTup t = true) (ok : compOk K scope = true) (hσ : CSub scope.names σc σ) (hω : CSub scope.names ωc ω)
    (body : CompBody g d scope.names σc ωc t ifs elt ps test F) (hn : ps.length ≤ 4096) (hs : ∀ env x, foldedSetIterable iter env x = pure x := by intro _ _; rfl) :
    Ev g d K σ ω (.ListComp elt [⟨t, iter, ifs, 0⟩] scope pos) (.lst ((ps.filter test).map F)) := fun c W A s R S => by
  rw [eval_ListComp]
  refine wpAny_comprehension_free (use := Option.none) rfl (hs _) (comp_clo S ok) (compOk_use ok).1 (comp_names ok) (wpAny_mono (hi c W A s R S) (fun x s₁ h₁ => wpAny_mono h₁ (fun it s₂ h₂ => ?_) fun _ _ f => f) fun _ _ f => f)
  obtain ⟨I, fp, W2, h2, tk2, rfl, rfl, hit, hfp, hfr, up⟩ := h₂
  refine comp_loop1 (RR := fun acc C => compPost (model g.prog g.w) A (fun _ _ => False) Option.none (ValPost W _ s) acc C) R S ok hσ hω up hit hfp hfr het body hn ?_
  intro D C W' h' tk' items m hCD hD hC hDW hm hl rl u
  refine ⟨m, hm, fun h'' hs'' => ?_⟩
  have ms : ModS W'.O h' h'' := fun b o e _ hseq => (hs''.2 b (fun q => by
    subst q
    obtain ⟨o', es, ep, e', hd, _⟩ := hm
    have e2 : h'.get? b = some o := e
    rw [e'] at e2; cases e2
    unfold IsSeq at hseq; rw [hd] at hseq; exact hseq)).trans e
  refine ⟨W', h'', tk', rfl, rep_lst.mpr ⟨D, items, rfl, by rw [u.o]; exact hDW, ?_, rl.mono ms (Grow.refl _ _)⟩, ⟨fun b o e => (hs''.2 b (fun q => by rw [q, hC] at e; cases e)).trans (u.ext b o e), u.o, u.t, u.tok, u.le⟩⟩
  obtain ⟨o, ho, r⟩ := hl
  exact ⟨o, (hs''.2 D (Ne.symm hCD)).trans ho, r⟩

theorem swaps_local {env : Env} {elt : Expr} {gens : List Comprehension} {scope : Scope} {pos py : Pos} {y : Str} {line : Nat} (hk : env.scope.kind = .function) (hl : env.kindOf y = some .local)
    (h : (py.line == pos.line && !(scope.names.any fun x => x.1 == y && (x.2 == .local || x.2 == .cell))) = true) : swapsWith (.ListComp elt gens scope pos) (some (.Name y py)) line env = pure true := by
  have : swapsWith (.ListComp elt gens scope pos) (some (.Name y py)) line env =
      pure (env.blockKind == .function && env.kindOf y == some .local && py.line == pos.line && !(scope.names.any fun x => x.1 == y && (x.2 == .local || x.2 == .cell))) := rfl
  rw [this]
  congr 1
  have hb : env.blockKind = .function := by unfold Env.blockKind; rw [hk]; rfl
  rw [hb, hl]
  rw [Bool.and_eq_true] at h
  rw [h.1, h.2]; rfl
theorem swaps_cell {env : Env} {elt : Expr} {gens : List Comprehension} {scope : Scope} {pos py : Pos} {y : Str} {line : Nat} (hl : env.kindOf y = some .cell) :
    swapsWith (.ListComp elt gens scope pos) (some (.Name y py)) line env = pure false := by
  have : swapsWith (.ListComp elt gens scope pos) (some (.Name y py)) line env =
      pure (env.blockKind == .function && env.kindOf y == some .local && py.line == pos.line && !(scope.names.any fun x => x.1 == y && (x.2 == .local || x.2 == .cell))) := rfl
  rw [this]
  congr 1
  have : (some NameKind.cell == some NameKind.local) = false := by decide
  rw [hl, this, Bool.and_false]; rfl

/-- x = [..] where a comprehension reads x later: x is a cell, the value is stored as any other -/
theorem ex1_assign_cell {x : Str} {pos pos' cpos : Pos} {elt : Expr} {gens : List Comprehension} {scope : Scope} {p : PV} (h : Ev g d K σ ω (.ListComp elt gens scope cpos) p) (hK : K.lookup x = some .cell) (hω : ω.lookup x = Option.none)
    (hP : P .next ((x, p) :: σ) ω) : Ex1 g d K σ ω (.Assign [.Name x pos'] (.ListComp elt gens scope cpos) pos) P := fun c W A s R S =>
  wpAny_Assign_Name (h.run R S fun v W' h' tk' r u => (S.keeps u).store (s := { s with heap := h', toks := tk' }) (.inr hK) hω r fun h2 tk2 S2 m le =>
    ⟨.next, _, ω, W', h2, tk2, rfl, hP, rfl, S2, u.later.trans (Later.of_mod m.any le)⟩) (swaps_cell (by rcases S.known x _ hK with h1 | ⟨h1, _⟩; exact h1; cases h1))

/-- x = [..], x a plain name of the frame: it is stored before the block's names go -/
theorem ex1_assign_comp {y : Str} {py pos spos : Pos} {t elt iter : Expr} {ifs : List Expr} {scope : Scope} {ps : List PV} {en : Bool} (σc : Sig) (ωc : Own) (test : PV → Bool) (F : PV → PV)
    (hi : EvIt g d K σ ω en iter ps) (het : en = true → isTup t = true) (ok : compOk K scope = true) (hσ : CSub scope.names σc σ) (hω : CSub scope.names ωc ω)
    (body : CompBody g d scope.names σc ωc t ifs elt ps test F) (hn : ps.length ≤ 4096)
    (hK : K.lookup y = some .local) (hωy : ω.lookup y = Option.none) (hline : (py.line == pos.line && !(scope.names.any fun x => x.1 == y && (x.2 == .local || x.2 == .cell))) = true)
    (hP : P .next ((y, .lst ((ps.filter test).map F)) :: σ) ω) (hs : ∀ env x, foldedSetIterable iter env x = pure x := by intro _ _; rfl) :
    Ex1 g d K σ ω (.Assign [.Name y py] (.ListComp elt [⟨t, iter, ifs, 0⟩] scope pos) spos) P := fun c W A s R S => by
  have hl : c.env.kindOf y = some .local := by rcases S.known y _ hK with h1 | ⟨h1, _⟩; exact h1; cases h1
  rw [exec_Assign_Name_used _ _ _ _ (swaps_local S.kind hl hline)]
  refine wpAny_bind (wpAny_standAt (wpAny_bind ?_))
  show wpAny _ A (do let _ ← comprehension (.ListComp elt [⟨t, iter, ifs, 0⟩] scope pos) scope c.env _ (newList []) false (eval iter c.env) (some (assign (.Name y py) c.env))) _ _ s
  refine wpAny_bind (wpAny_mono (wpAny_comprehension_free (use := some (assign (.Name y py) c.env)) (Q := fun _ s' => ExPost g c K W P s .next s') rfl (hs _) (comp_clo S ok) (compOk_use ok).1 (comp_names ok)
    (wpAny_mono (hi c W A s R S) (fun x s₁ h₁ => wpAny_mono h₁ (fun it s₂ h₂ => ?_) fun _ _ f => f) fun _ _ f => f)) (fun _ s' q => wpAny_pure (wpAny_pure q)) fun _ _ f => f)
  obtain ⟨I, fp, W2, h2, tk2, rfl, rfl, hit, hfp, hfr, up⟩ := h₂
  refine comp_loop1 (RR := fun acc C => compPost (model g.prog g.w) A (fun _ _ => False) (some (assign (.Name y py) c.env)) (fun _ s' => ExPost g c K W P s .next s') acc C) R S ok hσ hω up hit hfp hfr het body hn ?_
  intro D C W' h' tk' items m hCD hD hC hDW hm hli rl u
  show wpAny _ A (assign (.Name y py) c.env (.ref D)) _ _ _
  have S' := S.keeps u
  have rD : Rep W' h' (.lst ((ps.filter test).map F)) (.ref D) := rep_lst.mpr ⟨D, items, rfl, by rw [u.o]; exact hDW, hli, rl⟩
  obtain ⟨mo, hmo⟩ := S.ns
  have hLC : c.env.locals ≠ C := fun e => by obtain ⟨o, _, _, e', _⟩ := hmo; rw [e, hC] at e'; cases e'
  -- the store, with the block's own names untouched by it
  refine wpAny_assign_Name ?_
  have hmo' : h'.Ns c.env.locals mo := hmo.keeps u.ext
  refine wpAny_storeName_local (s := { s with heap := h', toks := tk' }) hl hmo' (fun h3 hn3 hs3 => ?_) (not_class S)
  have hk3 : (K.lookup y = some .local ∧ ∃ m, h'.Ns c.env.locals m ∧ h3.Ns c.env.locals (fun z => if z = y then some (.ref D) else m z) ∧ Heap.SameBut c.env.locals h' h3) ∨
      (K.lookup y = some .cell ∧ ∃ k ov, c.env.cells.lookup y = some k ∧ h'.IsCell k ov ∧ h3.IsCell k (some (.ref D)) ∧ Heap.SameBut k h' h3) := .inl ⟨hK, mo, hmo', hn3, hs3⟩
  obtain ⟨S3, m3⟩ := S'.stored (v := .ref D) hs3 S.lfresh (Nat.le_succ tk') (.inl ⟨mo, hmo'⟩) (let ⟨o, _, _, e, _⟩ := hn3; ⟨o, e⟩) ⟨_, hn3⟩
    (fun z hz => let ⟨k, ov, e1, e2⟩ := S'.cell z hz; ⟨k, ov, e1, e2.sameBut hs3 (ns_ne_cell hmo' e2).symm⟩)
    (fun z u' hz hlz => hlz.stored hz hk3 S.apart) (.inl ⟨hK, _, hn3, by simp⟩) rD hωy
  refine ⟨m, hm.sameBut hs3 (Ne.symm hLC), fun h4 hs4 => ?_⟩
  have hm3 : h3.Ns C m := hm.sameBut hs3 (Ne.symm hLC)
  -- the block's dict is turned once more
  have nsC : ∀ a mm, a ≠ C → h3.Ns a mm → h4.Ns a mm := fun a mm ha hn => hn.sameBut hs4 ha
  have cellC : ∀ a v, h3.IsCell a v → h4.IsCell a v := fun a v hc => hc.sameBut hs4 (ns_ne_cell hm3 hc).symm
  have ms4 : ModS W'.O h3 h4 := fun b o e _ hseq => (hs4.2 b (fun q => by
    subst q
    obtain ⟨o', es, ep, e', hd, _⟩ := hm3
    rw [e'] at e; cases e
    unfold IsSeq at hseq; rw [hd] at hseq; exact hseq)).trans e
  have hCW : ∀ a, W'.O a → a ≠ C := fun a ha e => by
    rw [u.o] at ha
    obtain ⟨o, ho⟩ := S.valid a ha
    rw [e, hC] at ho; cases ho
  have S4 : St g c K W' ((y, .lst ((ps.filter test).map F)) :: σ) ω h4 (tk' + 1) := by
    refine ⟨fun b o e => (hs4.2 b (fun q => by
        have := S.ext b o e
        rw [q, hC] at this; cases this)).trans (S3.ext b o e), S3.ok, S3.kind, S3.globals, S3.builtins, ⟨_, nsC _ _ hLC hn3⟩, S3.lfresh, S3.known,
      fun z hz => let ⟨k, ov, e1, e2⟩ := S3.cell z hz; ⟨k, ov, e1, cellC _ _ e2⟩, S3.cfresh, S3.apart, fun z p hp => ?_, ?_, S3.sub, fun a ha => ?_, S3.tok, S3.pos⟩
    · obtain ⟨v, hlv, hr⟩ := S3.vars z p hp
      refine ⟨v, ?_, hr.mono ms4 (Grow.refl _ _)⟩
      rcases hlv with ⟨hk, mm, hn, hmm⟩ | ⟨hk, k, hc, hv⟩
      · exact .inl ⟨hk, mm, nsC _ _ hLC hn, hmm⟩
      · exact .inr ⟨hk, k, hc, cellC _ _ hv⟩
    · obtain ⟨ad, q1, q2⟩ := S3.owns
      refine ⟨ad, fun z l hlz => ?_, q2⟩
      obtain ⟨a1, a2, a3, items1, ⟨o, ho, hr⟩, a6⟩ := q1 z l hlz
      refine ⟨?_, a2, a3, items1, ⟨o, (hs4.2 _ (hCW _ a2)).trans ho, hr⟩, a6.mono ms4 (Grow.refl _ _)⟩
      rcases a1 with ⟨hk, mm, hn, hmm⟩ | ⟨hk, k, hc, hv⟩
      · exact .inl ⟨hk, mm, nsC _ _ hLC hn, hmm⟩
      · exact .inr ⟨hk, k, hc, cellC _ _ hv⟩
    · obtain ⟨o, ho⟩ := S3.valid a ha
      exact ⟨o, (hs4.2 a (hCW a ha)).trans ho⟩
  have l3 : Later W W' s.heap h3 s.toks (tk' + 1) := u.later.trans (Later.of_mod m3.any (Nat.le_succ _))
  refine ⟨.next, _, ω, W', h4, tk' + 1, rfl, hP, rfl, S4, ⟨⟨fun b o e hO hs => (hs4.2 b (fun q => by rw [q, hC] at e; cases e)).trans (l3.mod.keep b o e hO hs), fun b o e => ?_⟩, l3.grow, l3.le⟩⟩
  obtain ⟨o', e'⟩ := l3.mod.alive b o e
  exact ⟨o', (hs4.2 b (fun q => by rw [q, hC] at e; cases e)).trans e'⟩
end

end Mine

namespace Mine
open PySem PySem.W PyProof.Rows

/-- a builtin, called with these values, gives that one -/
noncomputable def CallV (f : Value) (ps : List PV) (p : PV) : Prop :=
  ∀ (prog : Program) (w : World) (W : Wd) (A : Around) (s : Shared) (vs : List Value), Room 0 A → Sok W s.heap s.toks → RepL W s.heap ps vs →
    wpAny (model prog w) A (call f vs) (ValPost W p s) (fun _ _ => False) s

section
variable {g : Pg} {d : Nat} {K : Kn} {σ : Sig} {ω : Own} {c : Cx} {W : Wd} {A : Around} {s : Shared}

theorem load_boot (S : St g c K W σ ω s.heap s.toks) {x : Str} {v : Value} {pos : Pos} {Q : Value → Shared → Prop} {E : Value → Shared → Prop} (hK : K.lookup x = some .globalImplicit) (hn : x ∉ g.names) (hb : bootBuiltins x = some v) (hQ : Q v s)
    (hm : x ∉ bootMainNames := by decide) (h1 : x ≠ "__name__" := by decide) (hd : (x == ("__debug__" : Str)) = false := by decide) : wpAny (model g.prog g.w) A (eval (.Name x pos) c.env) Q E s := by
  refine eval_global S hK ?_ hd
  obtain ⟨⟨N, mg, mb, G⟩, _⟩ := S.okNow
  exact Calls.loadGlobal_builtin (by rw [S.globals]; exact G.g) (G.free x hn hm) (by rw [S.builtins]; exact G.b) ((G.builtins x h1).trans hb) hQ

theorem ev_callB {x : Str} {id : String} {e : Expr} {es : List Expr} {ps : List PV} {p : PV} {pos pos' : Pos} (hK : K.lookup x = some .globalImplicit) (hn : x ∉ g.names) (hb : bootBuiltins x = some (.builtin id)) (ha : EvL g d K σ ω (e :: es) ps)
    (F : CallV (.builtin id) ps p) (he : ∀ env, starEach (e :: es) env = (false, eval e env) :: starEach es env := by intro _; rfl) (hp : ∀ env, (backTo pos' (starEach es env)).any (·.1) = false := by intro _; rfl)
    (hm : x ∉ bootMainNames := by decide) (h1 : x ≠ "__name__" := by decide) (hd : (x == ("__debug__" : Str)) = false := by decide) :
    Ev g d K σ ω (.Call (.Name x pos) (e :: es) [] pos') p := fun c W A s R S => by
  refine Call_ (load_boot S hK hn hb ?_ hm h1 hd)
  refine PyProof.Rows.callWith_builtin1 ?_ (he _) (hp _)
  refine ha.run R S fun vs W' h' tk' r u => ?_
  exact wpAny_mono (F g.prog g.w W' A { s with heap := h', toks := tk' } vs R.zero (S.keeps u).sok r) (fun v s' x => x.after u) fun _ _ f => f

theorem ev_callT {x : Str} {T : String} {e : Expr} {es : List Expr} {ps : List PV} {p : PV} {pos pos' : Pos} (hK : K.lookup x = some .globalImplicit) (hn : x ∉ g.names) (hb : bootBuiltins x = some (.type T)) (ha : EvL g d K σ ω (e :: es) ps)
    (F : CallV (.type T) ps p) (he : ∀ env, starEach (e :: es) env = (false, eval e env) :: starEach es env := by intro _; rfl) (hp : ∀ env, (backTo pos' (starEach es env)).any (·.1) = false := by intro _; rfl)
    (hm : x ∉ bootMainNames := by decide) (h1 : x ≠ "__name__" := by decide) (hd : (x == ("__debug__" : Str)) = false := by decide) :
    Ev g d K σ ω (.Call (.Name x pos) (e :: es) [] pos') p := fun c W A s R S => by
  refine Call_ (load_boot S hK hn hb ?_ hm h1 hd)
  refine PyProof.Rows.callWith_type1 ?_ (he _) (hp _)
  refine ha.run R S fun vs W' h' tk' r u => ?_
  exact wpAny_mono (F g.prog g.w W' A { s with heap := h', toks := tk' } vs R.zero (S.keeps u).sok r) (fun v s' x => x.after u) fun _ _ f => f

theorem repL_one {h : Heap} {p : PV} {vs : List Value} (r : RepL W h [p] vs) : ∃ v, vs = [v] ∧ Rep W h p v := by
  rw [repL_cons] at r
  obtain ⟨v, q, rfl, h1, h2⟩ := r
  rw [repL_nil] at h2; subst h2
  exact ⟨v, rfl, h1⟩
theorem repL_two {h : Heap} {p q : PV} {vs : List Value} (r : RepL W h [p, q] vs) : ∃ v u, vs = [v, u] ∧ Rep W h p v ∧ Rep W h q u := by
  rw [repL_cons] at r
  obtain ⟨v, q, rfl, h1, h2⟩ := r
  obtain ⟨u, rfl, h3⟩ := repL_one h2
  exact ⟨v, u, rfl, h1, h3⟩
theorem repL_three {h : Heap} {p q o : PV} {vs : List Value} (r : RepL W h [p, q, o] vs) : ∃ v u x, vs = [v, u, x] ∧ Rep W h p v ∧ Rep W h q u ∧ Rep W h o x := by
  rw [repL_cons] at r
  obtain ⟨v, q, rfl, h1, h2⟩ := r
  obtain ⟨u, x, rfl, h3, h4⟩ := repL_two h2
  exact ⟨v, u, x, rfl, h1, h3, h4⟩

theorem cv_len {l : List PV} (hn : l.length ≤ 4096) : CallV (.builtin "len") [.lst l] (.int l.length) := fun prog w W A s vs R S r => by
  obtain ⟨v, rfl, rv⟩ := repL_one r
  obtain ⟨a, its, rfl, _, ha, hl⟩ := rep_lst.mp rv
  have n1 := hl.length
  rw [Array.length_toList] at n1
  refine PyProof.Rows.len_list ha (by lia) ?_
  rw [n1]
  exact ⟨W, s.heap, s.toks + 1 + 1, rfl, rep_int.mpr ⟨_, rfl⟩, up_toks S (by lia)⟩

/-- the whole number below a float, as int() gives it -/
noncomputable def truncF (x : UInt64) : Option Int := match Float64.decode x with | .fin sg m e => some (Float64.truncOf sg m e) | _ => Option.none
theorem cv_int {x : UInt64} {i : Int} (h : truncF x = some i) : CallV (.type "int") [.flt x] (.int i) := fun prog w W A s vs R S r => by
  obtain ⟨v, rfl, rv⟩ := repL_one r
  obtain ⟨t, rfl, _⟩ := rep_flt.mp rv
  unfold truncF at h
  split at h
  · rename_i sg m e hd
    cases h
    exact call_int_float hd (val_int S (Nat.le_succ _))
  · cases h

noncomputable def max3 (a b c : UInt64) : UInt64 := let m := if Float64.cmp a b == some .lt then b else a; if Float64.cmp m c == some .lt then c else m
noncomputable def min3 (a b c : UInt64) : UInt64 := let m := if Float64.cmp b a == some .lt then b else a; if Float64.cmp c m == some .lt then c else m

/-- a value that stood already -/
theorem val_kept (S : Sok W s.heap s.toks) {h' : Heap} {tk : Nat} (x : Ext s.heap h') (h : s.toks ≤ tk) {p : PV} {v : Value} (r : Rep W s.heap p v) : ValPost W p s v { s with heap := h', toks := tk } :=
  ⟨W, h', tk, rfl, r.ext x, up_ext S x h⟩

theorem cv_max3 {a b c : UInt64} : CallV (.builtin "max") [.flt a, .flt b, .flt c] (.flt (max3 a b c)) := fun prog w W A s vs R S r => by
  obtain ⟨v1, v2, v3, rfl, r1, r2, r3⟩ := repL_three r
  obtain ⟨t1, rfl, e1⟩ := rep_flt.mp r1
  obtain ⟨t2, rfl, e2⟩ := rep_flt.mp r2
  obtain ⟨t3, rfl, e3⟩ := rep_flt.mp r3
  have hT : (s.heap.push { cls := .type "tuple", data := .seq #[.float a t1, .float b t2, .float c t3] }).IsTuple s.heap.objs.size #[.float a t1, .float b t2, .float c t3] := ⟨_, Heap.get?_push_size _ rfl, rfl, 0, rfl⟩
  refine wpAny_with_toks (n := s.toks) (Nat.le_refl _) ?_
  refine call_max_three (wpAny_pyIter_tuple hT ?_)
  have hsz : (s.heap.push { cls := .type "tuple", data := .seq #[.float a t1, .float b t2, .float c t3] }).objs.size = s.heap.objs.size + 1 := Heap.size_push ..
  refine ⟨_, [_, s.heap.objs.size], [_], _, _, _, _, rfl, Walks.tuple (A := A.in1) R.hd _ s.heap.objs.size (by rw [hsz]; exact Nat.ne_of_lt (Nat.lt_succ_self _)) #[.float a t1, .float b t2, .float c t3],
    ⟨⟨_, Heap.get?_push_size _ rfl, rfl, rfl⟩, hT.push _⟩, fun c hc => ?_, by simp, Flt.cmpOf_gt #[.float a t1, .float b t2, .float c t3] (by simp [Flt.NumV.float]), fun v h' tk hP hk htk => ?_⟩
  · show c < ((s.heap.push _).push _).objs.size
    rw [Heap.size_push, hsz]
    rcases List.mem_cons.mp hc with rfl | hc
    · rw [hsz]; exact Nat.lt_succ_self _
    · rcases List.mem_cons.mp hc with rfl | hc
      · exact Nat.lt_succ_of_lt (Nat.lt_succ_self _)
      · cases hc
  · have hold : Ext s.heap h' := fun c o e => by
      refine hk c o (fun hm => ?_) (Heap.get?_push_of_some _ (Heap.get?_push_of_some _ e))
      rcases List.mem_cons.mp hm with e1 | hm
      · have := Heap.lt_size e; rw [e1, hsz] at this; exact Nat.lt_irrefl _ (Nat.lt_of_succ_lt this)
      · cases hm
    have hv : ∃ t, v = .float (max3 a b c) t ∧ W.T t = some (max3 a b c) := by
      unfold max3
      cases h1 : (Float64.cmp a b == some .lt) with
      | true =>
        cases h2 : (Float64.cmp b c == some .lt) with
        | true => simp [argBest, Flt.ltV, h1, h2] at hP; subst hP; simp only [if_true, h2]; exact ⟨_, rfl, e3⟩
        | false => simp [argBest, Flt.ltV, h1, h2] at hP; subst hP; simp only [if_true, h2]; exact ⟨_, rfl, e2⟩
      | false =>
        cases h2 : (Float64.cmp a c == some .lt) with
        | true => simp [argBest, Flt.ltV, h1, h2] at hP; subst hP; simp only [Bool.false_eq_true, if_false, if_true, h2]; exact ⟨_, rfl, e3⟩
        | false => simp [argBest, Flt.ltV, h1, h2] at hP; subst hP; simp only [Bool.false_eq_true, if_false, h2]; exact ⟨_, rfl, e1⟩
    obtain ⟨t, hv, hT⟩ := hv
    exact val_kept S hold htk (rep_flt.mpr ⟨t, hv, hT⟩)
theorem cv_min3 {a b c : UInt64} : CallV (.builtin "min") [.flt a, .flt b, .flt c] (.flt (min3 a b c)) := fun prog w W A s vs R S r => by
  obtain ⟨v1, v2, v3, rfl, r1, r2, r3⟩ := repL_three r
  obtain ⟨t1, rfl, e1⟩ := rep_flt.mp r1
  obtain ⟨t2, rfl, e2⟩ := rep_flt.mp r2
  obtain ⟨t3, rfl, e3⟩ := rep_flt.mp r3
  have hT : (s.heap.push { cls := .type "tuple", data := .seq #[.float a t1, .float b t2, .float c t3] }).IsTuple s.heap.objs.size #[.float a t1, .float b t2, .float c t3] := ⟨_, Heap.get?_push_size _ rfl, rfl, 0, rfl⟩
  refine wpAny_with_toks (n := s.toks) (Nat.le_refl _) ?_
  refine call_min_three (wpAny_pyIter_tuple hT ?_)
  have hsz : (s.heap.push { cls := .type "tuple", data := .seq #[.float a t1, .float b t2, .float c t3] }).objs.size = s.heap.objs.size + 1 := Heap.size_push ..
  refine ⟨_, [_, s.heap.objs.size], [_], _, _, _, _, rfl, Walks.tuple (A := A.in1) R.hd _ s.heap.objs.size (by rw [hsz]; exact Nat.ne_of_lt (Nat.lt_succ_self _)) #[.float a t1, .float b t2, .float c t3],
    ⟨⟨_, Heap.get?_push_size _ rfl, rfl, rfl⟩, hT.push _⟩, fun c hc => ?_, by simp, Flt.cmpOf_lt #[.float a t1, .float b t2, .float c t3] (by simp [Flt.NumV.float]), fun v h' tk hP hk htk => ?_⟩
  · show c < ((s.heap.push _).push _).objs.size
    rw [Heap.size_push, hsz]
    rcases List.mem_cons.mp hc with rfl | hc
    · rw [hsz]; exact Nat.lt_succ_self _
    · rcases List.mem_cons.mp hc with rfl | hc
      · exact Nat.lt_succ_of_lt (Nat.lt_succ_self _)
      · cases hc
  · have hold : Ext s.heap h' := fun c o e => by
      refine hk c o (fun hm => ?_) (Heap.get?_push_of_some _ (Heap.get?_push_of_some _ e))
      rcases List.mem_cons.mp hm with e1 | hm
      · have := Heap.lt_size e; rw [e1, hsz] at this; exact Nat.lt_irrefl _ (Nat.lt_of_succ_lt this)
      · cases hm
    have hv : ∃ t, v = .float (min3 a b c) t ∧ W.T t = some (min3 a b c) := by
      unfold min3
      cases h1 : (Float64.cmp b a == some .lt) with
      | true =>
        cases h2 : (Float64.cmp c b == some .lt) with
        | true => simp [argBest, Flt.ltV, h1, h2] at hP; subst hP; simp only [if_true, h2]; exact ⟨_, rfl, e3⟩
        | false => simp [argBest, Flt.ltV, h1, h2] at hP; subst hP; simp only [if_true, h2]; exact ⟨_, rfl, e2⟩
      | false =>
        cases h2 : (Float64.cmp c a == some .lt) with
        | true => simp [argBest, Flt.ltV, h1, h2] at hP; subst hP; simp only [Bool.false_eq_true, if_false, if_true, h2]; exact ⟨_, rfl, e3⟩
        | false => simp [argBest, Flt.ltV, h1, h2] at hP; subst hP; simp only [Bool.false_eq_true, if_false, h2]; exact ⟨_, rfl, e1⟩
    obtain ⟨t, hv, hT⟩ := hv
    exact val_kept S hold htk (rep_flt.mpr ⟨t, hv, hT⟩)

theorem repL_ints {h : Heap} : ∀ {l : List Int} {vs : List Value}, RepL W h (l.map PV.int) vs → ∀ (i : Nat) (v : Value), vs[i]? = some v → ∃ t, v = .int (l.getD i 0) t
  | [], vs, r, i, v, e => by rw [List.map_nil, repL_nil] at r; subst r; simp at e
  | a :: l, vs, r, i, v, e => by
    rw [List.map_cons, repL_cons] at r
    obtain ⟨u, q, rfl, h1, h2⟩ := r
    cases i with
    | zero =>
      obtain ⟨t, rfl⟩ := rep_int.mp h1
      simp at e; exact ⟨t, by simpa using e.symm⟩
    | succ i => simp at e; simpa using repL_ints h2 i v e

theorem fp_list {l : Addr} {o : Obj} (hlt : l < s.heap.objs.size) : ∀ b ∈ [s.heap.objs.size, l], b < (s.heap.push o).objs.size := fun b hb => by
  rw [Heap.size_push]
  rcases List.mem_cons.mp hb with rfl | hb
  · exact Nat.lt_succ_self _
  · rcases List.mem_cons.mp hb with rfl | hb
    · exact Nat.lt_succ_of_lt hlt
    · cases hb

theorem cv_sum {l : List Int} : CallV (.builtin "sum") [.lst (l.map PV.int)] (.int l.sum) := fun prog w W A s vs R S r => by
  obtain ⟨v, rfl, rv⟩ := repL_one r
  obtain ⟨a, its, rfl, _, ha, hl⟩ := rep_lst.mp rv
  have n1 := hl.length
  rw [Array.length_toList, List.length_map] at n1
  have hlt : a < s.heap.objs.size := by obtain ⟨_, e, _⟩ := ha; exact Heap.lt_size e
  refine wpAny_with_toks (n := s.toks) (Nat.le_refl _) ?_
  refine call_sum_walkG (wpAny_pyIter_list ha ?_)
  refine ⟨_, [_, a], [_], its.size, _, _, fun i => l.getD i 0, rfl, Walks.list (A := A.in1) R.hd s.heap.objs.size a (Nat.ne_of_lt hlt) its, ⟨⟨_, Heap.get?_push_size _ rfl, rfl, rfl⟩, ha.push _⟩, fp_list hlt,
    fun i v hv => repL_ints hl i v (by simpa using hv), fun h' tk t' hk htk => ?_⟩
  rw [KBmo.pre_take l its.size (by lia), n1, List.take_length]
  exact ⟨W, h', tk, rfl, rep_int.mpr ⟨_, rfl⟩, up_ext S (old_kept hk) htk⟩

noncomputable def maxI : List Int → Int
  | [] => 0
  | a :: r => r.foldl max a

end
end Mine

namespace Mine
open PySem PySem.W PyProof.Rows

section
variable {g : Pg} {d : Nat} {K : Kn} {σ : Sig} {ω : Own} {c : Cx} {W : Wd} {A : Around} {s : Shared}

theorem gone_before {h h' : Heap} {a : Addr} (x : Ext h h') (h1 : h'.get? a = Option.none) : h.get? a = Option.none := by
  cases e : h.get? a with
  | none => rfl
  | some o => have := x _ _ e; rw [h1] at this; cases this

theorem evit_list {e : Expr} {ps : List PV} (H : Ev g d K σ ω e (.lst ps)) : EvIt g d K σ ω false e ps := fun c W A s R S => by
  refine H.run R S fun v W' h' tk' r u => ?_
  obtain ⟨a, items, rfl, hO, hl, rl⟩ := rep_lst.mp r
  have hlt : a < h'.objs.size := by obtain ⟨_, e, _⟩ := hl; exact Heap.lt_size e
  have S' := S.keeps u
  refine wpAny_pyIter_list hl ?_
  dsimp only
  have ex := ext_push h' { cls := .type "list_iterator", data := .fields #[.ref a, .int 0 0] }
  have hI : (h'.push { cls := .type "list_iterator", data := .fields #[.ref a, .int 0 0] }).IsListIter h'.objs.size a 0 := ⟨_, Heap.get?_push_size _ rfl, rfl, rfl⟩
  refine ⟨_, [h'.objs.size], W', _, tk', rfl, rfl, .list (items := items) (i := 0) (Nat.ne_of_lt hlt) hO hI (isList_ext hl ex) (by simpa using rl.ext ex), fun b hb => ?_, fun b hb => ?_, u.trans (up_ext (s := { s with heap := h', toks := tk' }) S'.sok ex (Nat.le_refl _))⟩
  · rw [List.mem_singleton.mp hb]
    exact ⟨S'.freshO, _, _, Heap.get?_push_size _ rfl, rfl⟩
  · rw [List.mem_singleton.mp hb]
    exact gone_before u.ext (get_fresh _)

noncomputable def rangePV (a b : Int) : List PV := (List.range (b - a).toNat).map fun (j : Nat) => PV.int (a + j)

theorem range_it (S : Sok W s.heap s.toks) {prog : Program} {w : World} {r : Addr} {a b : Int} {t u v : Tok} (hr : IsRange s.heap r a b 1 t u v) (ha : -(2 ^ 62) ≤ a) (ha' : a < 2 ^ 62) (hb : -(2 ^ 62) ≤ b) (hb' : b < 2 ^ 62) :
    wpAny (model prog w) A (pyIter (.ref r)) (fun it s₂ => ∃ I fp h', it = .ref I ∧ s₂ = { s with heap := h' } ∧
      ItAt W h' I false fp (rangePV a b) ∧ FpOk W h' fp ∧ (∀ b ∈ fp, s.heap.get? b = Option.none) ∧ Ext s.heap h') (fun _ _ => False) s := by
  refine wpAny_pyIter_range hr (small_one ha ha' hb hb') ?_
  have hn : Builtin.Range.rangeSize a b 1 = ((b - a).toNat : Int) := by rw [rangeSize_one]; split <;> lia
  rw [hn]
  refine ⟨_, [s.heap.objs.size], _, rfl, rfl, .range (x := a) (cc := 1) (n := (b - a).toNat) (Heap.get?_push_size _ rfl) ?_, fun b hb => ?_, fun b hb => ?_, ext_push _ _⟩
  · unfold rangePV; congr 1; funext j; rw [Int.mul_one]
  · rw [List.mem_singleton.mp hb]
    exact ⟨fresh_not S.valid, _, _, Heap.get?_push_size _ rfl, rfl⟩
  · rw [List.mem_singleton.mp hb]
    exact get_fresh _

/-- range(..) is called -/
theorem range_call {x : Str} {pos pos' : Pos} {e : Expr} {es : List Expr} {a b : Int} {ps : List PV} (hx : x = "range") (hK : K.lookup x = some .globalImplicit) (hn : x ∉ g.names) (ha : EvL g d K σ ω (e :: es) ps)
    (hps : (ps = [.int b] ∧ a = 0) ∨ ps = [.int a, .int b]) (R : Room d A) (S : St g c K W σ ω s.heap s.toks) {Q : Value → Shared → Prop} {E : Value → Shared → Prop}
    (he : ∀ env, starEach (e :: es) env = (false, eval e env) :: starEach es env) (hp : ∀ env, (backTo pos' (starEach es env)).any (·.1) = false)
    (hQ : ∀ r W' h' tk' t u v, IsRange h' r a b 1 t u v → s.heap.get? r = Option.none → Up W W' s.heap h' s.toks tk' → Q (.ref r) { s with heap := h', toks := tk' }) :
    wpAny (model g.prog g.w) A (eval (.Call (.Name x pos) (e :: es) [] pos') c.env) Q E s := by
  subst hx
  refine Call_ (load_boot S hK hn boot_range ?_)
  refine PyProof.Rows.callWith_type1 ?_ (he _) (hp _)
  refine ha.run R S fun vs W' h' tk' r u => ?_
  have S' := S.keeps u
  rcases hps with ⟨rfl, rfl⟩ | rfl
  · obtain ⟨v, rfl, rv⟩ := repL_one r
    obtain ⟨t, rfl⟩ := rep_int.mp rv
    refine call_range_1 (hQ _ W' _ _ _ _ _ (IsRange.new ..) (gone_before u.ext (get_fresh _)) (u.trans (up_ext (s := { s with heap := h', toks := tk' }) S'.sok (ext_push _ _) (by show tk' ≤ tk' + 1 + 1; lia))))
  · obtain ⟨v, v', rfl, rv, rv'⟩ := repL_two r
    obtain ⟨t, rfl⟩ := rep_int.mp rv
    obtain ⟨t', rfl⟩ := rep_int.mp rv'
    refine call_range_2 (hQ _ W' _ _ _ _ _ (IsRange.new ..) (gone_before u.ext (get_fresh _)) (u.trans (up_ext (s := { s with heap := h', toks := tk' }) S'.sok (ext_push _ _) (Nat.le_succ _))))

theorem evit_range' {x : Str} {pos pos' : Pos} {e : Expr} {es : List Expr} {a b : Int} {ps : List PV} (hx : x = "range") (hK : K.lookup x = some .globalImplicit) (hn : x ∉ g.names) (ha : EvL g d K σ ω (e :: es) ps)
    (hps : (ps = [.int b] ∧ a = 0) ∨ ps = [.int a, .int b]) (he : ∀ env, starEach (e :: es) env = (false, eval e env) :: starEach es env) (hp : ∀ env, (backTo pos' (starEach es env)).any (·.1) = false)
    (h1 : -(2 ^ 62) ≤ a) (h2 : a < 2 ^ 62) (h3 : -(2 ^ 62) ≤ b) (h4 : b < 2 ^ 62) : EvIt g d K σ ω false (.Call (.Name x pos) (e :: es) [] pos') (rangePV a b) := fun c W A s R S => by
  refine range_call hx hK hn ha hps R S he hp fun r W' h' tk' t u v hr hnew up => ?_
  refine wpAny_mono (range_it (s := { s with heap := h', toks := tk' }) (S.keeps up).sok hr h1 h2 h3 h4) (fun it s₂ x => ?_) fun _ _ f => f
  obtain ⟨I, fp, h2, rfl, rfl, hi, hf, hg, hx⟩ := x
  exact ⟨I, fp, W', h2, tk', rfl, rfl, hi, hf, fun b hb => gone_before up.ext (hg b hb), up.trans (up_ext (s := { s with heap := h', toks := tk' }) (S.keeps up).sok hx (Nat.le_refl _))⟩

theorem evit_range1 {x : Str} {pos pos' : Pos} {e : Expr} {b : Int} (he : Ev g d K σ ω e (.int b)) (h3 : -(2 ^ 62) ≤ b) (h4 : b < 2 ^ 62) (hx : x = "range" := by decide) (hK : K.lookup x = some .globalImplicit := by decide) (hn : x ∉ g.names := by decide)
    (hs : ∀ env, starEach [e] env = (false, eval e env) :: starEach [] env := by intro _; rfl) :
    EvIt g d K σ ω false (.Call (.Name x pos) [e] [] pos') (rangePV 0 b) :=
  evit_range' hx hK hn (evl_cons he evl_nil hs) (.inl ⟨rfl, rfl⟩) hs (fun _ => rfl) (by decide) (by decide) h3 h4
theorem evit_range2 {x : Str} {pos pos' : Pos} {e e' : Expr} {a b : Int} (he : Ev g d K σ ω e (.int a)) (he' : Ev g d K σ ω e' (.int b)) (h1 : -(2 ^ 62) ≤ a) (h2 : a < 2 ^ 62) (h3 : -(2 ^ 62) ≤ b) (h4 : b < 2 ^ 62)
    (hx : x = "range" := by decide) (hK : K.lookup x = some .globalImplicit := by decide) (hn : x ∉ g.names := by decide)
    (hs : ∀ env, starEach [e, e'] env = (false, eval e env) :: starEach [e'] env := by intro _; rfl) (hs' : ∀ env, starEach [e'] env = (false, eval e' env) :: starEach [] env := by intro _; rfl) (hp : ∀ env, (backTo pos' (starEach [e'] env)).any (·.1) = false := by intro _; rfl) :
    EvIt g d K σ ω false (.Call (.Name x pos) [e, e'] [] pos') (rangePV a b) :=
  evit_range' hx hK hn (evl_cons he (evl_cons he' evl_nil hs') hs) (.inr rfl) hs hp h1 h2 h3 h4

theorem evit_enum {x : Str} {pos pos' : Pos} {e : Expr} {ps : List PV} (H : Ev g d K σ ω e (.lst ps)) (hx : x = "enumerate" := by decide) (hK : K.lookup x = some .globalImplicit := by decide) (hn : x ∉ g.names := by decide)
    (hs : ∀ env, starEach [e] env = (false, eval e env) :: starEach [] env := by intro _; rfl) :
    EvIt g d K σ ω true (.Call (.Name x pos) [e] [] pos') (ps.zipIdx.map fun x => .tup [.int x.2, x.1]) := fun c W A s R S => by
  subst hx
  refine Call_ (load_boot S hK hn boot_enumerate ?_)
  refine PyProof.Rows.callWith_type1 ?_ (hs _) rfl
  refine args_cons ?_ (hs _)
  refine H.run R S fun v W' h' tk' r u => args_nil ?_
  obtain ⟨a, items, rfl, hO, hl, rl⟩ := rep_lst.mp r
  have hlt : a < h'.objs.size := by obtain ⟨_, e, _⟩ := hl; exact Heap.lt_size e
  have S' := S.keeps u
  refine call_enumerate_list (s := { s with heap := h', toks := tk' }) hl fun h'' he hi hz hk => ?_
  dsimp only at he hi hz hk ⊢
  have ex : Ext h' h'' := hk
  have f1 : ∀ b, h'.objs.size ≤ b → ¬ W'.O b := fun b hb hO => by
    obtain ⟨o, ho⟩ := S'.valid b hO
    exact Nat.not_lt.mpr hb (Heap.lt_size ho)
  refine wpAny_pyIter_enum he ⟨_, [h'.objs.size + 1, h'.objs.size], W', h'', tk', rfl, rfl,
    .enum (i := 0) (items := items) (qs := ps) (Nat.succ_ne_self _) (Nat.ne_of_lt (Nat.lt_succ_of_lt hlt)) (Nat.ne_of_lt hlt) hO he hi (isList_ext hl ex) (by simpa using rl.ext ex) rfl, fun b hb => ?_, fun b hb => ?_,
    u.trans (up_ext (s := { s with heap := h', toks := tk' }) S'.sok ex (Nat.le_refl _))⟩
  · rcases List.mem_cons.mp hb with rfl | hb
    · exact ⟨f1 _ (by lia), _, _, he, rfl⟩
    · rw [List.mem_singleton.mp hb]
      obtain ⟨o, ho, _, hd⟩ := hi
      exact ⟨f1 _ (by lia), o, _, ho, hd⟩
  · refine gone_before u.ext (Heap.get?_none_of_le ?_)
    rcases List.mem_cons.mp hb with rfl | hb
    · omega
    · rw [List.mem_singleton.mp hb]; exact Nat.le_refl _
end
end Mine

namespace Mine
open PySem PySem.W PyProof.Rows

noncomputable def pslice (l : List PV) (lo hi st : Option Int) : List PV :=
  (sliceRange (sliceBounds lo hi st l.length).1 (sliceBounds lo hi st l.length).2.1 (sliceBounds lo hi st l.length).2.2).filterMap (l[·]?)

theorem RepL.pick {W : Wd} {h : Heap} {l : List PV} {items : Array Value} (r : RepL W h l items.toList) : ∀ (js : List Nat), RepL W h (js.filterMap (l[·]?)) (js.filterMap (items[·]?))
  | [] => repL_nil.mpr rfl
  | j :: js => by
    have ih := RepL.pick r js
    cases e : l[j]? with
    | none =>
      have e2 : items[j]? = Option.none := by
        cases e3 : items[j]? with
        | none => rfl
        | some v => obtain ⟨p, hp, _⟩ := r.getV j v (by simpa using e3); rw [e] at hp; cases hp
      simpa only [List.filterMap_cons, e, e2] using ih
    | some p =>
      obtain ⟨v, hv, rv⟩ := r.get j p e
      have hv' : items[j]? = some v := by simpa using hv
      simp only [List.filterMap_cons, e, hv']
      exact repL_cons.mpr ⟨v, _, rfl, rv, ih⟩

section
variable {g : Pg} {d : Nat} {K : Kn} {σ : Sig} {ω : Own} {c : Cx} {W : Wd} {A : Around} {s : Shared}

/-- a part of a slice -/
noncomputable def EvP (g : Pg) (d : Nat) (K : Kn) (σ : Sig) (ω : Own) (x : Option Expr) (k : Option Int) : Prop :=
  ∀ (c : Cx) (W : Wd) (A : Around) (s : Shared), Room d A → St g c K W σ ω s.heap s.toks →
    wpAny (model g.prog g.w) A (evalPart x c.env) (fun v s' => ∃ W' h' tk', s' = { s with heap := h', toks := tk' } ∧ IsPart v k ∧ Up W W' s.heap h' s.toks tk') (fun _ _ => False) s
theorem evp_none : EvP g d K σ ω Option.none Option.none := fun c W A s R S => wpAny_pure ⟨W, s.heap, s.toks, rfl, .none, Up.refl S⟩
theorem evp_some {e : Expr} {i : Int} (h : Ev g d K σ ω e (.int i)) : EvP g d K σ ω (some e) (some i) := fun c W A s R S =>
  h.run R S fun v W' h' tk' r u => by
    obtain ⟨t, rfl⟩ := rep_int.mp r
    exact ⟨W', h', tk', rfl, .int i t, u⟩

theorem EvP.run {x : Option Expr} {k : Option Int} {Q : Value → Shared → Prop} {E : Value → Shared → Prop} (H : EvP g d K σ ω x k) (R : Room d A) (S : St g c K W σ ω s.heap s.toks)
    (hQ : ∀ v W' h' tk', IsPart v k → Up W W' s.heap h' s.toks tk' → Q v { s with heap := h', toks := tk' }) : wpAny (model g.prog g.w) A (evalPart x c.env) Q E s :=
  wpAny_mono (H c W A s R S) (fun v s' ⟨W', h', tk, e, r, k⟩ => by subst e; exact hQ v W' h' tk r k) fun _ _ f => f.elim

theorem ev_slice {value : Expr} {lo hi st : Option Expr} {pos p : Pos} {l : List PV} {klo khi kst : Option Int} (h1 : Ev g d K σ ω value (.lst l)) (h2 : EvP g d K σ ω lo klo) (h3 : EvP g d K σ ω hi khi) (h4 : EvP g d K σ ω st kst)
    (h0 : kst ≠ some 0) (hn : l.length ≤ 4096) (hs : ∀ o i, ∃ vs, subscripted (.Slice lo hi st p) false o i = operate vs (getItem o i) := by intro _ _; exact ⟨_, rfl⟩) :
    Ev g d K σ ω (.Subscript value (.Slice lo hi st p) pos) (.lst (pslice l klo khi kst)) := fun c W A s R S => by
  refine Subscript_ (h1.run R S fun v W1 h1 tk1 rv u1 => wpAny_Slice (h2.run R (S.keeps u1) fun vl W2 h2 tk2 pl u2 => h3.run R ((S.keeps u1).keeps u2) fun vu W3 h3 tk3 pu u3 => h4.run R (((S.keeps u1).keeps u2).keeps u3) fun vs W4 h4 tk4 ps u4 => ?_))
  have u := ((u1.trans u2).trans u3).trans u4
  obtain ⟨a, its, rfl, _, ha, hl⟩ := rep_lst.mp (((rv.up u2).up u3).up u4)
  have S4 := S.keeps u
  have n1 := hl.length
  rw [Array.length_toList] at n1
  dsimp only
  have ex := ext_push h4 { cls := .type "slice", data := .fields #[vl, vu, vs] }
  have u5 := up_ext (s := { s with heap := h4, toks := tk4 }) S4.sok ex (Nat.le_refl _)
  have S5 := S4.keeps u5
  have ha5 := isList_ext ha ex
  have hl5 := hl.up u5
  have hsl : (h4.push { cls := .type "slice", data := .fields #[vl, vu, vs] }).IsSliceOf h4.objs.size vl vu vs := ⟨_, Heap.get?_push_size _ rfl, rfl, rfl⟩
  generalize hH : h4.push { cls := .type "slice", data := .fields #[vl, vu, vs] } = H at u5 S5 ha5 hl5 hsl
  unfold subscriptTail
  refine wpAny_bind ?_
  rw [getitemInPython_of_ne (by intro e; cases e)]
  refine wpAny_bind (wpAny_specialOf (s := { s with heap := H, toks := tk4 }) ha5.typeIs list_getitem_lookup ?_)
  obtain ⟨vz, hvz⟩ := hs (.ref a) (.ref h4.objs.size)
  have fin : wpAny (model g.prog g.w) A (subscripted (.Slice lo hi st p) false (.ref a) (.ref h4.objs.size)) (fun r s₃ => wpAny (model g.prog g.w) A (letTemporaryGo value (.ref a) r >>= fun _ => pure r) (ValPost W (.lst (pslice l klo khi kst)) s) (fun _ _ => False) s₃) (fun _ _ => False) { s with heap := H, toks := tk4 } := by
    rw [hvz]
    refine wpAny_operating (wpAny_getItem_list_slice (s := { s with heap := H, toks := tk4 }) ha5 hsl pl pu ps h0 (wpAny_bind (wpAny_letTemporaryGo (wpAny_pure ?_))) (by rw [n1]; exact few hn))
    have rp : RepL W4 H (pslice l klo khi kst) (slicePick its klo khi kst).toList := by
      unfold pslice slicePick
      rw [n1]
      simpa using hl5.pick _
    have := val_lst (s := { s with heap := H, toks := tk4 }) S5.sok rp (n := 0)
    exact (by simpa using this : ValPost W4 _ _ _ _).after (u.trans u5)
  first
    | exact wpAny_pure (wpAny_bind fin)
    | exact wpAny_bind (wpAny_pure (wpAny_bind fin))
    | exact wpAny_bind fin
end
end Mine

namespace Mine
open PySem PySem.W PyProof.Rows

/-! lists that a frame writes -/

theorem OwnL.sameBut {h h' : Heap} {a b : Addr} {items : Array Value} (x : OwnL h a items) (hs : Heap.SameBut b h h') (hab : a ≠ b) : OwnL h' a items := OwnL.iff.mpr ((OwnL.iff.mp x).extBut hs.extBut hab)

section
variable {prog : Program} {w : World} {A : Around} {E : Value → Shared → Prop} {s : Shared}
theorem own_setItem {l : Addr} {items : Array Value} {k : Int} {t : Tok} {v : Value} {Q : Unit → Shared → Prop} (hl : OwnL s.heap l items)
    (h0 : 0 ≤ k) (hfit : k < 2 ^ 63) (hn : k < items.size)
    (hQ : ∀ h', OwnL h' l (items.setIfInBounds k.toNat v) → Heap.SameBut l s.heap h' → Q () { s with heap := h' }) :
    wpAny (model prog w) A (setItem (.ref l) (.int k t) v) Q E s :=
  let ⟨_, e⟩ := OwnL.iff.mp hl
  ki_setAt e h0 hfit hn (hQ _ (OwnL.iff.mpr ⟨_, IsL.update e _⟩) (Heap.SameBut.update ..))

theorem own_append {l : Addr} {items : Array Value} {x : Value} {Q : Value → Shared → Prop} (hl : OwnL s.heap l items)
    (hQ : ∀ h', OwnL h' l (items.push x) → Heap.SameBut l s.heap h' → Q .none { s with heap := h' }) (hsz : items.size ≤ sizeLine) :
    wpAny (model prog w) A (call (.builtin "list.append") [.ref l, x]) Q E s := wpAny_list_append_plain (OwnL.iff.mp hl) (fun h' x => hQ h' (OwnL.iff.mpr x)) hsz

end

/-- one new list is taken out of the plain ones -/
structure UpN (W W' : Wd) (a : Addr) (h h' : Heap) (tk tk' : Nat) : Prop where
  ext : Ext h h'
  o : ∀ b, W'.O b ↔ W.O b ∨ b = a
  fresh : h.get? a = Option.none
  alive : ∃ o, h'.get? a = some o
  t : ∀ t x, W.T t = some x → W'.T t = some x
  tok : ∀ t x, W'.T t = some x → t ≠ 0 ∧ t < tk'
  le : tk ≤ tk'

section
variable {g : Pg} {d : Nat} {c : Cx} {K : Kn} {W W' : Wd} {σ : Sig} {ω : Own} {h h' : Heap} {tk tk' : Nat} {a : Addr}

theorem UpN.grow (u : UpN W W' a h h' tk tk') : Grow W W' h := ⟨⟨fun b hb => (u.o b).mpr (.inl hb), fun b hb => ((u.o b).mp hb).elim .inl fun e => .inr (by rw [e]; exact u.fresh)⟩, u.t⟩
theorem UpN.later (u : UpN W W' a h h' tk tk') : Later W W' h h' tk tk' := ⟨u.ext.mod, u.grow, u.le⟩
theorem Up.thenN {W'' : Wd} {h'' : Heap} {tk'' : Nat} (x : Up W W' h h' tk tk') (y : UpN W' W'' a h' h'' tk' tk'') : UpN W W'' a h h'' tk tk'' :=
  ⟨x.ext.trans y.ext, fun b => (y.o b).trans (by rw [x.o]), gone_before x.ext y.fresh, y.alive, fun t u e => y.t t u (x.t t u e), y.tok, Nat.le_trans x.le y.le⟩

theorem St.keepsN (S : St g c K W σ ω h tk) (u : UpN W W' a h h' tk tk') : St g c K W' σ ω h' tk' where
  ext := S.ext.trans u.ext
  ok := S.ok
  kind := S.kind
  globals := S.globals
  builtins := S.builtins
  ns := let ⟨m, hm⟩ := S.ns; ⟨m, hm.keeps u.ext⟩
  lfresh := S.lfresh
  known := S.known
  cell := fun x hx => let ⟨k, ov, h1, h2⟩ := S.cell x hx; ⟨k, ov, h1, h2.keeps u.ext⟩
  cfresh := S.cfresh
  apart := S.apart
  vars := fun x p hp => let ⟨v, h1, h2⟩ := S.vars x p hp; ⟨v, h1.ext u.ext, h2.mono u.ext.modS u.grow⟩
  owns := let ⟨ad, h1, h2⟩ := S.owns; ⟨ad, fun x l hl => let y := h1 x l hl; ⟨y.loc.ext u.ext, (u.o _).mpr (.inl y.inO), y.side, let ⟨items, a1, a2⟩ := y.list; ⟨items, a1.ext u.ext, a2.mono u.ext.modS u.grow⟩⟩, h2⟩
  sub := fun b hb => (u.o b).mpr (.inl (S.sub b hb))
  valid := fun b hb => ((u.o b).mp hb).elim (fun hb => let ⟨o, ho⟩ := S.valid b hb; ⟨o, u.ext _ _ ho⟩) fun e => e ▸ u.alive
  tok := u.tok
  pos := Nat.lt_of_lt_of_le S.pos u.le

/-- one owned list is turned -/
theorem St.ownTurn (S : St g c K W σ ω h tk) {ad : Str → Addr} (q1 : ∀ x l, ω.lookup x = some l → OwnAt c K W h x l (ad x)) (q2 : ∀ x y, x ≠ y → (ω.lookup x).isSome = true → (ω.lookup y).isSome = true → ad x ≠ ad y)
    {x : Str} {l l' : List PV} (hx : ω.lookup x = some l) (hK : K.lookup x ≠ some .free) {items' : Array Value} (hs : Heap.SameBut (ad x) h h') (hl' : OwnL h' (ad x) items') (r : RepL W h l' items'.toList) (hle : tk ≤ tk') :
    St g c K W σ ((x, l') :: ω) h' tk' ∧ Later W W h h' tk tk' := by
  obtain ⟨b1, b2, b3, its, b4, _⟩ := q1 x l hx
  obtain ⟨hcO, hbase⟩ := b3.2 hK
  have hl := b4.isList
  have ms : ModS W.O h h' := fun b o e hO _ => (hs.2 b (fun q => hO (q ▸ b2))).trans e
  have ns : ∀ b m, h.Ns b m → h'.Ns b m := fun b m hn => hn.sameBut hs (ns_ne_list hn hl)
  have cell : ∀ b v, h.IsCell b v → h'.IsCell b v := fun b v hc => hc.sameBut hs (cell_ne_list hc hl)
  have loc : ∀ y v, Loc K c.env h y v → Loc K c.env h' y v := fun y v q => by
    rcases q with ⟨hk, m, hn, hm⟩ | ⟨hk, q, hc, hv⟩
    · exact .inl ⟨hk, m, ns _ _ hn, hm⟩
    · exact .inr ⟨hk, q, hc, cell _ _ hv⟩
  refine ⟨⟨fun b o e => (hs.2 b (fun q => by rw [q, hbase] at e; cases e)).trans (S.ext b o e), S.ok, S.kind, S.globals, S.builtins, let ⟨m, hm⟩ := S.ns; ⟨m, ns _ _ hm⟩, S.lfresh, S.known,
    fun x hx => let ⟨q, ov, h1, h2⟩ := S.cell x hx; ⟨q, ov, h1, cell _ _ h2⟩, S.cfresh, S.apart,
    fun x p hp => let ⟨v, h1, h2⟩ := S.vars x p hp; ⟨v, loc _ _ h1, h2.mono ms (Grow.refl _ _)⟩, ⟨ad, fun y l1 hy => ?_, fun y z hyz hy hz => ?_⟩, S.sub, fun b hb => ?_, (S.toks hle).tok, (S.toks hle).pos⟩, ⟨⟨?_, ?_⟩, Grow.refl _ _, hle⟩⟩
  · rw [List.lookup_cons] at hy
    cases hb : y == x with
    | true =>
      rw [hb] at hy; cases hy
      have e := eq_of_beq hb
      subst e
      exact ⟨loc _ _ b1, b2, b3, items', hl', r.mono ms (Grow.refl _ _)⟩
    | false =>
      rw [hb] at hy
      have hyx : y ≠ x := beq_eq_false_iff_ne.mp hb
      obtain ⟨a1, a2, a3, items1, a5, a6⟩ := q1 y l1 hy
      exact ⟨loc _ _ a1, a2, a3, items1, a5.sameBut hs (q2 y x hyx (Option.isSome_iff_exists.mpr ⟨_, hy⟩) (Option.isSome_iff_exists.mpr ⟨_, hx⟩)), a6.mono ms (Grow.refl _ _)⟩
  · have key : ∀ z, (((x, l') :: ω).lookup z).isSome = true → (ω.lookup z).isSome = true := fun z hz => by
      rw [List.lookup_cons] at hz
      cases hb : z == x with
      | true => rw [eq_of_beq hb, hx]; rfl
      | false => rw [hb] at hz; exact hz
    exact q2 y z hyz (key y hy) (key z hz)
  · obtain ⟨o, ho⟩ := S.valid b hb
    by_cases hab : b = ad x
    · obtain ⟨o', ho', _⟩ := hl'; exact ⟨o', hab ▸ ho'⟩
    · exact ⟨o, (hs.2 b hab).trans ho⟩
  · exact fun b o e hO _ => (hs.2 b (fun q => hO (q ▸ b2))).trans e
  · intro b o e
    by_cases hab : b = ad x
    · obtain ⟨o', ho', _⟩ := hl'; exact ⟨o', hab ▸ ho'⟩
    · exact ⟨o, (hs.2 b hab).trans e⟩

section
variable {M : Model} {A : Around} {E : Value → Shared → Prop} {s : Shared}

theorem St.storeOwn {x : Str} {l : List PV} {items : Array Value} {Q : Unit → Shared → Prop} (S : St g c K W σ ω h tk) (n : UpN W W' a h s.heap tk s.toks) (hl : OwnL s.heap a items) (r : RepL W' s.heap l items.toList)
    (hK : K.lookup x = some .local ∨ K.lookup x = some .cell) (hσ : σ.lookup x = Option.none) (hω : ω.lookup x = Option.none)
    (hQ : ∀ h' tk', St g c K W' σ ((x, l) :: ω) h' tk' → Mod NoO s.heap h' → s.toks ≤ tk' → Q () { s with heap := h', toks := tk' }) : wpAny M A (storeName c.env x (.ref a)) Q E s := by
  have S1 := S.keepsN n
  obtain ⟨m, hm⟩ := S1.ns
  have hbase : c.base.get? a = Option.none := gone_before S.ext n.fresh
  have hcO : ¬ c.O a := fun hO => by
    obtain ⟨o, ho⟩ := S.valid a (S.sub a hO)
    rw [n.fresh] at ho; cases ho
  have hKf : K.lookup x ≠ some .free := fun e => by rcases hK with q | q <;> (rw [q] at e; cases e)
  -- what is alike for both kinds of name
  have key : ∀ (b : Addr) (h' : Heap) (tk' : Nat), Heap.SameBut b s.heap h' → c.base.get? b = Option.none → s.toks ≤ tk' → ((∃ m, s.heap.Ns b m) ∨ ∃ ov, s.heap.IsCell b ov) → (∃ o, h'.get? b = some o) → (∃ m, h'.Ns c.env.locals m) →
      (∀ y, (K.lookup y = some .cell ∨ K.lookup y = some .free) → ∃ k ov, c.env.cells.lookup y = some k ∧ h'.IsCell k ov) →
      (∀ y u, y ≠ x → Loc K c.env s.heap y u → Loc K c.env h' y u) → Loc K c.env h' x (.ref a) → Q () { s with heap := h', toks := tk' } := by
    intro b h' tk' hs hbf hle hbk hb' hn' hcell' hloc hx
    have hmod0 : Mod NoO s.heap h' := sameBut_mod hs (fun o e hO hst => by
      rcases hbk with ⟨m, hm⟩ | ⟨ov, hov⟩
      · exact not_stays_ns (O := NoO) hm o e hO hst
      · exact not_stays_cell (O := NoO) hov o e hO hst) hb'
    have hmod : Mod W'.O s.heap h' := hmod0.any
    have hbl : ∀ a items, s.heap.IsList a items → a ≠ b := fun a items ha => by
      rcases hbk with ⟨m, hm⟩ | ⟨ov, hov⟩
      · exact (ns_ne_list hm ha).symm
      · exact (cell_ne_list hov ha).symm
    refine hQ h' tk' ⟨fun q o e => ?_, S1.ok, S1.kind, S1.globals, S1.builtins, hn', S1.lfresh, S1.known, hcell', S1.cfresh, S1.apart, ?_, ?_, S1.sub, fun q ha => ?_, (S1.toks hle).tok, (S1.toks hle).pos⟩ hmod0 hle
    · exact (hs.2 q (fun e' => by rw [e', hbf] at e; cases e)).trans (S1.ext q o e)
    · intro y q hq
      have hyx : y ≠ x := fun e => by rw [e, hσ] at hq; cases hq
      obtain ⟨u, hu, hr⟩ := S1.vars y q hq
      exact ⟨u, hloc y u hyx hu, hr.mono hmod.seq (Grow.refl _ _)⟩
    · obtain ⟨ad, q1, q2⟩ := S.owns
      obtain ⟨ad', q1', q2'⟩ := S1.owns
      refine ⟨fun y => if y = x then a else ad y, fun y l1 hy => ?_, fun y z hyz hy hz => ?_⟩
      · rw [List.lookup_cons] at hy
        cases hb : y == x with
        | true =>
          rw [hb] at hy; cases hy
          have e := eq_of_beq hb
          subst e
          simp only [if_true]
          exact ⟨hx, (n.o a).mpr (.inr rfl), ⟨fun e => absurd e hKf, fun _ => ⟨hcO, hbase⟩⟩, items, hl.sameBut hs (hbl _ _ hl.isList), r.mono hmod.seq (Grow.refl _ _)⟩
        | false =>
          rw [hb] at hy
          have hyx : y ≠ x := beq_eq_false_iff_ne.mp hb
          simp only [hyx, if_false]
          obtain ⟨a1, a2, a3, items1, a5, a6⟩ := q1 y l1 hy
          have a5' := a5.ext n.ext
          exact ⟨hloc y _ hyx (a1.ext n.ext), (n.o _).mpr (.inl a2), a3, items1, a5'.sameBut hs (hbl _ _ a5'.isList), (a6.mono n.ext.modS n.grow).mono hmod.seq (Grow.refl _ _)⟩
      · have alive : ∀ z, z ≠ x → (((x, l) :: ω).lookup z).isSome = true → ∃ l1, ω.lookup z = some l1 := fun z hzx hz => by
          rw [List.lookup_cons, beq_eq_false_iff_ne.mpr hzx] at hz
          exact Option.isSome_iff_exists.mp hz
        have na : ∀ z, z ≠ x → (((x, l) :: ω).lookup z).isSome = true → ad z ≠ a := fun z hzx hz e => by
          obtain ⟨l1, hl1⟩ := alive z hzx hz
          obtain ⟨items1, ⟨o, ho, _⟩, _⟩ := (q1 z l1 hl1).list
          rw [e, n.fresh] at ho; cases ho
        by_cases hyx : y = x
        · have hzx : z ≠ x := fun e => hyz (hyx.trans e.symm)
          simp only [hyx, hzx, if_true, if_false]
          exact (na z hzx hz).symm
        · by_cases hzx : z = x
          · simp only [hyx, hzx, if_true, if_false]
            exact na y hyx hy
          · simp only [hyx, hzx, if_false]
            obtain ⟨l1, h1⟩ := alive y hyx hy
            obtain ⟨l2, h2⟩ := alive z hzx hz
            exact q2 y z hyz (by rw [h1]; rfl) (by rw [h2]; rfl)
    · obtain ⟨o, ho⟩ := S1.valid q ha
      by_cases hab : q = b
      · exact hab ▸ hb'
      · exact ⟨o, (hs.2 q hab).trans ho⟩
  rcases hK with hK | hK
  · have hk1 : c.env.kindOf x = some .local := by rcases S.known x _ hK with h1 | ⟨h1, _⟩; exact h1; cases h1
    refine wpAny_storeName_local hk1 hm (fun h' hn' hs' => ?_) (not_class S)
    have hk : (K.lookup x = some .local ∧ ∃ m, s.heap.Ns c.env.locals m ∧ h'.Ns c.env.locals (fun z => if z = x then some (.ref a) else m z) ∧ Heap.SameBut c.env.locals s.heap h') ∨
      (K.lookup x = some .cell ∧ ∃ k ov, c.env.cells.lookup x = some k ∧ s.heap.IsCell k ov ∧ h'.IsCell k (some (.ref a)) ∧ Heap.SameBut k s.heap h') := .inl ⟨hK, m, hm, hn', hs'⟩
    exact key _ h' _ hs' S.lfresh (Nat.le_succ _) (.inl ⟨m, hm⟩) (let ⟨o, _, _, e, _⟩ := hn'; ⟨o, e⟩) ⟨_, hn'⟩
      (fun y hy => let ⟨k, ov, e1, e2⟩ := S1.cell y hy; ⟨k, ov, e1, e2.sameBut hs' (ns_ne_cell hm e2).symm⟩)
      (fun y u hy hl => hl.stored hy hk S1.apart) (.inl ⟨hK, _, hn', by simp⟩)
  · have hk1 : c.env.kindOf x = some .cell := by rcases S.known x _ hK with h1 | ⟨h1, _⟩; exact h1; cases h1
    obtain ⟨k, ov, hc, hov⟩ := S1.cell x (.inl hK)
    refine wpAny_storeName_cell S.kind hk1 hc hov fun h' hv' hs' => ?_
    have hk : (K.lookup x = some .local ∧ ∃ m, s.heap.Ns c.env.locals m ∧ h'.Ns c.env.locals (fun z => if z = x then some (.ref a) else m z) ∧ Heap.SameBut c.env.locals s.heap h') ∨
      (K.lookup x = some .cell ∧ ∃ k ov, c.env.cells.lookup x = some k ∧ s.heap.IsCell k ov ∧ h'.IsCell k (some (.ref a)) ∧ Heap.SameBut k s.heap h') := .inr ⟨hK, k, ov, hc, hov, hv', hs'⟩
    have := key _ h' s.toks hs' (S.cfresh x k hK hc) (Nat.le_refl _) (.inr ⟨ov, hov⟩) (let ⟨o, e, _⟩ := hv'; ⟨o, e⟩) ⟨m, hm.sameBut hs' (ns_ne_cell hm hov)⟩
      (fun y hy => by
        obtain ⟨k', ov', e1, e2⟩ := S1.cell y hy
        by_cases hkk : k' = k
        · subst hkk; exact ⟨k', _, e1, hv'⟩
        · exact ⟨k', ov', e1, e2.sameBut hs' hkk⟩)
      (fun y u hy hl => hl.stored hy hk S1.apart) (.inr ⟨.inl hK, k, hc, hv'⟩)
    exact this
end
end

end Mine

namespace Mine
open PySem PySem.W PyProof.Rows

noncomputable def EvNew (g : Pg) (d : Nat) (K : Kn) (σ : Sig) (ω : Own) (e : Expr) (l : List PV) : Prop :=
  ∀ (c : Cx) (W : Wd) (A : Around) (s : Shared), Room d A → St g c K W σ ω s.heap s.toks →
    wpAny (model g.prog g.w) A (eval e c.env) (fun v s' => ∃ a items W' h' tk', v = .ref a ∧ s' = { s with heap := h', toks := tk' } ∧ UpN W W' a s.heap h' s.toks tk' ∧ OwnL h' a items ∧ RepL W' h' l items.toList) (fun _ _ => False) s

section
variable {g : Pg} {d : Nat} {K : Kn} {σ : Sig} {ω : Own} {c : Cx} {W : Wd} {A : Around} {s : Shared} {P : PostT}

/-- the list just made -/
theorem new_list {W1 : Wd} {h1 : Heap} {tk1 : Nat} (S : Sok W1 h1 tk1) {l : List PV} {items : Array Value} (r : RepL W1 h1 l items.toList) {n : Nat} :
    UpN W1 (inner W1 h1.objs.size) h1.objs.size h1 (h1.push { cls := .type "list", data := .seq items n }) tk1 tk1 ∧ OwnL (h1.push { cls := .type "list", data := .seq items n }) h1.objs.size items ∧
    RepL (inner W1 h1.objs.size) (h1.push { cls := .type "list", data := .seq items n }) l items.toList := by
  have u : UpN W1 (inner W1 h1.objs.size) h1.objs.size h1 (h1.push { cls := .type "list", data := .seq items n }) tk1 tk1 :=
    ⟨ext_push _ _, fun b => Iff.rfl, get_fresh _, ⟨_, Heap.get?_push_size _ rfl⟩, fun _ _ e => e, S.tok, Nat.le_refl _⟩
  exact ⟨u, ⟨_, Heap.get?_push_size _ rfl, n, rfl⟩, r.mono u.ext.modS u.grow⟩

theorem evn_list {es : List Expr} {pos : Pos} {ps : List PV} (h : EvL g d K σ ω es ps) (hn : ps.length ≤ 4096) : EvNew g d K σ ω (.List es pos) ps := fun c W A s R S =>
  wpAny_List_spliced (h.run R S fun vs W' h' tk' r e => ⟨by rw [r.length]; exact few hn, by
    obtain ⟨u, o, rr⟩ := new_list (S.keeps e).sok (items := vs.toArray) (by simpa using r) (n := 0)
    exact ⟨_, _, _, _, _, rfl, rfl, e.thenN u, o, rr⟩⟩)

theorem op_rep (S : Sok W s.heap s.toks) {l : List PV} {items : Array Value} {a : Addr} {x : Int} {u : Tok} {prog : Program} {w : World} {Q : Value → Shared → Prop} {E : Value → Shared → Prop}
    (hl : s.heap.IsList a items) (r : RepL W s.heap l items.toList) (hlo : -(2 ^ 63 : Int) ≤ x) (hsz : l.length * x.toNat ≤ 4096) (hx : x < 2 ^ 63)
    (hQ : ∀ its, RepL W s.heap (List.replicate x.toNat l).flatten its.toList → Q (.ref s.heap.objs.size) { s with heap := s.heap.push { cls := .type "list", data := .seq its } }) :
    wpAny (model prog w) A (binaryOp .Mult (.ref a) (.int x u)) Q E s := by
  have n1 := r.length
  rw [Array.length_toList] at n1
  obtain ⟨⟨cls, dd, data, sl⟩, ho, hcl, k, hd⟩ := id hl
  simp only at hcl hd
  subst hcl hd
  have hsz' : items.size * x.toNat ≤ 4096 := by rw [n1]; exact hsz
  refine wpAny_binaryOp_repeat_ref (T := "list") (U := "int") (by decide) ⟨_, ho, rfl⟩ (fun s' => typeIs_int s' x u) noFill_list_mul F.fills_int_mul F.slot_int_rmul repeat_list F.slot_int_index.lookup
    (call_meets F.slot_int_rmul (typeIs_int s x u) F.entry_int_rmul (F.args_int_rmul_2 _ _) (lm_int_rmul_list_any x u a items k dd sl)
      ⟨ho, rfl, ⟨_, ho, rfl⟩, call_meets F.slot_list_mul ⟨_, ho, rfl⟩ F.entry_list_mul (F.args_list_mul_2 _ _)
        (lm_list_mul_any a items k dd sl x u (by simp [Builtin.List.listFitsIndex]; lia) (by (clear ho n1 hQ hx hsz hlo r hl S; omega)) (by simp [Builtin.List.listTooLong, sizeLine]; (clear ho n1 hQ hx hsz hlo r hl S; omega)))
        ⟨ho, hQ _ ?_⟩⟩)
  have e : items = items.toList.toArray := by simp
  rw [e, listMul_foldl_if]
  have key : ∀ n : Nat, RepL W s.heap (List.replicate n l).flatten (List.replicate n items.toList).flatten := fun n => by
    induction n with
    | zero => simpa using repL_nil.mpr rfl
    | succ n ih => rw [List.replicate_succ, List.replicate_succ, List.flatten_cons, List.flatten_cons]; exact r.append ih
  simpa using key x.toNat

theorem evn_rep {e e' : Expr} {pos : Pos} {l : List PV} {k : Int} (h1 : Ev g d K σ ω e (.lst l)) (h2 : Ev g d K σ ω e' (.int k)) (hlo : -(2 ^ 62) ≤ k) (hsz : l.length * k.toNat ≤ 4096) (hx : k < 2 ^ 62) :
    EvNew g d K σ ω (.BinOp e .Mult e' pos) (List.replicate k.toNat l).flatten := fun c W A s R S =>
  wpAny_BinOp (h1.run R S fun v W' h' tk rv u1 => h2.run R (S.keeps u1) fun u W'' h'' tk' ru u2 => by
    obtain ⟨a, items, rfl, _, hl, rl⟩ := rep_lst.mp (rv.up u2)
    obtain ⟨t, rfl⟩ := rep_int.mp ru
    have S2 := ((S.keeps u1).keeps u2).sok
    refine op_rep (s := { s with heap := h'', toks := tk' }) S2 hl rl (by lia) hsz (by lia) fun its r => ?_
    obtain ⟨u, o, rr⟩ := new_list S2 (items := its) r (n := 0)
    exact ⟨_, _, _, _, _, rfl, rfl, (u1.trans u2).thenN u, o, rr⟩)

theorem ex1_own {x : Str} {pos pos' : Pos} {e : Expr} {l : List PV} (h : EvNew g d K σ ω e l) (hK : K.lookup x = some .local ∨ K.lookup x = some .cell) (hσ : σ.lookup x = Option.none) (hω : ω.lookup x = Option.none)
    (hP : P .next σ ((x, l) :: ω)) (hs : ∀ env line, swapsWith e (some (.Name x pos')) line env = pure false := by intro _ _; rfl) :
    Ex1 g d K σ ω (.Assign [.Name x pos'] e pos) P := fun c W A s R S =>
  wpAny_Assign_Name (wpAny_mono (h c W A s R S) (fun v s' q => by
    obtain ⟨a, items, W', h', tk', rfl, rfl, u, o, r⟩ := q
    refine S.storeOwn (s := { s with heap := h', toks := tk' }) u o r hK hσ hω fun h2 tk2 S2 m le => ?_
    exact ⟨.next, _, _, W', h2, tk2, rfl, hP, rfl, S2, u.later.trans (Later.of_mod m.any le)⟩) fun _ _ f => f.elim) (hs _ _)

/-- the address of an owned name -/
theorem own_name (S : St g c K W σ ω s.heap s.toks) {ad : Str → Addr} (q1 : ∀ x l, ω.lookup x = some l → OwnAt c K W s.heap x l (ad x)) {x : Str} {pos : Pos} {l : List PV} (h : ω.lookup x = some l) (h1 : (x == ("__debug__" : Str)) = false) (h2 : (x == ("__classdict__" : Str)) = false)
    {M : Model} {Q : Value → Shared → Prop} {E : Value → Shared → Prop} (hQ : Q (.ref (ad x)) s) : wpAny M A (eval (.Name x pos) c.env) Q E s :=
  wpAny_Name (S.load (q1 x l h).loc hQ h2) h1

theorem ev_own_idx {x : Str} {pos pos' : Pos} {slice : Expr} {l : List PV} {k : Int} {p : PV} (h : ω.lookup x = some l) (h2 : Ev g d K σ ω slice (.int k)) (hx : pidx l k = some p) (hn : l.length ≤ 4096)
    (h1 : (x == ("__debug__" : Str)) = false := by decide) (h1' : (x == ("__classdict__" : Str)) = false := by decide)
    (hs : ∀ o i, subscripted slice false o i = operate [o, i] (getItem o i) := by intro _ _; rfl) : Ev g d K σ ω (.Subscript (.Name x pos') slice pos) p := fun c W A s R S => by
  obtain ⟨ad, q1, q2⟩ := S.owns
  refine Subscript_ (own_name S q1 h h1 h1' (h2.run R S fun u W'' h'' tk' ru e' => ?_))
  obtain ⟨t, rfl⟩ := rep_int.mp ru
  obtain ⟨_, _, _, items, hl, rl⟩ := (q1 x l h).up e'
  exact tail_lst (s := { s with heap := h'', toks := tk' }) (S.keeps e').sok hx hn hl.isList rl (fun v r => ⟨W'', h'', tk', rfl, r, e'⟩) hs

theorem RepL.set {h : Heap} {l : List PV} {vs : List Value} (r : RepL W h l vs) (i : Nat) {p : PV} {v : Value} (rp : Rep W h p v) : RepL W h (l.set i p) (vs.set i v) := by
  refine RepL.of_get (by rw [List.length_set, List.length_set, r.length]) fun j q u hq hu => ?_
  rw [List.getElem?_set] at hq hu
  by_cases hij : i = j
  · rw [if_pos hij] at hq hu
    split at hq
    · split at hu
      · cases hq; cases hu; exact rp
      · cases hu
    · cases hq
  · rw [if_neg hij] at hq hu
    obtain ⟨u', hu', ru⟩ := r.get j q hq
    rw [hu] at hu'; cases hu'; exact ru

theorem ex1_setidx {x : Str} {e idx : Expr} {pos pos' pos'' : Pos} {l : List PV} {p : PV} {k : Int} (h1 : Ev g d K σ ω e p) (h2 : Ev g d K σ ω idx (.int k)) (hω : ω.lookup x = some l) (hK : K.lookup x ≠ some .free)
    (h0 : 0 ≤ k) (hk : k < l.length) (hn : l.length ≤ 4096) (hP : P .next σ ((x, l.set k.toNat p) :: ω))
    (hd : (x == ("__debug__" : Str)) = false := by decide) (hd' : (x == ("__classdict__" : Str)) = false := by decide)
    (hs : ∀ env, swapsWith e (some (.Subscript (.Name x pos'') idx pos')) pos.line env = pure false := by intro _; rfl) :
    Ex1 g d K σ ω (.Assign [.Subscript (.Name x pos'') idx pos'] e pos) P := fun c W A s R S => by
  refine wpAny_Assign_Subscript (h1.run R S fun v W1 hh1 tk1 rv u1 => ?_) (hs _)
  have S1 := S.keeps u1
  obtain ⟨ad, q1, q2⟩ := S1.owns
  refine own_name (s := { s with heap := hh1, toks := tk1 }) S1 q1 hω hd hd' (h2.run R S1 fun iv W2 hh2 tk2 ri u2 => ?_)
  obtain ⟨t, rfl⟩ := rep_int.mp ri
  have S2 := S1.keeps u2
  have q1' : ∀ x l, ω.lookup x = some l → OwnAt c K W2 hh2 x l (ad x) := fun x l hl => (q1 x l hl).up u2
  obtain ⟨_, _, _, items, hl, rl⟩ := q1' x l hω
  have n1 := rl.length
  rw [Array.length_toList] at n1
  refine own_setItem (s := { s with heap := hh2, toks := tk2 }) hl h0 (by lia) (by lia) fun h' hl' hs' => ?_
  obtain ⟨S3, l3⟩ := S2.ownTurn q1' q2 hω hK hs' hl' (l' := l.set k.toNat p) (by rw [Array.toList_setIfInBounds]; exact rl.set _ (rv.up u2)) (Nat.le_refl _)
  exact ⟨.next, _, _, W2, h', tk2, rfl, hP, rfl, S3, (u1.trans u2).later.trans l3⟩

theorem ex1_append {x : Str} {e : Expr} {pos pos' pos1 pos2 : Pos} {l : List PV} {p : PV} (h1 : Ev g d K σ ω e p) (hω : ω.lookup x = some l) (hK : K.lookup x ≠ some .free)
    (hn : l.length ≤ 4096) (hP : P .next σ ((x, l ++ [p]) :: ω))
    (hd : (x == ("__debug__" : Str)) = false := by decide) (hd' : (x == ("__classdict__" : Str)) = false := by decide)
    (hbase : ∀ env, attributeBase (.Name x pos1) "append" env (eval (.Name x pos1) env) = eval (.Name x pos1) env := by intro _; rfl)
    (hfew : ∀ env, ((backTo pos' (starEach [e] env)).all (fun x => !x.1) && (backToKw pos' (keywordEach [] env)).all (fun x => x.1.isSome)
      && decide (([e] : List Expr).length + ([] : List Keyword).length + (if ([] : List Keyword).isEmpty then 0 else 1) < 30)) = true := by intro _; rfl)
    (hline : (pos2.endLine == pos'.line) = true := by rfl)
    (htrees : ∀ env, backTo pos' (starEach [e] env) = [(false, eval e env)] := by intro _; rfl)
    (hs : ∀ env, swapsWith (.Call (.Attribute (.Name x pos1) "append" pos2) [e] [] pos') Option.none pos.line env = pure false := by intro _; rfl) :
    Ex1 g d K σ ω (.Expr (.Call (.Attribute (.Name x pos1) "append" pos2) [e] [] pos') pos) P := fun c W A s R S => by
  obtain ⟨ad, q1, q2⟩ := S.owns
  have hint : interactive c.env = false := by unfold interactive; rw [S.kind]; rfl
  refine wpAny_Expr (wpAny_Call_append (hbase _) (hfew _) hline (htrees _) (own_name S q1 hω hd hd' ?_)) hint (hs _)
  obtain ⟨_, _, _, items0, ⟨o, ho1, n0, ho2⟩, _⟩ := q1 x l hω
  subst ho2
  refine ⟨_, items0, rfl, ⟨_, n0, ho1, rfl, rfl, rfl⟩, h1.run R S fun v W1 hh1 tk1 rv u1 => ?_⟩
  have S1 := S.keeps u1
  have q1' : ∀ x l, ω.lookup x = some l → OwnAt c K W1 hh1 x l (ad x) := fun x l hl => (q1 x l hl).up u1
  obtain ⟨_, _, _, items, hl, rl⟩ := q1' x l hω
  have n1 := rl.length
  rw [Array.length_toList] at n1
  refine own_append (s := { s with heap := hh1, toks := tk1 }) hl (fun h' hl' hs' => ?_) (by rw [n1]; exact few hn)
  obtain ⟨S3, l3⟩ := S1.ownTurn q1' q2 hω hK hs' hl' (l' := l ++ [p]) (by rw [Array.toList_push]; exact rl.append (repL_cons.mpr ⟨v, [], rfl, rv, repL_nil.mpr rfl⟩)) (Nat.le_refl _)
  exact ⟨.next, _, _, W1, h', tk1, rfl, hP, rfl, S3, u1.later.trans l3⟩

/-- the list is handed out -/
theorem ex1_return_own {x : Str} {pos pos' : Pos} {l : List PV} (hω : ω.lookup x = some l) (hK : K.lookup x ≠ some .free) (hP : P (.ret (.lst l)) σ ω)
    (hd : (x == ("__debug__" : Str)) = false := by decide) (hd' : (x == ("__classdict__" : Str)) = false := by decide) : Ex1 g d K σ ω (.Return (some (.Name x pos')) pos) P := fun c W A s R S => by
  obtain ⟨ad, q1, q2⟩ := S.owns
  obtain ⟨_, _, b3, items, hl, rl⟩ := q1 x l hω
  refine wpAny_Return_some (own_name S q1 hω hd hd' ?_)
  exact ⟨.ret (.lst l), σ, ω, W, s.heap, s.toks, rfl, hP, ⟨_, rfl, rep_lst.mpr ⟨ad x, items, rfl, (b3.2 hK).1, hl.isList, RepL.weaken (W := W) (W' := ⟨c.O, W.T⟩) S.sub (fun _ => rfl) rl⟩⟩, S, Later.refl _ _ _⟩
end
end Mine

namespace Mine
open PySem PySem.W PyProof.Rows

section
variable {g : Pg} {d : Nat} {K : Kn} {σ : Sig} {ω : Own} {c : Cx} {W : Wd} {A : Around} {s : Shared} {P : PostT}

theorem ex1_while {t : Expr} {body orelse : List Stmt} {pos : Pos} (Inv : Nat → Sig → Own → Prop) (n : Nat) (h0 : Inv n σ ω)
    (step : ∀ n σ' ω', Inv n σ' ω' → ∃ b, EvB g d K σ' ω' t b ∧ (b = true → Ex g d K σ' ω' body (turnP (fun σ ω => ∃ m, m < n ∧ Inv m σ ω) P)) ∧ (b = false → Ex g d K σ' ω' orelse P)) :
    Ex1 g d K σ ω (.While t body orelse pos) P := fun c W A s R S => by
  refine wpAny_While ?_
  refine codeAny_whileLoop (fun n s' => ∃ σ' ω' W' h' tk', s' = { s with heap := h', toks := tk' } ∧ Inv n σ' ω' ∧ St g c K W' σ' ω' h' tk' ∧ Later W W' s.heap h' s.toks tk') ?_ n
    ⟨σ, ω, W, s.heap, s.toks, rfl, h0, S, Later.refl _ _ _⟩
  rintro n s' ⟨σ', ω', W', h', tk', rfl, hI, S', l⟩
  obtain ⟨b, hb, h1, h2⟩ := step n σ' ω' hI
  refine hb.run (s := { s with heap := h', toks := tk' }) R S' fun W2 h2' tk2 u => ?_
  have S2 := S'.keeps u
  have l2 := l.trans u.later
  cases b with
  | false =>
    simp only [Bool.false_eq_true, if_false]
    exact Ex.run (h2 rfl) R S2 l2
  | true =>
    simp only [if_true]
    refine wpAny_mono (h1 rfl c W2 A { s with heap := h2', toks := tk2 } R S2) (fun f s4 h4 => ?_) fun _ _ f => f.elim
    obtain ⟨fl, σ4, ω4, W4, h4, tk4, rfl, hP, hf, S4, l4⟩ := h4
    have l04 := l2.trans l4
    cases fl with
    | next => cases hf; obtain ⟨m, hm, hI'⟩ := hP; exact ⟨m, hm, σ4, ω4, W4, h4, tk4, rfl, hI', S4, l04⟩
    | cont => cases hf; obtain ⟨m, hm, hI'⟩ := hP; exact ⟨m, hm, σ4, ω4, W4, h4, tk4, rfl, hI', S4, l04⟩
    | brk => cases hf; exact ⟨.next, σ4, ω4, W4, h4, tk4, rfl, hP, rfl, S4, l04⟩
    | ret q => obtain ⟨v, rfl, hv⟩ := hf; exact ⟨.ret q, σ4, ω4, W4, h4, tk4, rfl, hP, ⟨v, rfl, hv⟩, S4, l04⟩

end
end Mine

namespace Mine
open PySem PySem.W PyProof.Rows

noncomputable def Sub {α : Type} (a b : List (Str × α)) : Prop := ∀ x p, a.lookup x = some p → b.lookup x = some p

theorem Sub.nil {α : Type} {b : List (Str × α)} : Sub [] b := fun _ _ h => nomatch h
theorem Sub.cons {α : Type} {a b : List (Str × α)} {x : Str} {p : α} (h : b.lookup x = some p) (s : Sub a b) : Sub ((x, p) :: a) b := fun y q e => by
  rw [List.lookup_cons] at e
  cases hb : y == x with
  | true => rw [hb] at e; cases e; rw [eq_of_beq hb]; exact h
  | false => rw [hb] at e; exact s y q e

noncomputable def Subs (σ' : Sig) (ω' : Own) (σ : Sig) (ω : Own) : Prop := Sub σ' σ ∧ Sub ω' ω

section
variable {g : Pg} {d : Nat} {K : Kn} {σ : Sig} {ω : Own} {c : Cx} {W : Wd} {A : Around} {s : Shared} {P : PostT}

theorem Ex.sub {ss : List Stmt} {σ' : Sig} {ω' : Own} (h : Ex g d K σ' ω' ss P) (hs : Subs σ' ω' σ ω) : Ex g d K σ ω ss P := h.less hs.1 hs.2
theorem EvB.sub {e : Expr} {b : Bool} {σ' : Sig} {ω' : Own} (h : EvB g d K σ' ω' e b) (hs : Subs σ' ω' σ ω) : EvB g d K σ ω e b := fun c W A s R S => h c W A s R (S.less hs.1 hs.2)

/-- a for loop whose names are told turn by turn -/
theorem ex1_forI {t iter : Expr} {body orelse : List Stmt} {pos : Pos} {en : Bool} {ps : List PV} (hi : EvIt g d K σ ω en iter ps) (het : en = true → isTup t = true) (σk : Nat → Sig) (ωk : Nat → Own) (I0 : Nat → Prop) (hI0 : I0 0)
    (h0 : Subs (σk 0) (ωk 0) σ ω)
    (step : ∀ i p, ps[i]? = some p → I0 i → ∃ B, bindT t p = some B ∧ tgtOk K (ωk i) t ∧ Ex g d K (B ++ σk i) (ωk i) body (turnP (fun σ ω => I0 (i + 1) ∧ Subs (σk (i + 1)) (ωk (i + 1)) σ ω) P))
    (done : I0 ps.length → Ex g d K (σk ps.length) (ωk ps.length) orelse P)
    (hs : ∀ env x, foldedSetIterable iter env x = pure x := by intro _ _; rfl) : Ex1 g d K σ ω (.For t iter body orelse pos) P := fun c W A s R S => by
  refine wpAny_For (wpAny_mono (hi c W A s R S) (fun x s₁ h₁ => wpAny_mono h₁ (fun it s₂ h₂ => ?_) fun _ _ f => f.elim) fun _ _ f => f.elim) (hs _)
  obtain ⟨I, fp, W1, h1, tk1, rfl, rfl, hit, hfp, hfr, up⟩ := h₂
  refine for_core (fun n s' => ∃ i W' h' tk', n + i = ps.length ∧ I0 i ∧ s' = { s with heap := h', toks := tk' } ∧ St g c K W' (σk i) (ωk i) h' tk' ∧ ItAt W' h' I en fp (ps.drop i) ∧ FpOk W' h' fp ∧
    Later W W' s.heap h' s.toks tk') ?_ ps.length ⟨0, W1, h1, tk1, by lia, hI0, rfl, (S.keeps up).less h0.1 h0.2, by simpa using hit, hfp, up.later⟩
  rintro n s' ⟨i, W', h', tk', hn, hI, rfl, S', hit', hfp', l⟩
  have hbase : ∀ b ∈ fp, c.base.get? b = Option.none := fun b hb => by
    cases e : c.base.get? b with
    | none => rfl
    | some o => have := S.ext b o e; rw [hfr b hb] at this; cases this
  have halive : ∀ q ∈ fp, ∃ o, h'.get? q = some o := fun q hq => let ⟨_, o, _, e, _⟩ := hfp' q hq; ⟨o, e⟩
  cases hd : ps.drop i with
  | nil =>
    rw [hd] at hit'
    have hi : i = ps.length := by
      have := congrArg List.length hd
      rw [List.length_drop] at this
      simp at this; lia
    subst hi
    refine it_done (s := { s with heap := h', toks := tk' }) R.hd hit' fun h'' kf => ?_
    have S'' := S'.turn kf hfp' hbase (Nat.le_refl _)
    exact Ex.run (done hI) R S'' (l.turn kf hfr hfp' halive (Nat.le_refl _))
  | cons p rest =>
    rw [hd] at hit'
    have hp : ps[i]? = some p := by
      have := congrArg (fun l => l[0]?) hd
      simpa using this
    have hrest : ps.drop (i + 1) = rest := by rw [← List.tail_drop, hd]; rfl
    obtain ⟨B, hB, hok, hbody⟩ := step i p hp hI
    refine it_step (s := { s with heap := h', toks := tk' }) (t := t) S'.sok hit' hfp' het fun v s₁ hgo => ?_
    refine hgo _ fun h2 tk2 rp it2 fp2 kf le2 => ?_
    have S2 := S'.turn kf hfp' hbase le2
    have l2 := l.turn kf hfr hfp' halive le2
    refine assign_tgt (s := { s with heap := h2, toks := tk2 }) S2 R hB hok rp fun h3 tk3 S3 m3 le3 => ?_
    have l23 : Later W' W' h2 h3 tk2 tk3 := Later.of_mod m3.any le3
    obtain ⟨it3, fp3⟩ := it2.mono fp2 m3.any (Grow.refl _ _)
    refine wpAny_mono (hbody c W' A { s with heap := h3, toks := tk3 } R S3) (fun f s4 h4 => ?_) fun _ _ f => f.elim
    obtain ⟨fl, σ4, ω4, W4, h4, tk4, rfl, hP, hf, S4, l4⟩ := h4
    have l04 := (l2.trans l23).trans l4
    obtain ⟨it4, fp4⟩ := it3.mono fp3 l4.mod l4.grow
    have hlt : i < ps.length := by
      rcases Nat.lt_or_ge i ps.length with h | h
      · exact h
      · rw [List.getElem?_eq_none h] at hp; cases hp
    cases fl with
    | next => cases hf; exact ⟨n - 1, by lia, i + 1, W4, h4, tk4, by lia, hP.1, rfl, S4.less hP.2.1 hP.2.2, by rw [hrest]; exact it4, fp4, l04⟩
    | cont => cases hf; exact ⟨n - 1, by (clear hP fp4 it4 l04 l4 S4 fp3 it3 l23 le3 m3 S3 l2 S2 le2 kf fp2 it2 rp hgo hbody hok hB hrest hp hd hit' halive hbase l hfp' S' hI up hfr hfp hit h₁ S R hs done step h0 hI0 het hi; omega), i + 1, W4, h4, tk4, by (clear hP fp4 it4 l04 l4 S4 fp3 it3 l23 le3 m3 S3 l2 S2 le2 kf fp2 it2 rp hgo hbody hok hB hrest hp hd hit' halive hbase l hfp' S' hI up hfr hfp hit h₁ S R hs done step h0 hI0 het hi; omega), hP.1, rfl, S4.less hP.2.1 hP.2.2, by rw [hrest]; exact it4, fp4, l04⟩
    | brk => cases hf; exact ⟨.next, σ4, ω4, W4, h4, tk4, rfl, hP, rfl, S4, l04⟩
    | ret q => obtain ⟨v, rfl, hv⟩ := hf; exact ⟨.ret q, σ4, ω4, W4, h4, tk4, rfl, hP, ⟨v, rfl, hv⟩, S4, l04⟩

theorem ex1_forC {t iter : Expr} {body orelse : List Stmt} {pos : Pos} {en : Bool} {ps : List PV} (hi : EvIt g d K σ ω en iter ps) (het : en = true → isTup t = true) (σk : Nat → Sig) (ωk : Nat → Own)
    (h0 : Subs (σk 0) (ωk 0) σ ω)
    (step : ∀ i p, ps[i]? = some p → ∃ B, bindT t p = some B ∧ tgtOk K (ωk i) t ∧ Ex g d K (B ++ σk i) (ωk i) body (turnP (Subs (σk (i + 1)) (ωk (i + 1))) P))
    (done : Ex g d K (σk ps.length) (ωk ps.length) orelse P)
    (hs : ∀ env x, foldedSetIterable iter env x = pure x := by intro _ _; rfl) : Ex1 g d K σ ω (.For t iter body orelse pos) P :=
  ex1_forI hi het σk ωk (fun _ => True) trivial h0 (fun i p hp _ => let ⟨B, h1, h2, h3⟩ := step i p hp; ⟨B, h1, h2, h3.mono fun fl σ ω q => by
    cases fl with
    | next => exact ⟨trivial, q⟩
    | cont => exact ⟨trivial, q⟩
    | brk => exact q
    | ret v => exact q⟩) (fun _ => done) hs

/-- a while loop whose names are told by a state of any kind -/
theorem ex1_whileC {α : Type} {t : Expr} {body orelse : List Stmt} {pos : Pos} (σk : α → Sig) (ωk : α → Own) (m : α → Nat) (I : α → Prop) (a0 : α) (hI0 : I a0) (h0 : Subs (σk a0) (ωk a0) σ ω)
    (step : ∀ a, I a → ∃ b, EvB g d K (σk a) (ωk a) t b ∧ (b = true → Ex g d K (σk a) (ωk a) body (turnP (fun σ ω => ∃ a', m a' < m a ∧ I a' ∧ Subs (σk a') (ωk a') σ ω) P)) ∧ (b = false → Ex g d K (σk a) (ωk a) orelse P)) :
    Ex1 g d K σ ω (.While t body orelse pos) P := by
  refine ex1_while (fun n σ' ω' => ∃ a, m a = n ∧ I a ∧ Subs (σk a) (ωk a) σ' ω') (m a0) ⟨a0, rfl, hI0, h0⟩ ?_
  rintro n σ' ω' ⟨a, rfl, hI, hs⟩
  obtain ⟨b, h1, h2, h3⟩ := step a hI
  refine ⟨b, h1.sub hs, fun e => ((h2 e).mono fun fl σ1 ω1 hP => ?_).sub hs, fun e => (h3 e).sub hs⟩
  cases fl with
  | next => obtain ⟨a', q1, q2, q3⟩ := hP; exact ⟨m a', q1, a', rfl, q2, q3⟩
  | cont => obtain ⟨a', q1, q2, q3⟩ := hP; exact ⟨m a', q1, a', rfl, q2, q3⟩
  | brk => exact hP
  | ret q => exact hP
end
end Mine

namespace Mine
open PySem PySem.W PyProof.Rows

/-! what the slices are -/

theorem pick_range (l : List PV) (a : Nat) : ∀ c, (List.range c).filterMap (fun k => l[a + k]?) = (l.drop a).take c
  | 0 => by simp
  | c + 1 => by
    rw [List.range_succ, List.filterMap_append, pick_range l a c, List.take_add_one, List.getElem?_drop]
    cases h : l[a + c]? <;> simp [h]

theorem pslice_of {l : List PV} {lo hi : Option Int} {a b : Nat} (h : sliceBounds lo hi Option.none l.length = ((a : Int), (b : Int), 1)) : pslice l lo hi Option.none = (l.drop a).take (b - a) := by
  unfold pslice
  rw [h]
  simp only
  rw [sliceRange_one, List.filterMap_map]
  exact pick_range l a (b - a)

theorem slice_to {l : List PV} {k : Nat} : pslice l Option.none (some (k : Int)) Option.none = l.take k := by
  rw [pslice_of (a := 0) (b := min k l.length)]
  · simp only [List.drop_zero, Nat.sub_zero]
    rcases Nat.le_total k l.length with h | h
    · rw [Nat.min_eq_left h]
    · rw [Nat.min_eq_right h, List.take_of_length_le h, List.take_of_length_le (Nat.le_refl _)]
  · simp only [sliceBounds, Option.getD_none, show (1 : Int) > 0 by decide, if_true]
    refine Prod.ext rfl (Prod.ext ?_ rfl)
    simp only
    rw [if_neg (by lia)]; lia

theorem slice_from {l : List PV} {k : Nat} (hk : k ≤ l.length) : pslice l (some (k : Int)) Option.none Option.none = l.drop k := by
  rw [pslice_of (a := k) (b := l.length)]
  · exact List.take_of_length_le (by simp)
  · simp only [sliceBounds, Option.getD_none, show (1 : Int) > 0 by decide, if_true]
    refine Prod.ext ?_ rfl
    simp only
    rw [if_neg (by lia)]; lia

end Mine

namespace Mine
open PySem PySem.W PyProof.Rows

noncomputable def PV.asInt : PV → Int
  | .int i => i
  | _ => 0
noncomputable def PV.asTup : PV → List PV
  | .tup l => l
  | _ => []
noncomputable def PV.asFlt : PV → UInt64
  | .flt x => x
  | _ => 0

section
variable {g : Pg} {d : Nat} {K : Kn} {σ : Sig} {ω : Own} {P : PostT}

noncomputable def rangeI (a b : Int) : List Int := (List.range (b - a).toNat).map fun (j : Nat) => a + j
theorem tgt1 {names : Kn} {ωc : Own} {x : Str} {px : Pos} (h : names.lookup x = some .local ∨ names.lookup x = some .cell) (h2 : ωc.lookup x = Option.none) : tgtOk names ωc (.Name x px) := fun y hy => by
  rw [List.mem_singleton.mp hy]; exact ⟨h, h2⟩

theorem pidx_nat {l : List PV} {k : Int} {j : Nat} {p : PV} (hk : k = j) (h : l[j]? = some p) : pidx l k = some p := by
  subst hk
  unfold pidx
  rw [if_pos (by lia), Int.toNat_natCast]; exact h
theorem pidx_last {l : List PV} {p : PV} (h : l.getLast? = some p) : pidx l (-1) = some p := by
  unfold pidx
  have hl : 0 < l.length := by cases l with
    | nil => simp at h
    | cons a r => simp
  rw [if_neg (by decide), if_pos (by lia), show ((-1 : Int) + l.length).toNat = l.length - 1 by lia]
  rw [List.getLast?_eq_getElem?] at h; exact h
end
end Mine

namespace Mine
open PySem PySem.W PyProof.Rows

section
variable {s : Shared} {A : Around}

/-- a frame with one plain name: the name was stored, so a token was drawn -/
theorem newEnv1 {M : Model} {E : Value → Shared → Prop} {scope : Scope} {globals : Addr} {x : Str} {v : Value} {qual : Str} {func : Option Addr} {code : Value} {builtins : Addr} {Q : Env → Shared → Prop}
    (hk : scope.kind = .function) (hx : scope.names.lookup x = some .local)
    (hQ : ∀ env, env = newEnv scope s.heap.objs.size globals (cellsFrom (s.heap.objs.size + 1) scope.names []) qual func code Option.none builtins →
      ∀ s', InCallC s env.locals (bindL env.kindOf [(x, v)] fun _ => Option.none) env.cells (bindC env.kindOf [(x, v)] fun _ => Option.none) s' → 0 < s'.toks → Q env s') :
    wpAny M A (newFunctionEnv scope globals [] [(x, v)] qual func code Option.none builtins) Q E s := by
  simp only [newFunctionEnv, Option.isSome_none, Bool.false_eq_true, if_false]
  refine wpAny_bind (wpAny_alloc ?_)
  refine wpAny_bind (wpAny_layCells _ (fun name kind cells => by cases hkc : kind == NameKind.cell <;> simp [hkc]) _ _ _ _ ?_)
  have ok := cellsFrom_ok scope.names (s.heap.push { cls := .type "frame", data := .dict #[] }) (s.heap.objs.size + 1) [] ⟨fun _ _ hm => (nomatch hm), List.Pairwise.nil⟩ (by rw [Heap.size_push]; exact Nat.le_refl _)
  rw [Heap.size_push] at ok
  rw [show ({ s with heap := s.heap.push { cls := .type "frame", data := .dict #[] } } : Shared).heap.objs.size = s.heap.objs.size + 1 from Heap.size_push ..]
  have I0 : InCallC s (newEnv scope s.heap.objs.size globals (cellsFrom (s.heap.objs.size + 1) scope.names []) qual func code Option.none builtins).locals (fun _ => Option.none) (newEnv scope s.heap.objs.size globals (cellsFrom (s.heap.objs.size + 1) scope.names []) qual func code Option.none builtins).cells (fun _ => Option.none)
      { s with heap := pushCells (s.heap.push { cls := .type "frame", data := .dict #[] }) scope.names } :=
    ⟨⟨⟨_, _, rfl⟩, (Heap.Ns.new s.heap (.type "frame")).keeps (pushCells_keeps _ _), fun b o e => pushCells_keeps _ _ b o (Heap.get?_push_of_some _ e), Nat.le_refl _⟩,
      fun n c hc => (ok.empty n c (mem_of_lookup hc)).1, ok.apart, fun n c hm => (ok.empty n c hm).2⟩
  have hl : (newEnv scope s.heap.objs.size globals (cellsFrom (s.heap.objs.size + 1) scope.names []) qual func code Option.none builtins).kindOf x = some .local := hx
  refine wpAny_bind ?_
  rw [List.forIn_cons]
  refine wpAny_bind (wpAny_bind ?_)
  refine wpAny_storeName_local hl I0.toInCall.ns (fun h' hn' hs' => ?_) (by show (scope.kind == .class || (scope.kind == .module && _)) = false; rw [hk]; rfl)
  refine wpAny_pure ?_
  dsimp only
  rw [List.forIn_nil]
  refine wpAny_pure (wpAny_pure (hQ _ rfl _ ⟨⟨⟨h', _, rfl⟩, ?_, fun b o e => ?_, Nat.le_refl _⟩, fun k c hc => ?_, I0.apart, I0.above⟩ (Nat.succ_pos _)))
  · unfold bindL; rw [if_pos hl]; exact hn'
  · exact hs'.extBut b o (Nat.ne_of_lt (Heap.lt_size e)) (I0.toInCall.keep b o e)
  · unfold bindC; rw [if_pos hl]
    exact (I0.cell k c hc).sameBut hs' (Nat.ne_of_gt (I0.above k c (mem_of_lookup hc)))

/-- the law is called: nothing of its own stands yet -/
theorem law_call {g : Pg} {d : Nat} {it : DefItem} {x : Str} {p0 p : PV} (F : Fn g d it [p0] p) (pl : Plain it 1) (hx : it.params.args.map (·.arg) = [x]) (hl : it.scope.names.lookup x = some .local) (R : Room (d + 1) A) (ok : g.Ok s.heap) {a : Addr} {o : Obj} {pm cd doc : Value}
    (ho : s.heap.get? a = some o) (hd : o.data = .func (Calls.docDef it.name it.params it.body it.scope pm cd doc)) (hcd : s.heap.CodeRec cd it.name) {v : Value} (rv : Rep ⟨NoO, fun _ => Option.none⟩ s.heap p0 v) :
    wpAny (model g.prog g.w) A (call (.ref a) [v]) (fun u s' => ∃ W' h' tk', s' = { s with heap := h', toks := tk' } ∧ Rep W' h' p u ∧ Ext s.heap h') (fun _ _ => False) s := by
  have hroom : A.depth < recursionLimit := by have := R.dep; lia
  have nolimit : s.heap.NoLimit := let ⟨⟨_, _, _, G⟩, _⟩ := ok; G.nolimit
  refine wpAny_call ?_
  refine codeAny_call_function (fd := Calls.docDef it.name it.params it.body it.scope pm cd doc) hroom ho hd pl.co pl.gen rfl hcd ?_
  rw [pl.bind pm cd doc [v] rfl, hx]
  refine wpAny_pure (newEnv1 pl.kind hl fun env he s' x' hpos => ?_)
  obtain ⟨h₁, tk₁, rfl⟩ := x'.toInCall.same
  have keep := x'.toInCall.keep
  refine ⟨nolimit.keeps keep, codeAny_func ?_⟩
  have hsc : env.scope = it.scope := by rw [he]; rfl
  have hloc : env.locals = s.heap.objs.size := by rw [he]; rfl
  have hcells : env.cells = cellsFrom (s.heap.objs.size + 1) it.scope.names [] := by rw [he]; rfl
  have hlx : env.kindOf x = some .local := by unfold Env.kindOf; rw [hsc]; exact hl
  have St0 : St g ⟨env, s.heap, NoO⟩ it.scope.names ⟨NoO, fun _ => Option.none⟩ [(x, p0)] [] h₁ tk₁ := by
    refine ⟨keep, ok, by rw [hsc]; exact pl.kind, by rw [he]; rfl, by rw [he]; rfl, ⟨_, x'.toInCall.ns⟩, ?_, ?_, ?_, ?_, x'.apart, ?_, ⟨fun _ => 0, fun _ _ e => by simp at e, fun _ _ _ e => by simp at e⟩, fun a ha => ha, fun _ ha => ha.elim, fun _ _ e => by simp at e, hpos⟩
    · rw [hloc]; exact get_fresh _
    · intro y kd hy; left; unfold Env.kindOf; rw [hsc]; exact hy
    · intro y hy
      rcases hy with hy | hy
      · have := cellsFrom_has (n := s.heap.objs.size + 1) (acc := []) (.inl (lookup_mem_kinds hy))
        obtain ⟨k, hk⟩ := Option.isSome_iff_exists.mp this
        exact ⟨k, _, by rw [hcells]; exact hk, x'.cell y k (by rw [hcells]; exact hk)⟩
      · exact absurd rfl (pl.free _ (lookup_mem_kinds hy))
    · intro y k hy hk
      have := x'.above y k (mem_of_lookup hk)
      rw [hloc] at this
      cases e : s.heap.get? k with
      | none => rfl
      | some o' => exact absurd (Heap.lt_size e) (Nat.not_lt.mpr (Nat.le_of_lt this))
    · intro y q hq
      rw [List.lookup_cons] at hq
      cases hb : y == x with
      | false => rw [hb] at hq; simp at hq
      | true =>
        rw [hb] at hq; cases hq
        have e := eq_of_beq hb
        subst e
        exact ⟨v, .inl ⟨hl, _, x'.toInCall.ns, bindL_get (by simp) (by simp) hlx⟩, rv.ext keep⟩
  have F' : Ex g d it.scope.names [(x, p0)] [] it.body (fun fl _ _ => fl = .ret p ∨ (fl = .next ∧ p = .none)) := by
    unfold Fn at F
    rw [hx] at F
    exact F
  refine wpAny_mono (F' ⟨env, s.heap, NoO⟩ ⟨NoO, fun _ => Option.none⟩ (A.deeper env) { s with heap := h₁, toks := tk₁ } (R.deeper env) St0) (fun f s' x => ?_) fun _ _ f => f.elim
  obtain ⟨fl, σ', ω', W', h', tk', rfl, hp, hr, S', l⟩ := x
  rcases hp with rfl | ⟨rfl, rfl⟩
  · obtain ⟨u, rfl, hv⟩ := hr
    exact ⟨⟨NoO, W'.T⟩, h', tk', rfl, hv, S'.ext⟩
  · cases hr
    exact ⟨⟨NoO, W'.T⟩, h', tk', rfl, rep_none.mpr rfl, S'.ext⟩
end
end Mine

namespace Mine
open PySem PySem.W PyProof.Rows

/-! swapped stores -/

section
variable {g : Pg} {d : Nat} {K : Kn} {σ : Sig} {ω : Own} {c : Cx} {W : Wd} {A : Around} {s : Shared} {P : PostT}

theorem bind_names {M : Model} {E : Value → Shared → Prop} : ∀ (ps : List PV) {xs : List Str} {vs : List Value} {σ : Sig} {s : Shared} {Q : Unit → Shared → Prop}, xs.length = ps.length →
    (∀ x ∈ xs, (K.lookup x = some .local ∨ K.lookup x = some .cell) ∧ ω.lookup x = Option.none) → St g c K W σ ω s.heap s.toks → RepL W s.heap ps vs →
    (∀ h' tk', St g c K W ((xs.zip ps).reverse ++ σ) ω h' tk' → Mod NoO s.heap h' → s.toks ≤ tk' → Q () { s with heap := h', toks := tk' }) →
    wpAny M A (assignInOrder (xs.map fun n => bindName c.env n) vs) Q E s := by
  intro ps
  induction ps with
  | nil =>
    intro xs vs σ s Q hl _ S r hQ
    have : xs = [] := List.length_eq_zero_iff.mp (by simpa using hl)
    subst this
    rw [repL_nil] at r; subst r
    exact wpAny_pure (hQ s.heap s.toks S (Mod.refl _ _) (Nat.le_refl _))
  | cons p ps ih =>
    intro xs vs σ s Q hl ht S r hQ
    cases xs with
    | nil => simp at hl
    | cons x xs =>
      rw [repL_cons] at r
      obtain ⟨v, vs, rfl, rp, rr⟩ := r
      have h1 := ht x (by simp)
      show wpAny M A (do holding vs (bindName c.env x v); assignInOrder (xs.map fun n => bindName c.env n) vs) Q E s
      refine wpAny_bind (wpAny_holding (wpAny_bindName (S.store h1.1 h1.2 rp fun h' tk' S' m le => ?_)))
      refine ih (s := { s with heap := h', toks := tk' }) (by simpa using hl) (fun y hy => ht y (by simp [hy])) S' (rr.mono m.any.seq (Grow.refl _ _)) fun h'' tk'' S'' m' le' => ?_
      exact hQ h'' tk'' (by simpa using S'') (m.trans (OGrow.refl _ _) m') (Nat.le_trans le le')


theorem kind_of (S : St g c K W σ ω s.heap s.toks) {x : Str} (h : K.lookup x = some .local ∨ K.lookup x = some .cell) : c.env.kindOf x = K.lookup x := by
  rcases h with h | h
  · rcases S.known x _ h with h1 | ⟨h1, _⟩
    · rw [h, h1]
    · cases h1
  · rcases S.known x _ h with h1 | ⟨h1, _⟩
    · rw [h, h1]
    · cases h1

/-- a frame whose names are just these -/
noncomputable def envOf (K : Kn) (env : Env) : Env := { env with scope := { kind := .function, names := K, isGenerator := false, isCoroutine := false, more := [] } }

theorem swap_congr2 {env env' : Env} {x y : Str} {px py tp vp : Pos} {k k' : Nat} {e1 e2 : Expr} (hb : env.blockKind = env'.blockKind) (hx : env.kindOf x = env'.kindOf x) (hy : env.kindOf y = env'.kindOf y) :
    swappedStores [.Tuple [.Name x px, .Name y py] k tp] (.Tuple [e1, e2] k' vp) env = swappedStores [.Tuple [.Name x px, .Name y py] k tp] (.Tuple [e1, e2] k' vp) env' := by
  delta swappedStores
  simp only [List.filterMap_cons, List.filterMap_nil, hb, hx, hy]
  rfl
theorem swap_congr3 {env env' : Env} {x y z : Str} {px py pz tp vp : Pos} {k k' : Nat} {e1 e2 e3 : Expr} (hb : env.blockKind = env'.blockKind) (hx : env.kindOf x = env'.kindOf x) (hy : env.kindOf y = env'.kindOf y) (hz : env.kindOf z = env'.kindOf z) :
    swappedStores [.Tuple [.Name x px, .Name y py, .Name z pz] k tp] (.Tuple [e1, e2, e3] k' vp) env = swappedStores [.Tuple [.Name x px, .Name y py, .Name z pz] k tp] (.Tuple [e1, e2, e3] k' vp) env' := by
  delta swappedStores
  simp only [List.filterMap_cons, List.filterMap_nil, hb, hx, hy, hz]
  rfl

theorem block_of (S : St g c K W σ ω s.heap s.toks) : c.env.blockKind = (envOf K c.env).blockKind := by
  have : c.env.blockKind = .function := by unfold Env.blockKind; rw [S.kind]; rfl
  rw [this]; rfl

noncomputable abbrev LC (K : Kn) (ω : Own) (x : Str) : Prop := (K.lookup x = some .local ∨ K.lookup x = some .cell) ∧ ω.lookup x = Option.none

theorem swap_of2 (S : St g c K W σ ω s.heap s.toks) {x y : Str} {px py tp vp : Pos} {k k' : Nat} {e1 e2 : Expr} {r : Option (List Str)} (hx : LC K ω x) (hy : LC K ω y)
    (h : ∀ env, swappedStores [.Tuple [.Name x px, .Name y py] k tp] (.Tuple [e1, e2] k' vp) (envOf K env) = pure r) :
    swappedStores [.Tuple [.Name x px, .Name y py] k tp] (.Tuple [e1, e2] k' vp) c.env = pure r :=
  (swap_congr2 (block_of S) (kind_of S hx.1) (kind_of S hy.1)).trans (h _)
theorem swap_of3 (S : St g c K W σ ω s.heap s.toks) {x y z : Str} {px py pz tp vp : Pos} {k k' : Nat} {e1 e2 e3 : Expr} {r : Option (List Str)} (hx : LC K ω x) (hy : LC K ω y) (hz : LC K ω z)
    (h : ∀ env, swappedStores [.Tuple [.Name x px, .Name y py, .Name z pz] k tp] (.Tuple [e1, e2, e3] k' vp) (envOf K env) = pure r) :
    swappedStores [.Tuple [.Name x px, .Name y py, .Name z pz] k tp] (.Tuple [e1, e2, e3] k' vp) c.env = pure r :=
  (swap_congr3 (block_of S) (kind_of S hx.1) (kind_of S hy.1) (kind_of S hz.1)).trans (h _)

/-- a, b = (x, y), the stores in their order: one of the names is a cell -/
theorem ex1_tupC {es : List Expr} {k : Nat} {tpos pos : Pos} {e : Expr} {p : PV} {B : Sig} (h : Ev g d K σ ω e p) (hb : bindT (.Tuple es k tpos) p = some B) (ht : tgtOk K ω (.Tuple es k tpos))
    (hP : P .next (B ++ σ) ω) (hs : ∀ env, swapsWithSole [.Tuple es k tpos] e pos.line env = pure false)
    (hw : ∀ (c : Cx) (W : Wd) (s : Shared), St g c K W σ ω s.heap s.toks → swappedStores [.Tuple es k tpos] e c.env = pure Option.none) :
    Ex1 g d K σ ω (.Assign [.Tuple es k tpos] e pos) P := fun c W A s R S =>
  Assign_Tuple (h.run R S fun v W' h' tk' r u => assign_tgt (s := { s with heap := h', toks := tk' }) (S.keeps u) R hb ht r fun h2 tk2 S2 m le =>
    ⟨.next, _, ω, W', h2, tk2, rfl, hP, rfl, S2, u.later.trans (Later.of_mod m.any le)⟩) (hs _) (hw c W s S)

/-- the items of a tuple, in the other order -/
theorem unpack_back {env : Env} {W' : Wd} {h' : Heap} {tk' : Nat} (R : Room d A) (S1 : St g c K W' σ ω h' tk') {ps : List PV} {v : Value} (r : Rep W' h' (.tup ps) v) {names : List Str} (hlen : names.length = ps.length) (ht : ∀ x ∈ names, LC K ω x)
    {prog : Program} {w : World} {Q : Flow → Shared → Prop} {E : Value → Shared → Prop}
    (hQ : ∀ h3 tk3, St g c K W' (names.zip ps ++ σ) ω h3 tk3 → Mod NoO h' h3 → tk' ≤ tk3 → Q .next { s with heap := h3, toks := tk3 }) :
    wpAny (model prog w) A (unpackItems v names.length none) (fun items s₂ => wpAny (model prog w) A (assignInOrder (names.reverse.map fun n => bindName c.env n) items.reverse) (fun _ => Q .next) E s₂) E { s with heap := h', toks := tk' } := by
  obtain ⟨a, items, rfl, hO, hT, rl⟩ := rep_tup.mp r
  have n3 := rl.length
  rw [Array.length_toList] at n3
  rw [hlen.trans n3.symm]
  refine unpackItems_tuple (s := { s with heap := h', toks := tk' }) R.hd hT fun h2 he => ?_
  have ex := extBut_fresh he
  have u2 := up_ext (s := { s with heap := h', toks := tk' }) S1.sok ex (Nat.le_refl tk')
  have rr : RepL W' h2 ps.reverse items.toList.reverse := by
    refine RepL.of_get (by simp [n3]) fun i p v hp hv => ?_
    have hi : i < ps.length := by
      rcases Nat.lt_or_ge i ps.length with h | h
      · exact h
      · rw [List.getElem?_eq_none (by simpa using h)] at hp; cases hp
    rw [List.getElem?_reverse hi] at hp
    rw [List.getElem?_reverse (by rw [Array.length_toList, n3]; exact hi)] at hv
    obtain ⟨v', hv', rv⟩ := (rl.ext ex).get _ p hp
    rw [Array.length_toList, n3] at hv
    rw [hv'] at hv; cases hv
    exact rv
  refine bind_names (s := { s with heap := h2, toks := tk' }) ps.reverse (xs := names.reverse) (by simp [hlen]) (fun x hx => ht x (List.mem_reverse.mp hx)) (S1.keeps u2) rr fun h3 tk3 S3 m le => ?_
  have e : (names.reverse.zip ps.reverse).reverse = names.zip ps := by
    rw [List.zip_eq_zipWith, List.reverse_zipWith (by simp [hlen]), List.reverse_reverse, List.reverse_reverse, ← List.zip_eq_zipWith]
  rw [e] at S3
  exact hQ h3 tk3 S3 ((ex.mod (O := NoO)).trans (OGrow.refl _ _) m) le

theorem ex1_swap2 {x y : Str} {px py tpos vpos pos : Pos} {k k' : Nat} {e1 e2 : Expr} {p q : PV} (h : Ev g d K σ ω (.Tuple [e1, e2] k' vpos) (.tup [p, q])) (hx : LC K ω x) (hy : LC K ω y) (hP : P .next ((x, p) :: (y, q) :: σ) ω)
    (hw : ∀ env, swappedStores [.Tuple [.Name x px, .Name y py] k tpos] (.Tuple [e1, e2] k' vpos) (envOf K env) = pure (some [x, y]) := by intro _; rfl) :
    Ex1 g d K σ ω (.Assign [.Tuple [.Name x px, .Name y py] k tpos] (.Tuple [e1, e2] k' vpos) pos) P := fun c W A s R S =>
  Assign_Tuple_swapped (h.run R S fun v W' h' tk' r u => unpack_back (env := c.env) (names := [x, y]) R (S.keeps u) r rfl (fun z hz => by
    rcases List.mem_cons.mp hz with rfl | hz
    · exact hx
    · rw [List.mem_singleton.mp hz]; exact hy) fun h3 tk3 S3 m le => ⟨.next, _, ω, W', h3, tk3, rfl, hP, rfl, S3, u.later.trans (Later.of_mod m.any le)⟩) rfl (swap_of2 S hx hy hw)

theorem ex1_swap3 {x y z : Str} {px py pz tpos vpos pos : Pos} {k k' : Nat} {e1 e2 e3 : Expr} {p q o : PV} (h : Ev g d K σ ω (.Tuple [e1, e2, e3] k' vpos) (.tup [p, q, o])) (hx : LC K ω x) (hy : LC K ω y) (hz : LC K ω z) (hP : P .next ((x, p) :: (y, q) :: (z, o) :: σ) ω)
    (hw : ∀ env, swappedStores [.Tuple [.Name x px, .Name y py, .Name z pz] k tpos] (.Tuple [e1, e2, e3] k' vpos) (envOf K env) = pure (some [x, y, z]) := by intro _; rfl) :
    Ex1 g d K σ ω (.Assign [.Tuple [.Name x px, .Name y py, .Name z pz] k tpos] (.Tuple [e1, e2, e3] k' vpos) pos) P := fun c W A s R S =>
  Assign_Tuple_swapped (h.run R S fun v W' h' tk' r u => unpack_back (env := c.env) (names := [x, y, z]) R (S.keeps u) r rfl (fun u hu => by
    rcases List.mem_cons.mp hu with rfl | hu
    · exact hx
    · rcases List.mem_cons.mp hu with rfl | hu
      · exact hy
      · rw [List.mem_singleton.mp hu]; exact hz) fun h3 tk3 S3 m le => ⟨.next, _, ω, W', h3, tk3, rfl, hP, rfl, S3, u.later.trans (Later.of_mod m.any le)⟩) rfl (swap_of3 S hx hy hz hw)
end
end Mine

namespace Mine
open PySem PySem.W PyProof.Rows


section
variable {g : Pg} {d : Nat} {K : Kn} {σ : Sig} {ω : Own} {c : Cx} {W : Wd} {A : Around} {s : Shared} {P : PostT}

/-- a, b = [..] -/
theorem assign_tgtL (S : St g c K W σ ω s.heap s.toks) (R : Room d A) {es : List Expr} {k : Nat} {pos : Pos} {ps : List PV} {B : Sig} {v : Value} (hb : bindNames es ps = some B) (ht : tgtOk K ω (.Tuple es k pos)) (r : Rep W s.heap (.lst ps) v)
    {prog : Program} {w : World} {Q : Unit → Shared → Prop} {E : Value → Shared → Prop} (hQ : ∀ h' tk', St g c K W (B ++ σ) ω h' tk' → Mod NoO s.heap h' → s.toks ≤ tk' → Q () { s with heap := h', toks := tk' }) :
    wpAny (model prog w) A (assign (.Tuple es k pos) c.env v) Q E s := by
  obtain ⟨a, items, rfl, hO, hT, rl⟩ := rep_lst.mp r
  obtain ⟨n1, n2⟩ := bindNames_len (env := c.env) _ hb
  have n3 := rl.length
  rw [Array.length_toList] at n3
  rw [assign_Tuple]
  refine wpAny_bind (wpAny_standAt ?_)
  unfold unpack
  rw [n1, n2, ← n3]
  refine wpAny_bind (wpAny_holding (kun_itemsOf R.hd hT fun h' he => ?_))
  have ex := extBut_fresh he
  have u := up_ext S.sok ex (Nat.le_refl s.toks)
  refine assign_names (s := { s with heap := h' }) _ hb ht (S.keeps u) (rl.ext ex) fun h'' tk' S' m le => ?_
  exact hQ h'' tk' S' ((ex.mod (O := NoO)).trans (OGrow.refl _ _) m) le

theorem ex1_unpackL {es : List Expr} {k : Nat} {tpos pos : Pos} {e : Expr} {ps : List PV} {B : Sig} (h : Ev g d K σ ω e (.lst ps)) (hb : bindNames es ps = some B) (ht : tgtOk K ω (.Tuple es k tpos))
    (hP : P .next (B ++ σ) ω) (hs : ∀ env, swapsWithSole [.Tuple es k tpos] e pos.line env = pure false := by intro _; rfl)
    (hw : ∀ env, swappedStores [.Tuple es k tpos] e env = pure Option.none := by intro _; rfl) :
    Ex1 g d K σ ω (.Assign [.Tuple es k tpos] e pos) P := fun c W A s R S =>
  Assign_Tuple (h.run R S fun v W' h' tk' r u => assign_tgtL (s := { s with heap := h', toks := tk' }) (S.keeps u) R hb ht r fun h2 tk2 S2 m le =>
    ⟨.next, _, ω, W', h2, tk2, rfl, hP, rfl, S2, u.later.trans (Later.of_mod m.any le)⟩) (hs _) (hw _)

/-! a new list and a value, stored in the other order -/

/-- a list that stands in the frame, not yet at a name; the frame owns none else -/
theorem St.storeOwn0 {x : Str} {l : List PV} {items : Array Value} {a : Addr} {M : Model} {E : Value → Shared → Prop} {Q : Unit → Shared → Prop} (S1 : St g c K W σ [] s.heap s.toks) (haO : W.O a) (hbase : c.base.get? a = Option.none) (hcO : ¬ c.O a) (hl : OwnL s.heap a items) (r : RepL W s.heap l items.toList)
    (hK : K.lookup x = some .local) (hσ : σ.lookup x = Option.none)
    (hQ : ∀ h' tk', St g c K W σ [(x, l)] h' tk' → Mod NoO s.heap h' → s.toks ≤ tk' → Q () { s with heap := h', toks := tk' }) : wpAny M A (storeName c.env x (.ref a)) Q E s := by
  obtain ⟨m, hm⟩ := S1.ns
  have hk1 : c.env.kindOf x = some .local := by rcases S1.known x _ hK with h1 | ⟨h1, _⟩; exact h1; cases h1
  refine wpAny_storeName_local hk1 hm (fun h' hn' hs' => ?_) (not_class S1)
  have hk : (K.lookup x = some .local ∧ ∃ m, s.heap.Ns c.env.locals m ∧ h'.Ns c.env.locals (fun z => if z = x then some (.ref a) else m z) ∧ Heap.SameBut c.env.locals s.heap h') ∨
    (K.lookup x = some .cell ∧ ∃ k ov, c.env.cells.lookup x = some k ∧ s.heap.IsCell k ov ∧ h'.IsCell k (some (.ref a)) ∧ Heap.SameBut k s.heap h') := .inl ⟨hK, m, hm, hn', hs'⟩
  have hb' : ∃ o, h'.get? c.env.locals = some o := let ⟨o, _, _, e, _⟩ := hn'; ⟨o, e⟩
  have hmod0 : Mod NoO s.heap h' := sameBut_mod hs' (fun o e hO hst => not_stays_ns (O := NoO) hm o e hO hst) hb'
  have hmod : Mod W.O s.heap h' := hmod0.any
  have hbl : ∀ a items, s.heap.IsList a items → a ≠ c.env.locals := fun a items ha => (ns_ne_list hm ha).symm
  refine hQ h' _ ⟨fun q o e => ?_, S1.ok, S1.kind, S1.globals, S1.builtins, ⟨_, hn'⟩, S1.lfresh, S1.known, fun y hy => let ⟨k, ov, e1, e2⟩ := S1.cell y hy; ⟨k, ov, e1, e2.sameBut hs' (ns_ne_cell hm e2).symm⟩, S1.cfresh, S1.apart, ?_,
    ⟨fun _ => a, fun y l1 hy => ?_, fun y z hyz hy hz => ?_⟩, S1.sub, fun q ha => ?_, (S1.toks (Nat.le_succ _)).tok, (S1.toks (Nat.le_succ _)).pos⟩ hmod0 (Nat.le_succ _)
  · exact (hs'.2 q (fun e' => by rw [e', S1.lfresh] at e; cases e)).trans (S1.ext q o e)
  · intro y q hq
    have hyx : y ≠ x := fun e => by rw [e, hσ] at hq; cases hq
    obtain ⟨u, hu, hr⟩ := S1.vars y q hq
    exact ⟨u, hu.stored hyx hk S1.apart, hr.mono hmod.seq (Grow.refl _ _)⟩
  · rw [List.lookup_cons] at hy
    cases hb : y == x with
    | true =>
      rw [hb] at hy; cases hy
      have e := eq_of_beq hb
      subst e
      exact ⟨.inl ⟨hK, _, hn', by simp⟩, haO, ⟨(fun e => by rw [hK] at e; cases e), fun _ => ⟨hcO, hbase⟩⟩, items, hl.sameBut hs' (hbl _ _ hl.isList), r.mono hmod.seq (Grow.refl _ _)⟩
    | false => rw [hb] at hy; cases hy
  · have alive : ∀ z, (([(x, l)] : Own).lookup z).isSome = true → z = x := fun z hz => by
      rw [List.lookup_cons] at hz
      cases hb : z == x with
      | true => exact eq_of_beq hb
      | false => rw [hb] at hz; cases hz
    exact absurd ((alive y hy).trans (alive z hz).symm) hyz
  · obtain ⟨o, ho⟩ := S1.valid q ha
    by_cases hab : q = c.env.locals
    · exact hab ▸ hb'
    · exact ⟨o, (hs'.2 q hab).trans ho⟩

theorem ex1_swap_own {x y : Str} {px py tpos vpos pos : Pos} {k k' : Nat} {e1 e2 : Expr} {l : List PV} {q : PV} (h1 : EvNew g d K σ [] e1 l) (h2 : Ev g d K σ [] e2 q) (hx : K.lookup x = some .local) (hy : K.lookup y = some .local) (hxy : x ≠ y) (hσ : σ.lookup x = Option.none)
    (hP : P .next ((y, q) :: σ) [(x, l)]) (a1 : ∀ env, starEach [e1, e2] env = (false, eval e1 env) :: starEach [e2] env := by intro _; rfl) (a2 : ∀ env, starEach [e2] env = (false, eval e2 env) :: starEach [] env := by intro _; rfl)
    (hw : ∀ env, swappedStores [.Tuple [.Name x px, .Name y py] k tpos] (.Tuple [e1, e2] k' vpos) (envOf K env) = pure (some [x, y]) := by intro _; rfl) :
    Ex1 g d K σ [] (.Assign [.Tuple [.Name x px, .Name y py] k tpos] (.Tuple [e1, e2] k' vpos) pos) P := fun c W A s R S => by
  refine Assign_Tuple_swapped ?_ rfl (swap_of2 S ⟨.inl hx, rfl⟩ ⟨.inl hy, rfl⟩ hw)
  refine wpAny_Tuple_spliced (args_cons (wpAny_mono (h1 c W A s R S) (fun v1 s1 x1 => ?_) fun _ _ f => f.elim) (a1 _))
  obtain ⟨a, items, W1, hh1, tk1, rfl, rfl, u1, o1, r1⟩ := x1
  have S1 := S.keepsN u1
  refine args_cons (h2.run (s := { s with heap := hh1, toks := tk1 }) R S1 fun v2 W2 hh2 tk2 r2 u2 => args_nil ⟨by show (2 : Nat) ≤ sizeLine; decide, ?_⟩) (a2 _)
  have S2 := S1.keeps u2
  dsimp only
  generalize hH : hh2.push { cls := .type "tuple", data := .seq [Value.ref a, v2].toArray } = H
  have exT : Ext hh2 H := by rw [← hH]; exact ext_push _ _
  have hT : IsTup H hh2.objs.size #[.ref a, v2] := by rw [← hH]; exact ⟨_, Heap.get?_push_size _ rfl, rfl, 0, rfl⟩
  show wpAny _ _ (unpackItems (.ref hh2.objs.size) (#[Value.ref a, v2] : Array Value).size Option.none) _ _ _
  refine unpackItems_tuple (s := { s with heap := H, toks := tk2 }) R.hd hT fun h3 he => ?_
  have ex3 := exT.trans (extBut_fresh he)
  have u3 := up_ext (s := { s with heap := hh2, toks := tk2 }) S2.sok ex3 (Nat.le_refl tk2)
  have S3 := S2.keeps u3
  have o3 := (o1.ext u2.ext).ext ex3
  have haO : W2.O a := by rw [u2.o]; exact (u1.o a).mpr (.inr rfl)
  have hbase : c.base.get? a = Option.none := gone_before S.ext u1.fresh
  have hcO : ¬ c.O a := fun hO => by
    obtain ⟨o, ho⟩ := S.valid a (S.sub a hO)
    rw [u1.fresh] at ho; cases ho
  show wpAny _ A (do holding [Value.ref a] (bindName c.env y v2); assignInOrder [fun v => bindName c.env x v] [Value.ref a]) _ _ _
  refine wpAny_bind (wpAny_holding (wpAny_bindName (S3.store (s := { s with heap := h3, toks := tk2 }) (.inl hy) rfl (r2.ext ex3) fun h4 tk4 S4 m4 le4 => ?_)))
  have o4 : OwnL h4 a items := by
    obtain ⟨_, ho, n, rfl⟩ := o3
    exact ⟨_, m4.keep a _ ho (fun x => x) (stays_seq rfl), n, rfl⟩
  show wpAny _ A (do holding [] (bindName c.env x (.ref a)); assignInOrder [] []) _ _ _
  refine wpAny_bind (wpAny_holding (wpAny_bindName (S4.storeOwn0 (s := { s with heap := h4, toks := tk4 }) haO hbase hcO o4 (((r1.up u2).ext ex3).mono m4.any.seq (Grow.refl _ _)) hx ?_ fun h5 tk5 S5 m5 le5 => ?_)))
  · rw [List.lookup_cons, beq_eq_false_iff_ne.mpr hxy]; exact hσ
  exact wpAny_pure ⟨.next, _, _, W2, h5, tk5, rfl, hP, rfl, S5, ((u1.later.trans (u2.trans u3).later).trans (Later.of_mod m4.any le4)).trans (Later.of_mod m5.any le5)⟩
end
end Mine

namespace Mine
open PySem PySem.W PyProof.Rows

/-! a comprehension with two for's -/

section
variable {g : Pg} {d : Nat} {K : Kn} {σ : Sig} {ω : Own} {c : Cx} {W : Wd} {A : Around} {s : Shared}

theorem comp2_inner_core {prog : Program} {w : World} {R : Result → Shared → Prop} {elt target iter : Expr} {g1 : Comprehension} {scope : Scope} {pos : Pos} {it acc : Value} {env : Env} (I : Nat → Shared → Prop)
    (turn : ∀ n s, I n s → wpAny (model prog w) A (pyNext it) (fun r s₁ => match r with
      | none => R (.ok .next) s₁
      | some v => wpAny (model prog w) A (letOwnedTupleGo target it v) (fun _ s₁' => wpAny (model prog w) A (assign target env v) (fun _ s₂ =>
          wpAny (model prog w) A (eval elt env) (fun x s₄ => wpAny (model prog w) A (call (.builtin "list.append") [acc, x]) (fun _ s₅ => ∃ m, m < n ∧ I m s₅) (fun _ _ => False) s₄) (fun _ _ => False) s₂) (fun _ _ => False) s₁') (fun _ _ => False) s₁) (fun _ _ => False) s)
    (n : Nat) (h : I n s) : codeAny (model prog w) A (.compLoop (.ListComp elt [g1, ⟨target, iter, [], 0⟩] scope pos) 1 it acc env) R s := by
  refine codeAny_loop rfl I (fun n s hI => ?_) n h
  show wpAny _ A ((compTurn (.ListComp elt [g1, ⟨target, iter, [], 0⟩] scope pos) 1 it acc env).onRaise (fun x => do noteFrame x env; theTreesLotGoes x)) _ _ s
  refine wpAny_noted ?_
  show wpAny _ A (standAt iter.pos >>= fun _ => pyNext it >>= _) _ _ s
  refine wpAny_bind (wpAny_standAt (wpAny_bind (wpAny_mono (turn n s hI) (fun r s₁ h₁ => ?_) fun _ _ f => f.elim)))
  cases r with
  | none => exact wpAny_pure h₁
  | some v =>
    refine wpAny_bind (wpAny_mono h₁ (fun _ s₁' h₁' => wpAny_bind (wpAny_mono h₁' (fun _ s₂ h₂ => ?_) fun _ _ f => f.elim)) fun _ _ f => f.elim)
    refine wpAny_bind (wpAny_tests_nil ?_)
    show wpAny _ A ((eval elt env >>= fun x => call (.builtin "list.append") [acc, x] >>= fun _ => pure ()) >>= _) _ _ _
    exact wpAny_bind (wpAny_bind (wpAny_mono h₂ (fun x s₄ h₄ => wpAny_bind (wpAny_mono h₄ (fun _ s₅ h₅ => wpAny_pure (wpAny_pure ⟨rfl, h₅⟩)) fun _ _ f => f.elim)) fun _ _ f => f.elim))

theorem comp2_outer_core {prog : Program} {w : World} {R : Result → Shared → Prop} {elt target iter iter2 : Expr} {t2 : Expr} {scope : Scope} {pos : Pos} {it acc : Value} {env : Env} (I : Nat → Shared → Prop) (hf : ∀ x, foldedSetIterable iter2 env x = pure x)
    (turn : ∀ n s, I n s → wpAny (model prog w) A (pyNext it) (fun r s₁ => match r with
      | none => R (.ok .next) s₁
      | some v => wpAny (model prog w) A (letOwnedTupleGo target it v) (fun _ s₁' => wpAny (model prog w) A (assign target env v) (fun _ s₂ =>
          wpAny (model prog w) A (eval iter2 env) (fun x s₄ => wpAny (model prog w) A (pyIter x) (fun it2 s₅ => codeAny (model prog w) A (.compStart (.ListComp elt [⟨target, iter, [], 0⟩, ⟨t2, iter2, [], 0⟩] scope pos) 1 it2 acc env)
            (fun r s₆ => ∃ f, r = .ok f ∧ ∃ m, m < n ∧ I m s₆) s₅) (fun _ _ => False) s₄) (fun _ _ => False) s₂) (fun _ _ => False) s₁') (fun _ _ => False) s₁) (fun _ _ => False) s)
    (n : Nat) (h : I n s) : codeAny (model prog w) A (.compLoop (.ListComp elt [⟨target, iter, [], 0⟩, ⟨t2, iter2, [], 0⟩] scope pos) 0 it acc env) R s := by
  refine codeAny_loop rfl I (fun n s hI => ?_) n h
  show wpAny _ A ((compTurn (.ListComp elt [⟨target, iter, [], 0⟩, ⟨t2, iter2, [], 0⟩] scope pos) 0 it acc env).onRaise (fun x => do noteFrame x env; theTreesLotGoes x)) _ _ s
  refine wpAny_noted ?_
  show wpAny _ A (standAt iter.pos >>= fun _ => pyNext it >>= _) _ _ s
  refine wpAny_bind (wpAny_standAt (wpAny_bind (wpAny_mono (turn n s hI) (fun r s₁ h₁ => ?_) fun _ _ f => f.elim)))
  cases r with
  | none => exact wpAny_pure h₁
  | some v =>
    refine wpAny_bind (wpAny_mono h₁ (fun _ s₁' h₁' => wpAny_bind (wpAny_mono h₁' (fun _ s₂ h₂ => ?_) fun _ _ f => f.elim)) fun _ _ f => f.elim)
    refine wpAny_bind (wpAny_tests_nil ?_)
    show wpAny _ A (eval iter2 env >>= _) _ _ _
    refine wpAny_bind (wpAny_mono h₂ (fun x s₄ h₄ => ?_) fun _ _ f => f.elim)
    show wpAny _ A (standAt iter2.pos >>= fun _ => foldedSetIterable iter2 env x >>= _) _ _ _
    refine wpAny_bind (wpAny_standAt (wpAny_bind (wpAny_of_eq (hf x) ?_)))
    refine wpAny_bind (wpAny_holding (wpAny_mono h₄ (fun it2 s₅ h₅ => ?_) fun _ _ f => f.elim))
    refine wpAny_bind (wpAny_runOwn (codeAny_mono h₅ fun r s₆ h₆ => ?_))
    obtain ⟨f, rfl, hm⟩ := h₆
    exact wpAny_pure ⟨rfl, hm⟩
end
end Mine

namespace Mine
open PySem PySem.W PyProof.Rows

section
variable {g : Pg} {d : Nat} {K : Kn} {σ : Sig} {ω : Own} {c : Cx} {W : Wd} {A : Around} {s : Shared}

theorem compStart_inner {prog : Program} {w : World} {R : Result → Shared → Prop} {elt t2 i2 : Expr} {g1 : Comprehension} {scope : Scope} {pos : Pos} {it acc : Value} {env : Env}
    (h0 : codeAny (model prog w) A (.compLoop (.ListComp elt [g1, ⟨t2, i2, [], 0⟩] scope pos) 1 it acc env) R s)
    (h : wpAny (model prog w) A (pyIter it) (fun it' s' => codeAny (model prog w) A (.compLoop (.ListComp elt [g1, ⟨t2, i2, [], 0⟩] scope pos) 1 it' acc env) R s') (fun _ _ => False) s) :
    codeAny (model prog w) A (.compStart (.ListComp elt [g1, ⟨t2, i2, [], 0⟩] scope pos) 1 it acc env) R s := by
  refine codeAny_of_tree ?_
  show wpAny _ _ ((compStart (.ListComp elt [g1, ⟨t2, i2, [], 0⟩] scope pos) 1 it acc env).onRaise (fun x => do noteFrame x env; standAt theWindowsPlace)) _ _ s
  refine wpAny_notedAt ?_
  unfold compStart
  show wpAny _ _ (ask >>= _) _ _ s
  refine wpAny_bind (wpAny_askSetting (wpAny_ite ?_))
  split
  · first
      | exact wpAny_bind (wpAny_pure (wpAny_pure (And.intro rfl h0)))
      | exact wpAny_pure (And.intro rfl h0)
  · refine wpAny_bind (wpAny_rule ?_)
    show wpAny _ _ (standAt i2.pos >>= _) _ _ s
    exact wpAny_bind (wpAny_standAt (wpAny_bind (wpAny_mono h (fun it' s' h' => wpAny_pure (And.intro rfl h')) fun _ _ x => x.elim)))

/-- the list in the making, behind a loop: as it was from h0 on -/
noncomputable def AccPost (g : Pg) (c : Cx) (K : Kn) (W0 : Wd) (σ : Sig) (ω : Own) (D : Addr) (out : List PV) (h0 : Heap) (tk0 : Nat) (s s' : Shared) : Prop :=
  ∃ W' h' tk' items', s' = { s with heap := h', toks := tk' } ∧ St g c K W' σ ω h' tk' ∧ h'.IsList D items' ∧ RepL W' h' out items'.toList ∧ W'.O = W0.O ∧ Later W0 W' h0 h' tk0 tk'

theorem acc_push {D : Addr} {items : Array Value} {acc : List PV} {p : PV} {v : Value} (S : St g c K W σ ω s.heap s.toks) (hD : W.O D) (hb : c.base.get? D = Option.none) (hω : ∀ x l, ω.lookup x = some l → K.lookup x = some .free)
    (hl : s.heap.IsList D items) (rl : RepL W s.heap acc items.toList) (rv : Rep W s.heap p v) (hn : acc.length ≤ 4096) {prog : Program} {w : World} {Q : Value → Shared → Prop} {E : Value → Shared → Prop}
    (hQ : ∀ h', St g c K W σ ω h' s.toks → h'.IsList D (items.push v) → RepL W h' (acc ++ [p]) (items.push v).toList → Later W W s.heap h' s.toks s.toks → Q .none { s with heap := h' }) :
    wpAny (model prog w) A (call (.builtin "list.append") [.ref D, v]) Q E s := by
  have hsz : items.size ≤ sizeLine := by
    have := rl.length
    rw [Array.length_toList] at this
    rw [this]; exact few hn
  refine wpAny_list_append (hsz := hsz) hl fun h7 hl7 hs7 => ?_
  have S7 := S.acc (tk' := s.toks) hD hb hω hl hl7 hs7 (Nat.le_refl _)
  have ms7 : ModS W.O s.heap h7 := fun b o e hO' _ => (hs7.2 b (fun q => hO' (q ▸ hD))).trans e
  have m7 : Mod W.O s.heap h7 := ⟨fun b o e hO' _ => (hs7.2 b (fun q => hO' (q ▸ hD))).trans e, fun b o e => by
    by_cases hb : b = D
    · subst hb; obtain ⟨o', e', _⟩ := hl7; exact ⟨o', e'⟩
    · exact ⟨o, (hs7.2 b hb).trans e⟩⟩
  refine hQ h7 S7 hl7 ?_ (Later.of_mod m7 (Nat.le_refl _))
  rw [Array.toList_push]
  exact (rl.mono ms7 (Grow.refl _ _)).append (repL_cons.mpr ⟨v, [], rfl, rv.mono ms7 (Grow.refl _ _), repL_nil.mpr rfl⟩)

theorem comp2_inner {elt t2 i2 : Expr} {g1 : Comprehension} {scope : Scope} {pos : Pos} {ps : List PV} {en : Bool} {I : Addr} {fp : List Addr} {F : PV → PV} {D : Addr} {items : Array Value} {acc : List PV} {W0 : Wd} {h0 : Heap} {tk0 : Nat}
    (R : Room d A) (S : St g c K W σ ω s.heap s.toks) (hD : W.O D) (hb : c.base.get? D = Option.none) (hω : ∀ x l, ω.lookup x = some l → K.lookup x = some .free)
    (hit : ItAt W s.heap I en fp ps) (hfp : FpOk W s.heap fp) (hfr : ∀ b ∈ fp, c.base.get? b = Option.none) (hf0 : ∀ b ∈ fp, h0.get? b = Option.none) (l0 : Later W0 W h0 s.heap tk0 s.toks) (hO0 : W.O = W0.O) (het : en = true → isTup t2 = true) (hl : s.heap.IsList D items) (rl : RepL W s.heap acc items.toList)
    (hσ : ∀ x ∈ tgts t2, σ.lookup x = Option.none)
    (body : ∀ p ∈ ps, ∃ B, bindT t2 p = some B ∧ tgtOk K ω t2 ∧ Ev g d K (B ++ σ) ω elt (F p)) (hn : acc.length + ps.length ≤ 4096) :
    codeAny (model g.prog g.w) A (.compLoop (.ListComp elt [g1, ⟨t2, i2, [], 0⟩] scope pos) 1 (.ref I) (.ref D) c.env) (fun r s' => r = .ok .next ∧ AccPost g c K W0 σ ω D (acc ++ ps.map F) h0 tk0 s s') s := by
  refine comp2_inner_core (fun n s' => ∃ i items W' h' tk', n + i = ps.length ∧ s' = { s with heap := h', toks := tk' } ∧ St g c K W' σ ω h' tk' ∧ ItAt W' h' I en fp (ps.drop i) ∧ FpOk W' h' fp ∧ h'.IsList D items ∧
    RepL W' h' (acc ++ (ps.take i).map F) items.toList ∧ W'.O = W0.O ∧ Later W0 W' h0 h' tk0 tk') ?_ ps.length ⟨0, items, W, s.heap, s.toks, by lia, rfl, S, by simpa using hit, hfp, hl, by simpa using rl, hO0, l0⟩
  rintro n s' ⟨i, items, W', h', tk', hni, rfl, S', hit', hfp', hl', rl', hO', lat⟩
  have hDO : W'.O D := by rw [hO', ← hO0]; exact hD
  have halive : ∀ q ∈ fp, ∃ o, h'.get? q = some o := fun q hq => let ⟨_, o, _, e, _⟩ := hfp' q hq; ⟨o, e⟩
  cases hd : ps.drop i with
  | nil =>
    rw [hd] at hit'
    have hi : i = ps.length := by
      have := congrArg List.length hd
      rw [List.length_drop] at this
      simp at this; lia
    subst hi
    refine it_done (s := { s with heap := h', toks := tk' }) R.hd hit' fun h'' kf => ⟨rfl, ?_⟩
    have S'' := S'.turn kf hfp' hfr (Nat.le_refl _)
    have hl'' : h''.IsList D items := by
      obtain ⟨o, ho, hc, n, hdd⟩ := hl'
      exact ⟨o, kf D o (fun hm => (hfp' D hm).1 hDO) ho, hc, n, hdd⟩
    have rl'' : RepL W' h'' (acc ++ ps.map F) items.toList := by
      have := rl'.mono (hfp'.modS kf) (Grow.refl _ _)
      rwa [List.take_length] at this
    exact ⟨W', h'', tk', items, rfl, S'', hl'', rl'', hO', lat.turn kf hf0 hfp' halive (Nat.le_refl _)⟩
  | cons p rest =>
    rw [hd] at hit'
    have hp : ps[i]? = some p := by
      have := congrArg (fun l => l[0]?) hd
      simpa using this
    have hrest : ps.drop (i + 1) = rest := by rw [← List.tail_drop, hd]; rfl
    have hlt : i < ps.length := by
      rcases Nat.lt_or_ge i ps.length with h | h
      · exact h
      · rw [List.getElem?_eq_none h] at hp; cases hp
    obtain ⟨B, hB, hok, helt⟩ := body p (List.mem_of_getElem? hp)
    have htake : ps.take (i + 1) = ps.take i ++ [p] := by rw [List.take_add_one, hp]; rfl
    refine it_step (s := { s with heap := h', toks := tk' }) (t := t2) S'.sok hit' hfp' het fun v s₁ hgo => ?_
    refine hgo _ fun h3 tk3 rp it3 fp3 kf le3 => ?_
    have S3 := S'.turn kf hfp' hfr le3
    have l3 := lat.turn kf hf0 hfp' halive le3
    have hl3 : h3.IsList D items := by
      obtain ⟨o, ho, hc, n, hdd⟩ := hl'
      exact ⟨o, kf D o (fun hm => (hfp' D hm).1 hDO) ho, hc, n, hdd⟩
    have rl3 := rl'.mono (hfp'.modS kf) (Grow.refl _ _)
    refine assign_tgt (s := { s with heap := h3, toks := tk3 }) S3 R hB hok rp fun h4 tk4 S4 m4 le4 => ?_
    obtain ⟨it4, fp4⟩ := it3.mono fp3 m4.any (Grow.refl _ _)
    have hl4 : h4.IsList D items := by
      obtain ⟨o, ho, hc, n, hdd⟩ := hl3
      exact ⟨o, m4.keep D o ho (fun x => x) (stays_seq hdd), hc, n, hdd⟩
    have rl4 := rl3.mono m4.any.seq (Grow.refl _ _)
    refine helt.run (s := { s with heap := h4, toks := tk4 }) R S4 fun v W6 h6 tk6 rv u6 => ?_
    have less : St g c K W6 σ ω h6 tk6 := (S4.keeps u6).less (fun x p hx => by
      have hxt : x ∉ tgts t2 := fun hm => by rw [hσ x hm] at hx; cases hx
      rw [lookup_append_none (bindT_keys hB hxt)]; exact hx) fun _ _ e => e
    obtain ⟨it6, fp6⟩ := it4.mono fp4 u6.ext.mod u6.grow
    have hO6 : W6.O = W0.O := u6.o.trans hO'
    have hDO6 : W6.O D := by rw [u6.o]; exact hDO
    have hlen : (acc ++ (ps.take i).map F).length ≤ 4096 := by rw [List.length_append, List.length_map, List.length_take]; lia
    refine acc_push (s := { s with heap := h6, toks := tk6 }) less hDO6 hb hω (isList_ext hl4 u6.ext) (rl4.up u6) rv hlen fun h7 S7 hl7 rl7 lat7 => ?_
    obtain ⟨it7, fp7⟩ := it6.mono fp6 lat7.mod lat7.grow
    refine ⟨n - 1, by lia, i + 1, _, W6, h7, tk6, by lia, rfl, S7, by rw [hrest]; exact it7, fp7, hl7, ?_, hO6, ((l3.trans (Later.of_mod m4.any le4)).trans u6.later).trans lat7⟩
    rw [htake, List.map_append, ← List.append_assoc]
    exact rl7
end
end Mine

namespace Mine
open PySem PySem.W PyProof.Rows

section
variable {g : Pg} {d : Nat} {K : Kn} {σ : Sig} {ω : Own} {c : Cx} {W : Wd} {A : Around} {s : Shared} {P : PostT}

/-- what a turn of the first for asks: its names, the second for's items, and what each gives -/
noncomputable def Comp2Body (g : Pg) (d : Nat) (names : Kn) (σc : Sig) (t i2 t2 elt : Expr) (ps : List PV) (qs : PV → List PV) (F : PV → PV → PV) : Prop :=
  ∀ p ∈ ps, ∃ B, bindT t p = some B ∧ tgtOk names [] t ∧ EvIt g d names (B ++ σc) [] false i2 (qs p) ∧ (∀ x ∈ tgts t2, (B ++ σc).lookup x = Option.none) ∧
    ∀ q ∈ qs p, ∃ B2, bindT t2 q = some B2 ∧ tgtOk names [] t2 ∧ Ev g d names (B2 ++ (B ++ σc)) [] elt (F p q)

theorem ev_comp2 {t t2 elt iter i2 : Expr} {scope : Scope} {pos : Pos} {ps : List PV} {en : Bool} (σc : Sig) (qs : PV → List PV) (F : PV → PV → PV)
    (hi : EvIt g d K σ ω en iter ps) (het : en = true → isTup t = true) (ok : compOk K scope = true) (hσ : CSub scope.names σc σ)
    (body : Comp2Body g d scope.names σc t i2 t2 elt ps qs F) (hn : (ps.flatMap fun p => (qs p).map (F p)).length ≤ 4096) (hs : ∀ env x, foldedSetIterable iter env x = pure x := by intro _ _; rfl)
    (hs2 : ∀ env x, foldedSetIterable i2 env x = pure x := by intro _ _; rfl) :
    Ev g d K σ ω (.ListComp elt [⟨t, iter, [], 0⟩, ⟨t2, i2, [], 0⟩] scope pos) (.lst (ps.flatMap fun p => (qs p).map (F p))) := fun c W A s R S => by
  rw [eval_ListComp]
  refine wpAny_comprehension_free (use := Option.none) rfl (hs _) (comp_clo S ok) (compOk_use ok).1 (comp_names ok) (wpAny_mono (hi c W A s R S) (fun x s₁ h₁ => wpAny_mono h₁ (fun it s₂ h₂ => ?_) fun _ _ f => f) fun _ _ f => f)
  obtain ⟨I, fp, W2, h2, tk2, rfl, rfl, hit, hfp, hfr, u⟩ := h₂
  refine wpAny_newObj_type (wpAny_compEnv ?_) (by size_fits)
  dsimp only
  generalize hD : h2.objs.size = D
  have hz : (h2.push { cls := .type "list", data := .seq ([] : List Value).toArray }).objs.size = D + 1 := by rw [← hD]; exact Heap.size_push ..
  rw [hz]
  generalize hH : pushCells ((h2.push { cls := .type "list", data := .seq ([] : List Value).toArray }).push { cls := .type "dict", data := .dict #[] }) scope.names = H
  obtain ⟨eH, hl0, S0⟩ := comp_start (ωc := []) S ok hσ CSub.nil u hH.symm
  rw [hD] at hl0 S0
  have S2 := S.keeps u
  have freshD : ∀ a, D ≤ a → s.heap.get? a = Option.none := fun a ha => by
    cases e : s.heap.get? a with
    | none => rfl
    | some o => exact absurd (Heap.lt_size (u.ext _ _ e)) (Nat.not_lt.mpr (hD ▸ ha))
  have hDW : ¬ W.O D := by rw [← u.o, ← hD]; exact S2.freshO
  have gr : Grow W2 (inner W2 D) h2 := ⟨⟨fun a ha => .inl ha, fun a ha => ha.elim .inl fun e => .inr (by rw [e, ← hD]; exact get_fresh _)⟩, fun t x e => e⟩
  obtain ⟨hit0, hfp0⟩ := hit.mono hfp (eH.mod (O := W2.O)) gr
  generalize hcs : cellsFrom (D + 1 + 1) scope.names (clFrom c.env.cells scope.names []) = cs at S0
  have hbase : ∀ b ∈ fp, (⟨cEnv scope c.env (D + 1) cs, s.heap, W.O⟩ : Cx).base.get? b = Option.none := hfr
  have loop : codeAny (model g.prog g.w) A (.compLoop (.ListComp elt [⟨t, iter, [], 0⟩, ⟨t2, i2, [], 0⟩] scope pos) 0 (.ref I) (.ref D) (cEnv scope c.env (D + 1) cs))
      (compPost (model g.prog g.w) A (fun _ _ => False) Option.none (ValPost W (.lst (ps.flatMap fun p => (qs p).map (F p))) s) (.ref D) (D + 1)) { s with heap := H, toks := tk2 } := by
    refine comp2_outer_core (fun n s' => ∃ i items W' h' tk', n + i = ps.length ∧ s' = { s with heap := h', toks := tk' } ∧ St g ⟨cEnv scope c.env (D + 1) cs, s.heap, W.O⟩ scope.names W' σc [] h' tk' ∧
      ItAt W' h' I en fp (ps.drop i) ∧ FpOk W' h' fp ∧ h'.IsList D items ∧ RepL W' h' ((ps.take i).flatMap fun p => (qs p).map (F p)) items.toList ∧ W'.O = (inner W2 D).O ∧ (∀ t x, W2.T t = some x → W'.T t = some x) ∧ tk2 ≤ tk') (hs2 _) ?_ ps.length
      ⟨0, #[], inner W2 D, H, tk2, by lia, rfl, S0, by simpa using hit0, hfp0, hl0, by simp [repL_nil], rfl, fun _ _ e => e, Nat.le_refl _⟩
    rintro n s' ⟨i, items, W', h', tk', hni, rfl, S', hit', hfp', hl', rl', hO', hT', hle'⟩
    have hDO : W'.O D := by rw [hO']; exact .inr rfl
    cases hd : ps.drop i with
    | nil =>
      rw [hd] at hit'
      have hi : i = ps.length := by
        have := congrArg List.length hd
        rw [List.length_drop] at this
        simp at this; lia
      subst hi
      refine it_done (s := { s with heap := h', toks := tk' }) R.hd hit' fun h'' kf => ?_
      have S'' := S'.turn kf hfp' hbase (Nat.le_refl _)
      have hl'' : h''.IsList D items := by
        obtain ⟨o, ho, hc, n, hdd⟩ := hl'
        refine ⟨o, kf D o (fun hm => ?_) ho, hc, n, hdd⟩
        exact (hfp' D hm).1 hDO
      obtain ⟨m, hm⟩ := S''.ns
      have rl'' : RepL W' h'' (ps.flatMap fun p => (qs p).map (F p)) items.toList := by
        have := rl'.mono (hfp'.modS kf) (Grow.refl _ _)
        rwa [List.take_length] at this
      have u' : Up W ⟨W.O, W'.T⟩ s.heap h'' s.toks tk' := ⟨S''.ext, rfl, fun t x e => hT' t x (u.t t x e), S''.tok, Nat.le_trans u.le hle'⟩
      have rl3 : RepL ⟨W.O, W'.T⟩ h'' (ps.flatMap fun p => (qs p).map (F p)) items.toList := RepL.weaken (W := W') (W' := ⟨W.O, W'.T⟩) (fun a ha => by rw [hO']; exact .inl (by rw [u.o]; exact ha)) (fun _ => rfl) rl''
      have hm' : h''.Ns (D + 1) m := hm
      refine ⟨m, hm', fun h3 hs3 => ?_⟩
      have ms : ModS W.O h'' h3 := fun b o e _ hseq => (hs3.2 b (fun q => by
        subst q
        obtain ⟨o', es, ep, e', hd, _⟩ := hm'
        have e2 : h''.get? (D + 1) = some o := e
        rw [e'] at e2; cases e2
        unfold IsSeq at hseq; rw [hd] at hseq; exact hseq)).trans e
      have hC : s.heap.get? (D + 1) = Option.none := freshD _ (Nat.le_succ _)
      refine ⟨⟨W.O, W'.T⟩, h3, tk', rfl, rep_lst.mpr ⟨D, items, rfl, hDW, ?_, RepL.mono (W := ⟨W.O, W'.T⟩) ms (Grow.refl _ _) rl3⟩, ⟨fun b o e => (hs3.2 b (fun q => by rw [q, hC] at e; cases e)).trans (u'.ext b o e), rfl, u'.t, u'.tok, u'.le⟩⟩
      obtain ⟨o, ho, r⟩ := hl''
      exact ⟨o, (hs3.2 D (Nat.ne_of_lt (Nat.lt_succ_self D))).trans ho, r⟩
    | cons p rest =>
      rw [hd] at hit'
      have hp : ps[i]? = some p := by
        have := congrArg (fun l => l[0]?) hd
        simpa using this
      have hrest : ps.drop (i + 1) = rest := by rw [← List.tail_drop, hd]; rfl
      have hlt : i < ps.length := by
        rcases Nat.lt_or_ge i ps.length with h | h
        · exact h
        · rw [List.getElem?_eq_none h] at hp; cases hp
      have htake : ps.take (i + 1) = ps.take i ++ [p] := by rw [List.take_add_one, hp]; rfl
      obtain ⟨B, hB, hok, hev2, hfree, hbody⟩ := body p (List.mem_of_getElem? hp)
      refine it_step (s := { s with heap := h', toks := tk' }) (t := t) S'.sok hit' hfp' het fun v s₁ hgo => ?_
      refine hgo _ fun h3 tk3 rp it3 fp3 kf le3 => ?_
      have S3 := S'.turn kf hfp' hbase le3
      have hl3 : h3.IsList D items := by
        obtain ⟨o, ho, hc, n, hdd⟩ := hl'
        exact ⟨o, kf D o (fun hm => (hfp' D hm).1 hDO) ho, hc, n, hdd⟩
      have rl3 := rl'.mono (hfp'.modS kf) (Grow.refl _ _)
      refine assign_tgt (s := { s with heap := h3, toks := tk3 }) (c := ⟨cEnv scope c.env (D + 1) cs, s.heap, W.O⟩) S3 R hB hok rp fun h4 tk4 S4 m4 le4 => ?_
      obtain ⟨it4, fp4⟩ := it3.mono fp3 m4.any (Grow.refl _ _)
      have hl4 : h4.IsList D items := by
        obtain ⟨o, ho, hc, n, hdd⟩ := hl3
        exact ⟨o, m4.keep D o ho (fun x => x) (stays_seq hdd), hc, n, hdd⟩
      have rl4 := rl3.mono m4.any.seq (Grow.refl _ _)
      refine wpAny_mono (hev2 _ W' A { s with heap := h4, toks := tk4 } R S4) (fun x s5 h5 => wpAny_mono h5 (fun it2 s6 h6 => ?_) fun _ _ f => f) fun _ _ f => f
      obtain ⟨I2, fp2, W6, h6, tk6, rfl, rfl, hit6, hfp6, hfr6, u6⟩ := h6
      have S6 := S4.keeps u6
      have hD6 : W6.O D := by rw [u6.o]; exact hDO
      have hlen : ((ps.take i).flatMap fun p => (qs p).map (F p)).length + (qs p).length ≤ 4096 := by
        have e1 : ps = ps.take i ++ p :: ps.drop (i + 1) := by rw [hrest, ← hd]; exact (List.take_append_drop i ps).symm
        have e2 := hn
        rw [e1, List.flatMap_append, List.flatMap_cons, List.length_append, List.length_append, List.length_map] at e2
        lia
      have inl := comp2_inner (s := { s with heap := h6, toks := tk6 }) (c := ⟨cEnv scope c.env (D + 1) cs, s.heap, W.O⟩) (g1 := ⟨t, iter, [], 0⟩) (i2 := i2) (pos := pos) (scope := scope) (W0 := W') (h0 := h4) (tk0 := tk4) R S6 hD6 (freshD D (Nat.le_refl _)) (fun _ _ e => nomatch e) hit6 hfp6
        (fun b hb => gone_before S4.ext (hfr6 b hb)) hfr6 u6.later u6.o (fun h => nomatch h) (isList_ext hl4 u6.ext) (rl4.up u6) hfree (F := F p) (fun q hq => hbody q hq) hlen
      refine codeAny_mono (compStart_inner inl (it_self (s := { s with heap := h6, toks := tk6 }) hit6 inl)) fun r s7 h7 => ?_
      obtain ⟨rfl, W7, h7, tk7, items7, rfl, S7, hl7, rl7, hO7, lat7⟩ := h7
      obtain ⟨it7, fp7⟩ := it4.mono fp4 lat7.mod lat7.grow
      refine ⟨_, rfl, n - 1, by lia, i + 1, items7, W7, h7, tk7, by lia, rfl, S7.less (fun x p hx => ?_) (fun _ _ e => e), by rw [hrest]; exact it7, fp7, hl7, ?_, hO7.trans hO', fun t x e => lat7.grow.t t x (hT' t x e), Nat.le_trans hle' (Nat.le_trans le3 (Nat.le_trans le4 lat7.le))⟩
      · have hf := (hσ _ (mem_of_lookup hx)).2
        have hxt : x ∉ tgts t := fun hm => by
          rcases (hok x hm).1 with q | q <;> (rw [show scope.names.lookup x = some .free from hf] at q; cases q)
        rw [lookup_append_none (bindT_keys hB hxt)]; exact hx
      · rw [htake, List.flatMap_append]
        simpa using rl7
  exact codeAny_compStart_list loop (it_self (s := { s with heap := H, toks := tk2 }) hit0 loop)
end
end Mine

namespace Mine
open PySem PySem.W PyProof.Rows

/-! the tree of a sort's questions, answered by ranks -/

noncomputable def kwp {α : Type} (n : Nat) (v : Nat → Nat) : KasT α → (α → Prop) → Prop
  | .ret a, Q => Q a
  | .ask i j k, Q => i < n ∧ j < n ∧ kwp n v (k (decide (v i < v j))) Q

theorem kwp_bind {α β : Type} {n : Nat} {v : Nat → Nat} {f : α → KasT β} {Q : β → Prop} : ∀ {t : KasT α}, kwp n v t (fun a => kwp n v (f a) Q) → kwp n v (t.bind f) Q
  | .ret _, h => h
  | .ask _ _ _, ⟨h1, h2, h3⟩ => ⟨h1, h2, kwp_bind h3⟩
theorem kwp_mono {α : Type} {n : Nat} {v : Nat → Nat} {Q Q' : α → Prop} (hq : ∀ a, Q a → Q' a) : ∀ {t : KasT α}, kwp n v t Q → kwp n v t Q'
  | .ret _, h => hq _ h
  | .ask _ _ _, ⟨h1, h2, h3⟩ => ⟨h1, h2, kwp_mono hq h3⟩
theorem kwp_kas {α : Type} {n : Nat} {v : Nat → Nat} {Q : α → Prop} {cmp : Nat → Nat → (Bool → Shared → Prop) → Shared → Prop} {s : Shared} {Q' : α → Shared → Prop}
    (hc : ∀ i j (C : Bool → Shared → Prop), i < n → j < n → C (decide (v i < v j)) s → cmp i j C s) (hq : ∀ a, Q a → Q' a s) : ∀ {t : KasT α}, kwp n v t Q → t.kasWp cmp Q' s
  | .ret _, h => hq _ h
  | .ask i j k, ⟨h1, h2, h3⟩ => hc i j _ h1 h2 (kwp_kas hc hq h3)

section
variable {n : Nat} {v : Nat → Nat}

noncomputable def PGood (n : Nat) (p : Array Nat) : Prop := p.toList.Perm (List.range n)
noncomputable def pv (v : Nat → Nat) (p : Array Nat) (i : Nat) : Nat := v (p.getD i 0)
noncomputable def Asc (v : Nat → Nat) (p : Array Nat) (m : Nat) : Prop := ∀ i j, i ≤ j → j < m → pv v p i ≤ pv v p j
noncomputable def Dsc (v : Nat → Nat) (p : Array Nat) (m : Nat) : Prop := ∀ i j, i ≤ j → j < m → pv v p j ≤ pv v p i

theorem PGood.size {p : Array Nat} (h : PGood n p) : p.size = n := by have := h.length_eq; simpa using this
theorem PGood.lt {p : Array Nat} (h : PGood n p) (hn : 1 ≤ n) (i : Nat) : p.getD i 0 < n := by
  rcases Nat.lt_or_ge i p.size with hi | hi
  · have e : p.getD i 0 = p[i] := by simp [Array.getD, hi]
    rw [e]
    have hm : p[i] ∈ p.toList := by simp
    exact List.mem_range.mp (h.mem_iff.mp hm)
  · have e : p.getD i 0 = 0 := by simp [Array.getD, Nat.not_lt.mpr hi]
    rw [e]; exact hn
theorem PGood.perm {p q : Array Nat} (h : PGood n p) (hp : q.Perm p) : PGood n q := (Array.perm_iff_toList_perm.mp hp).trans h
theorem getD_of {p q : Array Nat} {i j : Nat} (h : p[i]? = q[j]?) : p.getD i 0 = q.getD j 0 := by
  simp only [Array.getD_eq_getD_getElem?, h]
theorem pv_rev {p : Array Nat} {i j : Nat} (hj : j ≤ p.size) (k : Nat) : pv v (kas_rev p i j) k = if i ≤ k ∧ k < j then pv v p (i + j - 1 - k) else pv v p k := by
  have e := getElem?_mirror_all (i := i) hj k
  unfold pv kas_rev
  by_cases h : i ≤ k ∧ k < j
  · rw [if_pos h] at e ⊢; rw [getD_of e]
  · rw [if_neg h] at e ⊢; rw [getD_of e]
theorem PGood.rev {p : Array Nat} (h : PGood n p) (i j : Nat) : PGood n (kas_rev p i j) := h.perm (mirror_perm _ _ _ _)

theorem asc_ok {p : Array Nat} (hp : PGood n p) (hn : 1 ≤ n) : ∀ (f m : Nat), 1 ≤ m → Asc v p m → kwp n v (kas_asc p f m) fun m' => m ≤ m' ∧ m' ≤ m + f ∧ Asc v p m' ∧ (m' = m + f ∨ pv v p m' < pv v p (m' - 1))
  | 0, m, h1, ha => ⟨Nat.le_refl _, Nat.le_refl _, ha, .inl rfl⟩
  | f + 1, m, h1, ha => by
    refine ⟨hp.lt hn _, hp.lt hn _, ?_⟩
    cases hc : decide (v (p.getD m 0) < v (p.getD (m - 1) 0)) with
    | true =>
      simp only [if_true]
      exact ⟨Nat.le_refl _, by lia, ha, .inr (of_decide_eq_true hc)⟩
    | false =>
      simp only [Bool.false_eq_true, if_false]
      have hc' : pv v p (m - 1) ≤ pv v p m := Nat.not_lt.mp (of_decide_eq_false hc)
      refine kwp_mono (fun m' h => ?_) (asc_ok hp hn f (m + 1) (by lia) fun i j hij hj => ?_)
      · exact ⟨by lia, by lia, h.2.2.1, h.2.2.2.imp (fun e => by lia) id⟩
      · rcases Nat.lt_or_ge j m with h | h
        · exact ha i j hij h
        · have : j = m := by lia
          subst this
          rcases Nat.lt_or_ge i j with h2 | h2
          · exact Nat.le_trans (ha i (j - 1) (by (clear h hj hc' hc ha hij hn hp; omega)) (by (clear h2 h hj hc' hc ha hij hn hp; omega))) hc'
          · have : i = j := by lia
            subst this; exact Nat.le_refl _

theorem desc_ok (hn : 1 ≤ n) : ∀ (f : Nat) (p : Array Nat) (m q : Nat), PGood n p → m + f ≤ n → 1 ≤ m → q + 1 ≤ m → Dsc v p m → (∀ k, m - (q + 1) ≤ k → k < m → pv v p k = pv v p (m - 1)) →
    kwp n v (kas_desc f p m q) fun r => PGood n r.1 ∧ 1 ≤ r.2.1 ∧ m ≤ r.2.1 ∧ r.2.1 ≤ m + f ∧ r.2.2 + 1 ≤ r.2.1 ∧ Dsc v r.1 r.2.1 ∧ ∀ k, r.2.1 - (r.2.2 + 1) ≤ k → k < r.2.1 → pv v r.1 k = pv v r.1 (r.2.1 - 1)
  | 0, p, m, q, hp, hm, h1, hq, hd, he => ⟨hp, h1, Nat.le_refl _, Nat.le_refl _, hq, hd, he⟩
  | f + 1, p, m, q, hp, hm, h1, hq, hd, he => by
    refine ⟨hp.lt hn _, hp.lt hn _, ?_⟩
    have grow : ∀ {p' : Array Nat}, Dsc v p' m → pv v p' m ≤ pv v p' (m - 1) → Dsc v p' (m + 1) := fun {p'} hd' hle i j hij hj => by
      rcases Nat.lt_or_ge j m with h | h
      · exact hd' i j hij h
      · have : j = m := by lia
        subst this
        rcases Nat.lt_or_ge i j with h2 | h2
        · exact Nat.le_trans hle (hd' i (j - 1) (by (clear h hj hle hd' he hd hq hm hij hp hn; omega)) (by (clear h2 h hj hle hd' he hd hq hm hij hp hn; omega)))
        · have : i = j := by lia
          subst this; exact Nat.le_refl _
    cases hc : decide (v (p.getD m 0) < v (p.getD (m - 1) 0)) with
    | true =>
      simp only [if_true]
      have hc' : pv v p m < pv v p (m - 1) := of_decide_eq_true hc
      have one : ∀ p' : Array Nat, ∀ k, (m + 1) - (0 + 1) ≤ k → k < m + 1 → pv v p' k = pv v p' (m + 1 - 1) := fun p' k h2 h3 => by
        have : k = m := by lia
        subst this; rfl
      by_cases hq0 : q > 0
      · rw [if_pos hq0]
        have same : ∀ k, pv v (kas_rev p (m - (q + 1)) m) k = pv v p k := fun k => by
          rw [pv_rev (by rw [hp.size]; lia)]
          split
          · rename_i hk
            rw [he _ (by (clear hq0 one hc' hc grow he hd hq h1 hm hp hn; omega)) (by (clear hq0 one hc' hc grow he hd hq h1 hm hp hn; omega)), he k hk.1 hk.2]
          · rfl
        refine kwp_mono (fun r h => ⟨h.1, h.2.1, by lia, by lia, h.2.2.2.2⟩) (desc_ok hn f _ (m + 1) 0 (hp.rev _ _) (by lia) (by lia) (by lia) (grow (fun i j hij hj => by rw [same, same]; exact hd i j hij hj) (by rw [same, same]; exact Nat.le_of_lt hc')) (one _))
      · rw [if_neg hq0]
        exact kwp_mono (fun r h => ⟨h.1, h.2.1, by (clear hq0 one hc' hc grow he hd hq h1 hm hp hn; omega), by (clear hq0 one hc' hc grow he hd hq h1 hm hp hn; omega), h.2.2.2.2⟩) (desc_ok hn f p (m + 1) 0 hp (by (clear hq0 one hc' hc grow he hd hq h1 hp hn; omega)) (by (clear hq0 one hc' hc grow he hd hq hm hp hn h1; omega)) (by (clear hq0 one hc' hc grow he hd hq hm hp hn h1; omega)) (grow hd (Nat.le_of_lt hc')) (one _))
    | false =>
      simp only [Bool.false_eq_true, if_false]
      have hc' : pv v p (m - 1) ≤ pv v p m := Nat.not_lt.mp (of_decide_eq_false hc)
      refine ⟨hp.lt hn _, hp.lt hn _, ?_⟩
      cases hd2 : decide (v (p.getD (m - 1) 0) < v (p.getD m 0)) with
      | true =>
        simp only [if_true]
        exact ⟨hp, h1, Nat.le_refl _, by show m ≤ m + (f + 1); lia, hq, hd, he⟩
      | false =>
        simp only [Bool.false_eq_true, if_false]
        have hd' : pv v p m ≤ pv v p (m - 1) := Nat.not_lt.mp (of_decide_eq_false hd2)
        have eqm : pv v p m = pv v p (m - 1) := Nat.le_antisymm hd' hc'
        refine kwp_mono (fun r h => ⟨h.1, h.2.1, by (clear eqm hd' hd2 hc' hc grow he hd hq h1 hm hp hn; omega), by (clear eqm hd' hd2 hc' hc grow he hd hq h1 hm hp hn; omega), h.2.2.2.2⟩) (desc_ok hn f p (m + 1) (q + 1) hp (by (clear eqm hd' hd2 hc' hc grow he hd hq h1 hp hn; omega)) (by (clear eqm hd' hd2 hc' hc grow he hd hq hm hp hn h1; omega)) (by lia) (grow hd hd') fun k h2 h3 => ?_)
        rw [show m + 1 - 1 = m by lia]
        rcases Nat.lt_or_ge k m with h | h
        · rw [he k (by lia) h, eqm]
        · have : k = m := by lia
          rw [this]

theorem tail3_ok (hn : 1 ≤ n) {p : Array Nat} {m : Nat} (hp : PGood n p) (hm : m ≤ n) (h1 : 1 ≤ m) (hd : Dsc v p m) :
    kwp n v (kas_tail3 m n p) fun r => PGood n r.2 ∧ 1 ≤ r.1 ∧ r.1 ≤ n ∧ Asc v r.2 r.1 := by
  unfold kas_tail3
  refine kwp_bind (kwp_mono (fun m' h => ?_) (asc_ok (v := v) (hp.rev 0 m) hn (n - m) m h1 fun i j hij hj => ?_))
  · exact ⟨hp.rev 0 m, by lia, by lia, h.2.2.1⟩
  · rw [pv_rev (by rw [hp.size]; exact hm), pv_rev (by rw [hp.size]; exact hm), if_pos (by lia), if_pos (by lia)]
    exact hd _ _ (by (clear hd h1 hm hp hn; omega)) (by (clear hd h1 hm hp hn; omega))

theorem descPart_ok (hn : 1 ≤ n) {p : Array Nat} {m : Nat} (hp : PGood n p) (hm : m + 1 ≤ n) (hd : Dsc v p (m + 1)) :
    kwp n v (kas_descPart m n p) fun r => PGood n r.2 ∧ 1 ≤ r.1 ∧ r.1 ≤ n ∧ Asc v r.2 r.1 := by
  unfold kas_descPart
  refine kwp_bind (kwp_mono (fun r h => ?_) (desc_ok hn (n - (m + 1)) p (m + 1) 0 hp (by omega) (by lia) (by lia) hd fun k h2 h3 => ?_))
  · obtain ⟨q1, q2, q3, q4, q5, q6, q7⟩ := h
    split
    · have same : ∀ k, pv v (kas_rev r.1 (r.2.1 - (r.2.2 + 1)) r.2.1) k = pv v r.1 k := fun k => by
        rw [pv_rev (by rw [q1.size]; omega)]
        split
        · rename_i hk
          rw [q7 _ (by (clear q7 q6 q5 q4 q3 q2 q1 hd hm hp hn; omega)) (by (clear q7 q6 q5 q4 q3 q2 q1 hd hm hp hn; omega)), q7 k hk.1 hk.2]
        · rfl
      exact tail3_ok hn (q1.rev _ _) (by omega) q2 fun i j hij hj => by rw [same, same]; exact q6 i j hij hj
    · exact tail3_ok hn q1 (by omega) q2 q6
  · have : k = m := by lia
    subst this; rfl

theorem count_ok (hn : 1 ≤ n) {p : Array Nat} (hp : PGood n p) : kwp n v (kas_count n p) fun r => PGood n r.2 ∧ 1 ≤ r.1 ∧ r.1 ≤ n ∧ Asc v r.2 r.1 := by
  unfold kas_count
  refine kwp_bind (kwp_mono (fun m h => ?_) (asc_ok (v := v) hp hn (n - 1) 1 (Nat.le_refl _) fun i j hij hj => by
    have e1 : i = j := by lia
    rw [e1]; exact Nat.le_refl _))
  obtain ⟨q1, q2, q3, q4⟩ := h
  by_cases e : (m == n) = true
  · rw [if_pos e]
    exact ⟨hp, q1, by lia, q3⟩
  · rw [if_neg e]
    have hlt : m + 1 ≤ n := by
      have : m ≠ n := fun h => e (by simp [h])
      lia
    have hdrop : pv v p m < pv v p (m - 1) := by rcases q4 with h | h; omega; exact h
    by_cases e1 : m > 1
    · rw [if_pos e1]
      refine ⟨hp.lt hn _, hp.lt hn _, ?_⟩
      cases hc : decide (v (p.getD 0 0) < v (p.getD (m - 1) 0)) with
      | true => simp only [if_true]; exact ⟨hp, q1, by lia, q3⟩
      | false =>
        simp only [Bool.false_eq_true, if_false]
        have hc' : pv v p (m - 1) ≤ pv v p 0 := Nat.not_lt.mp (of_decide_eq_false hc)
        have alleq : ∀ k, k < m → pv v p k = pv v p 0 := fun k hk => Nat.le_antisymm (Nat.le_trans (q3 k (m - 1) (by lia) (by (clear hk hc' hc hdrop hlt e q4 q3 q2 q1 hp hn; omega))) hc') (q3 0 k (Nat.zero_le _) hk)
        have same : ∀ k, pv v (kas_rev p 0 m) k = pv v p k := fun k => by
          rw [pv_rev (by rw [hp.size]; lia)]
          split
          · rename_i hk
            rw [alleq _ (by (clear alleq hc' hc e1 hdrop hlt e q4 q3 q2 q1 hp hn; omega)), alleq k hk.2]
          · rfl
        refine descPart_ok hn (hp.rev _ _) hlt fun i j hij hj => ?_
        rw [same, same]
        rcases Nat.lt_or_ge j m with h | h
        · rw [alleq j h, alleq i (by lia)]; exact Nat.le_refl _
        · have : j = m := by (clear hij same alleq hc' hc e1 hdrop hlt e q4 q3 q2 q1 hp hn; omega)
          subst this
          rcases Nat.lt_or_ge i j with h2 | h2
          · rw [alleq i h2, ← alleq (j - 1) (by (clear h2 h hj same alleq hc' hc hdrop hlt e q4 q3 q2 q1 hij hp hn; omega))]; exact Nat.le_of_lt hdrop
          · have : i = j := by (clear h hj same alleq hc' hc e1 hdrop hlt e q4 q3 q2 q1 hp hn; omega)
            subst this; exact Nat.le_refl _
    · rw [if_neg e1]
      have hm1 : m = 1 := by lia
      subst hm1
      refine descPart_ok hn hp hlt fun i j hij hj => ?_
      have : (i = j) ∨ (i = 0 ∧ j = 1) := by lia
      rcases this with rfl | ⟨rfl, rfl⟩
      · exact Nat.le_refl _
      · exact Nat.le_of_lt hdrop

theorem place_ok (hn : 1 ≤ n) {p : Array Nat} {k : Nat} (hp : PGood n p) (hk : k < n) (ha : Asc v p k) : ∀ (f l r : Nat), l ≤ r → r ≤ k → r - l ≤ f → (∀ i, i < l → pv v p i ≤ pv v p k) → (∀ i, r ≤ i → i < k → pv v p k < pv v p i) →
    kwp n v (kas_place p k f l r) fun l' => l' ≤ k ∧ (∀ i, i < l' → pv v p i ≤ pv v p k) ∧ ∀ i, l' ≤ i → i < k → pv v p k < pv v p i
  | 0, l, r, h1, h2, h3, hlo, hhi => ⟨by lia, hlo, fun i h4 h5 => hhi i (by lia) h5⟩
  | f + 1, l, r, h1, h2, h3, hlo, hhi => by
    unfold kas_place
    by_cases hge : l ≥ r
    · rw [if_pos hge]
      exact ⟨by lia, hlo, fun i h4 h5 => hhi i (by lia) h5⟩
    · rw [if_neg hge]
      refine ⟨hp.lt hn _, hp.lt hn _, ?_⟩
      cases hc : decide (v (p.getD k 0) < v (p.getD ((l + r) / 2) 0)) with
      | true =>
        simp only [if_true]
        have hc' : pv v p k < pv v p ((l + r) / 2) := of_decide_eq_true hc
        exact place_ok hn hp hk ha f l ((l + r) / 2) (by lia) (by lia) (by (clear hc' hc hhi hlo h2 h1 ha hk hp hn; omega)) hlo fun i h4 h5 => Nat.lt_of_lt_of_le hc' (ha _ _ h4 h5)
      | false =>
        simp only [Bool.false_eq_true, if_false]
        have hc' : pv v p ((l + r) / 2) ≤ pv v p k := Nat.not_lt.mp (of_decide_eq_false hc)
        exact place_ok hn hp hk ha f ((l + r) / 2 + 1) r (by lia) h2 (by (clear hc' hc hhi hlo h2 h1 ha hk hp hn hge; omega)) (fun i h4 => Nat.le_trans (ha i _ (by lia) (by lia)) hc') hhi

theorem pv_bubble {p : Array Nat} {k l : Nat} (hk : k < p.size) (hl : l ≤ k) (i : Nat) : pv v (bubble p k (k - l)) i = if i = l then pv v p k else if l < i ∧ i ≤ k then pv v p (i - 1) else pv v p i := by
  have e := getElem?_bubble hk (k - l) (by (clear hk hl; omega)) i
  rw [show k - (k - l) = l by lia] at e
  unfold pv
  by_cases h1 : i = l
  · rw [if_pos h1] at e ⊢; rw [getD_of e]
  · rw [if_neg h1] at e ⊢
    by_cases h2 : l < i ∧ i ≤ k
    · rw [if_pos h2] at e ⊢; rw [getD_of e]
    · rw [if_neg h2] at e ⊢; rw [getD_of e]

theorem bin_ok (hn : 1 ≤ n) : ∀ (f : Nat) (p : Array Nat) (k : Nat), PGood n p → k + f ≤ n → Asc v p k → kwp n v (kas_bin f p k) fun p' => PGood n p' ∧ Asc v p' (k + f)
  | 0, p, k, hp, hk, ha => ⟨hp, ha⟩
  | f + 1, p, k, hp, hk, ha => by
    unfold kas_bin
    refine kwp_bind (kwp_mono (fun l h => ?_) (place_ok hn hp (by lia) ha k 0 k (Nat.zero_le _) (Nat.le_refl _) (by lia) (fun i hi => by lia) fun i h1 h2 => by lia))
    obtain ⟨hl, hlo, hhi⟩ := h
    have ks : k < p.size := by rw [hp.size]; lia
    refine kwp_mono (fun p' h => ⟨h.1, by rw [show k + (f + 1) = k + 1 + f by lia]; exact h.2⟩) (bin_ok hn f _ (k + 1) (hp.perm (bubble_perm _ _ _)) (by lia) fun i j hij hj => ?_)
    rw [pv_bubble ks hl, pv_bubble ks hl]
    repeat' split
    all_goals first
      | (exfalso; omega)
      | exact Nat.le_refl _
      | exact hlo _ (by omega)
      | exact Nat.le_of_lt (hhi _ (by lia) (by (clear hij ks hhi hlo hl ha hk hp hn hj; omega)))
      | exact ha _ _ (by lia) (by lia)

theorem sort_ok (hn : 1 ≤ n) : kwp n v (kas_sort n) fun p => p.toList.Perm (List.range n) ∧ (p.toList.map v).Pairwise (· ≤ ·) := by
  have h0 : PGood n (List.toArray (List.range n)) := by unfold PGood; simp
  have fin : ∀ p : Array Nat, PGood n p → Asc v p n → p.toList.Perm (List.range n) ∧ (p.toList.map v).Pairwise (· ≤ ·) := fun p hp ha => by
    refine ⟨hp, ?_⟩
    rw [List.pairwise_map, List.pairwise_iff_getElem]
    intro i j hi hj hij
    have hi' : i < p.size := by simpa using hi
    have hj' : j < p.size := by simpa using hj
    have := ha i j (Nat.le_of_lt hij) (by rw [← hp.size]; exact hj')
    unfold pv at this
    simpa [Array.getD, hi', hj'] using this
  unfold kas_sort
  refine kwp_bind (kwp_mono (fun r h => ?_) (count_ok hn h0))
  obtain ⟨q1, q2, q3, q4⟩ := h
  by_cases hlt : r.1 < n
  · rw [if_pos hlt]
    have e : max r.1 1 = r.1 := by lia
    rw [e]
    refine kwp_mono (fun p h => fin p h.1 ?_) (bin_ok hn (n - r.1) r.2 r.1 q1 (by lia) q4)
    rw [show r.1 + (n - r.1) = n by lia] at h; exact h.2
  · rw [if_neg hlt]
    have e : r.1 = n := by lia
    rw [e] at q4
    exact fin _ q1 q4
end
end Mine

namespace Mine
open PySem PySem.W PyProof.Rows

section
variable {prog : Program} {w : World} {A : Around} {E : Value → Shared → Prop} {s : Shared}

theorem sort_shell {a : Addr} {vs : List Value} {n : Nat} {κ : SortKind} {v : Nat → Nat} {P : PySem.Fin → Shared → Prop} (ho : s.heap.get? a = some (seqObj "list" vs.toArray n)) (h2 : 2 ≤ vs.length) (h64 : vs.length < 64)
    (hk : ∀ (H : Heap) (Q : SortKind → Shared → Prop), (∀ b o, b ≠ a → s.heap.get? b = some o → H.get? b = some o) → Q κ { s with heap := H } → wpAny (model prog w) A (keyKind' vs.toArray) Q (fun _ _ => False) { s with heap := H })
    (ask : ∀ (H : Heap) i j (C : Bool → Shared → Prop), (∀ b o, b ≠ a → s.heap.get? b = some o → H.get? b = some o) → i < vs.length → j < vs.length → C (decide (v i < v j)) { s with heap := H } → kas_ask prog w A κ vs i j C { s with heap := H })
    (h : ∀ p : Array Nat, p.toList.Perm (List.range vs.length) → (p.toList.map v).Pairwise (· ≤ ·) → P (.done (.ret .none)) { s with heap := sortedHeap s.heap a vs (List.toArray (p.toList.map fun i => vs.getD i Value.none)) }) :
    wpAny (model prog w) A (Builtin.«list.sort» ⟨[.ref a], []⟩) P E s := by
  have ha : a < s.heap.objs.size := Heap.lt_size ho
  obtain ⟨e1, ho1⟩ : ∃ e1, (s.heap.update a (Obj.mapSeq fun _ => (#[] : Array Value))).get? a = some (seqObj "list" #[] e1) := ⟨_, get?_update_seq ho fun _ => #[]⟩
  have ho6 : (((s.heap.update a (Obj.mapSeq fun _ => (#[] : Array Value))).push (seqObj "tuple" vs.toArray 0)).push (seqObj "list" #[] 0)).get? a = some (seqObj "list" #[] e1) :=
    Heap.get?_push_of_some _ (Heap.get?_push_of_some _ ho1)
  have keep : ∀ b o, b ≠ a → s.heap.get? b = some o → (((s.heap.update a (Obj.mapSeq fun _ => (#[] : Array Value))).push (seqObj "tuple" vs.toArray 0)).push (seqObj "list" #[] 0)).get? b = some o := fun b o hb e =>
    Heap.get?_push_of_some _ (Heap.get?_push_of_some _ ((Heap.get?_update_ne _ _ _ _ hb).trans e))
  rw [list_sort_plain]
  refine wpAny_bind (listItems_at ho rfl ?_)
  refine wpAny_bind (listUpdate_at ho rfl ?_ (by rw [List.size_toArray, sizeLine_eq]; lia) (Nat.zero_le _))
  refine wpAny_bind (seqEpoch_at ho1 rfl ?_)
  refine wpAny_bind (wpAny_newTuple ?_ (by show vs.length ≤ _; rw [sizeLine_eq]; omega))
  refine wpAny_bind (wpAny_newList ?_ (Nat.zero_le _))
  refine wpAny_holding ?_
  show wpAny (model prog w) A _ P E { s with heap := ((s.heap.update a (Obj.mapSeq fun _ => (#[] : Array Value))).push (seqObj "tuple" vs.toArray 0)).push (seqObj "list" #[] 0) }
  dsimp only
  have hn2 : ¬ vs.toArray.size < 2 := by rw [List.size_toArray]; lia
  rw [if_neg hn2, if_neg hn2]
  refine wpAny_bind (wpAny_mono (hk _ (fun κ' s' => κ' = κ ∧ s' = { s with heap := ((s.heap.update a (Obj.mapSeq fun _ => (#[] : Array Value))).push (seqObj "tuple" vs.toArray 0)).push (seqObj "list" #[] 0) }) keep ⟨rfl, rfl⟩) (fun κ' s0 hk' => ?_) fun _ _ x => x.elim)
  obtain ⟨rfl, rfl⟩ := hk'
  have tree := kwp_kas (s := { s with heap := ((s.heap.update a (Obj.mapSeq fun _ => (#[] : Array Value))).push (seqObj "tuple" vs.toArray 0)).push (seqObj "list" #[] 0) }) (cmp := kas_ask prog w A κ' vs)
    (Q' := fun (p : Array Nat) s' => s' = { s with heap := ((s.heap.update a (Obj.mapSeq fun _ => (#[] : Array Value))).push (seqObj "tuple" vs.toArray 0)).push (seqObj "list" #[] 0) } ∧ p.toList.Perm (List.range vs.length) ∧ (p.toList.map v).Pairwise (· ≤ ·))
    (fun i j C hi hj hC => ask _ i j C keep hi hj hC) (fun p hp => ⟨rfl, hp⟩) (sort_ok (v := v) (n := vs.length) (by lia))
  refine wpAny_bind (wpAny_mono (kat_run (κ := κ') (Q := fun st' s' => ∃ p : Array Nat, p.size = vs.length ∧ arrOf st' = p.map (kas_item (vs.toArray.zip vs.toArray)) ∧ failedOf st' = none ∧ s' = { s with heap := ((s.heap.update a (Obj.mapSeq fun _ => (#[] : Array Value))).push (seqObj "tuple" vs.toArray 0)).push (seqObj "list" #[] 0) } ∧ p.toList.Perm (List.range vs.length) ∧ (p.toList.map v).Pairwise (· ≤ ·))
    rfl h2 h64 (fun p' st' s' a1 a2 a3 a4 => ⟨p', a1, a2, a3, a4⟩) tree) ?_ fun _ _ e => e)
  rintro ⟨⟨⟩, st'⟩ s' ⟨p, hp, har, hf, rfl, hperm, hsort⟩
  dsimp only
  have hout := kat_snds rfl har
  have hsz : (List.toArray (p.toList.map fun i => vs.getD i Value.none)).size = vs.length := by rw [List.size_toArray, List.length_map, Array.length_toList, hp]
  rw [hout]
  refine wpAny_bind (seqEpoch_at ho6 rfl ?_)
  refine wpAny_bind (listUpdate_at ho6 rfl ?_ (Nat.zero_le _) (Nat.le_trans (Nat.le_of_eq hsz) (by rw [sizeLine_eq]; lia)))
  rw [hf]
  simp only [bne_self_eq_false, Bool.false_eq_true, if_false]
  exact wpAny_pure (h p hperm hsort)

theorem sorted_shell {l : Addr} {vs : List Value} {κ : SortKind} {v : Nat → Nat} {Q : Value → Shared → Prop} (hl : s.heap.IsList l vs.toArray) (h2 : 2 ≤ vs.length) (h64 : vs.length < 64)
    (hk : ∀ (H : Heap) (Q : SortKind → Shared → Prop), Ext s.heap H → Q κ { s with heap := H } → wpAny (model prog w) A.in1.in1 (keyKind' vs.toArray) Q (fun _ _ => False) { s with heap := H })
    (ask : ∀ (H : Heap) i j (C : Bool → Shared → Prop), Ext s.heap H → i < vs.length → j < vs.length → C (decide (v i < v j)) { s with heap := H } → kas_ask prog w A.in1.in1 κ vs i j C { s with heap := H })
    (h : ∀ p : Array Nat, p.toList.Perm (List.range vs.length) → (p.toList.map v).Pairwise (· ≤ ·) → Q (.ref (s.heap.objs.size + 1)) { s with heap := sortedAll s.heap vs (List.toArray (p.toList.map fun i => vs.getD i Value.none)) }) :
    wpAny (model prog w) A (call (.builtin "sorted") [.ref l]) Q E s := by
  refine Calls.call_function_entry kind_sorted plain_sorted entry_sorted (args_sorted1 _) ?_
  unfold Builtin.«sorted»
  refine wpAny_bind (m := checkCount "sorted" 1 1 _) (wpAny_pure ?_)
  refine wpAny_bind (collect_list hl ?_ (by rw [sizeLine_eq]; omega))
  refine wpAny_bind (wpAny_newList ?_ (by rw [sizeLine_eq]; omega))
  have hsz : ((s.heap.push (seqObj "list" #[] 0)).update s.heap.objs.size (Obj.mapSeq (· ++ vs.toArray))).objs.size = s.heap.objs.size + 1 := by
    rw [Heap.size_update, size_push']
  have hoL : (((s.heap.push (seqObj "list" #[] 0)).update s.heap.objs.size (Obj.mapSeq (· ++ vs.toArray))).push (seqObj "list" vs.toArray 0)).get? (s.heap.objs.size + 1) = some (seqObj "list" vs.toArray 0) := by
    rw [← hsz]; exact Heap.get?_push_size _ rfl
  have keep : ∀ b o, s.heap.get? b = some o → (((s.heap.push (seqObj "list" #[] 0)).update s.heap.objs.size (Obj.mapSeq (· ++ vs.toArray))).push (seqObj "list" vs.toArray 0)).get? b = some o := fun b o q => by
    have hlt : b < s.heap.objs.size := Heap.lt_size q
    exact Heap.get?_push_of_some _ ((Heap.get?_update_ne _ _ _ _ (Nat.ne_of_lt hlt)).trans (Heap.get?_push_of_some _ q))
  have ext : ∀ H : Heap, (∀ b o, b ≠ s.heap.objs.size + 1 → (((s.heap.push (seqObj "list" #[] 0)).update s.heap.objs.size (Obj.mapSeq (· ++ vs.toArray))).push (seqObj "list" vs.toArray 0)).get? b = some o → H.get? b = some o) → Ext s.heap H := fun H hH b o e =>
    hH b o (Nat.ne_of_lt (Nat.lt_succ_of_lt (Heap.lt_size e))) (keep b o e)
  show wpAny _ _ _ _ _ { s with heap := ((s.heap.push (seqObj "list" #[] 0)).update s.heap.objs.size (Obj.mapSeq (· ++ vs.toArray))).push (seqObj "list" vs.toArray 0) }
  rw [hsz]
  refine wpAny_bind (wpAny_holding (wpAny_call_entry slot_list_sort ⟨_, hoL, rfl⟩ entry_list_sort (sort_shell (v := v) (κ := κ) hoL h2 h64 (fun H Q hH hQ => hk H Q (ext H hH) hQ) (fun H i j C hH hi hj hC => ask H i j C (ext H hH) hi hj hC) fun p a1 a2 => ⟨_, rfl, ?_⟩) (args_list_sort _)))
  exact wpAny_pure ⟨_, rfl, h p a1 a2⟩
end
end Mine

namespace Mine
open PySem PySem.W PyProof.Rows PySem.SeqAt

noncomputable abbrev T3 := UInt64 × UInt64 × UInt64
noncomputable def tup3 (x : T3) : PV := .tup [.flt x.1, .flt x.2.1, .flt x.2.2]
noncomputable def isN (x : UInt64) : Bool := Float64.isNaN x
noncomputable def noNan (a : T3) : Bool := !(isN a.1 || isN a.2.1 || isN a.2.2)
noncomputable def eqF (x y : UInt64) : Bool := Float64.cmp x y == some .eq
noncomputable def ltF (x y : UInt64) : Bool := Float64.cmp x y == some .lt
noncomputable def lt3 (a b : T3) : Bool := if eqF a.1 b.1 then (if eqF a.2.1 b.2.1 then (if eqF a.2.2 b.2.2 then false else ltF a.2.2 b.2.2) else ltF a.2.1 b.2.1) else ltF a.1 b.1

theorem Sok.ext {W : Wd} {h h' : Heap} {tk : Nat} (S : Sok W h tk) (e : Ext h h') : Sok W h' tk :=
  ⟨fun a ha => let ⟨o, ho⟩ := S.valid a ha; ⟨o, e _ _ ho⟩, S.tok, S.pos, let ⟨m, h1, h2⟩ := S.booked; ⟨m, h1.keeps e, h2⟩, S.nolimit.keeps e⟩

section
variable {prog : Program} {w : World} {A : Around} {E : Value → Shared → Prop} {s : Shared} {W : Wd}

theorem oneLt_flt {b : Bool} {x y : UInt64} {t u : Tok} {Q : Bool → Shared → Prop} (h : Q (ltF x y) s) : wpAny (model prog w) A (oneLt' b (.float x t) (.float y u)) Q E s := by
  cases b with
  | false => exact kat_one _ _ (AutoFloatOps.lt_0 h)
  | true =>
    rw [oneLt'_eq]
    simp only [if_true]
    refine wpAny_bind (wpAny_cRoomFor_byValue rfl ?_)
    refine wpAny_bind (wpAny_callSpecialIfBound?_slot (AutoFloatOps.typeIs_float s x t) F.slot_float_lt (call_gives F.slot_float_lt (AutoFloatOps.typeIs_float s x t) F.entry_float_lt (F.args_float_lt_2 _ _) (AutoFloatG5.float___lt___float_float_0 x t y u) ?_))
    exact wpAny_truthy_bool h

theorem rep_tup3 {h : Heap} {x : T3} {v : Value} (r : Rep W h (tup3 x) v) : ∃ a t1 t2 t3, v = .ref a ∧ h.IsTuple a #[.float x.1 t1, .float x.2.1 t2, .float x.2.2 t3] ∧ W.T t1 = some x.1 ∧ W.T t2 = some x.2.1 ∧ W.T t3 = some x.2.2 := by
  obtain ⟨a, items, rfl, _, hT, rl⟩ := rep_tup.mp r
  obtain ⟨v1, v2, v3, e, r1, r2, r3⟩ := repL_three rl
  obtain ⟨t1, rfl, h1⟩ := rep_flt.mp r1
  obtain ⟨t2, rfl, h2⟩ := rep_flt.mp r2
  obtain ⟨t3, rfl, h3⟩ := rep_flt.mp r3
  have : items = #[.float x.1 t1, .float x.2.1 t2, .float x.2.2 t3] := by rw [← Array.toList_inj]; exact e
  subst this
  exact ⟨a, t1, t2, t3, rfl, hT, h1, h2, h3⟩

theorem lt3_at (S : Sok W s.heap s.toks) {b : Bool} {x y : T3} {v u : Value} (hx : noNan x = true) (hy : noNan y = true) (rx : Rep W s.heap (tup3 x) v) (ry : Rep W s.heap (tup3 y) u) {Q : Bool → Shared → Prop} (h : Q (lt3 x y) s) :
    wpAny (model prog w) A (keyLt' (tuples' b) v u) Q E s := by
  obtain ⟨a, t1, t2, t3, rfl, ⟨o, ho, hc, n, hd⟩, e1, e2, e3⟩ := rep_tup3 rx
  obtain ⟨a', t1', t2', t3', rfl, ⟨o', ho', hc', n', hd'⟩, e1', e2', e3'⟩ := rep_tup3 ry
  unfold noNan isN at hx hy
  simp only [Bool.not_eq_true', Bool.or_eq_false_iff] at hx hy
  refine kat_lt ho hd ho' hd' ?_
  unfold lt3 at h
  refine kat_cons (eqBool_flt S e1 e1' hx.1.1 hy.1.1 prog w _ _ ?_)
  refine kat_go (fun q => ?_) fun q => ?_
  · have q' : eqF x.1 y.1 = true := q
    rw [q'] at h
    simp only [if_true] at h
    refine kat_yes (kat_cons (eqBool_flt S e2 e2' hx.1.2 hy.1.2 prog w _ _ ?_))
    refine kat_go (fun q => ?_) fun q => ?_
    · have q' : eqF x.2.1 y.2.1 = true := q
      rw [q'] at h
      simp only [if_true] at h
      refine kat_yes (kat_cons (eqBool_flt S e3 e3' hx.2 hy.2 prog w _ _ ?_))
      refine kat_go (fun q => ?_) fun q => ?_
      · have q' : eqF x.2.2 y.2.2 = true := q
        rw [q'] at h
        exact kat_yes (kat_nil h)
      · have q' : eqF x.2.2 y.2.2 = false := q
        rw [q'] at h
        exact kat_no (oneLt_flt h)
    · have q' : eqF x.2.1 y.2.1 = false := q
      rw [q'] at h
      exact kat_no (oneLt_flt h)
  · have q' : eqF x.1 y.1 = false := q
    rw [q'] at h
    exact kat_no (oneLt_flt h)

theorem repL_map {α : Type} {h : Heap} {f : α → PV} {g : α → Value} : ∀ {l : List α}, (∀ i ∈ l, Rep W h (f i) (g i)) → RepL W h (l.map f) (l.map g)
  | [], _ => repL_nil.mpr rfl
  | a :: r, H => repL_cons.mpr ⟨g a, r.map g, rfl, H a List.mem_cons_self, repL_map fun i hi => H i (List.mem_cons_of_mem _ hi)⟩

theorem tups_of {h : Heap} : ∀ {l : List T3} {vs : List Value}, RepL W h (l.map tup3) vs → ∃ fs, KatTups h vs fs ∧ fs.length = l.length ∧ ∀ f ∈ fs, ∃ x t, f = .float x t
  | [], vs, r => by rw [List.map_nil, repL_nil] at r; subst r; exact ⟨[], KatTups.nil, rfl, fun _ h => nomatch h⟩
  | x :: l, vs, r => by
    rw [List.map_cons, repL_cons] at r
    obtain ⟨v, q, rfl, r1, r2⟩ := r
    obtain ⟨a, t1, t2, t3, rfl, ⟨o, ho, hc, n, hd⟩, _⟩ := rep_tup3 r1
    obtain ⟨fs, k, hl, hf⟩ := tups_of r2
    refine ⟨.float x.1 t1 :: fs, KatTups.cons ho hc hd rfl k, by simp [hl], fun f hm => ?_⟩
    rcases List.mem_cons.mp hm with rfl | hm
    · exact ⟨_, _, rfl⟩
    · exact hf f hm

theorem cv_sorted3 {l l' : List T3} (v : T3 → Nat) (hnan : ∀ a ∈ l, noNan a = true) (hv : ∀ a ∈ l, ∀ b ∈ l, lt3 a b = decide (v a < v b)) (hinj : ∀ a ∈ l, ∀ b ∈ l, v a = v b → a = b)
    (h2 : 2 ≤ l.length) (h64 : l.length < 64) (hp : l'.Perm l) (hs : (l'.map v).Pairwise (· ≤ ·)) : CallV (.builtin "sorted") [.lst (l.map tup3)] (.lst (l'.map tup3)) := fun prog w W A s vs0 R S r => by
  obtain ⟨v0, rfl, rv⟩ := repL_one r
  obtain ⟨a, its, rfl, _, ha, hl⟩ := rep_lst.mp rv
  have n1 := hl.length
  rw [Array.length_toList, List.length_map] at n1
  have hvs : its = its.toList.toArray := by simp
  generalize its.toList = vs at *
  subst hvs
  rw [List.size_toArray] at n1
  have d0 : T3 := (0, 0, 0)
  have rep_at : ∀ i, i < vs.length → Rep W s.heap (tup3 (l.getD i (0, 0, 0))) (vs.getD i Value.none) := fun i hi => by
    have hi' : i < l.length := by lia
    obtain ⟨u, hu, ru⟩ := hl.get i (tup3 l[i]) (by simp [hi'])
    have e1 : vs.getD i Value.none = u := by simp [List.getD_eq_getElem?_getD, hu]
    have e2 : l.getD i (0, 0, 0) = l[i] := by simp [hi']
    rw [e1, e2]; exact ru
  have mem_at : ∀ i, i < vs.length → l.getD i (0, 0, 0) ∈ l := fun i hi => by
    have hi' : i < l.length := by omega
    have e2 : l.getD i (0, 0, 0) = l[i] := by simp [hi']
    rw [e2]; exact List.getElem_mem hi'
  refine sorted_shell (κ := tuples' (Value.type "float" != Value.type "tuple")) (v := fun i => v (l.getD i (0, 0, 0))) ha (by lia) (by lia) (fun H Q hH hQ => ?_) (fun H i j C hH hi hj hC => ?_) fun p hpp hps => ?_
  · obtain ⟨fs, k, hfl, hf⟩ := tups_of (W := W) (h := H) (l := l) (vs := vs) (hl.ext hH)
    refine kat_kind (s := { s with heap := H }) k (by rw [hfl]; lia) (fun f hm => ?_) (by decide) hQ
    obtain ⟨x, t, rfl⟩ := hf f hm
    exact Looks.now
  · have h1 := mem_at i hi
    have h2 := mem_at j hj
    refine lt3_at (s := { s with heap := H }) (S.ext hH) (hnan _ h1) (hnan _ h2) ((rep_at i hi).ext hH) ((rep_at j hj).ext hH) ?_
    rw [hv _ h1 _ h2]; exact hC
  · have hlen : vs.length = l.length := n1
    have e1 : p.toList.map (fun i => l.getD i (0, 0, 0)) = l' := by
      have q1 : (p.toList.map (fun i => l.getD i (0, 0, 0))).Perm l := by
        have := hpp.map (fun i => l.getD i (0, 0, 0))
        refine this.trans (List.Perm.of_eq ?_)
        rw [hlen]
        refine List.ext_getElem (by simp) fun i h1 h2 => ?_
        simp at h1
        simp [h1]
      refine List.Perm.eq_of_pairwise (le := fun a b => v a ≤ v b) (fun a b ha hb h1 h2 => hinj a (q1.mem_iff.mp ha) b (hp.mem_iff.mp hb) (Nat.le_antisymm h1 h2)) ?_ ?_ (q1.trans hp.symm)
      · rw [List.pairwise_map] at hps ⊢; exact hps
      · rw [List.pairwise_map] at hs; exact hs
    have ex : Ext s.heap (sortedAll s.heap vs (List.toArray (p.toList.map fun i => vs.getD i Value.none))) := fun b o e => sortedAll_old e
    obtain ⟨e, he⟩ := sortedAll_at s.heap vs (List.toArray (p.toList.map fun i => vs.getD i Value.none))
    refine ⟨W, _, s.toks, rfl, rep_lst.mpr ⟨_, _, rfl, ?_, ⟨_, he, rfl, e, rfl⟩, ?_⟩, up_ext S ex (Nat.le_refl _)⟩
    · intro hO
      obtain ⟨o, ho⟩ := S.valid _ hO
      exact Nat.lt_irrefl _ (Nat.lt_trans (Nat.lt_succ_self _) (Heap.lt_size ho))
    · rw [← e1, List.map_map, List.toList_toArray]
      exact repL_map fun i hi => (rep_at i (List.mem_range.mp (hpp.mem_iff.mp hi))).ext ex
end
end Mine

namespace Mine
open PySem PySem.W PyProof.Rows PySem.SeqAt
open AutoSeq1 (wpAny_loadPart')
open MeetsSeq MeetsSeq2 MeetsSeq3 SeqRoads2

/-- < of two lists of one length, from a place on -/
noncomputable def ltFrom (x y : Nat → Int) : Nat → Nat → Bool
  | 0, _ => false
  | k + 1, i => if x i == y i then ltFrom x y k (i + 1) else decide (x i < y i)

theorem lt_loopAt (l b : Addr) (items items2 : Array Value) (n n2 : Nat) (dd dd2 : Option Addr) (sl sl2 : Array (Option Value)) (hsz : items.size = items2.size) (x y : Nat → Int)
    (hx : ∀ j (h : j < items.size), ∃ t, items[j] = .int (x j) t) (hy : ∀ j (h : j < items2.size), ∃ t, items2[j] = .int (y j) t) (k : Nat) :
    ∀ i : Nat, items.size - i = k → Meets (Builtin.«list.__eq__.loop» ⟨[.ref l, .ref b, rawInt i, rawInt 0], []⟩)
      (fun A R s => s.heap.get? l = some { cls := .type "list", dict := dd, data := .seq items n, slots := sl } ∧ s.heap.get? b = some { cls := .type "list", dict := dd2, data := .seq items2 n2, slots := sl2 } ∧
        R (.ok (.ret (.bool (ltFrom x y k i)))) s) := by
  induction k with
  | zero =>
    intro i hk prog w A R s h
    obtain ⟨hp, g, d, tk, os⟩ := s; obtain ⟨hl, hb, h⟩ := h
    wp_walk using wpAny_loadPart' hl, wpAny_loadPart' hb
    have hi1 : items[((i : Nat) : Int).toNat]? = none := by simp; lia
    have hi2 : items2[((i : Nat) : Int).toNat]? = none := by simp; lia
    rw [hi1, hi2]
    wp_walk using wpAny_loadPart' hl, wpAny_loadPart' hb
    show R (.ok (.ret (.bool (decide (items.size < items2.size))))) _
    rw [hsz]
    simpa [ltFrom] using h
  | succ k ih =>
    intro i hk prog w A R s h
    obtain ⟨hp, g, d, tk, os⟩ := s; obtain ⟨hl, hb, h⟩ := h
    wp_walk using wpAny_loadPart' hl, wpAny_loadPart' hb
    have hlt : i < items.size := by omega
    have hlt2 : i < items2.size := by lia
    have hi1 : items[((i : Nat) : Int).toNat]? = some items[i] := by simp [hlt]
    have hi2 : items2[((i : Nat) : Int).toNat]? = some items2[i] := by simp [hlt2]
    have hc : ((i : Int) + 1) = ((i + 1 : Nat) : Int) := by push_cast; rfl
    obtain ⟨t, et⟩ := hx i hlt
    obtain ⟨u, eu⟩ := hy i hlt2
    rw [hi1, hi2, et, eu]
    refine wpAny_bind (EqAt.int_int _ _ _ _ prog w _ _ ?_)
    unfold ltFrom at h
    cases hb' : (x i == y i) with
    | true =>
      rw [hb'] at h
      simp only [if_true] at h
      wp_walk
      rw [hc]
      exact ⟨plainId_quiet plain_eq_loop _, codeAny_builtin entry_eq_loop (by
        rw [Around.under_plainId plain_eq_loop _]
        exact ih (i + 1) (by lia) prog w A R _ ⟨hl, hb, h⟩)⟩
    | false =>
      rw [hb'] at h
      simp only [Bool.false_eq_true, if_false] at h
      wp_walk using wpAny_loadPart' hl, wpAny_loadPart' hb
      rw [hi1, hi2, et, eu]
      show wpAny _ _ (compareOp .Lt (Value.int (x i) t) (Value.int (y i) u) >>= fun r => ret r) _ _ _
      exact wpAny_bind (wpAny_lt_int (wpAny_pure h))

theorem list_ltAt (l b : Addr) (items items2 : Array Value) (n n2 : Nat) (dd dd2 : Option Addr) (sl sl2 : Array (Option Value)) (hsz : items.size = items2.size) (x y : Nat → Int)
    (hx : ∀ j (h : j < items.size), ∃ t, items[j] = .int (x j) t) (hy : ∀ j (h : j < items2.size), ∃ t, items2[j] = .int (y j) t) :
    Meets (Builtin.«list.__lt__» ⟨[.ref l, .ref b], []⟩)
      (fun A R s => s.heap.get? l = some { cls := .type "list", dict := dd, data := .seq items n, slots := sl } ∧ s.heap.get? b = some { cls := .type "list", dict := dd2, data := .seq items2 n2, slots := sl2 } ∧
        R (.ok (.ret (.bool (ltFrom x y items.size 0)))) s) := by
  intro prog w A R s h
  obtain ⟨hp, g, d, tk, os⟩ := s; obtain ⟨hl, hb, h⟩ := h
  have f3 := AutoSeq1.sub_list_list
  wp_walk using wpAny_loadPart' hl, wpAny_loadPart' hb
  exact ⟨plainId_quiet plain_eq_loop _, codeAny_builtin entry_eq_loop (by
    rw [Around.under_plainId plain_eq_loop _]
    exact lt_loopAt l b items items2 n n2 dd dd2 sl sl2 hsz x y hx hy _ 0 rfl prog w A R _ ⟨hl, hb, by simpa using h⟩)⟩

theorem lt_lists {prog : Program} {w : World} {A : Around} {E : Value → Shared → Prop} {s : Shared} {l b : Addr} {items items2 : Array Value} {x y : Nat → Int} {Q : Value → Shared → Prop} (hl : s.heap.IsList l items) (hb : s.heap.IsList b items2) (hsz : items.size = items2.size) (hu : A.units < cLine)
    (hx : ∀ j (h : j < items.size), ∃ t, items[j] = .int (x j) t) (hy : ∀ j (h : j < items2.size), ∃ t, items2[j] = .int (y j) t) (h : Q (.bool (ltFrom x y items.size 0)) s) :
    wpAny (model prog w) A (richCompare .Lt (.ref l) (.ref b)) Q E s := by
  obtain ⟨⟨cls, dd, data, sl⟩, ho, hc, n, hd⟩ := id hl
  obtain ⟨⟨cls2, dd2, data2, sl2⟩, ho2, hc2, n2, hd2⟩ := id hb
  simp only at hc hd hc2 hd2
  subst hc hd hc2 hd2
  exact richCompare_meets_room (op := .Lt) ⟨_, ho, rfl⟩ ⟨_, ho2, rfl⟩ F.slot_list_lt F.entry_list_lt (F.args_list_lt_2 _ _) (list_ltAt l b items items2 n n2 dd dd2 sl sl2 hsz x y hx hy)
    ⟨ho, ho2, show Value.bool (ltFrom x y items.size 0) ≠ Value.notImplemented ∧ Q (.bool (ltFrom x y items.size 0)) s from ⟨(fun x => nomatch x), h⟩⟩ hu

/-! the least of a list of lists -/

section
variable {prog : Program} {w : World} {A : Around} {s : Shared}

/-- what the walk over the list leaves as it was -/
noncomputable def MinKeep (I S : Addr) (h0 h : Heap) : Prop := ∀ b o, b ≠ I → b ≠ S → h0.get? b = some o → h.get? b = some o

theorem min_loopL {I a S : Addr} {items : Array Value} {h0 : Heap} {R : Result → Shared → Prop} (hh : A.handled = Option.none) (hSI : S ≠ I) (haI : a ≠ I) (haS : a ≠ S) (bt : Nat → Nat → Bool)
    (ha0 : h0.IsList a items)
    (hcmp : ∀ (h : Heap) (i j : Nat) (hi : i < items.size) (hj : j < items.size) (Q : Value → Shared → Prop) (E : Value → Shared → Prop), MinKeep I S h0 h → Q (.bool (bt i j)) { s with heap := h } → wpAny (model prog w) A.in1 (richCompare .Lt items[i] items[j]) Q E { s with heap := h })
    (hR : ∀ h (hb : argBest bt (items.size - 1) < items.size), MinKeep I S h0 h → R (.ok (.ret items[argBest bt (items.size - 1)])) { s with heap := h }) :
    ∀ (k j : Nat) (h : Heap) (c : Nat) (hb : argBest bt j < items.size), items.size - (j + 1) = k → j + 1 ≤ items.size → h.IsListIter I a (j + 1) → MinKeep I S h0 h →
    h.get? S = some { cls := .type "list", dict := none, data := .seq #[items[argBest bt j], items[argBest bt j]] c, slots := #[] } →
    codeAny (model prog w) A (.builtin "min.loop" ⟨[.ref I, .none, .ref S], []⟩) R { s with heap := h } := by
  have hname : (toString "min" ++ toString ".loop" : String) = "min.loop" := by decide
  have keepL : ∀ {h : Heap}, MinKeep I S h0 h → h.IsList a items := fun {h} mk => by
    obtain ⟨o, ho, r⟩ := ha0
    exact ⟨o, mk a o haI haS ho, r⟩
  intro k
  induction k with
  | zero =>
    intro j h c hb hk hj hit mk hS
    have hin : j + 1 = items.size := by lia
    refine codeAny_builtin F.entry_min_loop ?_
    rw [Around.under_plainId F.plain_min_loop _]
    show wpAny _ A.in1 (seqItems? (.ref S) >>= _) _ _ _
    refine wpAny_bind (wpAny_seqItems hS rfl ?_)
    show wpAny _ A.in1 (tryCatch (pyNext (.ref I)) _ >>= _) _ _ _
    refine wpAny_bind (wpAny_tryCatch (wpAny_pyNext_list_end (A := A.in1) (s := { s with heap := h }) hh hit (keepL mk) (by simp [hin]) fun h' he => ?_))
    have hS' := he S _ hSI hS
    show wpAny _ A.in1 (updateSeq S (fun _ => #[]) >>= _) _ _ _
    refine wpAny_bind ?_
    refine wpAny_updateSeq hS' rfl (wpAny_bind (wpAny_letGo (wpAny_pure ?_)))
    have e : items.size - 1 = j := by lia
    have fin := hR (h'.update S (Obj.mapSeq fun _ => #[])) (by rw [e]; exact hb) (fun b o h1 h2 q => (Heap.get?_update_other _ _ (Ne.symm h2)).trans (he b o h1 (mk b o h1 h2 q)))
    simp only [e] at fin
    exact fin
  | succ k ih =>
    intro j h c hb hk hj hit mk hS
    have hlt : j + 1 < items.size := by (clear hS mk hit hb ih keepL hname hR hcmp ha0 haS haI hSI hh hj; omega)
    refine codeAny_builtin F.entry_min_loop ?_
    rw [Around.under_plainId F.plain_min_loop _]
    show wpAny _ A.in1 (seqItems? (.ref S) >>= _) _ _ _
    refine wpAny_bind (wpAny_seqItems hS rfl ?_)
    show wpAny _ A.in1 (tryCatch (pyNext (.ref I)) _ >>= _) _ _ _
    refine wpAny_bind (wpAny_tryCatch (wpAny_pyNext_list_item (s := { s with heap := h }) hit (keepL mk) (x := items[j + 1]) (by simp [hlt]) fun h' hit' hs => ?_))
    have hS' := hs.extBut S _ hSI hS
    have mk' : MinKeep I S h0 h' := fun b o h1 h2 q => hs.extBut b o h1 (mk b o h1 h2 q)
    show wpAny _ A.in1 (tryCatch (holding [items[j + 1], items[j + 1]] (richCompare .Lt items[j + 1] items[argBest bt j] >>= _)) _ >>= _) _ _ _
    refine wpAny_bind (wpAny_tryCatch (wpAny_holding (wpAny_bind (hcmp h' (j + 1) (argBest bt j) hlt hb _ _ mk' ?_))))
    refine wpAny_bind (wpAny_holding (wpAny_truthy_bool ?_))
    refine wpAny_bind (wpAny_letGo (wpAny_pure ?_))
    cases hbt : bt (j + 1) (argBest bt j) with
    | true =>
      have e : argBest bt (j + 1) = j + 1 := by simp only [argBest, hbt, if_true]
      simp only [if_true]
      refine wpAny_bind ?_
      refine wpAny_updateSeq hS' rfl (wpAny_bind (wpAny_letGo ?_))
      rw [hname]
      obtain ⟨c2, hS2⟩ : ∃ c2, (h'.update S (Obj.mapSeq fun _ => #[items[j + 1], items[j + 1]])).get? S = some { cls := .type "list", dict := none, data := .seq #[items[j + 1], items[j + 1]] c2, slots := #[] } := ⟨_, get?_update_seq hS' fun _ => #[items[j + 1], items[j + 1]]⟩
      refine wpAny_pure ⟨plainId_quiet F.plain_min_loop _, ih (j + 1) _ c2 (by rw [e]; exact hlt) (by (clear hS2 hbt mk' hS' hs hit' hS mk hit hj hb ih keepL hname hR hcmp ha0 haS haI hSI hh e; omega)) hlt (hit'.at fun o q => (Heap.get?_update_other _ _ hSI).trans q)
        (fun b o h1 h2 q => (Heap.get?_update_other _ _ (Ne.symm h2)).trans (mk' b o h1 h2 q)) ?_⟩
      simp only [e]
      exact hS2
    | false =>
      have e : argBest bt (j + 1) = argBest bt j := by simp only [argBest, hbt, Bool.false_eq_true, if_false]
      simp only [Bool.false_eq_true, if_false]
      refine wpAny_bind (wpAny_letGo ?_)
      rw [hname]
      refine wpAny_pure ⟨plainId_quiet F.plain_min_loop _, ih (j + 1) _ c (by rw [e]; exact hb) (by (clear e hbt mk' hS' hs hit' hS mk hit hj hb ih keepL hname hR hcmp ha0 haS haI hSI hh; omega)) hlt hit' mk' ?_⟩
      simp only [e]
      exact hS'
end
end Mine

namespace Mine
open PySem PySem.W PyProof.Rows PySem.SeqAt

noncomputable def ltL (x y : List Int) : Bool := ltFrom (fun i => x.getD i 0) (fun i => y.getD i 0) x.length 0
noncomputable def bestI (ls : List (List Int)) : Nat := argBest (fun i j => ltL (ls.getD i []) (ls.getD j [])) (ls.length - 1)
noncomputable def minL (ls : List (List Int)) : List Int := ls.getD (bestI ls) []
noncomputable def intsL (l : List Int) : PV := .lst (l.map PV.int)

theorem argBest_le (bt : Nat → Nat → Bool) : ∀ n, argBest bt n ≤ n
  | 0 => Nat.le_refl _
  | n + 1 => by
    have := argBest_le bt n
    rw [argBest]
    split <;> lia

section
variable {prog : Program} {w : World} {A : Around} {E : Value → Shared → Prop} {s : Shared} {W : Wd}

theorem rep_intsL {h : Heap} {l : List Int} {v : Value} (r : Rep W h (intsL l) v) : ∃ a items, v = .ref a ∧ h.IsList a items ∧ items.size = l.length ∧ ∀ j (hj : j < items.size), ∃ t, items[j] = .int (l.getD j 0) t := by
  obtain ⟨a, items, rfl, _, hl, rl⟩ := rep_lst.mp r
  have n1 := rl.length
  rw [Array.length_toList, List.length_map] at n1
  exact ⟨a, items, rfl, hl, n1, fun j hj => repL_ints rl j items[j] (by simp [hj])⟩

theorem cv_minL {ls : List (List Int)} {m : Nat} (hne : ls ≠ []) (hm : ∀ l ∈ ls, l.length = m) : CallV (.builtin "min") [.lst (ls.map intsL)] (intsL (minL ls)) := fun prog w W A s vs R S r => by
  obtain ⟨v0, rfl, rv⟩ := repL_one r
  obtain ⟨a, its, rfl, _, ha, hl⟩ := rep_lst.mp rv
  have n1 := hl.length
  rw [Array.length_toList, List.length_map] at n1
  have hpos : 0 < its.size := by rw [n1]; exact List.length_pos_iff.mpr hne
  have hname : (toString "min" ++ toString ".loop" : String) = "min.loop" := by decide
  have rep_at : ∀ i (hi : i < its.size), Rep W s.heap (intsL (ls.getD i [])) its[i] := fun i hi => by
    have hi' : i < ls.length := by lia
    obtain ⟨u, hu, ru⟩ := hl.get i (intsL ls[i]) (by simp [hi'])
    have e1 : its[i] = u := by
      have : its[i]? = some u := by simpa using hu
      rw [Array.getElem?_eq_getElem hi] at this; exact Option.some.inj this
    have e2 : ls.getD i [] = ls[i] := by simp [hi']
    rw [e1, e2]; exact ru
  have len_at : ∀ i, i < its.size → (ls.getD i []).length = m := fun i hi => by
    have hi' : i < ls.length := by omega
    have e2 : ls.getD i [] = ls[i] := by simp [hi']
    rw [e2]; exact hm _ (List.getElem_mem hi')
  refine call_function_tree F.kind_min F.plain_min F.entry_min (F.args_min1 _) ?_
  show wpAny _ A.in1 (Builtin.Builtins.bindParams "min" ["key", "default"] 0 ⟨[], []⟩ >>= _) _ _ s
  refine wpAny_bind (wpAny_of_eq (show Builtin.Builtins.bindParams "min" ["key", "default"] 0 ⟨[], []⟩ = pure [none, none] from rfl) ?_)
  refine wpAny_bind (wpAny_pure ?_)
  refine wpAny_bind (wpAny_pyIter_list ha ?_)
  refine wpAny_bind (wpAny_newObj_type ?_)
  rw [hname]
  have z : (s.heap.push { cls := .type "list_iterator", data := .fields #[.ref a, .int 0 0] }).objs.size = s.heap.objs.size + 1 := Heap.size_push ..
  dsimp only
  rw [z]
  generalize hH : (s.heap.push { cls := .type "list_iterator", data := .fields #[.ref a, .int 0 0] }).push { cls := .type "list", data := .seq ([] : List Value).toArray } = H
  have alt : a < s.heap.objs.size := by obtain ⟨_, e, _⟩ := ha; exact Heap.lt_size e
  have hI : H.IsListIter s.heap.objs.size a 0 := by
    rw [← hH]; exact ⟨_, Heap.get?_push_of_some _ (Heap.get?_push_size _ rfl), rfl, rfl⟩
  have hS : H.get? (s.heap.objs.size + 1) = some { cls := .type "list", dict := none, data := .seq #[] 0, slots := #[] } := by
    rw [← hH, ← z]; exact Heap.get?_push_size _ rfl
  have ex : Ext s.heap H := by rw [← hH]; exact (ext_push _ _).trans (ext_push _ _)
  have hSI : s.heap.objs.size + 1 ≠ s.heap.objs.size := Nat.succ_ne_self _
  have haI : a ≠ s.heap.objs.size := Nat.ne_of_lt alt
  have haS : a ≠ s.heap.objs.size + 1 := Nat.ne_of_lt (Nat.lt_succ_of_lt alt)
  have extOf : ∀ {h : Heap}, MinKeep s.heap.objs.size (s.heap.objs.size + 1) s.heap h → Ext s.heap h := fun {h} mk b o e => mk b o (Nat.ne_of_lt (Heap.lt_size e)) (Nat.ne_of_lt (Nat.lt_succ_of_lt (Heap.lt_size e))) e
  refine wpAny_pure ⟨plainId_quiet F.plain_min_loop _, ?_⟩
  refine codeAny_builtin F.entry_min_loop ?_
  rw [Around.under_plainId F.plain_min_loop _]
  show wpAny _ A.in1 (seqItems? (.ref (s.heap.objs.size + 1)) >>= _) _ _ _
  refine wpAny_bind (wpAny_seqItems hS rfl ?_)
  show wpAny _ A.in1 (tryCatch (pyNext (.ref s.heap.objs.size)) _ >>= _) _ _ _
  refine wpAny_bind (wpAny_tryCatch (wpAny_pyNext_list_item (s := { s with heap := H }) hI (isList_ext ha ex) (x := its[0]) (by simp [hpos]) fun h' hit' hs => ?_))
  have hS' := hs.extBut _ _ hSI hS
  show wpAny _ A.in1 (updateSeq (s.heap.objs.size + 1) (fun _ => #[its[0], its[0]]) >>= _) _ _ _
  refine wpAny_bind ?_
  refine wpAny_updateSeq hS' rfl ?_
  rw [hname]
  obtain ⟨c2, hS2⟩ : ∃ c2, (h'.update (s.heap.objs.size + 1) (Obj.mapSeq fun _ => #[its[0], its[0]])).get? (s.heap.objs.size + 1) = some { cls := .type "list", dict := none, data := .seq #[its[0], its[0]] c2, slots := #[] } :=
    ⟨_, get?_update_seq hS' fun _ => #[its[0], its[0]]⟩
  have mk0 : MinKeep s.heap.objs.size (s.heap.objs.size + 1) s.heap (h'.update (s.heap.objs.size + 1) (Obj.mapSeq fun _ => #[its[0], its[0]])) := fun b o h1 h2 q => (Heap.get?_update_other _ _ (Ne.symm h2)).trans (hs.extBut b o h1 (ex b o q))
  refine wpAny_pure ⟨plainId_quiet F.plain_min_loop _, min_loopL (s := s) (h0 := s.heap) (items := its) R.hd hSI haI haS (fun i j => ltL (ls.getD i []) (ls.getD j [])) ha (fun h i j hi hj Q E mk hQ => ?_) (fun h hb mk => ?_) _ 0 _ c2 hpos rfl hpos
    (hit'.at fun o q => (Heap.get?_update_other _ _ hSI).trans q) mk0 hS2⟩
  · obtain ⟨a1, i1, e1, l1, z1, f1⟩ := rep_intsL ((rep_at i hi).ext (extOf mk))
    obtain ⟨a2, i2, e2, l2, z2, f2⟩ := rep_intsL ((rep_at j hj).ext (extOf mk))
    rw [e1, e2]
    refine lt_lists (A := A.in1) (s := { s with heap := h }) l1 l2 (by rw [z1, z2, len_at i hi, len_at j hj]) (by have := R.unit; show A.units + 1 < cLine; lia) f1 f2 ?_
    rw [z1]; exact hQ
  · have e : its.size - 1 = ls.length - 1 := by rw [n1]
    have r1 := (rep_at _ hb).ext (extOf mk)
    refine ⟨W, h, s.toks, rfl, ?_, up_ext S (extOf mk) (Nat.le_refl _)⟩
    have e2 : minL ls = ls.getD (argBest (fun i j => ltL (ls.getD i []) (ls.getD j [])) (its.size - 1)) [] := by unfold minL bestI; rw [e]
    rw [e2]; exact r1
end
end Mine

namespace Mine
open PySem PySem.W PyProof.Rows PySem.SeqAt

/-- x in a list -/
noncomputable def pin (n : Nat) (x : PV) (l : List PV) : Option Bool := match l with
  | [] => some false
  | y :: r => match peq n y x, pin n x r with
    | some a, some b => some (a || b)
    | _, _ => Option.none

theorem pin_get {n : Nat} {x : PV} : ∀ {l : List PV} {b : Bool}, pin n x l = some b → ∀ (j : Nat) (y : PV), l[j]? = some y → ∃ a, peq n y x = some a
  | [], _, _, j, y, h => by simp at h
  | z :: r, b, h, j, y, hy => by
    unfold pin at h
    split at h
    · rename_i a b' e1 e2
      cases j with
      | zero => simp at hy; subst hy; exact ⟨_, e1⟩
      | succ j => exact pin_get e2 j y (by simpa using hy)
    · cases h

theorem pin_any {n : Nat} {x : PV} : ∀ {l : List PV} {b : Bool}, pin n x l = some b → l.any (fun y => (peq n y x).getD false) = b
  | [], b, h => by simp [pin] at h; simp [h]
  | z :: r, b, h => by
    unfold pin at h
    split at h
    · rename_i a b' e1 e2
      cases h
      rw [List.any_cons, e1, pin_any e2]; rfl
    · cases h

open Classical in
/-- the value's own datum, where it has one -/
noncomputable def datum (W : Wd) (h : Heap) (v : Value) : PV := if e : ∃ p, Rep W h p v then e.choose else .none
theorem datum_of {W : Wd} {h : Heap} {p : PV} {v : Value} (r : Rep W h p v) : datum W h v = p := by
  unfold datum
  have e : ∃ p, Rep W h p v := ⟨p, r⟩
  rw [dif_pos e]
  exact Rep.inj e.choose_spec r

theorem any_datum {W : Wd} {h : Heap} {f : PV → Bool} : ∀ {l : List PV} {vs : List Value}, RepL W h l vs → vs.any (fun v => f (datum W h v)) = l.any f
  | [], vs, x => by rw [repL_nil] at x; subst x; rfl
  | p :: ps, vs, x => by
    rw [repL_cons] at x; obtain ⟨v, r, rfl, hp, hr⟩ := x
    rw [List.any_cons, List.any_cons, datum_of hp, any_datum hr]

section
variable {s : Shared} {W : Wd} {A : Around} {x : PV} {l : List PV} {b : Bool}
theorem in_at (S : Sok W s.heap s.toks) (h : pin 8 x l = some b) {a : Addr} {items : Array Value} {v : Value} (hl : s.heap.IsList a items) (rl : RepL W s.heap l items.toList) (rx : Rep W s.heap x v) (hu : A.units + 200 < cLine) :
    (∀ y, y ∈ items → EqAt A.in1 s y v ((peq 8 (datum W s.heap y) x).getD false)) ∧ items.any (fun y => (peq 8 (datum W s.heap y) x).getD false) = b := by
  refine ⟨fun y hy => ?_, ?_⟩
  · obtain ⟨j, hj, rfl⟩ := Array.mem_iff_getElem.mp hy
    obtain ⟨p, hp, rp⟩ := rl.getV j items[j] (by simp [hj])
    obtain ⟨e, he⟩ := pin_get h j p hp
    rw [datum_of rp, he]
    exact (peq_at S 8 p x e A.in1 _ _ he (by show A.units + 1 + 8 < _; lia) rp rx).1
  · rw [← Array.any_toList, any_datum (f := fun y => (peq 8 y x).getD false) rl, pin_any h]

theorem cm_in (h : pin 8 x l = some b) : Cm2 .In x (.lst l) b := fun prog w W A s v u Q E R S hv hu hQ => by
  rw [rep_lst] at hu
  obtain ⟨a, items, rfl, _, ha, hl⟩ := hu
  obtain ⟨h1, h2⟩ := in_at (A := A) S h ha hl hv R.unit
  exact in_listAt _ ha h1 (by rw [h2]; exact hQ)
theorem cm_notIn (h : pin 8 x l = some b) : Cm2 .NotIn x (.lst l) (!b) := fun prog w W A s v u Q E R S hv hu hQ => by
  rw [rep_lst] at hu
  obtain ⟨a, items, rfl, _, ha, hl⟩ := hu
  obtain ⟨h1, h2⟩ := in_at (A := A) S h ha hl hv R.unit
  exact notIn_listAt _ ha h1 (by rw [h2]; exact hQ)
end

end Mine

namespace Mine
open PySem PySem.W PyProof.Rows

open Classical in
theorem res_encL {α : Type} (enc : α → PV) (l : List α) (hinj : ∀ a ∈ l, ∀ b ∈ l, enc a = enc b → a = b) (t : α → Bool) (F : α → PV) : ∃ (t' : PV → Bool) (F' : PV → PV), ∀ a ∈ l, t' (enc a) = t a ∧ F' (enc a) = F a := by
  refine ⟨fun p => if h : ∃ a ∈ l, enc a = p then t h.choose else false, fun p => if h : ∃ a ∈ l, enc a = p then F h.choose else .none, fun a ha => ?_⟩
  have h : ∃ b ∈ l, enc b = enc a := ⟨a, ha, rfl⟩
  have e : h.choose = a := hinj _ h.choose_spec.1 _ ha h.choose_spec.2
  simp only [dif_pos h, e, and_self]

theorem res_enc2 {α : Type} {enc : α → PV} {t : α → Bool} {F : α → PV} {t' : PV → Bool} {F' : PV → PV} : ∀ {l : List α}, (∀ a ∈ l, t' (enc a) = t a ∧ F' (enc a) = F a) → ((l.map enc).filter t').map F' = (l.filter t).map F
  | [], _ => rfl
  | a :: r, h => by
    have ih := res_enc2 (l := r) fun b hb => h b (List.mem_cons_of_mem _ hb)
    obtain ⟨h1, h2⟩ := h a List.mem_cons_self
    rw [List.map_cons, List.filter_cons, List.filter_cons, h1]
    cases t a <;> simp [h2, ih]

section
variable {g : Pg} {d : Nat} {K : Kn} {σ : Sig} {ω : Own} {P : PostT}

theorem ev_compL {α : Type} (enc : α → PV) {t elt iter : Expr} {ifs : List Expr} {scope : Scope} {pos : Pos} {l : List α} {en : Bool} (hinj : ∀ a ∈ l, ∀ b ∈ l, enc a = enc b → a = b) (σc : Sig) (ωc : Own) (test : α → Bool) (F : α → PV)
    (hi : EvIt g d K σ ω en iter (l.map enc)) (het : en = true → isTup t = true) (ok : compOk K scope = true) (hσ : CSub scope.names σc σ) (hω : CSub scope.names ωc ω)
    (body : ∀ a ∈ l, ∃ B, bindT t (enc a) = some B ∧ tgtOk scope.names ωc t ∧ EvIfs g d scope.names (B ++ σc) ωc ifs (test a) ∧ (test a = true → Ev g d scope.names (B ++ σc) ωc elt (F a))) (hn : l.length ≤ 4096)
    (hs : ∀ env x, foldedSetIterable iter env x = pure x := by intro _ _; rfl) :
    Ev g d K σ ω (.ListComp elt [⟨t, iter, ifs, 0⟩] scope pos) (.lst ((l.filter test).map F)) := by
  obtain ⟨t', F', h⟩ := res_encL enc l hinj test F
  rw [← res_enc2 h]
  refine ev_comp σc ωc _ _ hi het ok hσ hω (fun p hp => ?_) (by simpa using hn) hs
  obtain ⟨a, ha, rfl⟩ := List.mem_map.mp hp
  rw [(h a ha).1, (h a ha).2]
  exact body a ha

theorem ex1_assign_compL {α : Type} (enc : α → PV) {y : Str} {py pos spos : Pos} {t elt iter : Expr} {ifs : List Expr} {scope : Scope} {l : List α} {en : Bool} (hinj : ∀ a ∈ l, ∀ b ∈ l, enc a = enc b → a = b) (σc : Sig) (ωc : Own) (test : α → Bool) (F : α → PV)
    (hi : EvIt g d K σ ω en iter (l.map enc)) (het : en = true → isTup t = true) (ok : compOk K scope = true) (hσ : CSub scope.names σc σ) (hω : CSub scope.names ωc ω)
    (body : ∀ a ∈ l, ∃ B, bindT t (enc a) = some B ∧ tgtOk scope.names ωc t ∧ EvIfs g d scope.names (B ++ σc) ωc ifs (test a) ∧ (test a = true → Ev g d scope.names (B ++ σc) ωc elt (F a))) (hn : l.length ≤ 4096)
    (hK : K.lookup y = some .local) (hωy : ω.lookup y = Option.none) (hline : (py.line == pos.line && !(scope.names.any fun x => x.1 == y && (x.2 == .local || x.2 == .cell))) = true)
    (hP : P .next ((y, .lst ((l.filter test).map F)) :: σ) ω) (hs : ∀ env x, foldedSetIterable iter env x = pure x := by intro _ _; rfl) :
    Ex1 g d K σ ω (.Assign [.Name y py] (.ListComp elt [⟨t, iter, ifs, 0⟩] scope pos) spos) P := by
  obtain ⟨t', F', h⟩ := res_encL enc l hinj test F
  rw [← res_enc2 h] at hP
  refine ex1_assign_comp σc ωc _ _ hi het ok hσ hω (fun p hp => ?_) (by simpa using hn) hK hωy hline hP hs
  obtain ⟨a, ha, rfl⟩ := List.mem_map.mp hp
  rw [(h a ha).1, (h a ha).2]
  exact body a ha

/-- one name, no test -/
theorem ev_mapL {α : Type} (enc : α → PV) {x : Str} {px : Pos} {elt iter : Expr} {scope : Scope} {pos : Pos} {l : List α} (hinj : ∀ a ∈ l, ∀ b ∈ l, enc a = enc b → a = b) (σc : Sig) (F : α → PV)
    (hi : EvIt g d K σ ω false iter (l.map enc)) (ok : compOk K scope = true) (hσ : CSub scope.names σc σ) (ht : scope.names.lookup x = some .local ∨ scope.names.lookup x = some .cell)
    (body : ∀ a ∈ l, Ev g d scope.names ((x, enc a) :: σc) [] elt (F a)) (hn : l.length ≤ 4096) (hs : ∀ env x, foldedSetIterable iter env x = pure x := by intro _ _; rfl) :
    Ev g d K σ ω (.ListComp elt [⟨.Name x px, iter, [], 0⟩] scope pos) (.lst (l.map F)) := by
  have h := ev_compL (g := g) (d := d) (K := K) (σ := σ) (ω := ω) enc (t := .Name x px) (elt := elt) (ifs := []) (scope := scope) (pos := pos) hinj σc [] (fun _ => true) F hi (by intro h; cases h) ok hσ CSub.nil
    (fun a ha => ⟨_, rfl, tgt1 ht rfl, evifs_nil, fun _ => body a ha⟩) hn hs
  rwa [filter_tt] at h

theorem ex1_mapL {α : Type} (enc : α → PV) {x y : Str} {px py pos spos : Pos} {elt iter : Expr} {scope : Scope} {l : List α} (hinj : ∀ a ∈ l, ∀ b ∈ l, enc a = enc b → a = b) (σc : Sig) (F : α → PV)
    (hi : EvIt g d K σ ω false iter (l.map enc)) (ok : compOk K scope = true) (hσ : CSub scope.names σc σ) (ht : scope.names.lookup x = some .local ∨ scope.names.lookup x = some .cell)
    (body : ∀ a ∈ l, Ev g d scope.names ((x, enc a) :: σc) [] elt (F a)) (hn : l.length ≤ 4096)
    (hK : K.lookup y = some .local) (hωy : ω.lookup y = Option.none) (hline : (py.line == pos.line && !(scope.names.any fun x => x.1 == y && (x.2 == .local || x.2 == .cell))) = true)
    (hP : P .next ((y, .lst (l.map F)) :: σ) ω) (hs : ∀ env x, foldedSetIterable iter env x = pure x := by intro _ _; rfl) :
    Ex1 g d K σ ω (.Assign [.Name y py] (.ListComp elt [⟨.Name x px, iter, [], 0⟩] scope pos) spos) P := by
  refine ex1_assign_compL enc hinj σc [] (fun _ => true) F hi (by intro h; cases h) ok hσ CSub.nil
    (fun a ha => ⟨_, rfl, tgt1 ht rfl, evifs_nil, fun _ => body a ha⟩) hn hK hωy hline ?_ hs
  rwa [filter_tt]
end

/-- in a list whose items are told apart -/
theorem pin_map {α : Type} [DecidableEq α] {n : Nat} {f : α → PV} {x : PV} {m : α} : ∀ {l : List α}, (∀ k ∈ l, peq n (f k) x = some (decide (k = m))) → pin n x (l.map f) = some (decide (m ∈ l))
  | [], _ => by simp [pin]
  | k :: r, h => by
    have ih := pin_map (l := r) fun b hb => h b (List.mem_cons_of_mem _ hb)
    rw [List.map_cons, pin, h k List.mem_cons_self, ih]
    simp only [List.mem_cons, eq_comm (a := m), Bool.decide_or]

theorem peq_lst_map {α β : Type} {n : Nat} {f : α → PV} {f' : β → PV} {r : α → β → Bool} : ∀ {l : List α} {m : List β}, (∀ a ∈ l, ∀ b ∈ m, peq n (f a) (f' b) = some (r a b)) → l.length = m.length →
    ∃ c, peqL (peq n) (l.map f) (m.map f') = some c ∧ (c = true ↔ ∀ i (h1 : i < l.length) (h2 : i < m.length), r l[i] m[i] = true)
  | [], [], _, _ => ⟨true, rfl, by simp⟩
  | a :: l, b :: m, h, hl => by
    obtain ⟨c, h1, h2⟩ := peq_lst_map (l := l) (m := m) (fun a ha b hb => h a (List.mem_cons_of_mem _ ha) b (List.mem_cons_of_mem _ hb)) (by simpa using hl)
    refine ⟨r a b && c, by simp only [List.map_cons, peqL, h a List.mem_cons_self b List.mem_cons_self, h1], ?_⟩
    rw [Bool.and_eq_true, h2]
    constructor
    · rintro ⟨q1, q2⟩ i i1 i2
      cases i with
      | zero => exact q1
      | succ i => exact q2 i (by simpa using i1) (by simpa using i2)
    · intro q
      exact ⟨q 0 (by simp) (by simp), fun i i1 i2 => q (i + 1) (by simpa using i1) (by simpa using i2)⟩

/-- == of two lists whose items are told apart by what they stand for -/
theorem peq_lsts {α : Type} [DecidableEq α] {n : Nat} {f : α → PV} {l m : List α} (h : ∀ a ∈ l, ∀ b ∈ m, peq n (f a) (f b) = some (decide (a = b))) : peq (n + 1) (.lst (l.map f)) (.lst (m.map f)) = some (decide (l = m)) := by
  by_cases hl : l.length = m.length
  · obtain ⟨c, h1, h2⟩ := peq_lst_map h hl
    rw [peq, List.length_map, List.length_map, if_pos hl, h1]
    congr 1
    rw [Bool.eq_iff_iff, h2, decide_eq_true_eq]
    constructor
    · intro q
      exact List.ext_getElem hl fun i i1 i2 => of_decide_eq_true (q i i1 i2)
    · rintro rfl i i1 i2
      simp
  · rw [peq, List.length_map, List.length_map, if_neg hl]
    congr 1
    symm
    rw [decide_eq_false_iff_not]
    rintro rfl
    exact hl rfl

theorem peq_nil {n : Nat} {l : List PV} : peq (n + 1) (.lst l) (.lst []) = some l.isEmpty := by
  cases l with
  | nil => rfl
  | cons a r => simp [peq]
end Mine

open PySem PySem.W PyProof.Rows
open_top hd2 for PySem.Challenge.rw_sc0027_02
namespace Mine
noncomputable def itemAt (p : Program) (n : Nat) : DefItem := match p.main.body[n]? with
  | some (.FunctionDef name args body _ _ _ scope _ _ pos) => ⟨name, args, body, scope, pos⟩
  | _ => ⟨"", ⟨[], [], Option.none, [], [], Option.none, []⟩, [], default, ⟨0, 0, 0, 0⟩⟩
noncomputable def g2 (w : World) : Pg := ⟨PySem.Challenge.rw_sc0027_02.row.prog, w, List.map itemOf (recsOf hd2.view_39), scalarsOf [] ++ constsW hd2.view_39, namesW hd2.view_39 []⟩
noncomputable def iKmp := itemAt hd2.view_39 0
noncomputable def iHls := itemAt hd2.view_39 1
noncomputable def iHsv := itemAt hd2.view_39 2
noncomputable def iRgb := itemAt hd2.view_39 3
noncomputable def iPal := itemAt hd2.view_39 4
noncomputable def iTold := itemAt hd2.view_39 5
noncomputable def iSeen := itemAt hd2.view_39 6
noncomputable def iFolds := itemAt hd2.view_39 7
noncomputable def iLaw := itemAt hd2.view_39 8
set_option maxHeartbeats 4000000
theorem defs2 (w : World) : (g2 w).defs = [iKmp, iHls, iHsv, iRgb, iPal, iTold, iSeen, iFolds, iLaw] := by
  unfold g2
  kernel_rfl
noncomputable def usedNames : List Str := ["len", "range", "sum", "max", "min", "int", "list", "zip", "enumerate", "sorted"]
theorem names2 (w : World) : ∀ x ∈ usedNames, x ∉ (g2 w).names := by
  show ∀ x ∈ usedNames, x ∉ namesW hd2.view_39 []
  decide +kernel
end Mine

namespace Mine
open PySem PySem.W PyProof.Rows
theorem plKmp : Plain iKmp 1 where
  dflt := rfl
  bind := fun pm cd doc vs h => by
    match vs, h with
    | [a], _ => rfl
  kind := rfl
  gen := rfl
  co := rfl
  pars := by decide
  nodup := by decide
  free := by decide
  len := rfl
theorem plHls : Plain iHls 3 where
  dflt := rfl
  bind := fun pm cd doc vs h => by
    match vs, h with
    | [a, b, c], _ => rfl
  kind := rfl
  gen := rfl
  co := rfl
  pars := by decide
  nodup := by decide
  free := by decide
  len := rfl
theorem plHsv : Plain iHsv 3 where
  dflt := rfl
  bind := fun pm cd doc vs h => by
    match vs, h with
    | [a, b, c], _ => rfl
  kind := rfl
  gen := rfl
  co := rfl
  pars := by decide
  nodup := by decide
  free := by decide
  len := rfl
theorem plRgb : Plain iRgb 3 where
  dflt := rfl
  bind := fun pm cd doc vs h => by
    match vs, h with
    | [a, b, c], _ => rfl
  kind := rfl
  gen := rfl
  co := rfl
  pars := by decide
  nodup := by decide
  free := by decide
  len := rfl
theorem plPal : Plain iPal 1 where
  dflt := rfl
  bind := fun pm cd doc vs h => by
    match vs, h with
    | [a], _ => rfl
  kind := rfl
  gen := rfl
  co := rfl
  pars := by decide
  nodup := by decide
  free := by decide
  len := rfl
theorem plTold : Plain iTold 1 where
  dflt := rfl
  bind := fun pm cd doc vs h => by
    match vs, h with
    | [a], _ => rfl
  kind := rfl
  gen := rfl
  co := rfl
  pars := by decide
  nodup := by decide
  free := by decide
  len := rfl
theorem plSeen : Plain iSeen 2 where
  dflt := rfl
  bind := fun pm cd doc vs h => by
    match vs, h with
    | [a, b], _ => rfl
  kind := rfl
  gen := rfl
  co := rfl
  pars := by decide
  nodup := by decide
  free := by decide
  len := rfl
theorem plFolds : Plain iFolds 3 where
  dflt := rfl
  bind := fun pm cd doc vs h => by
    match vs, h with
    | [a, b, c], _ => rfl
  kind := rfl
  gen := rfl
  co := rfl
  pars := by decide
  nodup := by decide
  free := by decide
  len := rfl
theorem plLaw : Plain iLaw 1 where
  dflt := rfl
  bind := fun pm cd doc vs h => by
    match vs, h with
    | [a], _ => rfl
  kind := rfl
  gen := rfl
  co := rfl
  pars := by decide
  nodup := by decide
  free := by decide
  len := rfl
end Mine

namespace Mine
open PySem PySem.W PyProof.Rows

inductive Chain (eq : Nat → Nat → Bool) (B : Nat → Nat) (i : Nat) : Nat → Nat → Prop
  | hit {k : Nat} (h : eq i k = true) : Chain eq B i k (k + 1)
  | zero (h : eq i 0 = false) : Chain eq B i 0 0
  | down {k r : Nat} (h : eq i (k + 1) = false) (c : Chain eq B i (B k) r) : Chain eq B i (k + 1) r

theorem Chain.inv {eq : Nat → Nat → Bool} {B : Nat → Nat} {i k r : Nat} (c : Chain eq B i k r) : (eq i k = true ∧ r = k + 1) ∨ (eq i k = false ∧ k = 0 ∧ r = 0) ∨ ∃ j, k = j + 1 ∧ eq i k = false ∧ Chain eq B i (B j) r := by
  cases c with
  | hit h => exact .inl ⟨h, rfl⟩
  | zero h => exact .inr (.inl ⟨h, rfl, rfl⟩)
  | down h c => exact .inr (.inr ⟨_, rfl, h, c⟩)

structure Kmp (eq : Nat → Nat → Bool) (n : Nat) (B : Nat → Nat) : Prop where
  zero : B 0 = 0
  le : ∀ j, j < n → B j ≤ j
  step : ∀ i, 1 ≤ i → i < n → Chain eq B i (B (i - 1)) (B i)

theorem flat_rep (n : Nat) (p : PV) : (List.replicate n [p]).flatten = List.replicate n p := by
  induction n with
  | zero => rfl
  | succ n ih => rw [List.replicate_succ, List.flatten_cons, ih]; rfl

theorem rangePV_get {a b : Int} {k : Nat} {p : PV} (h : (rangePV a b)[k]? = some p) : (k : Int) < b - a ∧ p = .int (a + k) := by
  unfold rangePV at h
  rw [List.getElem?_map] at h
  rcases Nat.lt_or_ge k (b - a).toNat with h1 | h1
  · rw [List.getElem?_range h1] at h
    simp at h
    exact ⟨by omega, h.symm⟩
  · rw [List.getElem?_eq_none (by simpa using h1)] at h; simp at h

/-- the table, filled below i -/
noncomputable def tabPV (B : Nat → Nat) (n i : Nat) : List PV := (List.range n).map fun j => if j < i then PV.int (B j) else PV.int 0

theorem tab_len {B : Nat → Nat} {n i : Nat} : (tabPV B n i).length = n := by simp [tabPV]
theorem tab_get {B : Nat → Nat} {n i j : Nat} {k : Int} (hk : k = j) (h1 : j < i) (h2 : j < n) : pidx (tabPV B n i) k = some (.int (B j)) := by
  subst hk
  unfold pidx
  rw [if_pos (by lia), Int.toNat_natCast]
  unfold tabPV
  rw [List.getElem?_map, List.getElem?_range h2]
  simp [h1]
theorem tab_set {B : Nat → Nat} {n i : Nat} : (tabPV B n i).set i (.int (B i)) = tabPV B n (i + 1) := by
  unfold tabPV
  refine List.ext_getElem (by simp) fun j h1 h2 => ?_
  simp only [List.getElem_set, List.getElem_map, List.getElem_range]
  by_cases hij : i = j
  · subst hij; simp
  · rw [if_neg hij]
    by_cases h : j < i
    · rw [if_pos h, if_pos (by lia)]
    · rw [if_neg h, if_neg (by lia)]

theorem kmp_body {g : Pg} {d : Nat} (hg : ∀ x ∈ usedNames, x ∉ g.names) {ps : List PV} {eq : Nat → Nat → Bool} {B : Nat → Nat} (hn : ps.length ≤ 4000) (heq : ∀ i j (p q : PV), ps[i]? = some p → ps[j]? = some q → peq 8 p q = some (eq i j)) (hB : Kmp eq ps.length B) :
    Fn g d iKmp [.lst ps] (.lst ((List.range ps.length).map fun j => PV.int (B j))) := by
  unfold Fn
  have hlen : ∀ {σ ω pos pos' pos''}, σ.lookup (Str.ofString "prefix") = some (.lst ps) → Ev g d iKmp.scope.names σ ω (.Call (.Name "len" pos) [.Name "prefix" pos'] [] pos'') (.int ps.length) := fun h =>
    ev_callB rfl (hg _ (by decide)) boot_len (evl_cons (ev_name h rfl rfl) evl_nil) (cv_len (by lia))
  refine ex_cons (ex1_own (evn_rep (ev_list (evl_cons ev_int evl_nil) (by decide)) (hlen rfl) (by lia) (by simp; omega) (by lia)) (.inl rfl) rfl rfl ?_)
  have e0 : (List.replicate ((ps.length : Int)).toNat [PV.int 0]).flatten = tabPV B ps.length 1 := by
    rw [flat_rep, Int.toNat_natCast]
    unfold tabPV
    refine List.ext_getElem (by simp) fun j h1 h2 => ?_
    simp only [List.getElem_replicate, List.getElem_map, List.getElem_range]
    split
    · have : j = 0 := by lia
      subst this; rw [hB.zero]; rfl
    · rfl
  rw [e0]
  show Ex _ _ _ _ _ _ _
  refine ex_cons (ex1_forC (evit_range2 ev_int (hlen rfl) (by decide) (by decide) (by (clear e0 hlen hB heq hg hn; omega)) (by omega) rfl rfl (hg _ (by decide))) (by intro h; cases h)
    (fun k => [(Str.ofString "prefix", .lst ps)]) (fun k => [(Str.ofString "table", tabPV B ps.length (k + 1))]) ⟨.cons rfl .nil, .cons rfl .nil⟩ ?_ ?_)
  · -- one place
    intro k p hp
    obtain ⟨hk, rfl⟩ := rangePV_get hp
    have hk1 : k + 1 < ps.length := by lia
    have hset : (tabPV B ps.length (k + 1)).set ((1 + k : Int)).toNat (.int (B (k + 1))) = tabPV B ps.length (k + 2) := by
      rw [show ((1 + k : Int)).toNat = k + 1 by lia]; exact tab_set
    refine ⟨[(Str.ofString "i", .int (1 + k))], rfl, fun x hx => ?_, ?_⟩
    · rw [List.mem_singleton.mp hx]; exact ⟨.inl rfl, rfl⟩
    refine ex_cons (ex1_assign (ev_own_idx rfl (ev_bin (ev_name rfl rfl rfl) ev_int op_sub_int) (tab_get (j := k) (by lia) (by lia) (by lia)) (by rw [tab_len]; lia)) (.inl rfl) rfl ?_)
    refine ex_cons (ex1_whileC (α := Nat) (fun idx => [(Str.ofString "idx", .int idx), (Str.ofString "i", .int (1 + k)), (Str.ofString "prefix", .lst ps)]) (fun _ => [(Str.ofString "table", tabPV B ps.length (k + 1))])
      id (fun idx => idx ≤ k ∧ Chain eq B (k + 1) idx (B (k + 1))) (B k) ⟨hB.le k (by omega), by have := hB.step (k + 1) (by lia) hk1; simpa using this⟩ ⟨.cons rfl (.cons rfl (.cons rfl .nil)), .cons rfl .nil⟩ ?_)
    rintro idx ⟨hidx, hch⟩
    obtain ⟨p1, hp1⟩ : ∃ p, ps[k + 1]? = some p := ⟨ps[k + 1], List.getElem?_eq_getElem hk1⟩
    obtain ⟨p2, hp2⟩ : ∃ p, ps[idx]? = some p := ⟨ps[idx]'(by lia), List.getElem?_eq_getElem (by omega)⟩
    refine ⟨!(eq (k + 1) idx), evb_cmp (ev_idx (ev_name rfl rfl rfl) (ev_name rfl rfl rfl) (x := p1) (by unfold pidx; rw [if_pos (by lia), show ((1 + k : Int)).toNat = k + 1 by lia]; exact hp1) (by lia))
      (ev_idx (ev_name rfl rfl rfl) (ev_name rfl rfl rfl) (x := p2) (by unfold pidx; rw [if_pos (by lia), Int.toNat_natCast]; exact hp2) (by omega)) (cm_ne (heq _ _ _ _ hp1 hp2)), fun hb => ?_, fun hb => ?_⟩
    · -- another letter
      have he : eq (k + 1) idx = false := by simpa using hb
      refine ex_cons (ex1_if (evb_cmp (ev_name rfl rfl rfl) ev_int cm_eq_int) (fun h0 => ?_) fun h0 => ?_)
      · have h0' : idx = 0 := by simpa using h0
        subst h0'
        have hz : B (k + 1) = 0 := by
          rcases hch.inv with ⟨h, _⟩ | ⟨_, _, h⟩ | ⟨j, h, _⟩
          · rw [he] at h; cases h
          · exact h
          · lia
        refine ex_cons (ex1_setidx (l := tabPV B ps.length (k + 1)) ev_int (ev_name rfl rfl rfl) rfl (by decide) (by lia) (by rw [tab_len]; lia) (by rw [tab_len]; lia) ?_)
        rw [hz] at hset
        rw [show (PV.int 0) = PV.int ((0 : Nat) : Int) from rfl, hset]
        refine ex_cons (ex1_break ?_)
        exact ex_nil ⟨.cons rfl .nil, .cons rfl .nil⟩
      · have h0' : idx ≠ 0 := by simpa using h0
        obtain ⟨j, rfl⟩ : ∃ j, idx = j + 1 := ⟨idx - 1, by lia⟩
        have hc : Chain eq B (k + 1) (B j) (B (k + 1)) := by
          rcases hch.inv with ⟨h, _⟩ | ⟨_, h, _⟩ | ⟨j', h, _, c⟩
          · rw [he] at h; cases h
          · lia
          · have : j' = j := by lia
            exact this ▸ c
        refine ex_nil ?_
        refine ex_cons (ex1_assign (ev_own_idx rfl (ev_bin (ev_name rfl rfl rfl) ev_int op_sub_int) (tab_get (j := j) (by lia) (by lia) (by lia)) (by rw [tab_len]; omega)) (.inl rfl) rfl ?_)
        have := hB.le j (by omega)
        exact ex_nil ⟨B j, by show B j < j + 1; lia, ⟨by lia, hc⟩, .cons rfl (.cons rfl (.cons rfl .nil)), .cons rfl .nil⟩
    · have he : eq (k + 1) idx = true := by simpa using hb
      have hz : B (k + 1) = idx + 1 := by
        rcases hch.inv with ⟨_, h⟩ | ⟨h, _⟩ | ⟨j, _, h, _⟩
        · exact h
        · rw [he] at h; cases h
        · rw [he] at h; cases h
      refine ex_cons (ex1_setidx (l := tabPV B ps.length (k + 1)) (ev_bin (ev_name rfl rfl rfl) ev_int op_add_int) (ev_name rfl rfl rfl) rfl (by decide) (by lia) (by rw [tab_len]; lia) (by rw [tab_len]; lia) ?_)
      rw [hz] at hset
      rw [show (PV.int ((idx : Int) + 1)) = PV.int ((idx + 1 : Nat) : Int) from rfl, hset]
      refine ex_nil ?_
      exact ex_nil ⟨.cons rfl .nil, .cons rfl .nil⟩
  · refine ex_nil ?_
    have e : tabPV B ps.length ((rangePV 1 ps.length).length + 1) = (List.range ps.length).map fun j => PV.int (B j) := by
      unfold tabPV rangePV
      refine List.map_congr_left fun j hj => ?_
      have := List.mem_range.mp hj
      rw [if_pos (by simp; lia)]
    rw [e]
    exact ex_cons (ex1_return_own rfl (by decide) (.inl rfl))
end Mine

namespace Mine
open PySem PySem.W PyProof.Rows

noncomputable def f0 : UInt64 := 0
noncomputable def f1 : UInt64 := 4607182418800017408
noncomputable def f2 : UInt64 := 4611686018427387904
noncomputable def f4 : UInt64 := 4616189618054758400
noncomputable def f6 : UInt64 := 4618441417868443648
noncomputable def fh : UInt64 := 4602678819172646912
theorem z1 : Float64.isZero 4607182418800017408 = false := by decide +kernel
theorem z2 : Float64.isZero 4611686018427387904 = false := by decide +kernel
theorem z6 : Float64.isZero 4618441417868443648 = false := by decide +kernel
noncomputable def feq (x y : UInt64) : Bool := Float64.cmp x y == some .eq
noncomputable def fle (x y : UInt64) : Bool := Float64.cmp x y == some .lt || Float64.cmp x y == some .eq
noncomputable def fmod (x y : UInt64) : UInt64 := (Float64.divmod x y).2

noncomputable def hueF (r g maxc rc gc bc : UInt64) : UInt64 :=
  if feq r maxc then Float64.sub bc gc else if feq g maxc then Float64.sub (Float64.add f2 rc) bc else Float64.sub (Float64.add f4 gc) rc

noncomputable def rgbHls (r g b : UInt64) : Option (UInt64 × UInt64 × UInt64) :=
  let maxc := max3 r g b
  let minc := min3 r g b
  let sumc := Float64.add maxc minc
  let rangec := Float64.sub maxc minc
  let l := Float64.div sumc f2
  if feq minc maxc then some (f0, l, f0) else
  let den := if fle l fh then sumc else Float64.sub (Float64.sub f2 maxc) minc
  if Float64.isZero den || Float64.isZero rangec then Option.none else
  let rc := Float64.div (Float64.sub maxc r) rangec
  let gc := Float64.div (Float64.sub maxc g) rangec
  let bc := Float64.div (Float64.sub maxc b) rangec
  some (fmod (Float64.div (hueF r g maxc rc gc bc) f6) f1, l, Float64.div rangec den)

noncomputable def rgbHsv (r g b : UInt64) : Option (UInt64 × UInt64 × UInt64) :=
  let maxc := max3 r g b
  let minc := min3 r g b
  let rangec := Float64.sub maxc minc
  if feq minc maxc then some (f0, f0, maxc) else
  if Float64.isZero maxc || Float64.isZero rangec then Option.none else
  let rc := Float64.div (Float64.sub maxc r) rangec
  let gc := Float64.div (Float64.sub maxc g) rangec
  let bc := Float64.div (Float64.sub maxc b) rangec
  some (fmod (Float64.div (hueF r g maxc rc gc bc) f6) f1, Float64.div rangec maxc, maxc)

noncomputable def hsvRgb (h s v : UInt64) : Option (UInt64 × UInt64 × UInt64) :=
  if feq s f0 then some (v, v, v) else
  match truncF (Float64.mul h f6) with
  | Option.none => Option.none
  | some i =>
    if Float64.isInf (Float64.ofInt i) then Option.none else
    let f := Float64.sub (Float64.mul h f6) (Float64.ofInt i)
    let p := Float64.mul v (Float64.sub f1 s)
    let q := Float64.mul v (Float64.sub f1 (Float64.mul s f))
    let t := Float64.mul v (Float64.sub f1 (Float64.mul s (Float64.sub f1 f)))
    let j := i.fmod 6
    if j == 0 then some (v, t, p) else if j == 1 then some (q, v, p) else if j == 2 then some (p, v, t) else if j == 3 then some (p, q, v) else if j == 4 then some (t, p, v) else if j == 5 then some (v, p, q) else Option.none

noncomputable def pv3 (x : UInt64 × UInt64 × UInt64) : PV := .tup [.flt x.1, .flt x.2.1, .flt x.2.2]

section
variable {g : Pg} {d : Nat}

theorem ev_tup3 {K : Kn} {σ : Sig} {ω : Own} {e1 e2 e3 : Expr} {k : Nat} {pos : Pos} {p1 p2 p3 : PV} (h1 : Ev g d K σ ω e1 p1) (h2 : Ev g d K σ ω e2 p2) (h3 : Ev g d K σ ω e3 p3)
    (a1 : ∀ env, starEach [e1, e2, e3] env = (false, eval e1 env) :: starEach [e2, e3] env := by intro _; rfl) (a2 : ∀ env, starEach [e2, e3] env = (false, eval e2 env) :: starEach [e3] env := by intro _; rfl)
    (a3 : ∀ env, starEach [e3] env = (false, eval e3 env) :: starEach [] env := by intro _; rfl) : Ev g d K σ ω (.Tuple [e1, e2, e3] k pos) (.tup [p1, p2, p3]) :=
  ev_tuple (evl_cons h1 (evl_cons h2 (evl_cons h3 evl_nil a3) a2) a1) (by show (3 : Nat) ≤ 4096; decide)

theorem hsvRgb_walk (hg : ∀ x ∈ usedNames, x ∉ g.names) {h s v : UInt64} {o : UInt64 × UInt64 × UInt64} (H : hsvRgb h s v = some o) : Fn g d iRgb [.flt h, .flt s, .flt v] (pv3 o) := by
  unfold Fn
  unfold hsvRgb at H
  refine ex_cons (ex1_if (evb_cmp (ev_name rfl rfl rfl) ev_flt cm_eq_flt) (fun h0 => ?_) fun h0 => ?_)
  · have h0' : feq s f0 = true := h0
    rw [if_pos h0'] at H
    cases H
    exact ex_cons (ex1_return (ev_tup3 (ev_name rfl rfl rfl) (ev_name rfl rfl rfl) (ev_name rfl rfl rfl)) (.inl rfl))
  have h0' : feq s f0 = false := h0
  rw [if_neg (by rw [h0']; decide)] at H
  refine ex_nil ?_
  cases ht : truncF (Float64.mul h f6) with
  | none => rw [ht] at H; cases H
  | some i =>
    rw [ht] at H
    simp only at H
    split at H
    · cases H
    rename_i hinf
    refine ex_cons (ex1_assign (ev_callT rfl (hg _ (by decide)) PyProof.Rows.boot_int (evl_cons (ev_bin (ev_name rfl rfl rfl) ev_flt op_mul_flt) evl_nil) (cv_int ht)) (.inl rfl) rfl ?_)
    refine ex_cons (ex1_assign (ev_bin (ev_bin (ev_name rfl rfl rfl) ev_flt op_mul_flt) (ev_name rfl rfl rfl) (op_sub_fi (by simpa using hinf))) (.inl rfl) rfl ?_)
    refine ex_cons (ex1_assign (ev_bin (ev_name rfl rfl rfl) (ev_bin ev_flt (ev_name rfl rfl rfl) op_sub_flt) op_mul_flt) (.inl rfl) rfl ?_)
    refine ex_cons (ex1_assign (ev_bin (ev_name rfl rfl rfl) (ev_bin ev_flt (ev_bin (ev_name rfl rfl rfl) (ev_name rfl rfl rfl) op_mul_flt) op_sub_flt) op_mul_flt) (.inl rfl) rfl ?_)
    refine ex_cons (ex1_assign (ev_bin (ev_name rfl rfl rfl) (ev_bin ev_flt (ev_bin (ev_name rfl rfl rfl) (ev_bin ev_flt (ev_name rfl rfl rfl) op_sub_flt) op_mul_flt) op_sub_flt) op_mul_flt) (.inl rfl) rfl ?_)
    refine ex_cons (ex1_assign (ev_bin (ev_name rfl rfl rfl) ev_int (op_mod_int (by decide))) (.inl rfl) rfl ?_)
    iterate 6
      refine ex_cons (ex1_if (evb_cmp (ev_name rfl rfl rfl) ev_int cm_eq_int) (fun hj => ?_) fun hj => ?_)
      · rw [if_pos hj] at H
        cases H
        exact ex_cons (ex1_return (ev_tup3 (ev_name rfl rfl rfl) (ev_name rfl rfl rfl) (ev_name rfl rfl rfl)) (.inl rfl))
      rw [if_neg (by rw [hj]; decide)] at H
      refine ex_nil ?_
    cases H

theorem rgbHsv_walk (hg : ∀ x ∈ usedNames, x ∉ g.names) {r g' b : UInt64} {o : UInt64 × UInt64 × UInt64} (H : rgbHsv r g' b = some o) : Fn g d iHsv [.flt r, .flt g', .flt b] (pv3 o) := by
  unfold Fn
  unfold rgbHsv at H
  simp only at H
  have args : ∀ {σ ω}, σ.lookup (Str.ofString "r") = some (PV.flt r) → σ.lookup (Str.ofString "g") = some (PV.flt g') → σ.lookup (Str.ofString "b") = some (PV.flt b) → ∀ {p1 p2 p3 : Pos}, EvL g d iHsv.scope.names σ ω [.Name "r" p1, .Name "g" p2, .Name "b" p3] [.flt r, .flt g', .flt b] :=
    fun h1 h2 h3 => evl_cons (ev_name h1 rfl rfl) (evl_cons (ev_name h2 rfl rfl) (evl_cons (ev_name h3 rfl rfl) evl_nil))
  refine ex_cons (ex1_assign (ev_callB rfl (hg _ (by decide)) PyProof.Rows.boot_max (args rfl rfl rfl) cv_max3) (.inl rfl) rfl ?_)
  refine ex_cons (ex1_assign (ev_callB rfl (hg _ (by decide)) PyProof.Rows.boot_min (args rfl rfl rfl) cv_min3) (.inl rfl) rfl ?_)
  refine ex_cons (ex1_assign (ev_bin (ev_name rfl rfl rfl) (ev_name rfl rfl rfl) op_sub_flt) (.inl rfl) rfl ?_)
  refine ex_cons (ex1_assign (ev_name rfl rfl rfl) (.inl rfl) rfl ?_)
  refine ex_cons (ex1_if (evb_cmp (ev_name rfl rfl rfl) (ev_name rfl rfl rfl) cm_eq_flt) (fun h0 => ?_) fun h0 => ?_)
  · rw [if_pos (show feq _ _ = true from h0)] at H
    cases H
    exact ex_cons (ex1_return (ev_tup3 ev_flt ev_flt (ev_name rfl rfl rfl)) (.inl rfl))
  rw [if_neg (by rw [show feq _ _ = false from h0]; decide)] at H
  refine ex_nil ?_
  split at H
  · cases H
  rename_i hz
  simp only [Bool.or_eq_true, not_or, Bool.not_eq_true] at hz
  obtain ⟨hz1, hz2⟩ := hz
  refine ex_cons (ex1_assign (ev_bin (ev_name rfl rfl rfl) (ev_name rfl rfl rfl) (op_div_flt hz1)) (.inl rfl) rfl ?_)
  refine ex_cons (ex1_assign (ev_bin (ev_bin (ev_name rfl rfl rfl) (ev_name rfl rfl rfl) op_sub_flt) (ev_name rfl rfl rfl) (op_div_flt hz2)) (.inl rfl) rfl ?_)
  refine ex_cons (ex1_assign (ev_bin (ev_bin (ev_name rfl rfl rfl) (ev_name rfl rfl rfl) op_sub_flt) (ev_name rfl rfl rfl) (op_div_flt hz2)) (.inl rfl) rfl ?_)
  refine ex_cons (ex1_assign (ev_bin (ev_bin (ev_name rfl rfl rfl) (ev_name rfl rfl rfl) op_sub_flt) (ev_name rfl rfl rfl) (op_div_flt hz2)) (.inl rfl) rfl ?_)
  have fin : ∀ {σ : Sig} {ω : Own} {x : UInt64}, σ.lookup (Str.ofString "h") = some (PV.flt x) → σ.lookup (Str.ofString "s") = σ.lookup (Str.ofString "s") → True := fun _ _ => trivial
  unfold hueF at H
  refine ex_cons (ex1_if (evb_cmp (ev_name rfl rfl rfl) (ev_name rfl rfl rfl) cm_eq_flt) (fun h1 => ?_) fun h1 => ?_)
  · rw [if_pos (show feq _ _ = true from h1)] at H
    cases H
    refine ex_cons (ex1_assign (ev_bin (ev_name rfl rfl rfl) (ev_name rfl rfl rfl) op_sub_flt) (.inl rfl) rfl (ex_nil ?_))
    refine ex_cons (ex1_assign (ev_bin (ev_bin (ev_name rfl rfl rfl) ev_flt (op_div_flt z6)) ev_flt (op_mod_flt z1)) (.inl rfl) rfl ?_)
    exact ex_cons (ex1_return (ev_tup3 (ev_name rfl rfl rfl) (ev_name rfl rfl rfl) (ev_name rfl rfl rfl)) (.inl rfl))
  · rw [if_neg (by rw [show feq _ _ = false from h1]; decide)] at H
    refine ex_cons (ex1_if (evb_cmp (ev_name rfl rfl rfl) (ev_name rfl rfl rfl) cm_eq_flt) (fun h2 => ?_) fun h2 => ?_)
    · rw [if_pos (show feq _ _ = true from h2)] at H
      cases H
      refine ex_cons (ex1_assign (ev_bin (ev_bin ev_flt (ev_name rfl rfl rfl) op_add_flt) (ev_name rfl rfl rfl) op_sub_flt) (.inl rfl) rfl (ex_nil (ex_nil ?_)))
      refine ex_cons (ex1_assign (ev_bin (ev_bin (ev_name rfl rfl rfl) ev_flt (op_div_flt z6)) ev_flt (op_mod_flt z1)) (.inl rfl) rfl ?_)
      exact ex_cons (ex1_return (ev_tup3 (ev_name rfl rfl rfl) (ev_name rfl rfl rfl) (ev_name rfl rfl rfl)) (.inl rfl))
    · rw [if_neg (by rw [show feq _ _ = false from h2]; decide)] at H
      cases H
      refine ex_cons (ex1_assign (ev_bin (ev_bin ev_flt (ev_name rfl rfl rfl) op_add_flt) (ev_name rfl rfl rfl) op_sub_flt) (.inl rfl) rfl (ex_nil (ex_nil ?_)))
      refine ex_cons (ex1_assign (ev_bin (ev_bin (ev_name rfl rfl rfl) ev_flt (op_div_flt z6)) ev_flt (op_mod_flt z1)) (.inl rfl) rfl ?_)
      exact ex_cons (ex1_return (ev_tup3 (ev_name rfl rfl rfl) (ev_name rfl rfl rfl) (ev_name rfl rfl rfl)) (.inl rfl))

theorem rgbHls_walk (hg : ∀ x ∈ usedNames, x ∉ g.names) {r g' b : UInt64} {o : UInt64 × UInt64 × UInt64} (H : rgbHls r g' b = some o) : Fn g d iHls [.flt r, .flt g', .flt b] (pv3 o) := by
  unfold Fn
  unfold rgbHls at H
  simp only at H
  have args : ∀ {σ ω}, σ.lookup (Str.ofString "r") = some (PV.flt r) → σ.lookup (Str.ofString "g") = some (PV.flt g') → σ.lookup (Str.ofString "b") = some (PV.flt b) → ∀ {p1 p2 p3 : Pos}, EvL g d iHls.scope.names σ ω [.Name "r" p1, .Name "g" p2, .Name "b" p3] [.flt r, .flt g', .flt b] :=
    fun h1 h2 h3 => evl_cons (ev_name h1 rfl rfl) (evl_cons (ev_name h2 rfl rfl) (evl_cons (ev_name h3 rfl rfl) evl_nil))
  refine ex_cons (ex1_assign (ev_callB rfl (hg _ (by decide)) PyProof.Rows.boot_max (args rfl rfl rfl) cv_max3) (.inl rfl) rfl ?_)
  refine ex_cons (ex1_assign (ev_callB rfl (hg _ (by decide)) PyProof.Rows.boot_min (args rfl rfl rfl) cv_min3) (.inl rfl) rfl ?_)
  refine ex_cons (ex1_assign (ev_bin (ev_name rfl rfl rfl) (ev_name rfl rfl rfl) op_add_flt) (.inl rfl) rfl ?_)
  refine ex_cons (ex1_assign (ev_bin (ev_name rfl rfl rfl) (ev_name rfl rfl rfl) op_sub_flt) (.inl rfl) rfl ?_)
  refine ex_cons (ex1_assign (ev_bin (ev_name rfl rfl rfl) ev_flt (op_div_flt z2)) (.inl rfl) rfl ?_)
  refine ex_cons (ex1_if (evb_cmp (ev_name rfl rfl rfl) (ev_name rfl rfl rfl) cm_eq_flt) (fun h0 => ?_) fun h0 => ?_)
  · rw [if_pos (show feq _ _ = true from h0)] at H
    cases H
    exact ex_cons (ex1_return (ev_tup3 ev_flt (ev_name rfl rfl rfl) ev_flt) (.inl rfl))
  rw [if_neg (by rw [show feq _ _ = false from h0]; decide)] at H
  refine ex_nil ?_
  -- what follows the share, whichever way it was made
  have rest : ∀ {σ : Sig} {sh : UInt64}, σ.lookup (Str.ofString "r") = some (PV.flt r) → σ.lookup (Str.ofString "g") = some (PV.flt g') → σ.lookup (Str.ofString "b") = some (PV.flt b) → True := fun _ _ _ => trivial
  unfold hueF at H
  refine ex_cons (ex1_if (b := fle (Float64.div (Float64.add (max3 r g' b) (min3 r g' b)) f2) fh) (evb_cmp (ev_name rfl rfl rfl) ev_flt cm_le_flt) (fun hl => ?_) fun hl => ?_)
  all_goals rw [hl] at H
  all_goals simp only [if_true, Bool.false_eq_true, if_false] at H
  all_goals split at H
  all_goals first | (cases H; done) | skip
  all_goals rename_i hz
  all_goals simp only [Bool.or_eq_true, not_or, Bool.not_eq_true] at hz
  all_goals obtain ⟨hz1, hz2⟩ := hz
  · refine ex_cons (ex1_assign (ev_bin (ev_name rfl rfl rfl) (ev_name rfl rfl rfl) (op_div_flt hz1)) (.inl rfl) rfl (ex_nil ?_))
    refine ex_cons (ex1_assign (ev_bin (ev_bin (ev_name rfl rfl rfl) (ev_name rfl rfl rfl) op_sub_flt) (ev_name rfl rfl rfl) (op_div_flt hz2)) (.inl rfl) rfl ?_)
    refine ex_cons (ex1_assign (ev_bin (ev_bin (ev_name rfl rfl rfl) (ev_name rfl rfl rfl) op_sub_flt) (ev_name rfl rfl rfl) (op_div_flt hz2)) (.inl rfl) rfl ?_)
    refine ex_cons (ex1_assign (ev_bin (ev_bin (ev_name rfl rfl rfl) (ev_name rfl rfl rfl) op_sub_flt) (ev_name rfl rfl rfl) (op_div_flt hz2)) (.inl rfl) rfl ?_)
    refine ex_cons (ex1_if (evb_cmp (ev_name rfl rfl rfl) (ev_name rfl rfl rfl) cm_eq_flt) (fun h1 => ?_) fun h1 => ?_)
    · rw [if_pos (show feq _ _ = true from h1)] at H
      cases H
      refine ex_cons (ex1_assign (ev_bin (ev_name rfl rfl rfl) (ev_name rfl rfl rfl) op_sub_flt) (.inl rfl) rfl (ex_nil ?_))
      refine ex_cons (ex1_assign (ev_bin (ev_bin (ev_name rfl rfl rfl) ev_flt (op_div_flt z6)) ev_flt (op_mod_flt z1)) (.inl rfl) rfl ?_)
      exact ex_cons (ex1_return (ev_tup3 (ev_name rfl rfl rfl) (ev_name rfl rfl rfl) (ev_name rfl rfl rfl)) (.inl rfl))
    · rw [if_neg (by rw [show feq _ _ = false from h1]; decide)] at H
      refine ex_cons (ex1_if (evb_cmp (ev_name rfl rfl rfl) (ev_name rfl rfl rfl) cm_eq_flt) (fun h2 => ?_) fun h2 => ?_)
      · rw [if_pos (show feq _ _ = true from h2)] at H
        cases H
        refine ex_cons (ex1_assign (ev_bin (ev_bin ev_flt (ev_name rfl rfl rfl) op_add_flt) (ev_name rfl rfl rfl) op_sub_flt) (.inl rfl) rfl (ex_nil (ex_nil ?_)))
        refine ex_cons (ex1_assign (ev_bin (ev_bin (ev_name rfl rfl rfl) ev_flt (op_div_flt z6)) ev_flt (op_mod_flt z1)) (.inl rfl) rfl ?_)
        exact ex_cons (ex1_return (ev_tup3 (ev_name rfl rfl rfl) (ev_name rfl rfl rfl) (ev_name rfl rfl rfl)) (.inl rfl))
      · rw [if_neg (by rw [show feq _ _ = false from h2]; decide)] at H
        cases H
        refine ex_cons (ex1_assign (ev_bin (ev_bin ev_flt (ev_name rfl rfl rfl) op_add_flt) (ev_name rfl rfl rfl) op_sub_flt) (.inl rfl) rfl (ex_nil (ex_nil ?_)))
        refine ex_cons (ex1_assign (ev_bin (ev_bin (ev_name rfl rfl rfl) ev_flt (op_div_flt z6)) ev_flt (op_mod_flt z1)) (.inl rfl) rfl ?_)
        exact ex_cons (ex1_return (ev_tup3 (ev_name rfl rfl rfl) (ev_name rfl rfl rfl) (ev_name rfl rfl rfl)) (.inl rfl))
  · refine ex_cons (ex1_assign (ev_bin (ev_name rfl rfl rfl) (ev_bin (ev_bin ev_flt (ev_name rfl rfl rfl) op_sub_flt) (ev_name rfl rfl rfl) op_sub_flt) (op_div_flt hz1)) (.inl rfl) rfl (ex_nil ?_))
    refine ex_cons (ex1_assign (ev_bin (ev_bin (ev_name rfl rfl rfl) (ev_name rfl rfl rfl) op_sub_flt) (ev_name rfl rfl rfl) (op_div_flt hz2)) (.inl rfl) rfl ?_)
    refine ex_cons (ex1_assign (ev_bin (ev_bin (ev_name rfl rfl rfl) (ev_name rfl rfl rfl) op_sub_flt) (ev_name rfl rfl rfl) (op_div_flt hz2)) (.inl rfl) rfl ?_)
    refine ex_cons (ex1_assign (ev_bin (ev_bin (ev_name rfl rfl rfl) (ev_name rfl rfl rfl) op_sub_flt) (ev_name rfl rfl rfl) (op_div_flt hz2)) (.inl rfl) rfl ?_)
    refine ex_cons (ex1_if (evb_cmp (ev_name rfl rfl rfl) (ev_name rfl rfl rfl) cm_eq_flt) (fun h1 => ?_) fun h1 => ?_)
    · rw [if_pos (show feq _ _ = true from h1)] at H
      cases H
      refine ex_cons (ex1_assign (ev_bin (ev_name rfl rfl rfl) (ev_name rfl rfl rfl) op_sub_flt) (.inl rfl) rfl (ex_nil ?_))
      refine ex_cons (ex1_assign (ev_bin (ev_bin (ev_name rfl rfl rfl) ev_flt (op_div_flt z6)) ev_flt (op_mod_flt z1)) (.inl rfl) rfl ?_)
      exact ex_cons (ex1_return (ev_tup3 (ev_name rfl rfl rfl) (ev_name rfl rfl rfl) (ev_name rfl rfl rfl)) (.inl rfl))
    · rw [if_neg (by rw [show feq _ _ = false from h1]; decide)] at H
      refine ex_cons (ex1_if (evb_cmp (ev_name rfl rfl rfl) (ev_name rfl rfl rfl) cm_eq_flt) (fun h2 => ?_) fun h2 => ?_)
      · rw [if_pos (show feq _ _ = true from h2)] at H
        cases H
        refine ex_cons (ex1_assign (ev_bin (ev_bin ev_flt (ev_name rfl rfl rfl) op_add_flt) (ev_name rfl rfl rfl) op_sub_flt) (.inl rfl) rfl (ex_nil (ex_nil ?_)))
        refine ex_cons (ex1_assign (ev_bin (ev_bin (ev_name rfl rfl rfl) ev_flt (op_div_flt z6)) ev_flt (op_mod_flt z1)) (.inl rfl) rfl ?_)
        exact ex_cons (ex1_return (ev_tup3 (ev_name rfl rfl rfl) (ev_name rfl rfl rfl) (ev_name rfl rfl rfl)) (.inl rfl))
      · rw [if_neg (by rw [show feq _ _ = false from h2]; decide)] at H
        cases H
        refine ex_cons (ex1_assign (ev_bin (ev_bin ev_flt (ev_name rfl rfl rfl) op_add_flt) (ev_name rfl rfl rfl) op_sub_flt) (.inl rfl) rfl (ex_nil (ex_nil ?_)))
        refine ex_cons (ex1_assign (ev_bin (ev_bin (ev_name rfl rfl rfl) ev_flt (op_div_flt z6)) ev_flt (op_mod_flt z1)) (.inl rfl) rfl ?_)
        exact ex_cons (ex1_return (ev_tup3 (ev_name rfl rfl rfl) (ev_name rfl rfl rfl) (ev_name rfl rfl rfl)) (.inl rfl))
end
end Mine

namespace Mine
open PySem PySem.W PyProof.Rows

noncomputable def natsP (l : List Nat) : PV := .lst (l.map fun (n : Nat) => PV.int n)

theorem Ev.eq {g : Pg} {d : Nat} {K : Kn} {σ : Sig} {ω : Own} {e : Expr} {p q : PV} (h : Ev g d K σ ω e p) (hq : p = q) : Ev g d K σ ω e q := hq ▸ h
theorem EvIt.eq {g : Pg} {d : Nat} {K : Kn} {σ : Sig} {ω : Own} {en : Bool} {e : Expr} {p q : List PV} (h : EvIt g d K σ ω en e p) (hq : p = q) : EvIt g d K σ ω en e q := hq ▸ h
theorem Cm2.eq {op : CmpOp} {p q : PV} {b b' : Bool} (h : Cm2 op p q b) (e : b = b') : Cm2 op p q b' := e ▸ h
theorem cm_ge_nat {a b : Nat} {i j : Int} (hi : i = a) (hj : j = b) : Cm2 .GtE (.int i) (.int j) (decide (b ≤ a)) := cm_ge_int.eq (by subst hi hj; simp)
theorem cm_gt_nat {a b : Nat} {i j : Int} (hi : i = a) (hj : j = b) : Cm2 .Gt (.int i) (.int j) (decide (b < a)) := cm_gt_int.eq (by subst hi hj; simp)

/-- the turns that the table tells, from a size on -/
noncomputable def toldF (B : Nat → Nat) (n : Nat) : Nat → Nat → List Nat
  | 0, _ => []
  | f + 1, size => if n ≤ size then (2 * n - size) :: toldF B n f (B (size - 1)) else []

section
variable {g : Pg} {d : Nat}

theorem told_walk (hg : ∀ x ∈ usedNames, x ∉ g.names) (hd : iKmp ∈ g.defs) {ring : List Int} (h1 : 1 ≤ ring.length) (h2 : ring.length ≤ 64) {eq : Nat → Nat → Bool} {B : Nat → Nat}
    (heq : ∀ i j (a b : Int), (ring ++ ring)[i]? = some a → (ring ++ ring)[j]? = some b → (a == b) = eq i j) (hB : Kmp eq (2 * ring.length) B) :
    Fn g (d + 1) iTold [intsL ring] (natsP (toldF B ring.length (2 * ring.length) (B (2 * ring.length - 1)))) := by
  unfold Fn
  have hlen : ∀ {σ ω pos pos' pos''}, σ.lookup (Str.ofString "ring") = some (intsL ring) → Ev g (d + 1) iTold.scope.names σ ω (.Call (.Name "len" pos) [.Name "ring" pos'] [] pos'') (.int ring.length) := fun h =>
    (ev_callB rfl (hg _ (by decide)) boot_len (evl_cons (ev_name h rfl rfl) evl_nil) (cv_len (by rw [List.length_map]; lia))).eq (by rw [List.length_map])
  have l2 : ((ring.map PV.int) ++ (ring.map PV.int)).length = 2 * ring.length := by simp; lia
  refine ex_cons (ex1_assign (ev_call (it := iKmp) hd rfl (evl_cons (ev_bin (ev_name rfl rfl rfl) (ev_name rfl rfl rfl) (op_add_lst (by simp; lia))) evl_nil)
    (kmp_body hg (ps := ring.map PV.int ++ ring.map PV.int) (eq := eq) (B := B) (by lia) (fun i j p q hp hq => ?_) (by rw [l2]; exact hB)) plKmp) (.inl rfl) rfl ?_)
  · rw [← List.map_append, List.getElem?_map] at hp hq
    obtain ⟨a, ha, rfl⟩ := Option.map_eq_some_iff.mp hp
    obtain ⟨b, hb, rfl⟩ := Option.map_eq_some_iff.mp hq
    rw [← heq i j a b ha hb]; simp [peq]
  rw [l2]
  have tlen : ((List.range (2 * ring.length)).map fun j => PV.int (B j)).length ≤ 4096 := by simp; lia
  have tget : ∀ {k : Int} {j : Nat}, k = j → j < 2 * ring.length → pidx ((List.range (2 * ring.length)).map fun j => PV.int (B j)) k = some (.int (B j)) := fun {k j} hk hj => pidx_nat hk (by simp [hj])
  have hle : B (2 * ring.length - 1) ≤ 2 * ring.length - 1 := hB.le _ (by (clear tget tlen l2 hlen hB heq hd hg h2; omega))
  refine ex_cons (ex1_swap_own (evn_list evl_nil (by decide)) (ev_idx (x := .int (B (2 * ring.length - 1))) (ev_name rfl rfl rfl) (ev_un ev_int op_neg_int) (pidx_last ?_) tlen) rfl rfl (by decide) rfl ?_)
  · rw [List.getLast?_eq_getElem?, List.length_map, List.length_range, List.getElem?_map, List.getElem?_range (by (clear hle tget tlen l2 hlen hB heq hd hg h2; omega))]; rfl
  refine ex_cons (ex1_whileC (α := Nat × List Nat) (fun a => [(Str.ofString "size", .int a.1), (Str.ofString "table", .lst ((List.range (2 * ring.length)).map fun j => PV.int (B j))), (Str.ofString "ring", intsL ring)])
    (fun a => [(Str.ofString "turns", a.2.map fun (n : Nat) => PV.int n)]) (fun a => a.1) (fun a => a.1 < 2 * ring.length ∧ a.2.length + a.1 ≤ 2 * ring.length ∧ ∃ f, a.1 ≤ f ∧ a.2 ++ toldF B ring.length f a.1 = toldF B ring.length (2 * ring.length) (B (2 * ring.length - 1)))
    (B (2 * ring.length - 1), []) ⟨by show B (2 * ring.length - 1) < _; lia, by show 0 + B (2 * ring.length - 1) ≤ _; lia, 2 * ring.length, by show B (2 * ring.length - 1) ≤ _; lia, rfl⟩ ⟨.cons rfl (.cons rfl (.cons rfl .nil)), .cons rfl .nil⟩ ?_)
  rintro ⟨s, l⟩ ⟨hs, hl, f, hf, hT⟩
  simp only at hs hl hf hT
  refine ⟨decide (ring.length ≤ s), evb_cmp (ev_name rfl rfl rfl) (hlen rfl) (cm_ge_nat rfl rfl), fun hb => ?_, fun hb => ?_⟩
  · have hb' : ring.length ≤ s := of_decide_eq_true hb
    have hBs := hB.le (s - 1) (by lia)
    refine ex_cons (ex1_append (ev_bin (ev_bin ev_int (hlen rfl) (op_mul_int (IntMulOk.of_left (by decide)))) (ev_name rfl rfl rfl) op_sub_int) rfl (by decide) (by rw [List.length_map]; show l.length ≤ 4096; lia) ?_)
    refine ex_cons (ex1_assign (ev_idx (ev_name rfl rfl rfl) (ev_bin (ev_name rfl rfl rfl) ev_int op_sub_int) (tget (j := s - 1) (by lia) (by (clear hBs hb hT hf hl hle tget tlen l2 hlen hB heq h2 h1 hd hg hb'; omega))) tlen) (.inl rfl) rfl ?_)
    obtain ⟨f', rfl⟩ : ∃ f', f = f' + 1 := ⟨f - 1, by lia⟩
    refine ex_nil ⟨(B (s - 1), l ++ [2 * ring.length - s]), by show B (s - 1) < s; lia, ⟨by show B (s - 1) < _; lia, by show (l ++ [2 * ring.length - s]).length + B (s - 1) ≤ _; rw [List.length_append]; show l.length + 1 + _ ≤ _; lia, f', by show B (s - 1) ≤ f'; lia, ?_⟩,
      .cons rfl (.cons rfl (.cons rfl .nil)), .cons ?_ .nil⟩
    · rw [← hT, toldF, if_pos hb', List.append_assoc]; rfl
    · show some _ = some _
      rw [List.map_append]
      congr 2
      show [PV.int _] = [PV.int _]
      congr 2
      lia
  · have hb' : ¬ ring.length ≤ s := of_decide_eq_false hb
    refine ex_nil ?_
    have e : l = toldF B ring.length (2 * ring.length) (B (2 * ring.length - 1)) := by
      rw [← hT]
      cases f with
      | zero => simp [toldF]
      | succ f => rw [toldF, if_neg hb', List.append_nil]
    rw [← e]
    exact ex_cons (ex1_return_own rfl (by decide) (.inl rfl))
end
end Mine

namespace Mine
open PySem PySem.W PyProof.Rows

/-! hues in sixteenths of the wheel, and their lights -/

noncomputable def frL : List UInt64 := [0, 4589168020290535424, 4593671619917905920, 4595923419731591168, 4598175219545276416, 4599301119452119040, 4600427019358961664, 4601552919265804288, 4602678819172646912, 4603241769126068224, 4603804719079489536, 4604367669032910848, 4604930618986332160, 4605493568939753472, 4606056518893174784, 4606619468846596096, 4607182418800017408, 4607463893776728064, 4607745368753438720, 4608026843730149376, 4608308318706860032, 4608589793683570688, 4608871268660281344, 4609152743636992000, 4609434218613702656, 4609715693590413312, 4609997168567123968, 4610278643543834624, 4610560118520545280, 4610841593497255936, 4611123068473966592, 4611404543450677248]
noncomputable def fr (k : Nat) : UInt64 := frL.getD k 0
noncomputable def LTs : List T3 := [(4607182418800017408, 0, 0), (4607182418800017408, 4600427019358961664, 0), (4607182418800017408, 4604930618986332160, 0), (4606056518893174784, 4607182418800017408, 0), (4602678819172646912, 4607182418800017408, 0), (4593671619917905920, 4607182418800017408, 0), (0, 4607182418800017408, 4598175219545276416), (0, 4607182418800017408, 4603804719079489536), (0, 4607182418800017408, 4607182418800017408), (0, 4603804719079489536, 4607182418800017408), (0, 4598175219545276416, 4607182418800017408), (4593671619917905920, 0, 4607182418800017408), (4602678819172646912, 0, 4607182418800017408), (4606056518893174784, 0, 4607182418800017408), (4607182418800017408, 0, 4604930618986332160), (4607182418800017408, 0, 4600427019358961664)]
noncomputable def LT (k : Nat) : T3 := LTs.getD k (0, 0, 0)
noncomputable def HAs : List T3 := [(4602678819172646912, 0, 0), (4602678819172646912, 4595923419731591168, 0), (4602678819172646912, 4600427019358961664, 0), (4601552919265804288, 4602678819172646912, 0), (4598175219545276416, 4602678819172646912, 0), (4589168020290535424, 4602678819172646912, 0), (0, 4602678819172646912, 4593671619917905920), (0, 4602678819172646912, 4599301119452119040), (0, 4602678819172646912, 4602678819172646912), (0, 4599301119452119040, 4602678819172646912), (0, 4593671619917905920, 4602678819172646912), (4589168020290535424, 0, 4602678819172646912), (4598175219545276416, 0, 4602678819172646912), (4601552919265804288, 0, 4602678819172646912), (4602678819172646912, 0, 4600427019358961664), (4602678819172646912, 0, 4595923419731591168)]
noncomputable def HA (k : Nat) : T3 := HAs.getD k (0, 0, 0)
noncomputable def HBs : List T3 := [(4607182418800017408, 4602678819172646912, 4602678819172646912), (4607182418800017408, 4604367669032910848, 4602678819172646912), (4607182418800017408, 4606056518893174784, 4602678819172646912), (4606619468846596096, 4607182418800017408, 4602678819172646912), (4604930618986332160, 4607182418800017408, 4602678819172646912), (4603241769126068224, 4607182418800017408, 4602678819172646912), (4602678819172646912, 4607182418800017408, 4603804719079489536), (4602678819172646912, 4607182418800017408, 4605493568939753472), (4602678819172646912, 4607182418800017408, 4607182418800017408), (4602678819172646912, 4605493568939753472, 4607182418800017408), (4602678819172646912, 4603804719079489536, 4607182418800017408), (4603241769126068224, 4602678819172646912, 4607182418800017408), (4604930618986332160, 4602678819172646912, 4607182418800017408), (4606619468846596096, 4602678819172646912, 4607182418800017408), (4607182418800017408, 4602678819172646912, 4606056518893174784), (4607182418800017408, 4602678819172646912, 4604367669032910848)]
noncomputable def HB (k : Nat) : T3 := HBs.getD k (0, 0, 0)
noncomputable def rkL : List Nat := [11, 14, 15, 10, 8, 6, 2, 3, 4, 1, 0, 5, 7, 9, 13, 12]
noncomputable def rk (k : Nat) : Nat := rkL.getD k 0
noncomputable def eeL : List UInt64 := [0, 4593671619917905920, 4598175219545276416, 4600427019358961664, 4602678819172646912, 4603804719079489536, 4604930618986332160, 4606056518893174784, 4607182418800017408, 4607745368753438720, 4608308318706860032, 4608871268660281344, 4609434218613702656, 4609997168567123968, 4610560118520545280, 4611123068473966592, 4611686018427387904, 4611967493404098560, 4612248968380809216, 4612530443357519872, 4612811918334230528, 4613093393310941184, 4613374868287651840, 4613656343264362496, 4613937818241073152, 4614219293217783808, 4614500768194494464, 4614782243171205120, 4615063718147915776, 4615345193124626432, 4615626668101337088, 4615908143078047744, 4616189618054758400, 4616330355543113728, 4616471093031469056, 4616611830519824384, 4616752568008179712, 4616893305496535040, 4617034042984890368, 4617174780473245696, 4617315517961601024, 4617456255449956352, 4617596992938311680, 4617737730426667008, 4617878467915022336, 4618019205403377664, 4618159942891732992, 4618300680380088320, 4618441417868443648, 4618582155356798976, 4618722892845154304, 4618863630333509632, 4619004367821864960, 4619145105310220288, 4619285842798575616, 4619426580286930944, 4619567317775286272, 4619708055263641600, 4619848792751996928, 4619989530240352256, 4620130267728707584, 4620271005217062912, 4620411742705418240, 4620552480193773568, 4620693217682128896]
noncomputable def ee (k : Nat) : UInt64 := eeL.getD k 0
noncomputable def cnL : List (Nat × Nat × Nat) := [(8, 0, 0), (8, 3, 0), (8, 6, 0), (7, 8, 0), (4, 8, 0), (1, 8, 0), (0, 8, 2), (0, 8, 5), (0, 8, 8), (0, 5, 8), (0, 2, 8), (1, 0, 8), (4, 0, 8), (7, 0, 8), (8, 0, 6), (8, 0, 3)]
noncomputable def cn (k : Nat) : Nat × Nat × Nat := cnL.getD k (0, 0, 0)
noncomputable def fq : UInt64 := 4598175219545276416
noncomputable def f3q : UInt64 := 4604930618986332160
theorem all1 {n : Nat} {f : Nat → Bool} (h : ((List.range n).all f) = true) {k : Nat} (hk : k < n) : f k = true := List.all_eq_true.mp h k (List.mem_range.mpr hk)
theorem all2 {n m : Nat} {f : Nat → Nat → Bool} (h : ((List.range n).all fun i => (List.range m).all fun j => f i j) = true) {i j : Nat} (hi : i < n) (hj : j < m) : f i j = true := all1 (all1 (f := fun i => (List.range m).all fun j => f i j) h hi) hj
theorem fr1_k : ((List.range 2).all fun k => fracF (k : Nat) (1 : Nat) == fr (k * 16) && !(Float64.isInf (fracF (k : Nat) (1 : Nat)))) = true := by decide +kernel
theorem fr2_k : ((List.range 3).all fun k => fracF (k : Nat) (2 : Nat) == fr (k * 8) && !(Float64.isInf (fracF (k : Nat) (2 : Nat)))) = true := by decide +kernel
theorem fr4_k : ((List.range 5).all fun k => fracF (k : Nat) (4 : Nat) == fr (k * 4) && !(Float64.isInf (fracF (k : Nat) (4 : Nat)))) = true := by decide +kernel
theorem fr8_k : ((List.range 9).all fun k => fracF (k : Nat) (8 : Nat) == fr (k * 2) && !(Float64.isInf (fracF (k : Nat) (8 : Nat)))) = true := by decide +kernel
theorem fr16_k : ((List.range 17).all fun k => fracF (k : Nat) (16 : Nat) == fr (k * 1) && !(Float64.isInf (fracF (k : Nat) (16 : Nat)))) = true := by decide +kernel
theorem add_k : ((List.range 16).all fun i => (List.range 17).all fun j => Float64.add (fr i) (fr j) == fr (i + j)) = true := by decide +kernel
theorem rgb_k : ((List.range 32).all fun k => hsvRgb (fr k) f1 f1 == some (LT (k % 16))) = true := by decide +kernel
theorem rgbA_k : ((List.range 16).all fun k => hsvRgb (fr k) f1 fh == some (HA k) && (rgbHsv (HA k).1 (HA k).2.1 (HA k).2.2 == some (fr k, f1, fh) && rgbHls (HA k).1 (HA k).2.1 (HA k).2.2 == some (fr k, fq, f1))) = true := by decide +kernel
theorem rgbB_k : ((List.range 16).all fun k => hsvRgb (fr k) fh f1 == some (HB k) && (rgbHsv (HB k).1 (HB k).2.1 (HB k).2.2 == some (fr k, fh, f1) && rgbHls (HB k).1 (HB k).2.1 (HB k).2.2 == some (fr k, f3q, f1))) = true := by decide +kernel
theorem feq_k : ((List.range 16).all fun i => (List.range 16).all fun j => eqF (fr i) (fr j) == (i == j)) = true := by decide +kernel
theorem fnan_k : ((List.range 16).all fun k => !(Float64.isNaN (fr k)) && noNan (LT k)) = true := by decide +kernel
theorem leq_k : ((List.range 16).all fun i => (List.range 16).all fun j => (eqF (LT i).1 (LT j).1 && (eqF (LT i).2.1 (LT j).2.1 && eqF (LT i).2.2 (LT j).2.2)) == (i == j)) = true := by decide +kernel
theorem llt_k : ((List.range 16).all fun i => (List.range 16).all fun j => lt3 (LT i) (LT j) == decide (rk i < rk j)) = true := by decide +kernel
theorem dbl_k : ((List.range 16).all fun k => (Float64.divmod (Float64.mul (Float64.ofInt 2) (fr k)) 4607182418800017408).2 == fr (2 * k % 16)) = true := by decide +kernel
theorem hlf_k : ((List.range 16).all fun k => ltF (fr k) 4602678819172646912 == decide (k < 8)) = true := by decide +kernel
theorem sum_k0 : ((List.range 32).all fun i => (List.range 9).all fun j => Float64.add (ee i) (ee j) == ee (i + j)) = true := by decide +kernel
theorem sum_k1 : ((List.range 33).all fun i => (List.range 9).all fun j => decide (64 < i + 32 + j) || Float64.add (ee (i + 32)) (ee j) == ee (i + 32 + j)) = true := by decide +kernel
theorem cnt_k : ((List.range 16).all fun k => (LT k).1 == ee (cn k).1 && ((LT k).2.1 == ee (cn k).2.1 && ((LT k).2.2 == ee (cn k).2.2 && decide ((cn k).1 ≤ 8 ∧ (cn k).2.1 ≤ 8 ∧ (cn k).2.2 ≤ 8)))) = true := by decide +kernel
theorem cmp_k : ((List.range 8).all fun k => decide ((cn k).1 + (cn (k + 8)).1 = 8 ∧ (cn k).2.1 + (cn (k + 8)).2.1 = 8 ∧ (cn k).2.2 + (cn (k + 8)).2.2 = 8)) = true := by decide +kernel
theorem avg_k : ((List.range 17).all fun k => k == 0 || (Float64.div (ee (4 * k)) (Float64.ofInt (k : Nat)) == fh && (!(Float64.isInf (Float64.ofInt (k : Nat))) && !(Float64.isZero (Float64.ofInt (k : Nat)))))) = true := by decide +kernel
theorem grey_k : (rgbHls fh fh fh == some (f0, fh, f0)) = true := by decide +kernel
theorem two_k : (!(Float64.isInf (Float64.ofInt 2))) = true := by decide +kernel
theorem rkinj_k : ((List.range 16).all fun i => (List.range 16).all fun j => (rk i == rk j) == (i == j)) = true := by decide +kernel
end Mine

namespace Mine
open PySem PySem.W PyProof.Rows

noncomputable def Lv (N e : Nat) : Prop := (N = 1 ∧ e = 16) ∨ (N = 2 ∧ e = 8) ∨ (N = 4 ∧ e = 4) ∨ (N = 8 ∧ e = 2) ∨ (N = 16 ∧ e = 1)
theorem Lv.mul {N e : Nat} (h : Lv N e) : N * e = 16 := by rcases h with ⟨rfl, rfl⟩ | ⟨rfl, rfl⟩ | ⟨rfl, rfl⟩ | ⟨rfl, rfl⟩ | ⟨rfl, rfl⟩ <;> rfl
theorem Lv.pos {N e : Nat} (h : Lv N e) : 1 ≤ N ∧ N ≤ 16 ∧ 1 ≤ e ∧ e ≤ 16 := by unfold Lv at h; lia
theorem Lv.lt {N e p : Nat} (h : Lv N e) (hp : p < N) : p * e < 16 := by
  have := h.mul
  calc p * e < N * e := Nat.mul_lt_mul_of_pos_right hp h.pos.2.2.1
    _ = 16 := this
theorem Lv.le {N e p : Nat} (h : Lv N e) (hp : p ≤ N) : p * e ≤ 16 := by
  have := h.mul
  calc p * e ≤ N * e := Nat.mul_le_mul_right e hp
    _ = 16 := this

theorem frac_of {N e p : Nat} (h : Lv N e) (hp : p ≤ N) : fracF (p : Nat) (N : Nat) = fr (p * e) ∧ Float64.isInf (fracF (p : Nat) (N : Nat)) = false := by
  have key : ∀ {M f : Nat}, ((List.range (M + 1)).all fun k => fracF (k : Nat) (M : Nat) == fr (k * f) && !(Float64.isInf (fracF (k : Nat) (M : Nat)))) = true → p ≤ M → fracF (p : Nat) (M : Nat) = fr (p * f) ∧ Float64.isInf (fracF (p : Nat) (M : Nat)) = false := fun {M f} h hp => by
    have := all1 (f := fun k => fracF (k : Nat) (M : Nat) == fr (k * f) && !(Float64.isInf (fracF (k : Nat) (M : Nat)))) h (Nat.lt_succ_of_le hp)
    simp only [Bool.and_eq_true, beq_iff_eq, Bool.not_eq_true'] at this
    exact this
  rcases h with ⟨rfl, rfl⟩ | ⟨rfl, rfl⟩ | ⟨rfl, rfl⟩ | ⟨rfl, rfl⟩ | ⟨rfl, rfl⟩
  · exact key fr1_k hp
  · exact key fr2_k hp
  · exact key fr4_k hp
  · exact key fr8_k hp
  · exact key fr16_k hp

theorem add_fr {i j : Nat} (hi : i < 16) (hj : j ≤ 16) : Float64.add (fr i) (fr j) = fr (i + j) := by
  have := all2 (f := fun i j => Float64.add (fr i) (fr j) == fr (i + j)) add_k hi (Nat.lt_succ_of_le hj)
  simpa using this
theorem rgb_fr {k : Nat} (hk : k < 32) : hsvRgb (fr k) f1 f1 = some (LT (k % 16)) := by
  have := all1 (f := fun k => hsvRgb (fr k) f1 f1 == some (LT (k % 16))) rgb_k hk
  simpa using this
theorem rgb_fr16 {k : Nat} (hk : k < 16) : hsvRgb (fr k) f1 f1 = some (LT k) := by
  have := rgb_fr (k := k) (by lia)
  rwa [Nat.mod_eq_of_lt hk] at this
theorem eq_fr {i j : Nat} (hi : i < 16) (hj : j < 16) : eqF (fr i) (fr j) = decide (i = j) := by
  have := all2 (f := fun i j => eqF (fr i) (fr j) == (i == j)) feq_k hi hj
  rw [beq_iff_eq] at this
  rw [this, Bool.eq_iff_iff]; simp
theorem nan_fr {k : Nat} (hk : k < 16) : Float64.isNaN (fr k) = false := by
  have := all1 (f := fun k => !(Float64.isNaN (fr k)) && noNan (LT k)) fnan_k hk
  simp only [Bool.and_eq_true, Bool.not_eq_true'] at this
  exact this.1
theorem nan_LT {k : Nat} (hk : k < 16) : noNan (LT k) = true := by
  have := all1 (f := fun k => !(Float64.isNaN (fr k)) && noNan (LT k)) fnan_k hk
  simp only [Bool.and_eq_true] at this
  exact this.2

theorem peq_fr {n i j : Nat} (hi : i < 16) (hj : j < 16) : peq n (.flt (fr i)) (.flt (fr j)) = some (decide (i = j)) := by
  have h1 := eq_fr hi hj
  unfold eqF at h1
  cases n <;> simp only [peq, nan_fr hi, nan_fr hj, Bool.or_self, Bool.false_eq_true, if_false, h1]
theorem peq_tup3 {n : Nat} {x y : T3} (hx : noNan x = true) (hy : noNan y = true) : peq (n + 1) (tup3 x) (tup3 y) = some (eqF x.1 y.1 && (eqF x.2.1 y.2.1 && eqF x.2.2 y.2.2)) := by
  unfold noNan isN at hx hy
  simp only [Bool.not_eq_true', Bool.or_eq_false_iff] at hx hy
  cases n <;> simp [tup3, peq, peqL, hx, hy, eqF]
theorem peq_LT {n i j : Nat} (hi : i < 16) (hj : j < 16) : peq (n + 1) (tup3 (LT i)) (tup3 (LT j)) = some (decide (i = j)) := by
  rw [peq_tup3 (nan_LT hi) (nan_LT hj)]
  have := all2 (f := fun i j => (eqF (LT i).1 (LT j).1 && (eqF (LT i).2.1 (LT j).2.1 && eqF (LT i).2.2 (LT j).2.2)) == (i == j)) leq_k hi hj
  rw [beq_iff_eq] at this
  exact congrArg some (this.trans (by rw [Bool.eq_iff_iff]; simp))

theorem fr_inj {i j : Nat} (hi : i < 16) (hj : j < 16) (h : PV.flt (fr i) = PV.flt (fr j)) : i = j := by
  have h1 := peq_fr (n := 0) hi hj
  rw [← h] at h1
  have h2 := peq_fr (n := 0) hi hi
  rw [h1] at h2
  simpa using h2
theorem LT_inj {i j : Nat} (hi : i < 16) (hj : j < 16) (h : tup3 (LT i) = tup3 (LT j)) : i = j := by
  have h1 := peq_LT (n := 0) hi hj
  rw [← h] at h1
  have h2 := peq_LT (n := 0) hi hi
  rw [h1] at h2
  simpa using h2

/-- hues in sixteenths -/
noncomputable def huesP (ks : List Nat) : PV := .lst (ks.map fun k => PV.flt (fr k))
noncomputable def Lt16 (ks : List Nat) : Prop := ∀ k ∈ ks, k < 16

theorem fr_injL {ks : List Nat} (h : Lt16 ks) : ∀ a ∈ ks, ∀ b ∈ ks, PV.flt (fr a) = PV.flt (fr b) → a = b := fun a ha b hb => fr_inj (h a ha) (h b hb)
theorem LT_injL {ks : List Nat} (h : Lt16 ks) : ∀ a ∈ ks, ∀ b ∈ ks, tup3 (LT a) = tup3 (LT b) → a = b := fun a ha b hb => LT_inj (h a ha) (h b hb)
end Mine

namespace Mine
open PySem PySem.W PyProof.Rows

/-- the hues go onto themselves by so many places -/
noncomputable def turnOk (ks : List Nat) (e t : Nat) : Bool := ks.all fun k => decide ((k + t * e) % 16 ∈ ks)
noncomputable def seenL (ks : List Nat) (N e : Nat) : List Nat := ((List.range N).filter fun j => turnOk ks e (j + 1)).map (· + 1)

section
variable {g : Pg} {d : Nat}

theorem rangePV_nat (b : Int) : rangePV 0 b = (List.range b.toNat).map fun (n : Nat) => PV.int n := by
  unfold rangePV
  rw [Int.sub_zero]
  refine List.map_congr_left fun k _ => by rw [Int.zero_add]
theorem nat_inj {l : List Nat} : ∀ a ∈ l, ∀ b ∈ l, PV.int (a : Nat) = PV.int (b : Nat) → a = b := fun a _ b _ h => by injection h with h; lia

theorem seen_walk (hg : ∀ x ∈ usedNames, x ∉ g.names) (hd : iRgb ∈ g.defs) {ks : List Nat} {N e : Nat} (hL : Lv N e) (hk : Lt16 ks) (hn : ks.length ≤ 64) :
    Fn g (d + 1) iSeen [huesP ks, .int N] (natsP (seenL ks N e)) := by
  unfold Fn
  obtain ⟨p1, p2, p3, p4⟩ := hL.pos
  have hm : ∀ m : Nat, m % 16 < 16 := fun m => Nat.mod_lt _ (by decide)
  -- the lights
  refine ex_cons (ex1_assign_cell (p := .lst (ks.map fun k => tup3 (LT k))) (ev_mapL (fun k => PV.flt (fr k)) (fr_injL hk) [] (fun k => tup3 (LT k)) (evit_list (ev_name rfl rfl rfl)) (by decide) .nil (.inl rfl)
    (fun k hkm => ev_call (it := iRgb) hd rfl (evl_cons (ev_name rfl rfl rfl) (evl_cons ev_flt (evl_cons ev_flt evl_nil))) (hsvRgb_walk hg (rgb_fr16 (hk k hkm))) plRgb) (by lia)) rfl rfl ?_)
  -- turned by each turn
  refine ex_cons (ex1_assign_cell (p := .lst ((List.range N).map fun j => PV.lst (ks.map fun k => tup3 (LT ((k + (j + 1) * e) % 16))))) (ev_mapL (fun (j : Nat) => PV.int (1 + j)) (l := List.range N) (fun a _ b _ h => by injection h with h; lia)
    [(Str.ofString "hues", huesP ks), (Str.ofString "size", .int N)] (fun j => PV.lst (ks.map fun k => tup3 (LT ((k + (j + 1) * e) % 16))))
    ((evit_range2 ev_int (ev_bin (ev_name rfl rfl rfl) ev_int op_add_int) (by decide) (by decide) (by lia) (by lia) rfl rfl (hg _ (by decide))).eq ?_) (by decide) (.cons rfl rfl (.cons rfl rfl .nil)) (.inr rfl) (fun j hj => ?_) (by simp; lia)) rfl rfl ?_)
  · unfold rangePV
    rw [show ((N : Int) + 1 - 1).toNat = N by lia]
  · have hj' := List.mem_range.mp hj
    obtain ⟨f1', f2'⟩ := frac_of (p := j + 1) hL (by lia)
    have ef : ((1 : Int) + (j : Nat)) = ((j + 1 : Nat) : Int) := by lia
    refine ev_mapL (fun k => PV.flt (fr k)) (fr_injL hk) [(Str.ofString "size", .int N), (Str.ofString "turn", .int (1 + (j : Nat)))] (fun k => tup3 (LT ((k + (j + 1) * e) % 16))) (evit_list (ev_name rfl rfl rfl)) (by decide) (.cons rfl rfl (.cons rfl rfl .nil)) (.inl rfl) (fun k hkm => ?_) (by lia)
    have hk16 := hk k hkm
    have hte : (j + 1) * e ≤ 16 := hL.le (by lia)
    refine ev_call (it := iRgb) hd rfl (evl_cons (p := .flt (fr (k + (j + 1) * e))) ?_ (evl_cons ev_flt (evl_cons ev_flt evl_nil))) (hsvRgb_walk hg (rgb_fr (by (clear hkm ef f2' f1' hj' hj hm p4 p3 p2 p1 hn hk hL hd hg; omega)))) plRgb
    refine (ev_bin (ev_name rfl rfl rfl) (ev_bin (ev_name rfl rfl rfl) (ev_name rfl rfl rfl) (op_div_ii (by lia) (by rw [ef]; exact f2'))) op_add_flt).eq ?_
    rw [ef, f1', add_fr hk16 hte]
  -- the turns that are seen
  refine ex_cons (ex1_return (p := natsP (seenL ks N e)) ((ev_compL (fun (j : Nat) => PV.int j) (l := List.range N) nat_inj [(Str.ofString "lights", .lst (ks.map fun k => tup3 (LT k))), (Str.ofString "turned", .lst ((List.range N).map fun j => PV.lst (ks.map fun k => tup3 (LT ((k + (j + 1) * e) % 16)))))] []
    (fun j => turnOk ks e (j + 1)) (fun j => PV.int ((j : Nat) + 1)) ((evit_range1 (ev_name rfl rfl rfl) (by lia) (by lia) rfl rfl (hg _ (by decide))).eq (by rw [rangePV_nat, Int.toNat_natCast])) (by intro h; cases h) (by decide) (.cons rfl rfl (.cons rfl rfl .nil)) .nil (fun j hj => ?_) (by simp; omega)).eq ?_) (.inl rfl))
  · have hj' := List.mem_range.mp hj
    refine ⟨_, rfl, tgt1 (.inl rfl) rfl, evifs_one (evb_cmp (p := .lst (((ks.map fun k => (k + (j + 1) * e) % 16).filter fun m => !(decide (m ∈ ks))).map fun m => tup3 (LT m))) (q := .lst []) ?_ (ev_list evl_nil (by decide)) ((cm_eq (peq_nil (n := 7))).eq ?_)), fun _ => ev_bin (ev_name rfl rfl rfl) ev_int op_add_int⟩
    · have hl16 : Lt16 (ks.map fun k => (k + (j + 1) * e) % 16) := fun m hm' => by obtain ⟨k, _, rfl⟩ := List.mem_map.mp hm'; exact hm _
      refine ev_compL (fun m => tup3 (LT m)) (LT_injL hl16) [(Str.ofString "lights", .lst (ks.map fun k => tup3 (LT k)))] [] (fun m => !(decide (m ∈ ks))) (fun m => tup3 (LT m)) ((evit_list (ev_idx (x := PV.lst (ks.map fun k => tup3 (LT ((k + (j + 1) * e) % 16)))) (ev_name rfl rfl rfl) (ev_name rfl rfl rfl) (pidx_nat rfl ?_) (by simp; lia))).eq ?_) (by intro h; cases h) (by decide) (.cons rfl rfl .nil) .nil (fun m hmm => ?_) (by rw [List.length_map]; omega)
      · simp [hj']
      · rw [List.map_map]; rfl
      · refine ⟨_, rfl, tgt1 (.inl rfl) rfl, evifs_one (evb_cmp (ev_name rfl rfl rfl) (ev_name rfl rfl rfl) (cm_notIn (pin_map (m := m) fun k hkm => peq_LT (hk k hkm) (hl16 m hmm)))), fun _ => ev_name rfl rfl rfl⟩
    · unfold turnOk
      rw [Bool.eq_iff_iff]
      rw [List.isEmpty_iff, List.map_eq_nil_iff, List.filter_eq_nil_iff, List.all_eq_true]
      simp
  · unfold natsP seenL
    rw [List.map_map]
    congr 1
end
end Mine

namespace Mine
open PySem PySem.W PyProof.Rows

/-! borders -/

noncomputable def eqW (w : Nat → Int) (i j : Nat) : Bool := w i == w j
/-- b letters at both ends of the first j + 1 -/
noncomputable def isB (w : Nat → Int) (j b : Nat) : Prop := b ≤ j ∧ ∀ i, i < b → w i = w (j + 1 - b + i)
open Classical in
noncomputable def kBs (w : Nat → Int) (j : Nat) : Nat → Nat
  | 0 => 0
  | b + 1 => if isB w j (b + 1) then b + 1 else kBs w j b
noncomputable def kB (w : Nat → Int) (j : Nat) : Nat := kBs w j j

theorem isB_zero (w : Nat → Int) (j : Nat) : isB w j 0 := ⟨Nat.zero_le _, fun i h => by lia⟩
theorem kBs_spec (w : Nat → Int) (j : Nat) : ∀ m, isB w j (kBs w j m) ∧ kBs w j m ≤ m ∧ ∀ b, b ≤ m → isB w j b → b ≤ kBs w j m
  | 0 => ⟨isB_zero w j, Nat.le_refl _, fun b h _ => h⟩
  | m + 1 => by
    obtain ⟨h1, h2, h3⟩ := kBs_spec w j m
    unfold kBs
    split
    · rename_i h
      exact ⟨h, Nat.le_refl _, fun b hb _ => hb⟩
    · rename_i h
      refine ⟨h1, by lia, fun b hb hB => ?_⟩
      rcases Nat.lt_or_ge b (m + 1) with h4 | h4
      · exact h3 b (by lia) hB
      · have : b = m + 1 := by lia
        subst this; exact absurd hB h
theorem kB_is (w : Nat → Int) (j : Nat) : isB w j (kB w j) := (kBs_spec w j j).1
theorem kB_le (w : Nat → Int) (j : Nat) : kB w j ≤ j := (kBs_spec w j j).2.1
theorem kB_max {w : Nat → Int} {j b : Nat} (h : isB w j b) : b ≤ kB w j := (kBs_spec w j j).2.2 b h.1 h

/-- a border of a border -/
theorem isB_down {w : Nat → Int} {j k b : Nat} (hk : isB w j (k + 1)) (hb : isB w k b) : isB w j b := by
  refine ⟨Nat.le_trans hb.1 (Nat.le_of_succ_le hk.1), fun i hi => ?_⟩
  have h1 := hb.2 i hi
  have h2 := hk.2 (k + 1 - b + i) (by have := hb.1; omega)
  have := hb.1
  have := hk.1
  rw [h1, h2, show j + 1 - (k + 1) + (k + 1 - b + i) = j + 1 - b + i by lia]
theorem isB_up {w : Nat → Int} {j k b : Nat} (hk : isB w j (k + 1)) (hb : isB w j b) (hlt : b ≤ k) : isB w k b := by
  refine ⟨hlt, fun i hi => ?_⟩
  have h1 := hb.2 i hi
  have h2 := hk.2 (k + 1 - b + i) (by lia)
  have := hk.1
  rw [h1, h2, show j + 1 - (k + 1) + (k + 1 - b + i) = j + 1 - b + i by lia]

theorem chain_ok {w : Nat → Int} {i : Nat} : ∀ (k : Nat), isB w i k → (∀ b, isB w (i + 1) (b + 1) → b ≤ k) → Chain (eqW w) (kB w) (i + 1) k (kB w (i + 1)) := by
  intro k
  induction k using Nat.strongRecOn with
  | ind k ih =>
    intro hk hmax
    cases he : eqW w (i + 1) k with
    | true =>
      have he' : w (i + 1) = w k := by unfold eqW at he; simpa using he
      have hB : isB w (i + 1) (k + 1) := ⟨Nat.succ_le_succ hk.1, fun t ht => by
        have := hk.1
        rcases Nat.lt_or_ge t k with h | h
        · rw [hk.2 t h, show i + 1 + 1 - (k + 1) + t = i + 1 - k + t by lia]
        · have : t = k := by lia
          subst this
          rw [← he', show i + 1 + 1 - (t + 1) + t = i + 1 by lia]⟩
      have e : kB w (i + 1) = k + 1 := by
        have h1 := kB_max hB
        obtain ⟨b, hb⟩ : ∃ b, kB w (i + 1) = b + 1 := ⟨kB w (i + 1) - 1, by lia⟩
        have h2 := kB_is w (i + 1)
        rw [hb] at h2
        have := hmax b h2
        lia
      rw [e]
      exact .hit he
    | false =>
      have he' : w (i + 1) ≠ w k := by unfold eqW at he; simpa using he
      have hne : ∀ b, isB w (i + 1) (b + 1) → b ≠ k := fun b hb e => by
        subst e
        have := hb.2 b (Nat.lt_succ_self b)
        have h2 := hb.1
        rw [show i + 1 + 1 - (b + 1) + b = i + 1 by lia] at this
        exact he' this.symm
      cases k with
      | zero =>
        have e : kB w (i + 1) = 0 := by
          cases hz : kB w (i + 1) with
          | zero => rfl
          | succ b =>
            have h2 := kB_is w (i + 1)
            rw [hz] at h2
            have := hmax b h2
            have := hne b h2
            lia
        rw [e]
        exact .zero he
      | succ k =>
        refine .down he (ih (kB w k) (Nat.lt_succ_of_le (kB_le w k)) (isB_down hk (kB_is w k)) fun b hb => ?_)
        have h1 := hmax b hb
        have h2 := hne b hb
        have hbi : isB w i b := ⟨Nat.le_of_succ_le_succ hb.1, fun t ht => by
          have := hb.1
          rw [hb.2 t (by lia), show i + 1 + 1 - (b + 1) + t = i + 1 - b + t by lia]⟩
        exact kB_max (isB_up hk hbi (by lia))

theorem kmp_ok (w : Nat → Int) (n : Nat) : Kmp (eqW w) n (kB w) where
  zero := rfl
  le := fun j _ => kB_le w j
  step := fun i h1 _ => by
    obtain ⟨i, rfl⟩ : ∃ i', i = i' + 1 := ⟨i - 1, by lia⟩
    show Chain (eqW w) (kB w) (i + 1) (kB w i) (kB w (i + 1))
    refine chain_ok (kB w i) (kB_is w i) fun b hb => kB_max ⟨Nat.le_of_succ_le_succ hb.1, fun t ht => ?_⟩
    have := hb.1
    rw [hb.2 t (by omega), show i + 1 + 1 - (b + 1) + t = i + 1 - b + t by lia]

/-! what the table tells -/

theorem toldF_spec {w : Nat → Int} {n : Nat} (hn : 1 ≤ n) : ∀ (f s : Nat), s ≤ f → isB w (2 * n - 1) s →
    (∀ t, t ∈ toldF (kB w) n f s ↔ ∃ b, n ≤ b ∧ b ≤ s ∧ isB w (2 * n - 1) b ∧ t = 2 * n - b) ∧ (toldF (kB w) n f s).Pairwise (· < ·)
  | 0, s, hs, hB => by
    refine ⟨fun t => ⟨fun h => by simp [toldF] at h, fun ⟨b, h1, h2, _⟩ => by lia⟩, List.Pairwise.nil⟩
  | f + 1, s, hs, hB => by
    unfold toldF
    split
    · rename_i hns
      obtain ⟨s', rfl⟩ : ∃ s', s = s' + 1 := ⟨s - 1, by lia⟩
      have hs1 := hB.1
      have hk := kB_le w s'
      have hB' : isB w (2 * n - 1) (kB w s') := isB_down hB (kB_is w s')
      obtain ⟨i1, i2⟩ := toldF_spec (w := w) hn f (kB w s') (by lia) hB'
      rw [show s' + 1 - 1 = s' from rfl]
      refine ⟨fun t => ?_, List.pairwise_cons.mpr ⟨fun t ht => ?_, i2⟩⟩
      · rw [List.mem_cons, i1]
        constructor
        · rintro (rfl | ⟨b, h1, h2, h3, rfl⟩)
          · exact ⟨s' + 1, hns, Nat.le_refl _, hB, rfl⟩
          · exact ⟨b, h1, by lia, h3, rfl⟩
        · rintro ⟨b, h1, h2, h3, rfl⟩
          rcases Nat.lt_or_ge s' b with h | h
          · have : b = s' + 1 := by lia
            subst this; exact .inl rfl
          · exact .inr ⟨b, h1, kB_max (isB_up hB h3 h), h3, rfl⟩
      · obtain ⟨b, h1, h2, h3, rfl⟩ := (i1 t).mp ht
        have := h3.1
        (clear ht h3 h1 i2 i1 hB' hs1 hns hB hs; omega)
    · rename_i hns
      exact ⟨fun t => ⟨fun h => by simp at h, fun ⟨b, h1, h2, _⟩ => by lia⟩, List.Pairwise.nil⟩

theorem sorted_ext : ∀ {l m : List Nat}, l.Pairwise (· < ·) → m.Pairwise (· < ·) → (∀ t, t ∈ l ↔ t ∈ m) → l = m
  | [], [], _, _, _ => rfl
  | [], b :: m, _, _, h => by have := (h b).mpr List.mem_cons_self; simp at this
  | a :: l, [], _, _, h => by have := (h a).mp List.mem_cons_self; simp at this
  | a :: l, b :: m, h1, h2, h => by
    rw [List.pairwise_cons] at h1 h2
    have e : a = b := by
      rcases List.mem_cons.mp ((h a).mp List.mem_cons_self) with e | ha
      · exact e
      · rcases List.mem_cons.mp ((h b).mpr List.mem_cons_self) with e | hb
        · exact e.symm
        · have := h1.1 b hb
          have := h2.1 a ha
          lia
    subst e
    rw [sorted_ext h1.2 h2.2 fun t => ?_]
    constructor
    · intro ht
      rcases List.mem_cons.mp ((h t).mp (List.mem_cons_of_mem _ ht)) with e | h'
      · subst e; exact absurd (h1.1 t ht) (Nat.lt_irrefl _)
      · exact h'
    · intro ht
      rcases List.mem_cons.mp ((h t).mpr (List.mem_cons_of_mem _ ht)) with e | h'
      · subst e; exact absurd (h2.1 t ht) (Nat.lt_irrefl _)
      · exact h'

/-- a ring, laid down again and again -/
noncomputable def ringW (r : Nat → Int) (n : Nat) (i : Nat) : Int := r (i % n)
/-- the turns that take the ring to itself -/
noncomputable def isPer (r : Nat → Int) (n t : Nat) : Prop := ∀ p, p < n → r p = r ((p + t) % n)

theorem isB_ring {r : Nat → Int} {n b : Nat} (h1 : n ≤ b) (h2 : b < 2 * n) : isB (ringW r n) (2 * n - 1) b ↔ isPer r n (2 * n - b) := by
  have hn : 0 < n := by lia
  constructor
  · rintro ⟨_, h⟩ p hp
    have := h p (by lia)
    unfold ringW at this
    rw [Nat.mod_eq_of_lt hp, show 2 * n - 1 + 1 - b + p = p + (2 * n - b) by lia] at this
    exact this
  · intro h
    refine ⟨by lia, fun i hi => ?_⟩
    unfold ringW
    have := h (i % n) (Nat.mod_lt _ hn)
    rw [this, show 2 * n - 1 + 1 - b + i = i + (2 * n - b) by lia, Nat.mod_add_mod]
end Mine

namespace Mine
open PySem PySem.W PyProof.Rows

theorem ltFrom_congr {x y x' y' : Nat → Int} : ∀ (k i i' : Nat), (∀ j, j < k → x (i + j) = x' (i' + j) ∧ y (i + j) = y' (i' + j)) → ltFrom x y k i = ltFrom x' y' k i'
  | 0, _, _, _ => rfl
  | k + 1, i, i', h => by
    obtain ⟨h1, h2⟩ := h 0 (by lia)
    simp only [Nat.add_zero] at h1 h2
    unfold ltFrom
    rw [h1, h2, ltFrom_congr k (i + 1) (i' + 1) fun j hj => by
      have := h (j + 1) (by lia)
      rw [show i + 1 + j = i + (j + 1) by lia, show i' + 1 + j = i' + (j + 1) by lia]; exact this]
theorem ltFrom_succ {x y : Nat → Int} (k i : Nat) : ltFrom x y (k + 1) i = if x i == y i then ltFrom x y k (i + 1) else decide (x i < y i) := rfl
theorem ltFrom_skip {x y : Nat → Int} {k : Nat} : ∀ (b i : Nat), (∀ j, j < b → x (i + j) = y (i + j)) → ltFrom x y (b + k) i = ltFrom x y k (i + b)
  | 0, i, _ => by rw [Nat.zero_add, Nat.add_zero]
  | b + 1, i, h => by
    have h0 := h 0 (by omega)
    rw [Nat.add_zero] at h0
    rw [show b + 1 + k = (b + k) + 1 by lia, ltFrom_succ, h0, beq_self_eq_true, if_pos rfl, ltFrom_skip b (i + 1) fun j hj => by
      have := h (j + 1) (by lia)
      rwa [show i + 1 + j = i + (j + 1) by lia], show i + 1 + b = i + (b + 1) by lia]
theorem ltFrom_prefix {x y : Nat → Int} {b : Nat} : ∀ (p i : Nat), ltFrom x y (p + b) i = false → ltFrom x y p i = false
  | 0, _, _ => rfl
  | p + 1, i, h => by
    rw [show p + 1 + b = (p + b) + 1 by lia] at h
    unfold ltFrom at h ⊢
    split
    · rename_i he
      rw [if_pos he] at h
      exact ltFrom_prefix p (i + 1) h
    · rename_i he
      rw [if_neg he] at h
      exact h
theorem ltFrom_eq {x y : Nat → Int} : ∀ (k i : Nat), ltFrom x y k i = false → ltFrom y x k i = false → ∀ j, j < k → x (i + j) = y (i + j)
  | 0, _, _, _, j, hj => by omega
  | k + 1, i, h1, h2, j, hj => by
    unfold ltFrom at h1 h2
    by_cases he : x i = y i
    · rw [he, beq_self_eq_true, if_pos rfl] at h1 h2
      cases j with
      | zero => exact he
      | succ j =>
        have := ltFrom_eq k (i + 1) h1 h2 j (by lia)
        rwa [show i + (j + 1) = i + 1 + j by lia]
    · rw [if_neg (by simpa using he)] at h1
      rw [if_neg (by simpa using fun e => he e.symm)] at h2
      have := of_decide_eq_false h1
      have := of_decide_eq_false h2
      lia
theorem ltFrom_irrefl {x : Nat → Int} : ∀ (k i : Nat), ltFrom x x k i = false
  | 0, _ => rfl
  | k + 1, i => by unfold ltFrom; rw [beq_self_eq_true, if_pos rfl, ltFrom_irrefl]
theorem ltFrom_trans {x y z : Nat → Int} : ∀ (k i : Nat), ltFrom x y k i = true → ltFrom y z k i = true → ltFrom x z k i = true
  | 0, _, h, _ => h
  | k + 1, i, h1, h2 => by
    unfold ltFrom at h1 h2 ⊢
    by_cases e1 : x i = y i
    · rw [e1, beq_self_eq_true, if_pos rfl] at h1
      rw [e1]
      by_cases e2 : y i = z i
      · rw [e2, beq_self_eq_true, if_pos rfl] at h2 ⊢
        exact ltFrom_trans k (i + 1) h1 h2
      · rw [if_neg (by simpa using e2)] at h2 ⊢
        exact h2
    · rw [if_neg (by simpa using e1)] at h1
      have l1 := of_decide_eq_true h1
      by_cases e2 : y i = z i
      · rw [← e2, if_neg (by simpa using e1)]; exact h1
      · rw [if_neg (by simpa using e2)] at h2
        have l2 := of_decide_eq_true h2
        rw [if_neg (by simp; lia)]
        exact decide_eq_true (by lia)

/-- the first of the least -/
theorem argBest_least {bt : Nat → Nat → Bool} (hi : ∀ i, bt i i = false) (ht : ∀ i j k, bt i j = true → bt j k = true → bt i k = true) : ∀ n i, i ≤ n → bt i (argBest bt n) = false
  | 0, i, h => by
    have : i = 0 := by lia
    subst this; exact hi 0
  | n + 1, i, h => by
    have ih := argBest_least hi ht n
    rw [argBest]
    split
    · rename_i hb
      rcases Nat.lt_or_ge i (n + 1) with h1 | h1
      · cases hc : bt i (n + 1) with
        | false => rfl
        | true =>
          have := ht _ _ _ hc hb
          rw [ih i (by lia)] at this; cases this
      · have : i = n + 1 := by lia
        subst this; exact hi _
    · rename_i hb
      rcases Nat.lt_or_ge i (n + 1) with h1 | h1
      · exact ih i (by omega)
      · have : i = n + 1 := by omega
        subst this; simpa using hb

noncomputable def rots (l : List Int) (n : Nat) : List (List Int) := (List.range n).map fun k => l.drop k ++ l.take k

theorem rot_get {r : Nat → Int} {n k i : Nat} (hk : k < n) (hi : i < n) : (((List.range n).map r).drop k ++ ((List.range n).map r).take k).getD i 0 = r ((i + k) % n) := by
  rw [List.getD_eq_getElem?_getD]
  rcases Nat.lt_or_ge i (n - k) with h | h
  · rw [List.getElem?_append_left (by simp; lia), List.getElem?_drop, List.getElem?_map, List.getElem?_range (by lia), Nat.mod_eq_of_lt (by lia), Nat.add_comm k i]; rfl
  · rw [List.getElem?_append_right (by simp; lia), List.length_drop, List.length_map, List.length_range, List.getElem?_take_of_lt (by lia), List.getElem?_map, List.getElem?_range (by (clear hk h; omega))]
    have : (i + k) % n = i - (n - k) := by rw [Nat.mod_eq_sub_mod (by lia), Nat.mod_eq_of_lt (by omega)]; lia
    rw [this]; rfl

/-- the least of all turns of the ring -/
theorem least_spec {r : Nat → Int} {n : Nat} (hn : 1 ≤ n) : ∃ k0, k0 < n ∧ minL (rots ((List.range n).map r) n) = ((List.range n).map r).drop k0 ++ ((List.range n).map r).take k0 ∧
    ∀ k, k < n → ltFrom (fun i => r ((i + k) % n)) (fun i => r ((i + k0) % n)) n 0 = false := by
  have hlen : (rots ((List.range n).map r) n).length = n := by simp [rots]
  have hget : ∀ k, k < n → (rots ((List.range n).map r) n).getD k [] = ((List.range n).map r).drop k ++ ((List.range n).map r).take k := fun k hk => by
    unfold rots
    rw [List.getD_eq_getElem?_getD, List.getElem?_map, List.getElem?_range hk]; rfl
  have hk0 : bestI (rots ((List.range n).map r) n) < n := by
    unfold bestI
    have := argBest_le (fun i j => ltL ((rots ((List.range n).map r) n).getD i []) ((rots ((List.range n).map r) n).getD j [])) ((rots ((List.range n).map r) n).length - 1)
    rw [hlen] at this ⊢; lia
  have lens : ∀ k, k < n → (((List.range n).map r).drop k ++ ((List.range n).map r).take k).length = n := fun k hk => by simp; lia
  have hlt : ∀ i j, i < n → j < n → ltL ((rots ((List.range n).map r) n).getD i []) ((rots ((List.range n).map r) n).getD j []) = ltFrom (fun t => r ((t + i) % n)) (fun t => r ((t + j) % n)) n 0 := fun i j hi hj => by
    unfold ltL
    rw [hget i hi, hget j hj, lens i hi]
    refine ltFrom_congr n 0 0 fun t ht => ?_
    rw [Nat.zero_add]
    exact ⟨rot_get hi ht, rot_get hj ht⟩
  refine ⟨bestI (rots ((List.range n).map r) n), hk0, ?_, fun k hk => ?_⟩
  · unfold minL; exact hget _ hk0
  · rw [← hlt k _ hk hk0]
    unfold bestI
    refine argBest_least (bt := fun i j => ltL ((rots ((List.range n).map r) n).getD i []) ((rots ((List.range n).map r) n).getD j [])) (fun i => ltFrom_irrefl _ _) (fun i j k h1 h2 => ?_) _ k (by rw [hlen]; lia)
    unfold ltL at h1 h2 ⊢
    by_cases hz : ∀ i, ((rots ((List.range n).map r) n).getD i []).length = n ∨ ((rots ((List.range n).map r) n).getD i []).length = 0
    · rcases hz i with e | e
      · rw [e] at h1 ⊢
        rcases hz j with e' | e'
        · rw [e'] at h2; exact ltFrom_trans _ _ h1 h2
        · rw [e'] at h2; simp [ltFrom] at h2
      · rw [e] at h1; simp [ltFrom] at h1
    · refine absurd (fun i => ?_) hz
      rcases Nat.lt_or_ge i n with h | h
      · rw [hget i h]; exact .inl (lens i h)
      · right
        rw [List.getD_eq_getElem?_getD, List.getElem?_eq_none (by rw [hlen]; exact h)]; rfl

/-- Lyndon: what the table of the least turn ends with -/
theorem lyndon {r : Nat → Int} {n k0 : Nat} (hn : 1 ≤ n) (hk : k0 < n) (hmin : ∀ k, k < n → ltFrom (fun i => r ((i + k) % n)) (fun i => r ((i + k0) % n)) n 0 = false) :
    isPer r n (n - kB (fun i => r ((i + k0) % n)) (n - 1)) ∧ ∀ t, 1 ≤ t → t < n → isPer r n t → n - kB (fun i => r ((i + k0) % n)) (n - 1) ≤ t := by
  generalize hu : (fun i => r ((i + k0) % n)) = u at *
  have per : ∀ i, u (i + n) = u i := fun i => by rw [← hu]; show r ((i + n + k0) % n) = r ((i + k0) % n); rw [show i + n + k0 = (i + k0) + n by lia, Nat.add_mod_right]
  have turn : ∀ m, m < n → ltFrom (fun i => u (i + m)) u n 0 = false := fun m hm => by
    have h := hmin ((k0 + m) % n) (Nat.mod_lt _ (by lia))
    rw [← h]
    refine ltFrom_congr n 0 0 fun j hj => ⟨?_, rfl⟩
    rw [← hu]
    show r ((0 + j + m + k0) % n) = r ((0 + j + (k0 + m) % n) % n)
    rw [Nat.add_mod_mod, show 0 + j + m + k0 = 0 + j + (k0 + m) by lia]
  have back : ∀ m, (∀ i, i < n → u i = u (i + m)) → isPer r n m := fun m h p hp => by
    have h1 := h ((p + (n - k0)) % n) (Nat.mod_lt _ (by omega))
    rw [← hu] at h1
    have e1 : ((p + (n - k0)) % n + k0) % n = p := by
      rw [Nat.mod_add_mod, show p + (n - k0) + k0 = p + n by lia, Nat.add_mod_right, Nat.mod_eq_of_lt hp]
    have e2 : ((p + (n - k0)) % n + m + k0) % n = (p + m) % n := by
      rw [show (p + (n - k0)) % n + m + k0 = (p + (n - k0)) % n + (m + k0) by lia, Nat.mod_add_mod, show p + (n - k0) + (m + k0) = (p + m) + n by lia, Nat.add_mod_right]
    simp only [e1, e2] at h1
    exact h1
  have hb := kB_is u (n - 1)
  have hmax : ∀ b', isB u (n - 1) b' → b' ≤ kB u (n - 1) := fun b' h => kB_max h
  generalize kB u (n - 1) = b at hb hmax ⊢
  constructor
  · rcases Nat.eq_zero_or_pos b with h0 | hpos
    · subst h0
      exact back _ fun i hi => by rw [Nat.sub_zero, per]
    · have hbn : b < n := by have := hb.1; omega
      have bord : ∀ i, i < b → u i = u (i + (n - b)) := fun i hi => by
        have := hb.2 i hi
        rw [this]
        congr 1; lia
      have hA : ltFrom u (fun i => u (i + b)) (n - b) 0 = false := by
        have h := turn (n - b) (by (clear bord hmax hb back turn per hmin hu hk hn; omega))
        rw [show n = b + (n - b) by lia] at h
        rw [show b + (n - b) - b = n - b by lia] at h
        rw [ltFrom_skip b 0 fun j hj => by rw [Nat.zero_add]; exact (bord j hj).symm, Nat.zero_add] at h
        rw [← h]
        refine ltFrom_congr (n - b) 0 b fun j hj => ⟨?_, ?_⟩
        · show u (0 + j) = u (b + j + (n - b))
          rw [show b + j + (n - b) = (0 + j) + n by lia, per]
        · show u (0 + j + b) = u (b + j)
          rw [show 0 + j + b = b + j by lia]
      have hB : ltFrom (fun i => u (i + b)) u (n - b) 0 = false := by
        have h := turn b hbn
        refine ltFrom_prefix (b := b) (n - b) 0 ?_
        rw [show n - b + b = n by lia]; exact h
      have hv := ltFrom_eq (n - b) 0 hB hA
      refine back _ fun i hi => ?_
      rcases Nat.lt_or_ge i b with h | h
      · exact bord i h
      · have := hv (i - b) (by lia)
        simp only [Nat.zero_add] at this
        rw [show i - b + b = i by lia] at this
        rw [this, show i + (n - b) = (i - b) + n by lia, per]
  · intro t h1 h2 hp
    have hB : isB u (n - 1) (n - t) := ⟨by (clear hp hmax hb back turn per hmin hu hk h2; omega), fun i hi => by
      have h := hp ((i + k0) % n) (Nat.mod_lt _ (by lia))
      rw [Nat.mod_add_mod] at h
      rw [← hu]
      show r ((i + k0) % n) = r ((n - 1 + 1 - (n - t) + i + k0) % n)
      rw [h, show n - 1 + 1 - (n - t) + i + k0 = i + k0 + t by lia]⟩
    have := hmax _ hB
    lia
end Mine

namespace Mine
open PySem PySem.W PyProof.Rows

structure Good (e : Nat) (ks : List Nat) : Prop where
  nodup : ks.Nodup
  lt : Lt16 ks
  mul : ∀ k ∈ ks, ∃ p, k = p * e
  ne : ks ≠ []

noncomputable def ringF (ks : List Nat) (e p : Nat) : Int := if decide (p * e ∈ ks) then 1 else 0

theorem ringF_one {ks : List Nat} {e p : Nat} : ringF ks e p = 1 ↔ p * e ∈ ks := by
  unfold ringF
  by_cases h : p * e ∈ ks <;> simp [h]
theorem ringF_zero {ks : List Nat} {e p : Nat} (h : ¬ p * e ∈ ks) : ringF ks e p = 0 := by
  unfold ringF; simp [h]

theorem turn_iter {ks : List Nat} {e t : Nat} (h : turnOk ks e t = true) : ∀ i k, k ∈ ks → (∀ k ∈ ks, k < 16) → (k + i * (t * e)) % 16 ∈ ks
  | 0, k, hk, hl => by rw [Nat.zero_mul, Nat.add_zero, Nat.mod_eq_of_lt (hl k hk)]; exact hk
  | i + 1, k, hk, hl => by
    have ih := turn_iter h i k hk hl
    unfold turnOk at h
    have := of_decide_eq_true (List.all_eq_true.mp h _ ih)
    rw [Nat.mod_add_mod, show k + i * (t * e) + t * e = k + (i + 1) * (t * e) by rw [Nat.succ_mul]; lia] at this
    exact this

theorem mod_mul {N e p : Nat} (hL : Lv N e) : (p * e) % 16 = (p % N) * e := by
  rw [← hL.mul, Nat.mul_mod_mul_right]

theorem turn_per {ks : List Nat} {N e t : Nat} (hL : Lv N e) (G : Good e ks) : turnOk ks e t = true ↔ isPer (ringF ks e) N t := by
  constructor
  · intro h p hp
    by_cases hm : p * e ∈ ks
    · have h1 := turn_iter h 1 _ hm G.lt
      rw [Nat.one_mul, ← Nat.add_mul, mod_mul hL] at h1
      rw [ringF_one.mpr hm, ringF_one.mpr h1]
    · rw [ringF_zero hm, ringF_zero fun h1 => hm ?_]
      have h2 := turn_iter h (N - 1) _ h1 G.lt
      rw [← mod_mul hL, Nat.mod_add_mod, ← Nat.mul_assoc, ← Nat.add_mul, mod_mul hL] at h2
      have e1 : (p + t + (N - 1) * t) % N = p := by
        have hN := hL.pos.1
        obtain ⟨M, rfl⟩ : ∃ M, N = M + 1 := ⟨N - 1, by lia⟩
        rw [Nat.add_sub_cancel, show p + t + M * t = p + (M + 1) * t by rw [Nat.succ_mul]; lia, Nat.add_mul_mod_self_left, Nat.mod_eq_of_lt hp]
      rwa [e1] at h2
  · intro h
    unfold turnOk
    rw [List.all_eq_true]
    intro k hk
    obtain ⟨p, rfl⟩ := G.mul k hk
    have hp : p < N := by
      have := G.lt _ hk
      rw [← hL.mul] at this
      exact Nat.lt_of_mul_lt_mul_right this
    have := h p hp
    rw [ringF_one.mpr hk] at this
    rw [← Nat.add_mul, mod_mul hL]
    exact decide_eq_true (ringF_one.mp this.symm)

theorem seen_mem {ks : List Nat} {N e t : Nat} : t ∈ seenL ks N e ↔ 1 ≤ t ∧ t ≤ N ∧ turnOk ks e t = true := by
  unfold seenL
  rw [List.mem_map]
  constructor
  · rintro ⟨j, hj, rfl⟩
    rw [List.mem_filter, List.mem_range] at hj
    exact ⟨by omega, by lia, hj.2⟩
  · rintro ⟨h1, h2, h3⟩
    refine ⟨t - 1, ?_, by lia⟩
    rw [List.mem_filter, List.mem_range]
    exact ⟨by omega, by rwa [show t - 1 + 1 = t by omega]⟩
theorem seen_sorted {ks : List Nat} {N e : Nat} : (seenL ks N e).Pairwise (· < ·) := by
  unfold seenL
  rw [List.pairwise_map]
  exact (List.pairwise_lt_range.filter _).imp fun h => by lia

theorem told_seen {ks : List Nat} {N e : Nat} (hL : Lv N e) (G : Good e ks) :
    toldF (kB (ringW (ringF ks e) N)) N (2 * N) (kB (ringW (ringF ks e) N) (2 * N - 1)) = seenL ks N e := by
  have hN := hL.pos.1
  have hle := kB_le (ringW (ringF ks e) N) (2 * N - 1)
  obtain ⟨h1, h2⟩ := toldF_spec (w := ringW (ringF ks e) N) hN (2 * N) (kB (ringW (ringF ks e) N) (2 * N - 1)) (by lia) (kB_is _ _)
  refine sorted_ext h2 seen_sorted fun t => ?_
  rw [h1, seen_mem]
  constructor
  · rintro ⟨b, q1, q2, q3, rfl⟩
    have := q3.1
    exact ⟨by (clear q3 q2 q1 h2 h1 hle G hL; omega), by (clear this q3 q2 h2 h1 hle G hL; omega), (turn_per hL G).mpr ((isB_ring q1 (by omega)).mp q3)⟩
  · rintro ⟨q1, q2, q3⟩
    have hp := (turn_per hL G).mp q3
    have hB : isB (ringW (ringF ks e) N) (2 * N - 1) (2 * N - t) := (isB_ring (by lia) (by (clear hp q3 h2 h1 hle hN G hL; omega))).mpr (by rwa [show 2 * N - (2 * N - t) = t by lia])
    exact ⟨2 * N - t, by (clear hB hp q3 h2 h1 hle hN G hL; omega), kB_max hB, hB, by lia⟩

theorem head_of {l : List Nat} {p : Nat} (hs : l.Pairwise (· < ·)) (hp : p ∈ l) (hm : ∀ t ∈ l, p ≤ t) : l[0]? = some p := by
  cases l with
  | nil => simp at hp
  | cons a r =>
    rw [List.pairwise_cons] at hs
    have h1 := hm a List.mem_cons_self
    rcases List.mem_cons.mp hp with rfl | h
    · rfl
    · have := hs.1 p h
      lia

theorem seen_head {ks : List Nat} {N e k0 : Nat} (hL : Lv N e) (G : Good e ks) (hk : k0 < N) (hmin : ∀ k, k < N → ltFrom (fun i => ringF ks e ((i + k) % N)) (fun i => ringF ks e ((i + k0) % N)) N 0 = false) :
    (seenL ks N e)[0]? = some (N - kB (fun i => ringF ks e ((i + k0) % N)) (N - 1)) := by
  have hN := hL.pos.1
  obtain ⟨h1, h2⟩ := lyndon (r := ringF ks e) hN hk hmin
  have hle := kB_le (fun i => ringF ks e ((i + k0) % N)) (N - 1)
  refine head_of seen_sorted (seen_mem.mpr ⟨by omega, by (clear hle h2 h1 hN hmin G hL hk; omega), (turn_per hL G).mpr h1⟩) fun t ht => ?_
  obtain ⟨q1, q2, q3⟩ := seen_mem.mp ht
  rcases Nat.lt_or_ge t N with h | h
  · exact h2 t q1 h ((turn_per hL G).mp q3)
  · (clear q3 ht hle h2 h1 hN hmin hk G hL; omega)

/-! the half turn -/

noncomputable def per8 (ks : List Nat) : Bool := ks.all fun k => decide ((k + 8) % 16 ∈ ks)
theorem half_seen {ks : List Nat} {N e : Nat} (hL : Lv N e) (h2 : 2 ≤ N) : decide (N / 2 ∈ seenL ks N e) = per8 ks := by
  have e8 : N / 2 * e = 8 := by unfold Lv at hL; rcases hL with ⟨rfl, rfl⟩ | ⟨rfl, rfl⟩ | ⟨rfl, rfl⟩ | ⟨rfl, rfl⟩ | ⟨rfl, rfl⟩ <;> first | rfl | lia
  have e1 : turnOk ks e (N / 2) = per8 ks := by unfold turnOk per8; rw [e8]
  rw [← e1, Bool.eq_iff_iff, decide_eq_true_eq, seen_mem]
  exact ⟨fun h => h.2.2, fun h => ⟨by lia, by lia, h⟩⟩

noncomputable def sumF (f : Nat → Nat) (ks : List Nat) : Nat := (ks.map f).sum
theorem sumF_perm {f : Nat → Nat} {a b : List Nat} (h : a.Perm b) : sumF f a = sumF f b := (h.map f).sum_nat

theorem low_perm {ks : List Nat} (hn : ks.Nodup) (hl : Lt16 ks) (hp : per8 ks = true) : ks.Perm ((ks.filter fun k => decide (k < 8)) ++ (ks.filter fun k => decide (k < 8)).map (· + 8)) := by
  have hp' : ∀ k ∈ ks, (k + 8) % 16 ∈ ks := fun k hk => of_decide_eq_true (List.all_eq_true.mp hp k hk)
  have hf : (ks.filter fun k => decide (k < 8)).Nodup := hn.sublist List.filter_sublist
  rw [List.perm_ext_iff_of_nodup hn]
  · intro a
    rw [List.mem_append, List.mem_filter, List.mem_map]
    constructor
    · intro ha
      have := hl a ha
      rcases Nat.lt_or_ge a 8 with h | h
      · exact .inl ⟨ha, decide_eq_true h⟩
      · right
        refine ⟨a - 8, List.mem_filter.mpr ⟨?_, decide_eq_true (by omega)⟩, by lia⟩
        have h1 := hp' a ha
        rwa [show (a + 8) % 16 = a - 8 by lia] at h1
    · rintro (⟨h, _⟩ | ⟨b, hb, rfl⟩)
      · exact h
      · rw [List.mem_filter] at hb
        have h8 := of_decide_eq_true hb.2
        have h1 := hp' b hb.1
        rwa [show (b + 8) % 16 = b + 8 by lia] at h1
  · rw [List.nodup_append]
    refine ⟨hf, ?_, fun a ha b hb => ?_⟩
    · unfold List.Nodup
      rw [List.pairwise_map]
      exact hf.imp fun h e => h (by lia)
    · obtain ⟨c, hc, rfl⟩ := List.mem_map.mp hb
      have := of_decide_eq_true (List.mem_filter.mp ha).2
      lia

theorem sum_half {f : Nat → Nat} (hf : ∀ k, k < 8 → f k + f (k + 8) = 8) {ks : List Nat} (hn : ks.Nodup) (hl : Lt16 ks) (hp : per8 ks = true) : sumF f ks = 4 * ks.length := by
  have h := low_perm hn hl hp
  rw [sumF_perm h, h.length_eq]
  have h8 : ∀ k ∈ ks.filter fun k => decide (k < 8), k < 8 := fun k hk => of_decide_eq_true (List.mem_filter.mp hk).2
  generalize (ks.filter fun k => decide (k < 8)) = lo at h8
  unfold sumF
  rw [List.map_append, List.sum_append_nat, List.length_append, List.length_map, List.map_map]
  induction lo with
  | nil => rfl
  | cons k r ih =>
    have := ih fun x hx => h8 x (List.mem_cons_of_mem _ hx)
    have := hf k (h8 k List.mem_cons_self)
    simp only [List.map_cons, List.sum_cons, List.length_cons, Function.comp] at *
    lia
end Mine

namespace Mine
open PySem PySem.W PyProof.Rows

noncomputable def dbl (k : Nat) : Nat := 2 * k % 16
noncomputable def lowL (X : List Nat) : List Nat := (X.filter fun k => decide (k < 8)).map dbl
noncomputable def dupL (l : List Nat) : Bool := !((List.range l.length).filter fun k => decide (l.getD k 0 ∈ l.take k)).isEmpty

noncomputable def foldsBody : List Stmt := match iFolds.body with
  | .While _ b _ _ :: _ => b
  | _ => []

theorem sum_ee {a b : Nat} (hb : b ≤ 8) (h : a + b ≤ 64) : Float64.add (ee a) (ee b) = ee (a + b) := by
  rcases Nat.lt_or_ge a 32 with h1 | h1
  · have := all2 (f := fun i j => Float64.add (ee i) (ee j) == ee (i + j)) sum_k0 h1 (Nat.lt_succ_of_le hb)
    simpa using this
  · have := all2 (f := fun i j => decide (64 < i + 32 + j) || Float64.add (ee (i + 32)) (ee j) == ee (i + 32 + j)) sum_k1 (i := a - 32) (j := b) (by (clear h1; omega)) (Nat.lt_succ_of_le hb)
    rw [show a - 32 + 32 = a by omega] at this
    simp only [Bool.or_eq_true, decide_eq_true_eq, beq_iff_eq] at this
    rcases this with h2 | h2
    · lia
    · exact h2
theorem LT_ee {k : Nat} (hk : k < 16) : LT k = (ee (cn k).1, ee (cn k).2.1, ee (cn k).2.2) ∧ (cn k).1 ≤ 8 ∧ (cn k).2.1 ≤ 8 ∧ (cn k).2.2 ≤ 8 := by
  have := all1 (f := fun k => (LT k).1 == ee (cn k).1 && ((LT k).2.1 == ee (cn k).2.1 && ((LT k).2.2 == ee (cn k).2.2 && decide ((cn k).1 ≤ 8 ∧ (cn k).2.1 ≤ 8 ∧ (cn k).2.2 ≤ 8)))) cnt_k hk
  simp only [Bool.and_eq_true, beq_iff_eq, decide_eq_true_eq] at this
  exact ⟨Prod.ext this.1 (Prod.ext this.2.1 this.2.2.1), this.2.2.2⟩
theorem cn_half {k : Nat} (hk : k < 8) : (cn k).1 + (cn (k + 8)).1 = 8 ∧ (cn k).2.1 + (cn (k + 8)).2.1 = 8 ∧ (cn k).2.2 + (cn (k + 8)).2.2 = 8 := by
  have := all1 (f := fun k => decide ((cn k).1 + (cn (k + 8)).1 = 8 ∧ (cn k).2.1 + (cn (k + 8)).2.1 = 8 ∧ (cn k).2.2 + (cn (k + 8)).2.2 = 8)) cmp_k hk
  exact of_decide_eq_true this
theorem avg_ee {k : Nat} (h1 : 1 ≤ k) (hk : k ≤ 16) : Float64.div (ee (4 * k)) (Float64.ofInt (k : Nat)) = fh ∧ Float64.isInf (Float64.ofInt (k : Nat)) = false ∧ Float64.isZero (Float64.ofInt (k : Nat)) = false := by
  have := all1 (f := fun k => k == 0 || (Float64.div (ee (4 * k)) (Float64.ofInt (k : Nat)) == fh && (!(Float64.isInf (Float64.ofInt (k : Nat))) && !(Float64.isZero (Float64.ofInt (k : Nat)))))) avg_k (Nat.lt_succ_of_le hk)
  simp only [Bool.or_eq_true, Bool.and_eq_true, beq_iff_eq, Bool.not_eq_true'] at this
  rcases this with h | h
  · lia
  · exact h
theorem dbl_fr {k : Nat} (hk : k < 16) : (Float64.divmod (Float64.mul (Float64.ofInt 2) (fr k)) 4607182418800017408).2 = fr (dbl k) := by
  have := all1 (f := fun k => (Float64.divmod (Float64.mul (Float64.ofInt 2) (fr k)) 4607182418800017408).2 == fr (2 * k % 16)) dbl_k hk
  unfold dbl; simpa using this
theorem half_fr {k : Nat} (hk : k < 16) : (Float64.cmp (fr k) 4602678819172646912 == some .lt) = decide (k < 8) := by
  have := all1 (f := fun k => ltF (fr k) 4602678819172646912 == decide (k < 8)) hlf_k hk
  unfold ltF at this
  rw [beq_iff_eq] at this; exact this

theorem sumF_take (f : Nat → Nat) (ks : List Nat) (i : Nat) : sumF f (ks.take i) ≤ sumF f ks := by
  have : sumF f ks = sumF f (ks.take i) + sumF f (ks.drop i) := by
    unfold sumF
    rw [← List.sum_append_nat, ← List.map_append, List.take_append_drop]
  lia
theorem sumF_snoc (f : Nat → Nat) (l : List Nat) (k : Nat) : sumF f (l ++ [k]) = sumF f l + f k := by
  unfold sumF
  rw [List.map_append, List.sum_append_nat]; simp

theorem few16 {ks : List Nat} (hn : ks.Nodup) (hl : Lt16 ks) : ks.length ≤ 16 := by
  have := hn.length_le_of_subset (l₂ := List.range 16) fun k hk => List.mem_range.mpr (hl k hk)
  simpa using this

section
variable {g : Pg} {d : Nat}

theorem folds_tail (hg : ∀ x ∈ usedNames, x ∉ g.names) (hd1 : iRgb ∈ g.defs) (hd2 : iHls ∈ g.defs) {X Y : List Nat} {N e : Nat} (hL : Lv N e) (hN : 2 ≤ N) (GX : Good e X) (GY : Good e Y) (hX : per8 X = true) {T : PostT}
    (hret : dupL (Y.map dbl) = true → ∀ σ, T (.ret (.bool false)) σ [])
    (hnext : dupL (Y.map dbl) = false → ∀ σ, Subs [(Str.ofString "first", huesP (lowL X)), (Str.ofString "second", huesP (Y.map dbl)), (Str.ofString "size", .int (N / 2 : Nat))] [] σ [] → T .next σ []) :
    Ex g (d + 1) iFolds.scope.names [(Str.ofString "first", huesP X), (Str.ofString "second", huesP Y), (Str.ofString "size", .int N)] [] (foldsBody.drop 7) T := by
  have lX := few16 GX.nodup GX.lt
  have lY := few16 GY.nodup GY.lt
  have pX : 1 ≤ X.length := by
    have := GX.ne
    cases X with
    | nil => exact absurd rfl this
    | cons a r => simp
  have s1 := sum_half (f := fun k => (cn k).1) (fun k hk => (cn_half hk).1) GX.nodup GX.lt hX
  have s2 := sum_half (f := fun k => (cn k).2.1) (fun k hk => (cn_half hk).2.1) GX.nodup GX.lt hX
  have s3 := sum_half (f := fun k => (cn k).2.2) (fun k hk => (cn_half hk).2.2) GX.nodup GX.lt hX
  -- red, green, blue
  refine ex_cons (ex1_tupC (p := .tup [.flt (ee 0), .flt (ee 0), .flt (ee 0)]) (ev_tup3 ev_flt ev_flt ev_flt) rfl (fun x hx => ?_) ?_ (by intro _; rfl) (fun c W s S => swap_of3 S ⟨.inl rfl, rfl⟩ ⟨.inl rfl, rfl⟩ ⟨.inl rfl, rfl⟩ (by intro _; rfl)))
  · rcases List.mem_cons.mp hx with rfl | hx
    · exact ⟨.inl rfl, rfl⟩
    · rcases List.mem_cons.mp hx with rfl | hx
      · exact ⟨.inl rfl, rfl⟩
      · rw [List.mem_singleton.mp hx]; exact ⟨.inl rfl, rfl⟩
  -- the lights are mixed
  refine ex_cons (ex1_forC (evit_list (ev_name rfl rfl rfl)) (by intro h; cases h)
    (fun i => [(Str.ofString "red", .flt (ee (sumF (fun k => (cn k).1) (X.take i)))), (Str.ofString "green", .flt (ee (sumF (fun k => (cn k).2.1) (X.take i)))), (Str.ofString "blue", .flt (ee (sumF (fun k => (cn k).2.2) (X.take i)))), (Str.ofString "first", huesP X), (Str.ofString "second", huesP Y), (Str.ofString "size", .int N)]) (fun _ => [])
    ⟨.cons rfl (.cons rfl (.cons rfl (.cons rfl (.cons rfl (.cons rfl .nil))))), .nil⟩ ?_ ?_)
  · intro i p hp
    rw [List.getElem?_map] at hp
    obtain ⟨k, hk, rfl⟩ := Option.map_eq_some_iff.mp hp
    have hmem := List.mem_of_getElem? hk
    have hk16 := GX.lt k hmem
    obtain ⟨el, c1, c2, c3⟩ := LT_ee hk16
    have htake : X.take (i + 1) = X.take i ++ [k] := by rw [List.take_add_one, hk]; rfl
    refine ⟨_, rfl, tgt1 (.inl rfl) rfl, ?_⟩
    refine ex_cons (ex1_assign (p := pv3 (LT k)) (ev_call (it := iRgb) hd1 rfl (evl_cons (ev_name rfl rfl rfl) (evl_cons ev_flt (evl_cons ev_flt evl_nil))) (hsvRgb_walk hg (rgb_fr16 hk16)) plRgb) (.inl rfl) rfl ?_)
    have i3 : ∀ {K : Kn} {σ : Sig} {ω : Own} {x : Str} {px pk pos : Pos} {kk : Nat} {t : UInt64 × UInt64 × UInt64} {i : Int} {j : Nat} {y : PV}, σ.lookup x = some (pv3 t) → (x == ("__debug__" : Str)) = false → (x == ("__classdict__" : Str)) = false → i = j → [PV.flt t.1, .flt t.2.1, .flt t.2.2][j]? = some y →
        Ev g (d + 1) K σ ω (.Subscript (.Name x px) (.Constant (.int i) kk pk) pos) y := fun h h1 h2 hi hy => by
      subst hi
      exact ev_idxT (ev_name h h1 h2) ev_int hy (by show (3 : Nat) ≤ 4096; decide)
    have t1 := sumF_take (fun k => (cn k).1) X (i + 1)
    have t2 := sumF_take (fun k => (cn k).2.1) X (i + 1)
    have t3 := sumF_take (fun k => (cn k).2.2) X (i + 1)
    rw [s1, htake, sumF_snoc] at t1
    rw [s2, htake, sumF_snoc] at t2
    rw [s3, htake, sumF_snoc] at t3
    refine ex_cons (ex1_swap3 (ev_tup3 (ev_bin (ev_name rfl rfl rfl) (i3 (t := LT k) rfl rfl rfl (j := 0) rfl rfl) op_add_flt) (ev_bin (ev_name rfl rfl rfl) (i3 (t := LT k) rfl rfl rfl (j := 1) rfl rfl) op_add_flt) (ev_bin (ev_name rfl rfl rfl) (i3 (t := LT k) rfl rfl rfl (j := 2) rfl rfl) op_add_flt))
      ⟨.inl rfl, rfl⟩ ⟨.inl rfl, rfl⟩ ⟨.inl rfl, rfl⟩ ?_)
    refine ex_nil ⟨.cons ?_ (.cons ?_ (.cons ?_ (.cons rfl (.cons rfl (.cons rfl .nil))))), .nil⟩
    · show some _ = some _
      rw [htake, sumF_snoc, el, sum_ee c1 (by lia)]
    · show some _ = some _
      rw [htake, sumF_snoc, el, sum_ee c2 (by lia)]
    · show some _ = some _
      rw [htake, sumF_snoc, el, sum_ee c3 (by lia)]
  · refine ex_nil ?_
    rw [List.length_map, List.take_length, s1, s2, s3]
    obtain ⟨a1, a2, a3⟩ := avg_ee pX lX
    have hlen : ∀ {σ ω pos pos' pos''}, σ.lookup (Str.ofString "first") = some (huesP X) → Ev g (d + 1) iFolds.scope.names σ ω (.Call (.Name "len" pos) [.Name "first" pos'] [] pos'') (.int X.length) := fun h =>
      (ev_callB rfl (hg _ (by decide)) boot_len (evl_cons (ev_name h rfl rfl) evl_nil) (cv_len (by rw [List.length_map]; lia))).eq (by rw [List.length_map])
    have grey := grey_k
    rw [beq_iff_eq] at grey
    have hdiv : ∀ {σ : Sig} {ω : Own} {x : Str} {px pos pos' pos'' pos3 : Pos}, σ.lookup x = some (PV.flt (ee (4 * X.length))) → σ.lookup (Str.ofString "first") = some (huesP X) → (x == ("__debug__" : Str)) = false → (x == ("__classdict__" : Str)) = false →
        Ev g (d + 1) iFolds.scope.names σ ω (.BinOp (.Name x px) .Div (.Call (.Name "len" pos) [.Name "first" pos'] [] pos'') pos3) (.flt fh) := fun h1 h2 h3 h4 =>
      (ev_bin (ev_name h1 h3 h4) (hlen h2) (op_div_fi a2 a3)).eq (by rw [a1])
    refine ex_cons (ex1_if (b := false) (evb_cmp (ev_call (it := iHls) hd2 rfl (evl_cons (hdiv rfl rfl rfl rfl) (evl_cons (hdiv rfl rfl rfl rfl) (evl_cons (hdiv rfl rfl rfl rfl) evl_nil))) (rgbHls_walk hg grey) plHls) (ev_tup3 ev_flt ev_flt ev_flt) ((cm_ne (b := true) ?_).eq rfl)) (fun h => by cases h) fun _ => ?_)
    · decide +kernel
    refine ex_nil ?_
    -- folded
    have ftwo : Float64.isInf (Float64.ofInt 2) = false := by have := two_k; simpa using this
    refine ex_cons (ex1_assign_compL (fun k => PV.flt (fr k)) (fr_injL GX.lt) [] [] (fun k => decide (k < 8)) (fun k => PV.flt (fr (dbl k))) (evit_list (ev_name rfl rfl rfl)) (by intro h; cases h) (by decide) .nil .nil
      (fun k hk => ⟨_, rfl, tgt1 (.inl rfl) rfl, evifs_one (evb_cmp (ev_name rfl rfl rfl) ev_flt (cm_lt_flt.eq (half_fr (GX.lt k hk)))), fun _ => (ev_bin (ev_bin ev_int (ev_name rfl rfl rfl) (op_mul_if ftwo)) ev_flt (op_mod_flt z1)).eq (by rw [dbl_fr (GX.lt k hk)])⟩) (by (clear ftwo hdiv grey hlen a3 a2 a1 s3 s2 s1 lY hnext hret hX GY GX hN hL hd2 hd1 hg pX; omega)) rfl rfl rfl ?_)
    refine ex_cons (ex1_assign_cell (p := huesP (Y.map dbl)) ((ev_mapL (fun k => PV.flt (fr k)) (fr_injL GY.lt) [] (fun k => PV.flt (fr (dbl k))) (evit_list (ev_name rfl rfl rfl)) (by decide) .nil (.inl rfl)
      (fun k hk => (ev_bin (ev_bin ev_int (ev_name rfl rfl rfl) (op_mul_if ftwo)) ev_flt (op_mod_flt z1)).eq (by rw [dbl_fr (GY.lt k hk)])) (by lia)).eq (by unfold huesP; rw [List.map_map]; rfl)) rfl rfl ?_)
    have l16 : Lt16 (Y.map dbl) := fun m hm => by obtain ⟨k, _, rfl⟩ := List.mem_map.mp hm; exact Nat.mod_lt _ (by decide)
    have lYd : (Y.map dbl).length = Y.length := List.length_map ..
    generalize hZ : Y.map dbl = Z at *
    -- no two fall together
    refine ex_cons (ex1_if (b := dupL Z) (evb_cmp (ev_compL (fun (j : Nat) => PV.int j) (l := List.range Z.length) nat_inj [(Str.ofString "second", huesP Z)] [] (fun k => decide (Z.getD k 0 ∈ Z.take k)) (fun j => PV.int (j : Nat))
      ((evit_range1 (ev_callB rfl (hg _ (by decide)) boot_len (evl_cons (ev_name rfl rfl rfl) evl_nil) (cv_len (by rw [List.length_map]; lia))) (by rw [List.length_map]; lia) (by rw [List.length_map]; lia) rfl rfl (hg _ (by decide))).eq (by rw [rangePV_nat, Int.toNat_natCast, List.length_map])) (by intro h; cases h) (by decide) (.cons rfl rfl .nil) .nil
      (fun k hk => ?_) (by simp; (clear l16 hnext hret hZ ftwo hdiv grey hlen a3 a2 a1 s3 s2 s1 pX lX hX GY GX hN hL hd2 hd1 hg; omega))) (ev_list evl_nil (by decide)) ((cm_ne (peq_nil (n := 7))).eq ?_)) (fun h => ?_) fun h => ?_)
    · have hk' := List.mem_range.mp hk
      have hget : Z[k]? = some (Z.getD k 0) := by simp [hk']
      have hz : Z.getD k 0 < 16 := by
        have : Z.getD k 0 = Z[k] := by simp [hk']
        rw [this]; exact l16 _ (List.getElem_mem hk')
      refine ⟨_, rfl, tgt1 (.inl rfl) rfl, evifs_one (evb_cmp (p := .flt (fr (Z.getD k 0))) (ev_idx (ev_name rfl rfl rfl) (ev_name rfl rfl rfl) (pidx_nat rfl (by rw [List.getElem?_map, hget]; rfl)) (by rw [List.length_map]; lia))
        ((ev_slice (ev_name rfl rfl rfl) evp_none (evp_some (ev_name rfl rfl rfl)) evp_none (by decide) (by rw [List.length_map]; (clear hz hget hk' hk l16 hnext hret hZ ftwo hdiv grey hlen a3 a2 a1 s3 s2 s1 pX lX hX GY GX hN hL hd2 hd1 hg; omega))).eq (q := huesP (Z.take k)) (by rw [slice_to, ← List.map_take]; rfl))
        (cm_in (pin_map (m := Z.getD k 0) fun m hm => peq_fr (l16 m (List.mem_of_mem_take hm)) hz))), fun _ => ev_name rfl rfl rfl⟩
    · unfold dupL
      rw [List.isEmpty_map]
    · exact ex_cons (ex1_return ev_bool (hret h _))
    · refine ex_nil ?_
      refine ex_cons (ex1_assign (p := .int (N / 2 : Nat)) ((ev_bin (ev_name rfl rfl rfl) ev_int (op_fdiv_int (by decide) (by decide))).eq (by rw [Int.fdiv_eq_ediv_of_nonneg _ (by decide)]; rfl)) (.inr rfl) rfl ?_)
      refine ex_nil (hnext h _ ⟨.cons ?_ (.cons rfl (.cons rfl .nil)), .nil⟩)
      show some _ = some _
      unfold huesP lowL
      rw [List.map_map]; rfl
end
end Mine

namespace Mine
open PySem PySem.W PyProof.Rows

theorem intsL_inj {l : List (List Int)} : ∀ a ∈ l, ∀ b ∈ l, intsL a = intsL b → a = b := fun a _ b _ h => by
  unfold intsL at h
  injection h with h
  have key : ∀ (a b : List Int), a.map PV.int = b.map PV.int → a = b := by
    intro a
    induction a with
    | nil => intro b h; cases b with
      | nil => rfl
      | cons y b => simp at h
    | cons x a ih => intro b h; cases b with
      | nil => simp at h
      | cons y b =>
        rw [List.map_cons, List.map_cons] at h
        injection h with h1 h2
        injection h1 with h1
        rw [h1, ih b h2]
  exact key a b h
theorem natsP_inj {l : List (List Nat)} : ∀ a ∈ l, ∀ b ∈ l, natsP a = natsP b → a = b := fun a _ b _ h => by
  unfold natsP at h
  injection h with h
  have key : ∀ (a b : List Nat), (a.map fun (n : Nat) => PV.int n) = (b.map fun (n : Nat) => PV.int n) → a = b := by
    intro a
    induction a with
    | nil => intro b h; cases b with
      | nil => rfl
      | cons y b => simp at h
    | cons x a ih => intro b h; cases b with
      | nil => simp at h
      | cons y b =>
        rw [List.map_cons, List.map_cons] at h
        injection h with h1 h2
        injection h1 with h1
        rw [show x = y by omega, ih b h2]
  exact key a b h
theorem huesP_inj {l : List (List Nat)} (hl : ∀ a ∈ l, Lt16 a) : ∀ a ∈ l, ∀ b ∈ l, huesP a = huesP b → a = b := fun a ha b hb h => by
  unfold huesP at h
  injection h with h
  have key : ∀ (a b : List Nat), Lt16 a → Lt16 b → (a.map fun k => PV.flt (fr k)) = (b.map fun k => PV.flt (fr k)) → a = b := by
    intro a
    induction a with
    | nil => intro b _ _ h; cases b with
      | nil => rfl
      | cons y b => simp at h
    | cons x a ih => intro b la lb h; cases b with
      | nil => simp at h
      | cons y b =>
        rw [List.map_cons, List.map_cons] at h
        injection h with h1 h2
        rw [fr_inj (la x List.mem_cons_self) (lb y List.mem_cons_self) h1, ih b (fun k hk => la k (List.mem_cons_of_mem _ hk)) (fun k hk => lb k (List.mem_cons_of_mem _ hk)) h2]
  exact key a b (hl a ha) (hl b hb) h

/-- a ring as the code has it -/
noncomputable def ringI (ks : List Nat) (N e : Nat) : List Int := (List.range N).map (ringF ks e)
noncomputable def toldOf (r : List Int) : List Nat := toldF (kB (ringW (fun p => r.getD p 0) r.length)) r.length (2 * r.length) (kB (ringW (fun p => r.getD p 0) r.length) (2 * r.length - 1))

theorem ringI_get {ks : List Nat} {N e p : Nat} (hp : p < N) : (ringI ks N e).getD p 0 = ringF ks e p := by simp [ringI, hp]
theorem ringI_len {ks : List Nat} {N e : Nat} : (ringI ks N e).length = N := by simp [ringI]
theorem toldOf_ring {ks : List Nat} {N e : Nat} (hL : Lv N e) (G : Good e ks) : toldOf (ringI ks N e) = seenL ks N e := by
  unfold toldOf
  rw [ringI_len]
  have e1 : ringW (fun p => (ringI ks N e).getD p 0) N = ringW (ringF ks e) N := by
    funext i
    unfold ringW
    exact ringI_get (Nat.mod_lt _ (by have := hL.pos; lia))
  rw [e1]
  exact told_seen hL G

theorem dbl_get {r : List Int} {i : Nat} {a : Int} (h : (r ++ r)[i]? = some a) : ringW (fun p => r.getD p 0) r.length i = a := by
  have hlt : i < 2 * r.length := by
    rcases Nat.lt_or_ge i (2 * r.length) with h1 | h1
    · exact h1
    · rw [List.getElem?_eq_none (by simp; lia)] at h; cases h
  unfold ringW
  show r.getD (i % r.length) 0 = a
  rw [List.getD_eq_getElem?_getD]
  rcases Nat.lt_or_ge i r.length with h1 | h1
  · rw [List.getElem?_append_left h1] at h
    rw [Nat.mod_eq_of_lt h1, h]; rfl
  · rw [List.getElem?_append_right h1] at h
    rw [Nat.mod_eq_sub_mod h1, Nat.mod_eq_of_lt (by omega), h]; rfl

theorem peq_natsP {n : Nat} (a b : List Nat) : peq (n + 1) (natsP a) (natsP b) = some (decide (a = b)) :=
  peq_lsts (fun x _ y _ => by
    cases n <;> simp only [peq] <;> (congr 1; rw [Bool.eq_iff_iff]; simp; omega))

theorem kB_congr {w w' : Nat → Int} {j : Nat} (h : ∀ i, i ≤ j → w i = w' i) : kB w j = kB w' j := by
  have key : ∀ {w w' : Nat → Int}, (∀ i, i ≤ j → w i = w' i) → kB w j ≤ kB w' j := fun {w w'} h => kB_max ⟨kB_le w j, fun i hi => by
    have h1 := (kB_is w j).2 i hi
    have := kB_le w j
    rw [← h i (by lia), h1, h _ (by lia)]⟩
  exact Nat.le_antisymm (key h) (key fun i hi => (h i hi).symm)

section
variable {g : Pg} {d : Nat}

theorem folds_head (hg : ∀ x ∈ usedNames, x ∉ g.names) (hdK : iKmp ∈ g.defs) (hdT : iTold ∈ g.defs) (hdS : iSeen ∈ g.defs) (hdR : iRgb ∈ g.defs) {A B : List Nat} {N e : Nat} (hL : Lv N e) (hN : 2 ≤ N) (GA : Good e A) (GB : Good e B) {T : PostT}
    (hret : per8 A = per8 B → ∀ σ, T (.ret (.bool false)) σ [])
    (hnext : per8 A ≠ per8 B → ∀ σ, Subs [(Str.ofString "first", huesP (if per8 B then B else A)), (Str.ofString "second", huesP (if per8 B then A else B)), (Str.ofString "size", .int N)] [] σ [] → Ex g (d + 2) iFolds.scope.names σ [] (foldsBody.drop 7) T) :
    Ex g (d + 2) iFolds.scope.names [(Str.ofString "first", huesP A), (Str.ofString "second", huesP B), (Str.ofString "size", .int N)] [] foldsBody T := by
  have hb := few16 GA.nodup GA.lt
  have hb' := few16 GB.nodup GB.lt
  obtain ⟨p1, p2, p3, p4⟩ := hL.pos
  have two : ∀ {P : List Nat → Prop}, P A → P B → ∀ ks ∈ [A, B], P ks := fun hA hB ks hk => by
    rcases List.mem_cons.mp hk with rfl | hk
    · exact hA
    · rw [List.mem_singleton.mp hk]; exact hB
  have hrange : ∀ {σ ω pos pos' pos''} {K : Kn}, σ.lookup (Str.ofString "size") = some (PV.int (N : Nat)) → K.lookup (Str.ofString "range") = some .globalImplicit → EvIt g (d + 2) K σ ω false (.Call (.Name "range" pos) [.Name "size" pos'] [] pos'') ((List.range N).map fun (n : Nat) => PV.int n) := fun h hK =>
    (evit_range1 (ev_name h rfl rfl) (by lia) (by lia) rfl hK (hg _ (by decide))).eq (by rw [rangePV_nat, Int.toNat_natCast])
  -- the rings
  refine ex_cons (ex1_mapL (fun ks => huesP ks) (l := [A, B]) (huesP_inj (two GA.lt GB.lt)) [(Str.ofString "size", .int N)] (fun ks => intsL (ringI ks N e)) (evit_list (ev_list (evl_cons (ev_name rfl rfl rfl) (evl_cons (ev_name rfl rfl rfl) evl_nil)) (by show (2 : Nat) ≤ 4096; decide))) (by decide) (.cons rfl rfl .nil) (.inr rfl)
    (fun ks hks => ?_) (by show (2 : Nat) ≤ 4096; decide) rfl rfl rfl ?_)
  · have hlt : Lt16 ks := two (P := Lt16) GA.lt GB.lt ks hks
    refine (ev_mapL (fun (p : Nat) => PV.int p) (l := List.range N) nat_inj [(Str.ofString "hues", huesP ks), (Str.ofString "size", .int N)] (fun p => PV.int (ringF ks e p)) (hrange rfl rfl) (by decide) (.cons rfl rfl (.cons rfl rfl .nil)) (.inl rfl) (fun p hp => ?_) (by simp; lia)).eq (by unfold intsL ringI; rw [List.map_map]; rfl)
    have hp' := List.mem_range.mp hp
    obtain ⟨f1', f2'⟩ := frac_of (p := p) hL (by lia)
    refine (ev_if (b := decide (p * e ∈ ks)) (evb_cmp (p := .flt (fr (p * e))) ((ev_bin (ev_name rfl rfl rfl) (ev_name rfl rfl rfl) (op_div_ii (by lia) f2')).eq (by rw [f1'])) (ev_name rfl rfl rfl) (cm_in (pin_map (m := p * e) fun k hk => peq_fr (hlt k hk) (hL.lt hp')))) (fun _ => ev_int) fun _ => ev_int).eq ?_
    unfold ringF
    cases decide (p * e ∈ ks) <;> rfl
  -- what the tables tell
  have rlen : ∀ ks ∈ [A, B], (ringI ks N e).length = N := fun ks _ => ringI_len
  refine ex_cons (ex1_mapL (fun r => intsL r) (l := [ringI A N e, ringI B N e]) intsL_inj [] (fun r => natsP (toldOf r)) (evit_list (ev_name rfl rfl rfl)) (by decide) .nil (.inl rfl) (fun r hr => ?_) (by show (2 : Nat) ≤ 4096; decide) rfl rfl rfl ?_)
  · have hr' : r.length = N := by
      rcases List.mem_cons.mp hr with rfl | hr
      · exact ringI_len
      · rw [List.mem_singleton.mp hr]; exact ringI_len
    refine ev_call (it := iTold) hdT rfl (evl_cons (ev_name rfl rfl rfl) evl_nil) (told_walk (d := d) hg hdK (eq := eqW (ringW (fun p => r.getD p 0) r.length)) (B := kB (ringW (fun p => r.getD p 0) r.length)) (by lia) (by lia) (fun i j a b ha hb => ?_) (kmp_ok _ _)) plTold
    unfold eqW
    rw [dbl_get ha, dbl_get hb]
  have et : ([ringI A N e, ringI B N e].map fun r => natsP (toldOf r)) = [natsP (seenL A N e), natsP (seenL B N e)] := by
    show [natsP _, natsP _] = _
    rw [toldOf_ring hL GA, toldOf_ring hL GB]
  rw [et]
  -- the lights tell the same
  refine ex_cons (ex1_if (b := false) (evb_cmp (ev_name rfl rfl rfl) (ev_mapL (fun ks => huesP ks) (l := [A, B]) (huesP_inj (two GA.lt GB.lt)) [(Str.ofString "size", .int N)] (fun ks => natsP (seenL ks N e)) (evit_list (ev_list (evl_cons (ev_name rfl rfl rfl) (evl_cons (ev_name rfl rfl rfl) evl_nil)) (by show (2 : Nat) ≤ 4096; decide))) (by decide) (.cons rfl rfl .nil) (.inl rfl)
    (fun ks hks => ev_call (it := iSeen) hdS rfl (evl_cons (ev_name rfl rfl rfl) (evl_cons (ev_name rfl rfl rfl) evl_nil)) (seen_walk (d := d) hg hdR hL (two (P := Lt16) GA.lt GB.lt ks hks) (by have := two (P := fun ks => ks.length ≤ 16) hb hb' ks hks; lia)) plSeen) (by show (2 : Nat) ≤ 4096; decide)) ((cm_ne (b := true) ?_).eq rfl)) (fun h => by cases h) fun _ => ?_)
  · have := peq_lsts (n := 7) (f := natsP) (l := [seenL A N e, seenL B N e]) (m := [seenL A N e, seenL B N e]) fun a _ b _ => peq_natsP a b
    rw [decide_eq_true rfl] at this
    exact this
  refine ex_nil ?_
  -- the least turns
  refine ex_cons (ex1_mapL (fun r => intsL r) (l := [ringI A N e, ringI B N e]) intsL_inj [(Str.ofString "size", .int N)] (fun r => intsL (minL (rots r N))) (evit_list (ev_name rfl rfl rfl)) (by decide) (.cons rfl rfl .nil) (.inr rfl) (fun r hr => ?_) (by show (2 : Nat) ≤ 4096; decide) rfl rfl rfl ?_)
  · have hr' : r.length = N := by
      rcases List.mem_cons.mp hr with rfl | hr
      · exact ringI_len
      · rw [List.mem_singleton.mp hr]; exact ringI_len
    have hm : ∀ l ∈ rots r N, l.length = N := fun l hl => by
      unfold rots at hl
      obtain ⟨k, hk, rfl⟩ := List.mem_map.mp hl
      have := List.mem_range.mp hk
      simp; lia
    refine ev_callB rfl (hg _ (by decide)) PyProof.Rows.boot_min (evl_cons (p := .lst ((rots r N).map intsL)) ?_ evl_nil) (cv_minL (by unfold rots; simp; lia) hm)
    refine (ev_mapL (fun (p : Nat) => PV.int p) (l := List.range N) nat_inj [(Str.ofString "ring", intsL r)] (fun k => intsL (r.drop k ++ r.take k)) (hrange rfl rfl) (by decide) (.cons rfl rfl .nil) (.inl rfl) (fun k hk => ?_) (by simp; lia)).eq (by unfold rots; rw [List.map_map]; rfl)
    have hk' := List.mem_range.mp hk
    refine (ev_bin ((ev_slice (ev_name rfl rfl rfl) (evp_some (ev_name rfl rfl rfl)) evp_none evp_none (by decide) (by rw [List.length_map]; lia)).eq (q := intsL (r.drop k)) (by rw [slice_from (by rw [List.length_map]; lia), ← List.map_drop]; rfl))
      ((ev_slice (ev_name rfl rfl rfl) evp_none (evp_some (ev_name rfl rfl rfl)) evp_none (by decide) (by rw [List.length_map]; (clear hk' hk hm hr et rlen hrange two p4 p3 p1 hb' hb hnext hret GB GA hL hdR hdS hdT hdK hg; omega))).eq (q := intsL (r.take k)) (by rw [slice_to, ← List.map_take]; rfl)) (op_add_lst (by simp; lia))).eq ?_
    unfold intsL
    rw [List.map_append]
  -- Lyndon
  obtain ⟨kA, hkA, eA, mA⟩ := least_spec (r := ringF A e) (n := N) p1
  obtain ⟨kC, hkC, eC, mC⟩ := least_spec (r := ringF B e) (n := N) p1
  have hdA := seen_head hL GA hkA mA
  have hdB := seen_head hL GB hkC mC
  have hread : ∀ {ks : List Nat} {k0 : Nat}, k0 < N → minL (rots (ringI ks N e) N) = (ringI ks N e).drop k0 ++ (ringI ks N e).take k0 → (minL (rots (ringI ks N e) N)).length = N ∧ kB (fun i => (minL (rots (ringI ks N e) N)).getD i 0) (N - 1) = kB (fun i => ringF ks e ((i + k0) % N)) (N - 1) := fun {ks k0} hk0 he => by
    refine ⟨by rw [he]; simp [ringI_len]; lia, kB_congr fun i hi => ?_⟩
    rw [he]
    exact rot_get (r := ringF ks e) hk0 (by lia)
  obtain ⟨lA, qA⟩ := hread hkA eA
  obtain ⟨lC, qC⟩ := hread hkC eC
  have leA := kB_le (fun i => ringF A e ((i + kA) % N)) (N - 1)
  have leC := kB_le (fun i => ringF B e ((i + kC) % N)) (N - 1)
  have el : ([ringI A N e, ringI B N e].map fun r => intsL (minL (rots r N))) = [minL (rots (ringI A N e) N), minL (rots (ringI B N e) N)].map intsL := rfl
  rw [el]
  generalize minL (rots (ringI A N e) N) = LA at lA qA ⊢
  generalize minL (rots (ringI B N e) N) = LC at lC qC ⊢
  have hA0 : (seenL A N e).headD 0 = N - kB (fun i => ringF A e ((i + kA) % N)) (N - 1) := by
    cases h : seenL A N e with
    | nil => rw [h] at hdA; simp at hdA
    | cons a r => rw [h] at hdA; simpa using hdA
  have hC0 : (seenL B N e).headD 0 = N - kB (fun i => ringF B e ((i + kC) % N)) (N - 1) := by
    cases h : seenL B N e with
    | nil => rw [h] at hdB; simp at hdB
    | cons a r => rw [h] at hdB; simpa using hdB
  refine ex_cons (ex1_if (b := false) (evb_cmp (p := natsP [(seenL A N e).headD 0, (seenL B N e).headD 0]) (q := natsP [(seenL A N e).headD 0, (seenL B N e).headD 0])
    ((ev_mapL (fun r => intsL r) (l := [LA, LC]) intsL_inj [(Str.ofString "size", .int N)] (fun r => PV.int ((N : Int) - kB (fun i => r.getD i 0) (N - 1))) (evit_list (ev_name rfl rfl rfl)) (by decide) (.cons rfl rfl .nil) (.inl rfl) (fun r hr => ?_) (by show (2 : Nat) ≤ 4096; decide)).eq ?_)
    ((ev_mapL (fun l => natsP l) (l := [seenL A N e, seenL B N e]) natsP_inj [] (fun l => PV.int (l.headD 0 : Nat)) (evit_list (ev_name rfl rfl rfl)) (by decide) .nil (.inl rfl) (fun l hl => ?_) (by show (2 : Nat) ≤ 4096; decide)).eq ?_)
    ((cm_ne (b := true) ?_).eq rfl)) (fun h => by cases h) fun _ => ?_)
  · have hr' : r.length = N := by
      rcases List.mem_cons.mp hr with rfl | hr
      · exact lA
      · rw [List.mem_singleton.mp hr]; exact lC
    have hget : ∀ {i : Nat} {p : PV}, (r.map PV.int)[i]? = some p → p = .int (r.getD i 0) := fun {i p} hp => by
      rw [List.getElem?_map] at hp
      obtain ⟨a, ha, rfl⟩ := Option.map_eq_some_iff.mp hp
      rw [List.getD_eq_getElem?_getD, ha]; rfl
    refine ev_bin (ev_name rfl rfl rfl) (ev_idx (x := .int (kB (fun i => r.getD i 0) (N - 1))) (ev_call (it := iKmp) hdK rfl (evl_cons (ev_name rfl rfl rfl) evl_nil) (kmp_body hg (ps := r.map PV.int) (eq := eqW (fun i => r.getD i 0)) (B := kB (fun i => r.getD i 0)) (by rw [List.length_map]; lia) (fun i j p q hp hq => ?_) (kmp_ok _ _)) plKmp) (ev_un ev_int op_neg_int) (pidx_last ?_) (by simp; lia)) op_sub_int
    · rw [hget hp, hget hq]; unfold eqW; simp [peq]
    · rw [List.getLast?_eq_getElem?]
      simp only [List.length_map, List.length_range, hr']
      rw [List.getElem?_map, List.getElem?_range (by lia)]; rfl
  · show PV.lst [PV.int _, PV.int _] = natsP _
    rw [qA, qC, hA0, hC0]
    unfold natsP
    simp only [List.map_cons, List.map_nil]
    congr 3
    · congr 1; lia
    · congr 2; lia
  · obtain ⟨a, r, rfl⟩ : ∃ a r, l = a :: r := by
      rcases List.mem_cons.mp hl with rfl | hl
      · cases h : seenL A N e with
        | nil => rw [h] at hdA; simp at hdA
        | cons a r => exact ⟨a, r, rfl⟩
      · rw [List.mem_singleton.mp hl]
        cases h : seenL B N e with
        | nil => rw [h] at hdB; simp at hdB
        | cons a r => exact ⟨a, r, rfl⟩
    have hlen : (a :: r).length ≤ 16 := by
      rcases List.mem_cons.mp hl with h | h
      · rw [h]; unfold seenL; rw [List.length_map]; exact Nat.le_trans (List.length_filter_le _ _) (by simp; lia)
      · rw [List.mem_singleton.mp h]; unfold seenL; rw [List.length_map]; exact Nat.le_trans (List.length_filter_le _ _) (by simp; lia)
    exact ev_idx (ev_name rfl rfl rfl) ev_int (pidx_nat (j := 0) rfl rfl) (by rw [List.length_map]; lia)
  · rfl
  · have := peq_natsP (n := 7) [(seenL A N e).headD 0, (seenL B N e).headD 0] [(seenL A N e).headD 0, (seenL B N e).headD 0]
    rw [decide_eq_true rfl] at this
    exact this
  refine ex_nil ?_
  -- the half turn
  have hslen : ∀ ks, (seenL ks N e).length ≤ 16 := fun ks => by unfold seenL; rw [List.length_map]; exact Nat.le_trans (List.length_filter_le _ _) (by simp; lia)
  have half : ∀ {ks : List Nat} {j : Nat} {σ ω pos p1' p2' p3' p4' p5' p6' : _} {k1 k2 : Nat}, j < 2 → [natsP (seenL A N e), natsP (seenL B N e)][j]? = some (natsP (seenL ks N e)) → σ.lookup (Str.ofString "size") = some (PV.int (N : Nat)) → σ.lookup (Str.ofString "told") = some (PV.lst [natsP (seenL A N e), natsP (seenL B N e)]) →
      (Ev g (d + 2) iFolds.scope.names σ ω (.Compare (.BinOp (.Name "size" p1') .FloorDiv (.Constant (.int 2) k1 p2') p3') [.In] [.Subscript (.Name "told" p4') (.Constant (.int (j : Nat)) k2 p5') p6'] pos) (.bool (per8 ks)) ∧
      EvB g (d + 2) iFolds.scope.names σ ω (.Compare (.BinOp (.Name "size" p1') .FloorDiv (.Constant (.int 2) k1 p2') p3') [.In] [.Subscript (.Name "told" p4') (.Constant (.int (j : Nat)) k2 p5') p6'] pos) (per8 ks)) := fun {ks j σ ω pos p1' p2' p3' p4' p5' p6' k1 k2} hj hget h1 h2 => by
    have hdiv : Ev g (d + 2) iFolds.scope.names σ ω (.BinOp (.Name "size" p1') .FloorDiv (.Constant (.int 2) k1 p2') p3') (.int (N / 2 : Nat)) := (ev_bin (ev_name h1 rfl rfl) ev_int (op_fdiv_int (by decide) (by decide))).eq (by rw [Int.fdiv_eq_ediv_of_nonneg _ (by decide)]; rfl)
    have hidx : Ev g (d + 2) iFolds.scope.names σ ω (.Subscript (.Name "told" p4') (.Constant (.int (j : Nat)) k2 p5') p6') (natsP (seenL ks N e)) := ev_idx (ev_name h2 rfl rfl) ev_int (pidx_nat (j := j) rfl hget) (by show (2 : Nat) ≤ 4096; decide)
    have hin : Cm2 .In (.int (N / 2 : Nat)) (natsP (seenL ks N e)) (per8 ks) := (cm_in (pin_map (m := N / 2) (f := fun (n : Nat) => PV.int n) fun x _ => by simp only [peq]; congr 1; rw [Bool.eq_iff_iff]; simp; lia)).eq (half_seen hL hN)
    exact ⟨ev_cmp hdiv hidx hin, evb_cmp hdiv hidx hin⟩
  refine ex_cons (ex1_if (b := per8 A == per8 B) (evb_cmp (half (ks := A) (j := 0) (by decide) rfl rfl rfl).1 (half (ks := B) (j := 1) (by decide) rfl rfl rfl).1 cm_eq_bool) (fun h => ?_) fun h => ?_)
  · exact ex_cons (ex1_return ev_bool (hret (eq_of_beq h) _))
  refine ex_nil ?_
  have hne : per8 A ≠ per8 B := fun e => by rw [e] at h; simp at h
  refine ex_cons (ex1_if (b := per8 B) (half (ks := B) (j := 1) (by decide) rfl rfl rfl).2 (fun h => ?_) fun h => ?_)
  · refine ex_cons (ex1_tupC (p := .tup [huesP B, huesP A]) (ev_tuple (evl_cons (ev_name rfl rfl rfl) (evl_cons (ev_name rfl rfl rfl) evl_nil)) (by show (2 : Nat) ≤ 4096; decide)) rfl (fun x hx => ?_) ?_ (by intro _; rfl) (fun c W s S => swap_of2 S ⟨.inl rfl, rfl⟩ ⟨.inr rfl, rfl⟩ (by intro _; rfl)))
    · rcases List.mem_cons.mp hx with rfl | hx
      · exact ⟨.inl rfl, rfl⟩
      · rw [List.mem_singleton.mp hx]; exact ⟨.inr rfl, rfl⟩
    refine ex_nil (hnext hne _ ⟨.cons ?_ (.cons ?_ (.cons rfl .nil)), .nil⟩)
    · show some _ = some _
      rw [if_pos h]
    · show some _ = some _
      rw [if_pos h]
  · refine ex_nil (hnext hne _ ⟨.cons ?_ (.cons ?_ (.cons rfl .nil)), .nil⟩)
    · show some _ = some _
      rw [if_neg (by rw [h]; decide)]
    · show some _ = some _
      rw [if_neg (by rw [h]; decide)]
end
end Mine

namespace Mine
open PySem PySem.W PyProof.Rows

noncomputable def pX (A B : List Nat) : List Nat := if per8 B then B else A
noncomputable def pY (A B : List Nat) : List Nat := if per8 B then A else B
noncomputable def foldsB : Nat → List Nat → List Nat → Bool
  | 0, _, _ => true
  | j + 1, A, B => if per8 A == per8 B then false else if dupL ((pY A B).map dbl) then false else foldsB j (lowL (pX A B)) ((pY A B).map dbl)

theorem lv_of {j : Nat} (h : j ≤ 4) : Lv (2 ^ j) (2 ^ (4 - j)) := by
  have : j = 0 ∨ j = 1 ∨ j = 2 ∨ j = 3 ∨ j = 4 := by lia
  unfold Lv
  rcases this with rfl | rfl | rfl | rfl | rfl <;> decide
theorem e_dbl {j : Nat} (h : j + 1 ≤ 4) : 2 ^ (4 - j) = 2 * 2 ^ (4 - (j + 1)) := by
  have : 4 - j = (4 - (j + 1)) + 1 := by lia
  rw [this, Nat.pow_succ, Nat.mul_comm]

theorem dupL_iff {l : List Nat} : dupL l = false ↔ l.Nodup := by
  unfold dupL
  rw [Bool.not_eq_false', List.isEmpty_iff, List.filter_eq_nil_iff]
  constructor
  · intro h
    unfold List.Nodup
    rw [List.pairwise_iff_getElem]
    intro i j hi hj hij e
    refine h j (List.mem_range.mpr hj) (decide_eq_true ?_)
    have e1 : l.getD j 0 = l[j] := by simp [hj]
    rw [e1, ← e, List.mem_take_iff_getElem]
    exact ⟨i, by lia, rfl⟩
  · intro h k hk hc
    have hk' := List.mem_range.mp hk
    have e1 : l.getD k 0 = l[k] := by simp [hk']
    have hm := of_decide_eq_true hc
    rw [e1, List.mem_take_iff_getElem] at hm
    obtain ⟨i, hi, e⟩ := hm
    unfold List.Nodup at h
    rw [List.pairwise_iff_getElem] at h
    exact h i k (by lia) hk' (by lia) e

theorem dbl_mul {e k : Nat} {N : Nat} (hL : Lv N (2 * e)) (h : ∃ p, k = p * e) : ∃ p, dbl k = p * (2 * e) := by
  obtain ⟨p, rfl⟩ := h
  refine ⟨p % N, ?_⟩
  rw [← mod_mul hL]
  unfold dbl
  congr 1
  rw [← Nat.mul_assoc, Nat.mul_comm 2 p, Nat.mul_assoc, Nat.mul_left_comm]

theorem good_low {e : Nat} {N : Nat} {X : List Nat} (hL : Lv N (2 * e)) (G : Good e X) (hX : per8 X = true) : Good (2 * e) (lowL X) where
  nodup := by
    unfold lowL List.Nodup
    rw [List.pairwise_map]
    have hf : (X.filter fun k => decide (k < 8)).Nodup := G.nodup.sublist List.filter_sublist
    refine List.Pairwise.imp_of_mem (fun {a b} ha hb hne he => hne ?_) hf
    have h1 := of_decide_eq_true (List.mem_filter.mp ha).2
    have h2 := of_decide_eq_true (List.mem_filter.mp hb).2
    unfold dbl at he
    lia
  lt := fun k hk => by
    obtain ⟨a, _, rfl⟩ := List.mem_map.mp hk
    exact Nat.mod_lt _ (by decide)
  mul := fun k hk => by
    obtain ⟨a, ha, rfl⟩ := List.mem_map.mp hk
    exact dbl_mul hL (G.mul a (List.mem_filter.mp ha).1)
  ne := by
    intro h
    unfold lowL at h
    rw [List.map_eq_nil_iff, List.filter_eq_nil_iff] at h
    cases X with
    | nil => exact G.ne rfl
    | cons a r =>
      have ha := G.lt a List.mem_cons_self
      rcases Nat.lt_or_ge a 8 with h8 | h8
      · exact h a List.mem_cons_self (decide_eq_true h8)
      · have hp := of_decide_eq_true (List.all_eq_true.mp hX a List.mem_cons_self)
        exact h _ hp (decide_eq_true (by lia))

theorem good_dbl {e : Nat} {N : Nat} {Y : List Nat} (hL : Lv N (2 * e)) (G : Good e Y) (hY : dupL (Y.map dbl) = false) : Good (2 * e) (Y.map dbl) where
  nodup := dupL_iff.mp hY
  lt := fun k hk => by
    obtain ⟨a, _, rfl⟩ := List.mem_map.mp hk
    exact Nat.mod_lt _ (by decide)
  mul := fun k hk => by
    obtain ⟨a, ha, rfl⟩ := List.mem_map.mp hk
    exact dbl_mul hL (G.mul a ha)
  ne := fun h => G.ne (List.map_eq_nil_iff.mp h)

theorem good_X {e : Nat} {A B : List Nat} (GA : Good e A) (GB : Good e B) : Good e (pX A B) := by unfold pX; split <;> assumption
theorem good_Y {e : Nat} {A B : List Nat} (GA : Good e A) (GB : Good e B) : Good e (pY A B) := by unfold pY; split <;> assumption
theorem per_X {A B : List Nat} (h : per8 A ≠ per8 B) : per8 (pX A B) = true := by
  unfold pX
  cases hb : per8 B with
  | true => simp only [if_true]; exact hb
  | false =>
    simp only [Bool.false_eq_true, if_false]
    cases ha : per8 A with
    | true => rfl
    | false => rw [ha, hb] at h; exact absurd rfl h

section
variable {g : Pg} {d : Nat}

theorem folds_walk (hg : ∀ x ∈ usedNames, x ∉ g.names) (hdK : iKmp ∈ g.defs) (hdT : iTold ∈ g.defs) (hdS : iSeen ∈ g.defs) (hdR : iRgb ∈ g.defs) (hdH : iHls ∈ g.defs) {A B : List Nat} {j : Nat} (hj : j ≤ 4) (GA : Good (2 ^ (4 - j)) A) (GB : Good (2 ^ (4 - j)) B) :
    Fn g (d + 2) iFolds [huesP A, huesP B, .int (2 ^ j : Nat)] (.bool (foldsB j A B)) := by
  unfold Fn
  refine ex_cons (ex1_whileC (α := Nat × List Nat × List Nat) (fun a => [(Str.ofString "first", huesP a.2.1), (Str.ofString "second", huesP a.2.2), (Str.ofString "size", .int (2 ^ a.1 : Nat))]) (fun _ => []) (fun a => a.1)
    (fun a => a.1 ≤ 4 ∧ Good (2 ^ (4 - a.1)) a.2.1 ∧ Good (2 ^ (4 - a.1)) a.2.2 ∧ foldsB a.1 a.2.1 a.2.2 = foldsB j A B) (j, A, B) ⟨hj, GA, GB, rfl⟩ ⟨.cons rfl (.cons rfl (.cons rfl .nil)), .nil⟩ ?_)
  rintro ⟨i, X, Y⟩ ⟨hi, GX, GY, hr⟩
  simp only at hi GX GY hr
  refine ⟨decide (1 < 2 ^ i), evb_cmp (ev_name rfl rfl rfl) ev_int (cm_gt_nat rfl rfl), fun hb => ?_, fun hb => ?_⟩
  · have hb' := of_decide_eq_true hb
    obtain ⟨i, rfl⟩ : ∃ i', i = i' + 1 := ⟨i - 1, by cases i with
      | zero => simp at hb'
      | succ i => lia⟩
    have hL := lv_of (j := i + 1) hi
    have hL2 : Lv (2 ^ i) (2 * 2 ^ (4 - (i + 1))) := by rw [← e_dbl hi]; exact lv_of (by lia)
    refine folds_head (d := d) hg hdK hdT hdS hdR hL (by lia) GX GY (fun he σ => ?_) fun hne σ hs => ?_
    · left
      rw [← hr, foldsB, if_pos (by rw [he, beq_self_eq_true])]
    · have hne' : ¬ ((per8 X == per8 Y) = true) := fun h => hne (eq_of_beq h)
      refine Ex.sub (folds_tail (d := d + 1) hg hdR hdH hL (by omega) (good_X GX GY) (good_Y GX GY) (per_X hne) (fun hd σ => ?_) fun hd σ hs2 => ?_) hs
      · left
        rw [← hr, foldsB, if_neg hne', if_pos hd]
      · refine ⟨(i, lowL (pX X Y), (pY X Y).map dbl), Nat.lt_succ_self i, ⟨by show i ≤ 4; (clear hs2 hd hne' hs hne hL2 hL hb' hb hr GY GX GB GA hj hdH hdR hdS hdT hdK hg; omega), ?_, ?_, ?_⟩, ?_⟩
        · show Good (2 ^ (4 - i)) _
          rw [e_dbl hi]; exact good_low hL2 (good_X GX GY) (per_X hne)
        · show Good (2 ^ (4 - i)) _
          rw [e_dbl hi]; exact good_dbl hL2 (good_Y GX GY) hd
        · rw [← hr, foldsB, if_neg hne', hd]; rfl
        · have e2 : 2 ^ (i + 1) / 2 = 2 ^ i := by rw [Nat.pow_succ]; omega
          rw [e2] at hs2; exact hs2
  · have hi0 : i = 0 := by
      cases i with
      | zero => rfl
      | succ i =>
        have := of_decide_eq_false hb
        have : 2 ^ (i + 1) = 2 * 2 ^ i := by rw [Nat.pow_succ, Nat.mul_comm]
        have := Nat.two_pow_pos i
        lia
    subst hi0
    refine ex_nil ?_
    refine ex_cons (ex1_return ev_bool (.inl ?_))
    rw [← hr]; rfl
end
end Mine

namespace Mine
open PySem PySem.W PyProof.Rows

/-- every c-th item of a list of whole numbers, from the k-th on -/
noncomputable def pickI (xs : List Int) (k c : Int) : List Int :=
  (sliceRange (sliceBounds (some k) Option.none (some c) xs.length).1 (sliceBounds (some k) Option.none (some c) xs.length).2.1 (sliceBounds (some k) Option.none (some c) xs.length).2.2).filterMap (xs[·]?)
theorem pslice_ints (xs : List Int) (k c : Int) : pslice (xs.map PV.int) (some k) Option.none (some c) = (pickI xs k c).map PV.int := by
  unfold pslice pickI
  rw [List.length_map, List.map_filterMap]
  congr 1
  funext i
  rw [List.getElem?_map]

noncomputable def countOf (xs : List Int) : Nat := if 2 < xs.length then 4 else 3
noncomputable def heapsOf (xs : List Int) : List Int := (([3, 5, 4, 9] : List Int).take (countOf xs)).zipIdx.map fun x => x.1 + (pickI xs x.2 (countOf xs)).sum
theorem heaps_len (xs : List Int) : (heapsOf xs).length = countOf xs := by
  unfold heapsOf countOf
  split <;> simp

noncomputable def bitH (heap : Int) (k : Nat) : Nat := ((heap.fdiv (2 ^ (k + 1))).fmod 2).toNat
theorem bitH_eq (heap : Int) (k : Nat) : (heap.fdiv (2 ^ (k + 1))).fmod 2 = (bitH heap k : Int) := by
  unfold bitH
  have := Int.fmod_nonneg_of_pos (heap.fdiv (2 ^ (k + 1))) (b := 2) (by decide)
  omega
theorem bitH_lt (heap : Int) (k : Nat) : bitH heap k < 2 := by
  have h1 := bitH_eq heap k
  have := Int.fmod_lt_of_pos (heap.fdiv (2 ^ (k + 1))) (b := 2) (by decide)
  omega

noncomputable def stepS (n : Nat) (heap : Int) (S : List Nat) : List Nat := S.zipIdx.map fun x => x.1 + n * bitH heap x.2
noncomputable def stepF (n : Nat) (F : List Nat) : List Nat := F ++ F.map (· + n)
noncomputable def palStep (n : Nat) (st : List Nat × List Nat) (heap : Int) : List Nat × List Nat :=
  if heap.fmod 2 == 1 then (stepS n heap st.2, stepF n st.1) else (stepF n st.1, stepS n heap st.2)
noncomputable def palAt (hs : List Int) : Nat → List Nat × List Nat
  | 0 => ([0], [0])
  | i + 1 => palStep (2 ^ i) (palAt hs i) (hs.getD i 0)

/-- what is known of the two: no place twice, all on the wheel, as many pairs as places -/
structure PalOk (n : Nat) (st : List Nat × List Nat) : Prop where
  f : st.1.Nodup
  s : st.2.Nodup
  fl : ∀ p ∈ st.1, p < n
  sl : ∀ p ∈ st.2, p < n
  len : st.1.length * st.2.length = n

theorem stepS_ok {n : Nat} {heap : Int} {S : List Nat} (h1 : S.Nodup) (h2 : ∀ p ∈ S, p < n) : (stepS n heap S).Nodup ∧ (∀ p ∈ stepS n heap S, p < 2 * n) ∧ (stepS n heap S).length = S.length := by
  refine ⟨?_, fun p hp => ?_, by simp [stepS]⟩
  · unfold stepS List.Nodup
    rw [List.pairwise_map, List.pairwise_iff_getElem]
    intro i j hi hj hij e
    have hi' : i < S.length := by simpa using hi
    have hj' : j < S.length := by simpa using hj
    simp only [List.getElem_zipIdx, Nat.zero_add] at e
    have b1 := bitH_lt heap i
    have b2 := bitH_lt heap j
    have l1 := h2 _ (List.getElem_mem hi')
    have l2 := h2 _ (List.getElem_mem hj')
    have hne : S[i] ≠ S[j] := by
      unfold List.Nodup at h1
      rw [List.pairwise_iff_getElem] at h1
      exact h1 i j hi' hj' hij
    have c1 : bitH heap i = 0 ∨ bitH heap i = 1 := by lia
    have c2 : bitH heap j = 0 ∨ bitH heap j = 1 := by lia
    rcases c1 with c1 | c1 <;> rcases c2 with c2 | c2 <;> rw [c1, c2] at e <;> lia
  · unfold stepS at hp
    obtain ⟨⟨q, k⟩, hq, rfl⟩ := List.mem_map.mp hp
    have hm : q ∈ S := by
      have := List.mem_zipIdx hq
      rw [this.2.2]; exact List.getElem_mem _
    have := h2 q hm
    have b := bitH_lt heap k
    have c : bitH heap k = 0 ∨ bitH heap k = 1 := by lia
    rcases c with c | c <;> simp only [c] <;> lia
theorem stepF_ok {n : Nat} {F : List Nat} (h1 : F.Nodup) (h2 : ∀ p ∈ F, p < n) : (stepF n F).Nodup ∧ (∀ p ∈ stepF n F, p < 2 * n) ∧ (stepF n F).length = 2 * F.length := by
  refine ⟨?_, fun p hp => ?_, by simp [stepF]; lia⟩
  · unfold stepF
    rw [List.nodup_append]
    refine ⟨h1, ?_, fun a ha b hb => ?_⟩
    · unfold List.Nodup
      rw [List.pairwise_map]
      exact h1.imp fun h e => h (by lia)
    · obtain ⟨c, hc, rfl⟩ := List.mem_map.mp hb
      have := h2 a ha
      lia
  · unfold stepF at hp
    rcases List.mem_append.mp hp with h | h
    · have := h2 p h; lia
    · obtain ⟨c, hc, rfl⟩ := List.mem_map.mp h
      have := h2 c hc; lia

theorem palAt_ok (hs : List Int) : ∀ i, PalOk (2 ^ i) (palAt hs i)
  | 0 => ⟨by simp [palAt], by simp [palAt], fun p hp => by simp [palAt] at hp; lia, fun p hp => by simp [palAt] at hp; omega, rfl⟩
  | i + 1 => by
    have ih := palAt_ok hs i
    obtain ⟨a1, a2, a3⟩ := stepS_ok (heap := hs.getD i 0) ih.s ih.sl
    obtain ⟨b1, b2, b3⟩ := stepF_ok ih.f ih.fl
    have e : 2 ^ (i + 1) = 2 * 2 ^ i := by rw [Nat.pow_succ, Nat.mul_comm]
    have hl := ih.len
    rw [e]
    unfold palAt palStep
    split
    · exact ⟨a1, b1, a2, b2, by simp only [a3, b3]; rw [← hl, Nat.mul_comm, Nat.mul_assoc]⟩
    · exact ⟨b1, a1, b2, a2, by simp only [a3, b3]; rw [← hl, Nat.mul_assoc]⟩

theorem bits_pow {i : Nat} (h : i ≤ 4) : Builtin.Int.intBits ((2 ^ i : Nat) : Int) ≤ 64 := by
  have : i = 0 ∨ i = 1 ∨ i = 2 ∨ i = 3 ∨ i = 4 := by omega
  rcases this with rfl | rfl | rfl | rfl | rfl <;> decide

noncomputable def movedL (xs : List Int) (n : Nat) (F : List Nat) : List Nat := ((((F.headD 0 : Nat) : Int) + xs.sum.fdiv 5).fmod n).toNat :: F.tail
noncomputable def pickL (n : Nat) (l : List Nat) : List Nat := (List.range n).filter fun p => decide (p ∈ l)

section
variable {g : Pg} {d : Nat}

theorem pal_walk (hg : ∀ x ∈ usedNames, x ∉ g.names) (xs : List Int) (hx : xs.length ≤ 63) :
    Fn g (d + 1) iPal [intsL xs] (.tup [.int (2 ^ countOf xs : Nat), .lst [natsP (pickL (2 ^ countOf xs) (movedL xs (2 ^ countOf xs) (palAt (heapsOf xs) (countOf xs)).1)), natsP (pickL (2 ^ countOf xs) (palAt (heapsOf xs) (countOf xs)).2)]]) := by
  unfold Fn
  have hc : countOf xs = 4 ∨ countOf xs = 3 := by unfold countOf; split <;> simp
  have lenX : ∀ {σ ω pos pos' pos''}, σ.lookup (Str.ofString "script") = some (intsL xs) → Ev g (d + 1) iPal.scope.names σ ω (.Call (.Name "len" pos) [.Name "script" pos'] [] pos'') (.int xs.length) := fun h =>
    (ev_callB rfl (hg _ (by decide)) boot_len (evl_cons (ev_name h rfl rfl) evl_nil) (cv_len (by rw [List.length_map]; lia))).eq (by rw [List.length_map])
  refine ex_cons (ex1_assign (p := .int (countOf xs)) ((ev_if (b := decide (2 < xs.length)) (evb_cmp (lenX rfl) ev_int (cm_gt_nat rfl rfl)) (fun _ => ev_int) (fun _ => ev_int)).eq ?_) (.inr rfl) rfl ?_)
  · unfold countOf
    by_cases h : 2 < xs.length <;> simp [h]
  refine ex_cons (ex1_tupC (p := .tup [natsP [0], natsP [0], .int 1]) (ev_tup3 (ev_list (evl_cons ev_int evl_nil) (by decide)) (ev_list (evl_cons ev_int evl_nil) (by decide)) ev_int) rfl (fun x hx => ?_) ?_ (by intro _; rfl) (fun c W s S => swap_of3 S ⟨.inl rfl, rfl⟩ ⟨.inl rfl, rfl⟩ ⟨.inr rfl, rfl⟩ (by intro _; rfl)))
  · rcases List.mem_cons.mp hx with rfl | hx
    · exact ⟨.inl rfl, rfl⟩
    · rcases List.mem_cons.mp hx with rfl | hx
      · exact ⟨.inl rfl, rfl⟩
      · rw [List.mem_singleton.mp hx]; exact ⟨.inr rfl, rfl⟩
  -- the heaps
  have hlen := heaps_len xs
  have c4 : countOf xs ≤ 4 := by lia
  refine ex_cons (ex1_forC (ps := (heapsOf xs).map PV.int) (en := false) ((evit_list (ev_compL (fun x : Int × Nat => PV.tup [.int x.2, .int x.1]) (l := (([3, 5, 4, 9] : List Int).take (countOf xs)).zipIdx) (en := true) (fun a _ b _ h => ?_)
    [(Str.ofString "count", .int (countOf xs)), (Str.ofString "script", intsL xs)] [] (fun _ => true) (fun x => PV.int (x.1 + (pickI xs x.2 (countOf xs)).sum))
    ((evit_enum ((ev_slice (ev_list (evl_cons ev_int (evl_cons ev_int (evl_cons ev_int (evl_cons ev_int evl_nil)))) (by show (4 : Nat) ≤ 4096; decide)) evp_none (evp_some (ev_name rfl rfl rfl)) evp_none (by decide) (by show (4 : Nat) ≤ 4096; decide)).eq (q := .lst ((([3, 5, 4, 9] : List Int).take (countOf xs)).map PV.int)) ?_) rfl rfl (hg _ (by decide))).eq ?_) (by intro _; rfl) (by decide) (.cons rfl rfl (.cons rfl rfl .nil)) .nil (fun x hx => ?_) ?_)).eq ?_) (by intro h; cases h)
    (fun i => [(Str.ofString "first", natsP (palAt (heapsOf xs) i).1), (Str.ofString "second", natsP (palAt (heapsOf xs) i).2), (Str.ofString "size", .int (2 ^ i : Nat)), (Str.ofString "script", intsL xs)]) (fun _ => []) ⟨.cons rfl (.cons rfl (.cons rfl (.cons rfl .nil))), .nil⟩ ?_ ?_)
  · obtain ⟨a1, a2⟩ := a
    obtain ⟨b1, b2⟩ := b
    simp only [PV.tup.injEq, List.cons.injEq, PV.int.injEq, and_true] at h
    exact Prod.ext h.2 (by show a2 = b2; lia)
  · rw [slice_to, List.map_take]; rfl
  · rw [List.zipIdx_map, List.map_map]; rfl
  · refine ⟨_, rfl, fun y hy => ?_, evifs_nil, fun _ => ?_⟩
    · rcases List.mem_cons.mp hy with rfl | hy
      · exact ⟨.inl rfl, rfl⟩
      · rw [List.mem_singleton.mp hy]; exact ⟨.inl rfl, rfl⟩
    · exact ev_bin (ev_name rfl rfl rfl) (ev_callB rfl (hg _ (by decide)) PyProof.Rows.boot_sum (evl_cons ((ev_slice (ev_name rfl rfl rfl) (evp_some (ev_name rfl rfl rfl)) evp_none (evp_some (ev_name rfl rfl rfl)) (by rcases hc with h | h <;> rw [h] <;> decide) (by rw [List.length_map]; omega)).eq (by rw [pslice_ints])) evl_nil) cv_sum) op_add_int
  · rw [List.length_zipIdx, List.length_take]; show min _ 4 ≤ 4096; lia
  · rw [filter_tt]; unfold heapsOf; rw [List.map_map]; rfl
  · -- one heap
    intro i p hp
    rw [List.getElem?_map] at hp
    obtain ⟨heap, hh, rfl⟩ := Option.map_eq_some_iff.mp hp
    have hi : i < countOf xs := by
      rcases Nat.lt_or_ge i (countOf xs) with h | h
      · exact h
      · rw [List.getElem?_eq_none (by lia)] at hh; cases hh
    have hget : (heapsOf xs).getD i 0 = heap := by rw [List.getD_eq_getElem?_getD, hh]; rfl
    have ok := palAt_ok (heapsOf xs) i
    have estep : palAt (heapsOf xs) (i + 1) = palStep (2 ^ i) (palAt (heapsOf xs) i) heap := by rw [palAt, hget]
    rw [estep]
    generalize palAt (heapsOf xs) i = st at ok
    obtain ⟨F, S⟩ := st
    obtain ⟨o1, o2, o3, o4, o5⟩ := ok
    simp only at o1 o2 o3 o4 o5
    have p8 : 2 ^ i ≤ 8 := by
      have : i = 0 ∨ i = 1 ∨ i = 2 ∨ i = 3 := by lia
      rcases this with rfl | rfl | rfl | rfl <;> decide
    have lS : S.length ≤ 8 := by
      have := o2.length_le_of_subset (l₂ := List.range (2 ^ i)) fun k hk => List.mem_range.mpr (o4 k hk)
      rw [List.length_range] at this; lia
    have lF : F.length ≤ 8 := by
      have := o1.length_le_of_subset (l₂ := List.range (2 ^ i)) fun k hk => List.mem_range.mpr (o3 k hk)
      rw [List.length_range] at this; lia
    refine ⟨[(Str.ofString "heap", .int heap)], rfl, tgt1 (.inr rfl) rfl, ?_⟩
    refine ex_cons (ex1_assign_compL (fun x : Nat × Nat => PV.tup [.int x.2, .int x.1]) (l := S.zipIdx) (en := true) (fun a _ b _ h => ?_) [(Str.ofString "heap", .int heap), (Str.ofString "size", .int (2 ^ i : Nat))] [] (fun _ => true) (fun x => PV.int (x.1 + 2 ^ i * bitH heap x.2 : Nat))
      ((evit_enum (ev_name rfl rfl rfl) rfl rfl (hg _ (by decide))).eq ?_) (by intro _; rfl) (by decide) (.cons rfl rfl (.cons rfl rfl .nil)) .nil (fun x hx => ?_) ?_ rfl rfl rfl ?_)
    · obtain ⟨a1, a2⟩ := a
      obtain ⟨b1, b2⟩ := b
      simp only [PV.tup.injEq, List.cons.injEq, PV.int.injEq, and_true] at h
      exact Prod.ext (by show a1 = b1; lia) (by show a2 = b2; lia)
    · rw [List.zipIdx_map, List.map_map]; rfl
    · obtain ⟨pl, k⟩ := x
      have hk : k < 8 := by
        have := (List.mem_zipIdx hx).2.1
        lia
      refine ⟨_, rfl, fun y hy => ?_, evifs_nil, fun _ => ?_⟩
      · rcases List.mem_cons.mp hy with rfl | hy
        · exact ⟨.inl rfl, rfl⟩
        · rw [List.mem_singleton.mp hy]; exact ⟨.inl rfl, rfl⟩
      · have et : ((k : Int) + 1).toNat = k + 1 := by lia
        have hpow : (2 : Int) ^ (k + 1) ≠ 0 ∧ ((2 : Int) ^ (k + 1)).natAbs < 1073741824 := by
          have : k = 0 ∨ k = 1 ∨ k = 2 ∨ k = 3 ∨ k = 4 ∨ k = 5 ∨ k = 6 ∨ k = 7 := by lia
          rcases this with rfl | rfl | rfl | rfl | rfl | rfl | rfl | rfl <;> decide
        have hb2 : Builtin.Int.intBits 2 = 2 := by decide
        refine (ev_bin (ev_name rfl rfl rfl) (ev_bin (ev_name rfl rfl rfl) (ev_bin (ev_bin (ev_name rfl rfl rfl) (ev_bin ev_int (ev_bin (ev_name rfl rfl rfl) ev_int op_add_int) (op_pow_int (by lia) (by rw [hb2]; simp only; lia))) (op_fdiv_int (by rw [et]; exact hpow.1) (by rw [et]; exact hpow.2))) ev_int (op_mod_int (by decide))) (op_mul_int (IntMulOk.of_left (bits_pow (by lia))))) op_add_int).eq ?_
        rw [et, bitH_eq]
        simp
    · rw [List.length_zipIdx]; lia
    rw [filter_tt]
    have eS : PV.lst (S.zipIdx.map fun x => PV.int (x.1 + 2 ^ i * bitH heap x.2 : Nat)) = natsP (stepS (2 ^ i) heap S) := by unfold natsP stepS; rw [List.map_map]; rfl
    rw [eS]
    refine ex_cons (ex1_assign (p := natsP (stepF (2 ^ i) F)) ((ev_bin (ev_name rfl rfl rfl) (ev_mapL (fun (p : Nat) => PV.int p) (l := F) nat_inj [(Str.ofString "size", .int (2 ^ i : Nat))] (fun p => PV.int (p + 2 ^ i : Nat)) (evit_list (ev_name rfl rfl rfl)) (by decide) (.cons rfl rfl .nil) (.inl rfl) (fun p hp => (ev_bin (ev_name rfl rfl rfl) (ev_name rfl rfl rfl) op_add_int).eq (by simp)) (by lia)) (op_add_lst (by rw [List.length_map, List.length_map]; show F.length + F.length ≤ 4096; lia))).eq ?_) (.inl rfl) rfl ?_)
    · unfold natsP stepF; rw [List.map_append, List.map_map]; rfl
    have epow : 2 * 2 ^ i = 2 ^ (i + 1) := by rw [Nat.pow_succ, Nat.mul_comm]
    refine ex_cons (ex1_if (b := heap.fmod 2 == 1) (evb_cmp (ev_bin (ev_name rfl rfl rfl) ev_int (op_mod_int (by decide))) ev_int cm_eq_int) (fun h => ?_) fun h => ?_)
    · refine ex_cons (ex1_swap2 (p := natsP (stepS (2 ^ i) heap S)) (q := natsP (stepF (2 ^ i) F)) (ev_tuple (evl_cons (ev_name rfl rfl rfl) (evl_cons (ev_name rfl rfl rfl) evl_nil)) (by show (2 : Nat) ≤ 4096; decide)) ⟨.inl rfl, rfl⟩ ⟨.inl rfl, rfl⟩ ?_)
      refine ex_nil ?_
      have es : palStep (2 ^ i) (F, S) heap = (stepS (2 ^ i) heap S, stepF (2 ^ i) F) := by unfold palStep; rw [if_pos h]
      rw [es]
      refine ex_cons (ex1_assign (p := .int (2 ^ (i + 1) : Nat)) ((ev_bin ev_int (ev_name rfl rfl rfl) (op_mul_int (IntMulOk.of_left (by decide)))).eq ?_) (.inr rfl) rfl ?_)
      · rw [← epow]; simp
      · exact ex_nil ⟨.cons rfl (.cons rfl (.cons rfl (.cons rfl .nil))), .nil⟩
    · refine ex_nil ?_
      have es : palStep (2 ^ i) (F, S) heap = (stepF (2 ^ i) F, stepS (2 ^ i) heap S) := by unfold palStep; rw [if_neg (by rw [h]; decide)]
      rw [es]
      refine ex_cons (ex1_assign (p := .int (2 ^ (i + 1) : Nat)) ((ev_bin ev_int (ev_name rfl rfl rfl) (op_mul_int (IntMulOk.of_left (by decide)))).eq ?_) (.inr rfl) rfl ?_)
      · rw [← epow]; simp
      · exact ex_nil ⟨.cons rfl (.cons rfl (.cons rfl (.cons rfl .nil))), .nil⟩
  · refine ex_nil ?_
    rw [List.length_map, hlen]
    have ok := palAt_ok (heapsOf xs) (countOf xs)
    generalize palAt (heapsOf xs) (countOf xs) = st at ok
    obtain ⟨F, S⟩ := st
    obtain ⟨o1, o2, o3, o4, o5⟩ := ok
    simp only at o1 o2 o3 o4 o5
    have p16 : 2 ^ countOf xs ≤ 16 ∧ 1 ≤ 2 ^ countOf xs := by rcases hc with h | h <;> rw [h] <;> decide
    generalize 2 ^ countOf xs = n at *
    have lS : S.length ≤ 16 := by
      have := o2.length_le_of_subset (l₂ := List.range n) fun k hk => List.mem_range.mpr (o4 k hk)
      rw [List.length_range] at this; lia
    have lF : F.length ≤ 16 := by
      have := o1.length_le_of_subset (l₂ := List.range n) fun k hk => List.mem_range.mpr (o3 k hk)
      rw [List.length_range] at this; lia
    obtain ⟨a, r, rfl⟩ : ∃ a r, F = a :: r := by
      cases F with
      | nil => simp at o5; lia
      | cons a r => exact ⟨a, r, rfl⟩
    have hmod := Int.fmod_nonneg_of_pos (((a : Nat) : Int) + xs.sum.fdiv 5) (b := (n : Int)) (by lia)
    refine ex_cons (ex1_assign (p := natsP (movedL xs n (a :: r))) ((ev_bin (ev_list (evl_cons (ev_bin (ev_bin (ev_idx (x := .int (a : Nat)) (ev_name rfl rfl rfl) ev_int (pidx_nat (j := 0) rfl rfl) (by rw [List.length_map]; show (a :: r).length ≤ 4096; lia)) (ev_bin (ev_callB rfl (hg _ (by decide)) PyProof.Rows.boot_sum (evl_cons (ev_name rfl rfl rfl) evl_nil) cv_sum) ev_int (op_fdiv_int (by decide) (by decide))) op_add_int) (ev_name rfl rfl rfl) (op_mod_int (by lia))) evl_nil) (by show (1 : Nat) ≤ 4096; decide))
      ((ev_slice (ev_name rfl rfl rfl) (evp_some ev_int) evp_none evp_none (by decide) (by rw [List.length_map]; show (a :: r).length ≤ 4096; (clear hmod o5 o3 o1 lS p16 o4 o2 c4 hlen lenX hc hx hg; omega))).eq (q := natsP r) ?_) (op_add_lst ?_)).eq ?_) (.inl rfl) rfl ?_)
    · rw [show (1 : Int) = ((1 : Nat) : Int) from rfl, slice_from (by simp)]; rfl
    · rw [List.length_map]
      have : (a :: r).length = r.length + 1 := rfl
      show 1 + _ ≤ 4096
      lia
    · unfold natsP movedL
      simp only [List.headD_cons, List.tail_cons, List.map_cons, List.singleton_append, List.cons_append, List.nil_append]
      congr 3
      (clear lF o5 o3 o1 lS p16 o4 o2 c4 hlen lenX hc hx hg; omega)
    have lM : (movedL xs n (a :: r)).length ≤ 16 := by unfold movedL; simpa using lF
    refine ex_cons (ex1_return (ev_tuple (evl_cons (ev_name rfl rfl rfl) (evl_cons (ev_mapL (fun l => natsP l) (l := [movedL xs n (a :: r), S]) natsP_inj [(Str.ofString "size", .int n)] (fun l => natsP (pickL n l)) (evit_list (ev_list (evl_cons (ev_name rfl rfl rfl) (evl_cons (ev_name rfl rfl rfl) evl_nil)) (by show (2 : Nat) ≤ 4096; decide))) (by decide) (.cons rfl rfl .nil) (.inr rfl) (fun l hl => ?_) (by show (2 : Nat) ≤ 4096; decide)) evl_nil)) (by show (2 : Nat) ≤ 4096; decide)) (.inl rfl))
    have ll : l.length ≤ 16 := by
      rcases List.mem_cons.mp hl with rfl | hl
      · exact lM
      · rw [List.mem_singleton.mp hl]; exact lS
    exact (ev_compL (fun (p : Nat) => PV.int p) (l := List.range n) nat_inj [(Str.ofString "some", natsP l)] [] (fun p => decide (p ∈ l)) (fun (p : Nat) => PV.int p) ((evit_range1 (ev_name rfl rfl rfl) (by lia) (by lia) rfl rfl (hg _ (by decide))).eq (by rw [rangePV_nat, Int.toNat_natCast])) (by intro h; cases h) (by decide) (.cons rfl rfl .nil) .nil
      (fun p hp => ⟨_, rfl, tgt1 (.inl rfl) rfl, evifs_one (evb_cmp (ev_name rfl rfl rfl) (ev_name rfl rfl rfl) (cm_in (pin_map (m := p) (f := fun (n : Nat) => PV.int n) fun x _ => by simp only [peq]; congr 1; rw [Bool.eq_iff_iff]; simp; lia))), fun _ => ev_name rfl rfl rfl⟩) (by simp; lia)).eq rfl
end
end Mine

namespace Mine
open PySem PySem.W PyProof.Rows

noncomputable def sums (A B : List Nat) : List Nat := A.flatMap fun a => B.map fun b => (a + b) % 16
noncomputable def wheelL (n e : Nat) : List Nat := (List.range n).map (· * e)
noncomputable def sortP (l : List Nat) : List Nat := l.mergeSort fun a b => decide (rk a ≤ rk b)
noncomputable def vT (x : T3) : Nat := rk (LTs.findIdx fun y => y == x)
theorem vT_k : ((List.range 16).all fun k => vT (LT k) == rk k) = true := by decide +kernel
theorem vT_LT {k : Nat} (hk : k < 16) : vT (LT k) = rk k := by
  have := all1 (f := fun k => vT (LT k) == rk k) vT_k hk
  simpa using this
theorem rk_inj {i j : Nat} (hi : i < 16) (hj : j < 16) (h : rk i = rk j) : i = j := by
  have := all2 (f := fun i j => (rk i == rk j) == (i == j)) rkinj_k hi hj
  rw [h] at this
  simpa using this
theorem lt3_LT {i j : Nat} (hi : i < 16) (hj : j < 16) : lt3 (LT i) (LT j) = decide (rk i < rk j) := by
  have := all2 (f := fun i j => lt3 (LT i) (LT j) == decide (rk i < rk j)) llt_k hi hj
  simpa using this

theorem sortP_perm (l : List Nat) : (sortP l).Perm l := List.mergeSort_perm _ _
theorem sortP_sorted (l : List Nat) : (sortP l).Pairwise fun a b => rk a ≤ rk b := by
  have := List.pairwise_mergeSort (le := fun a b => decide (rk a ≤ rk b)) (fun a b c h1 h2 => decide_eq_true (Nat.le_trans (of_decide_eq_true h1) (of_decide_eq_true h2)))
    (fun a b => by rcases Nat.le_total (rk a) (rk b) with h | h <;> simp [h]) l
  exact this.imp fun h => of_decide_eq_true h
theorem sortP_eq {l m : List Nat} (hl : Lt16 l) (hm : Lt16 m) : sortP l = sortP m ↔ l.Perm m := by
  constructor
  · intro h
    have := sortP_perm l
    rw [h] at this
    exact this.symm.trans (sortP_perm m)
  · intro h
    exact List.Perm.eq_of_pairwise (le := fun a b => rk a ≤ rk b) (fun a b ha hb h1 h2 => rk_inj (hl a ((sortP_perm l).mem_iff.mp ha)) (hm b ((sortP_perm m).mem_iff.mp hb)) (Nat.le_antisymm h1 h2)) (sortP_sorted l) (sortP_sorted m)
      (((sortP_perm l).trans h).trans (sortP_perm m).symm)

theorem cv_sortLT {l : List Nat} (hl : Lt16 l) (h2 : 2 ≤ l.length) (h64 : l.length < 64) : CallV (.builtin "sorted") [.lst (l.map fun k => tup3 (LT k))] (.lst ((sortP l).map fun k => tup3 (LT k))) := by
  have h := cv_sorted3 (l := l.map LT) (l' := (sortP l).map LT) vT (fun a ha => by obtain ⟨k, hk, rfl⟩ := List.mem_map.mp ha; exact nan_LT (hl k hk))
    (fun a ha b hb => by
      obtain ⟨k, hk, rfl⟩ := List.mem_map.mp ha
      obtain ⟨m, hm, rfl⟩ := List.mem_map.mp hb
      rw [lt3_LT (hl k hk) (hl m hm), vT_LT (hl k hk), vT_LT (hl m hm)])
    (fun a ha b hb e => by
      obtain ⟨k, hk, rfl⟩ := List.mem_map.mp ha
      obtain ⟨m, hm, rfl⟩ := List.mem_map.mp hb
      rw [vT_LT (hl k hk), vT_LT (hl m hm)] at e
      rw [rk_inj (hl k hk) (hl m hm) e])
    (by rw [List.length_map]; exact h2) (by rw [List.length_map]; exact h64) ((sortP_perm l).map LT) (by
      rw [List.map_map, List.pairwise_map]
      refine List.Pairwise.imp_of_mem (fun {a b} ha hb h => ?_) (sortP_sorted l)
      show vT (LT a) ≤ vT (LT b)
      rw [vT_LT (hl a ((sortP_perm l).mem_iff.mp ha)), vT_LT (hl b ((sortP_perm l).mem_iff.mp hb))]; exact h)
  rw [List.map_map, List.map_map] at h
  exact h

/-! what is seen of a palette -/

noncomputable def sA (k : Nat) : PV := .tup [.flt (fr k), .flt f1, .flt fh, .flt (fr k), .flt fq, .flt f1]
noncomputable def sB (k : Nat) : PV := .tup [.flt (fr k), .flt fh, .flt f1, .flt (fr k), .flt f3q, .flt f1]
noncomputable def fstP : PV → PV
  | .tup (x :: _) => x
  | _ => .none

theorem HA_ok {k : Nat} (hk : k < 16) : hsvRgb (fr k) f1 fh = some (HA k) ∧ rgbHsv (HA k).1 (HA k).2.1 (HA k).2.2 = some (fr k, f1, fh) ∧ rgbHls (HA k).1 (HA k).2.1 (HA k).2.2 = some (fr k, fq, f1) := by
  have := all1 (f := fun k => hsvRgb (fr k) f1 fh == some (HA k) && (rgbHsv (HA k).1 (HA k).2.1 (HA k).2.2 == some (fr k, f1, fh) && rgbHls (HA k).1 (HA k).2.1 (HA k).2.2 == some (fr k, fq, f1))) rgbA_k hk
  simpa using this
theorem HB_ok {k : Nat} (hk : k < 16) : hsvRgb (fr k) fh f1 = some (HB k) ∧ rgbHsv (HB k).1 (HB k).2.1 (HB k).2.2 = some (fr k, fh, f1) ∧ rgbHls (HB k).1 (HB k).2.1 (HB k).2.2 = some (fr k, f3q, f1) := by
  have := all1 (f := fun k => hsvRgb (fr k) fh f1 == some (HB k) && (rgbHsv (HB k).1 (HB k).2.1 (HB k).2.2 == some (fr k, fh, f1) && rgbHls (HB k).1 (HB k).2.1 (HB k).2.2 == some (fr k, f3q, f1))) rgbB_k hk
  simpa using this

theorem nan_c : (Float64.isNaN f1 = false ∧ Float64.isNaN fh = false) ∧ Float64.isNaN fq = false ∧ Float64.isNaN f3q = false := by decide +kernel
theorem peqL_self {n : Nat} : ∀ {l : List PV}, (∀ p ∈ l, peq n p p = some true) → peqL (peq n) l l = some true
  | [], _ => rfl
  | p :: r, h => by rw [peqL, h p List.mem_cons_self, peqL_self fun q hq => h q (List.mem_cons_of_mem _ hq)]; rfl
theorem peq_flt_self {n : Nat} {x : UInt64} (h : Float64.isNaN x = false) : peq n (.flt x) (.flt x) = some true := by
  cases n <;> simp only [peq, h, Bool.or_self, Bool.false_eq_true, if_false, cmp_self h] <;> rfl
theorem peq_tup_self {n : Nat} {l : List PV} (h : ∀ p ∈ l, peq n p p = some true) : peq (n + 1) (.tup l) (.tup l) = some true := by
  rw [peq, if_pos rfl, peqL_self h]
theorem peq_lst_self {n : Nat} {l : List PV} (h : ∀ p ∈ l, peq n p p = some true) : peq (n + 1) (.lst l) (.lst l) = some true := by
  rw [peq, if_pos rfl, peqL_self h]
theorem peq_sA {n k : Nat} (hk : k < 16) : peq (n + 1) (sA k) (sA k) = some true := peq_tup_self fun p hp => by
  obtain ⟨⟨c1, c2⟩, c3, c4⟩ := nan_c
  simp only [List.mem_cons, List.not_mem_nil, or_false] at hp
  rcases hp with rfl | rfl | rfl | rfl | rfl | rfl <;> exact peq_flt_self (by first | exact nan_fr hk | assumption)
theorem peq_sB {n k : Nat} (hk : k < 16) : peq (n + 1) (sB k) (sB k) = some true := peq_tup_self fun p hp => by
  obtain ⟨⟨c1, c2⟩, c3, c4⟩ := nan_c
  simp only [List.mem_cons, List.not_mem_nil, or_false] at hp
  rcases hp with rfl | rfl | rfl | rfl | rfl | rfl <;> exact peq_flt_self (by first | exact nan_fr hk | assumption)

theorem tup3_inj {x y : T3} (h : tup3 x = tup3 y) : x = y := by
  unfold tup3 at h
  simp only [PV.tup.injEq, List.cons.injEq, PV.flt.injEq, and_true] at h
  exact Prod.ext h.1 (Prod.ext h.2.1 h.2.2)
theorem lstT3_inj {l : List (List T3)} : ∀ a ∈ l, ∀ b ∈ l, PV.lst (a.map tup3) = PV.lst (b.map tup3) → a = b := fun a _ b _ h => by
  injection h with h
  have key : ∀ (a b : List T3), a.map tup3 = b.map tup3 → a = b := by
    intro a
    induction a with
    | nil => intro b h; cases b with
      | nil => rfl
      | cons y b => simp at h
    | cons x a ih => intro b h; cases b with
      | nil => simp at h
      | cons y b =>
        rw [List.map_cons, List.map_cons] at h
        injection h with h1 h2
        rw [tup3_inj h1, ih b h2]
  exact key a b h
end Mine

namespace Mine
open PySem PySem.W PyProof.Rows

theorem sums_lt {A B : List Nat} : Lt16 (sums A B) := fun k hk => by
  unfold sums at hk
  obtain ⟨a, _, h⟩ := List.mem_flatMap.mp hk
  obtain ⟨b, _, rfl⟩ := List.mem_map.mp h
  exact Nat.mod_lt _ (by decide)
theorem sums_len (A B : List Nat) : (sums A B).length = A.length * B.length := by
  unfold sums
  induction A with
  | nil => simp
  | cons a r ih => rw [List.flatMap_cons, List.length_append, List.length_map, ih, List.length_cons, Nat.succ_mul]; lia
theorem wheel_lt {n e : Nat} (hL : Lv n e) : Lt16 (wheelL n e) := fun k hk => by
  obtain ⟨p, hp, rfl⟩ := List.mem_map.mp hk
  exact hL.lt (List.mem_range.mp hp)

noncomputable def lightF (x : UInt64) : PV := match hsvRgb x f1 f1 with
  | some o => tup3 o
  | Option.none => .none
theorem lightF_fr {k : Nat} (hk : k < 32) : lightF (fr k) = tup3 (LT (k % 16)) := by
  unfold lightF; rw [rgb_fr hk]

section
variable {g : Pg} {d : Nat}

theorem law_walk (hg : ∀ x ∈ usedNames, x ∉ g.names) (hdK : iKmp ∈ g.defs) (hdT : iTold ∈ g.defs) (hdS : iSeen ∈ g.defs) (hdR : iRgb ∈ g.defs) (hdH : iHls ∈ g.defs) (hdV : iHsv ∈ g.defs) (hdP : iPal ∈ g.defs) (hdF : iFolds ∈ g.defs)
    {xs : List Int} {P Q : List Nat} {c : Nat} (hc : c ≤ 4) (hpal : Fn g (d + 2) iPal [intsL xs] (.tup [.int (2 ^ c : Nat), .lst [natsP P, natsP Q]])) (hP : ∀ p ∈ P, p < 2 ^ c) (hQ : ∀ p ∈ Q, p < 2 ^ c) (lP : P.length ≤ 16) (lQ : Q.length ≤ 16)
    (GA : Good (2 ^ (4 - c)) (P.map (· * 2 ^ (4 - c)))) (GB : Good (2 ^ (4 - c)) (Q.map (· * 2 ^ (4 - c)))) (h2 : 2 ≤ P.length * Q.length) (h64 : P.length * Q.length < 64) (hn2 : 2 ≤ 2 ^ c) :
    Fn g (d + 3) iLaw [intsL xs] (.bool (foldsB c (P.map (· * 2 ^ (4 - c))) (Q.map (· * 2 ^ (4 - c))) == decide (sortP (sums (P.map (· * 2 ^ (4 - c))) (Q.map (· * 2 ^ (4 - c)))) = sortP (wheelL (2 ^ c) (2 ^ (4 - c)))))) := by
  unfold Fn
  have hL := lv_of hc
  have hFW := folds_walk (g := g) (d := d) hg hdK hdT hdS hdR hdH hc GA GB
  generalize hn : 2 ^ c = n at *
  generalize he : 2 ^ (4 - c) = e at *
  obtain ⟨p1, p2, p3, p4⟩ := hL.pos
  have lt16 : ∀ {l : List Nat}, (∀ p ∈ l, p < n) → ∀ p ∈ l, p * e < 16 := fun h p hp => hL.lt (h p hp)
  have frac : ∀ {K : Kn} {σ : Sig} {ω : Own} {p : Nat} {p1' p2' p3' : Pos}, p < n → σ.lookup (Str.ofString "place") = some (PV.int (p : Nat)) → σ.lookup (Str.ofString "size") = some (PV.int (n : Nat)) → Ev g (d + 3) K σ ω (.BinOp (.Name "place" p1') .Div (.Name "size" p2') p3') (.flt (fr (p * e))) := fun {K σ ω p p1' p2' p3'} hp h1 h2 => by
    obtain ⟨f1', f2'⟩ := frac_of (p := p) hL (by lia)
    exact (ev_bin (ev_name h1 rfl rfl) (ev_name h2 rfl rfl) (op_div_ii (by lia) f2')).eq (by rw [f1'])
  -- the palettes
  refine ex_cons (ex1_tupC (ev_call (it := iPal) hdP rfl (evl_cons (ev_name rfl rfl rfl) evl_nil) hpal plPal) rfl (fun x hx => ?_) ?_ (by intro _; rfl) (fun c W s S => rfl))
  · rcases List.mem_cons.mp hx with rfl | hx
    · exact ⟨.inr rfl, rfl⟩
    · rw [List.mem_singleton.mp hx]; exact ⟨.inl rfl, rfl⟩
  -- painted
  refine ex_cons (ex1_assign (p := .lst ([P.map fun p => HA (p * e), Q.map fun p => HB (p * e)].map fun l => PV.lst (l.map tup3))) ((ev_list (evl_cons (ev_mapL (fun (p : Nat) => PV.int p) (l := P) nat_inj [(Str.ofString "size", .int n)] (fun p => tup3 (HA (p * e))) (evit_list (ev_idx (ev_name rfl rfl rfl) ev_int (pidx_nat (j := 0) rfl rfl) (by show (2 : Nat) ≤ 4096; decide))) (by decide) (.cons rfl rfl .nil) (.inl rfl)
      (fun p hp => ev_call (it := iRgb) hdR rfl (evl_cons (frac (hP p hp) rfl rfl) (evl_cons ev_flt (evl_cons ev_flt evl_nil))) (hsvRgb_walk hg (HA_ok (lt16 hP p hp)).1) plRgb) (by lia))
    (evl_cons (ev_mapL (fun (p : Nat) => PV.int p) (l := Q) nat_inj [(Str.ofString "size", .int n)] (fun p => tup3 (HB (p * e))) (evit_list (ev_idx (ev_name rfl rfl rfl) ev_int (pidx_nat (j := 1) rfl rfl) (by show (2 : Nat) ≤ 4096; decide))) (by decide) (.cons rfl rfl .nil) (.inl rfl)
      (fun p hp => ev_call (it := iRgb) hdR rfl (evl_cons (frac (hQ p hp) rfl rfl) (evl_cons ev_flt (evl_cons ev_flt evl_nil))) (hsvRgb_walk hg (HB_ok (lt16 hQ p hp)).1) plRgb) (by lia)) evl_nil)) (by show (2 : Nat) ≤ 4096; decide)).eq ?_) (.inl rfl) rfl ?_)
  · simp only [List.map_cons, List.map_nil, List.map_map]; rfl
  -- read
  refine ex_cons (ex1_mapL (fun l => PV.lst (l.map tup3)) (l := [P.map fun p => HA (p * e), Q.map fun p => HB (p * e)]) lstT3_inj [] (fun l => PV.lst (l.map fun x => PV.tup ([PV.flt ((rgbHsv x.1 x.2.1 x.2.2).getD (0, 0, 0)).1, .flt ((rgbHsv x.1 x.2.1 x.2.2).getD (0, 0, 0)).2.1, .flt ((rgbHsv x.1 x.2.1 x.2.2).getD (0, 0, 0)).2.2] ++ [PV.flt ((rgbHls x.1 x.2.1 x.2.2).getD (0, 0, 0)).1, .flt ((rgbHls x.1 x.2.1 x.2.2).getD (0, 0, 0)).2.1, .flt ((rgbHls x.1 x.2.1 x.2.2).getD (0, 0, 0)).2.2])))
    (evit_list (ev_name rfl rfl rfl)) (by decide) .nil (.inl rfl) (fun l hl => ?_) (by show (2 : Nat) ≤ 4096; decide) rfl rfl rfl ?_)
  · have both : ∀ x ∈ l, ∃ o1 o2, rgbHsv x.1 x.2.1 x.2.2 = some o1 ∧ rgbHls x.1 x.2.1 x.2.2 = some o2 := fun x hx => by
      rcases List.mem_cons.mp hl with rfl | hl
      · obtain ⟨p, hp, rfl⟩ := List.mem_map.mp hx
        exact ⟨_, _, (HA_ok (lt16 hP p hp)).2.1, (HA_ok (lt16 hP p hp)).2.2⟩
      · rw [List.mem_singleton.mp hl] at hx
        obtain ⟨p, hp, rfl⟩ := List.mem_map.mp hx
        exact ⟨_, _, (HB_ok (lt16 hQ p hp)).2.1, (HB_ok (lt16 hQ p hp)).2.2⟩
    have ll : l.length ≤ 16 := by
      rcases List.mem_cons.mp hl with rfl | hl
      · rw [List.length_map]; exact lP
      · rw [List.mem_singleton.mp hl, List.length_map]; exact lQ
    refine (ev_compL tup3 (l := l) (fun a _ b _ h => tup3_inj h) [] [] (fun _ => true) (fun x => PV.tup ([PV.flt ((rgbHsv x.1 x.2.1 x.2.2).getD (0, 0, 0)).1, .flt ((rgbHsv x.1 x.2.1 x.2.2).getD (0, 0, 0)).2.1, .flt ((rgbHsv x.1 x.2.1 x.2.2).getD (0, 0, 0)).2.2] ++ [PV.flt ((rgbHls x.1 x.2.1 x.2.2).getD (0, 0, 0)).1, .flt ((rgbHls x.1 x.2.1 x.2.2).getD (0, 0, 0)).2.1, .flt ((rgbHls x.1 x.2.1 x.2.2).getD (0, 0, 0)).2.2]))
      (evit_list (ev_name rfl rfl rfl)) (by intro h; cases h) (by decide) .nil .nil (fun x hx => ?_) (by lia)).eq (by rw [filter_tt])
    obtain ⟨o1, o2, e1, e2⟩ := both x hx
    rw [e1, e2]
    refine ⟨_, rfl, fun y hy => ?_, evifs_nil, fun _ => ?_⟩
    · rcases List.mem_cons.mp hy with rfl | hy
      · exact ⟨.inl rfl, rfl⟩
      · rcases List.mem_cons.mp hy with rfl | hy
        · exact ⟨.inl rfl, rfl⟩
        · rw [List.mem_singleton.mp hy]; exact ⟨.inl rfl, rfl⟩
    · exact ev_bin (ev_call (it := iHsv) hdV rfl (evl_cons (ev_name rfl rfl rfl) (evl_cons (ev_name rfl rfl rfl) (evl_cons (ev_name rfl rfl rfl) evl_nil))) (rgbHsv_walk hg e1) plHsv) (ev_call (it := iHls) hdH rfl (evl_cons (ev_name rfl rfl rfl) (evl_cons (ev_name rfl rfl rfl) (evl_cons (ev_name rfl rfl rfl) evl_nil))) (rgbHls_walk hg e2) plHls)
        (op_add_tup (by intro h; cases h) (by intro h; cases h) (by show (3 : Nat) + 3 ≤ 4096; decide))
  have eA : ((P.map fun p => HA (p * e)).map fun x => PV.tup ([PV.flt ((rgbHsv x.1 x.2.1 x.2.2).getD (0, 0, 0)).1, .flt ((rgbHsv x.1 x.2.1 x.2.2).getD (0, 0, 0)).2.1, .flt ((rgbHsv x.1 x.2.1 x.2.2).getD (0, 0, 0)).2.2] ++ [PV.flt ((rgbHls x.1 x.2.1 x.2.2).getD (0, 0, 0)).1, .flt ((rgbHls x.1 x.2.1 x.2.2).getD (0, 0, 0)).2.1, .flt ((rgbHls x.1 x.2.1 x.2.2).getD (0, 0, 0)).2.2])) = P.map fun p => sA (p * e) := by
    rw [List.map_map]
    refine List.map_congr_left fun p hp => ?_
    obtain ⟨_, q1, q2⟩ := HA_ok (lt16 hP p hp)
    simp only [Function.comp, q1, q2]; rfl
  have eB : ((Q.map fun p => HB (p * e)).map fun x => PV.tup ([PV.flt ((rgbHsv x.1 x.2.1 x.2.2).getD (0, 0, 0)).1, .flt ((rgbHsv x.1 x.2.1 x.2.2).getD (0, 0, 0)).2.1, .flt ((rgbHsv x.1 x.2.1 x.2.2).getD (0, 0, 0)).2.2] ++ [PV.flt ((rgbHls x.1 x.2.1 x.2.2).getD (0, 0, 0)).1, .flt ((rgbHls x.1 x.2.1 x.2.2).getD (0, 0, 0)).2.1, .flt ((rgbHls x.1 x.2.1 x.2.2).getD (0, 0, 0)).2.2])) = Q.map fun p => sB (p * e) := by
    rw [List.map_map]
    refine List.map_congr_left fun p hp => ?_
    obtain ⟨_, q1, q2⟩ := HB_ok (lt16 hQ p hp)
    simp only [Function.comp, q1, q2]; rfl
  rw [List.map_cons, List.map_cons, List.map_nil, eA, eB]
  -- as they were drawn
  refine ex_cons (ex1_if (b := false) (evb_cmp (ev_name rfl rfl rfl) (ev_list (evl_cons (ev_mapL (fun (p : Nat) => PV.int p) (l := P) nat_inj [(Str.ofString "size", .int n)] (fun p => sA (p * e)) (evit_list (ev_idx (ev_name rfl rfl rfl) ev_int (pidx_nat (j := 0) rfl rfl) (by show (2 : Nat) ≤ 4096; decide))) (by decide) (.cons rfl rfl .nil) (.inl rfl)
      (fun p hp => ev_tuple (evl_cons (frac (hP p hp) rfl rfl) (evl_cons ev_flt (evl_cons ev_flt (evl_cons (frac (hP p hp) rfl rfl) (evl_cons ev_flt (evl_cons ev_flt evl_nil)))))) (by show (6 : Nat) ≤ 4096; decide)) (by (clear eB eA frac lt16 p4 p3 p2 p1 hFW hL GB GA he hn2 hQ hP hpal hn h64 h2 lQ hc hdF hdP hdV hdH hdR hdS hdT hdK hg; omega)))
    (evl_cons (ev_mapL (fun (p : Nat) => PV.int p) (l := Q) nat_inj [(Str.ofString "size", .int n)] (fun p => sB (p * e)) (evit_list (ev_idx (ev_name rfl rfl rfl) ev_int (pidx_nat (j := 1) rfl rfl) (by show (2 : Nat) ≤ 4096; decide))) (by decide) (.cons rfl rfl .nil) (.inl rfl)
      (fun p hp => ev_tuple (evl_cons (frac (hQ p hp) rfl rfl) (evl_cons ev_flt (evl_cons ev_flt (evl_cons (frac (hQ p hp) rfl rfl) (evl_cons ev_flt (evl_cons ev_flt evl_nil)))))) (by show (6 : Nat) ≤ 4096; decide)) (by (clear eB eA frac lt16 p4 p3 p2 p1 hFW hL GB GA he hn2 hQ hP hpal hn h64 h2 lP hc hdF hdP hdV hdH hdR hdS hdT hdK hg; omega))) evl_nil)) (by show (2 : Nat) ≤ 4096; decide)) ((cm_ne (b := true) ?_).eq rfl)) (fun h => by cases h) fun _ => ?_)
  · refine peq_lst_self fun p hp => ?_
    rcases List.mem_cons.mp hp with rfl | hp
    · refine peq_lst_self fun q hq => ?_
      obtain ⟨k, hk, rfl⟩ := List.mem_map.mp hq
      exact peq_sA (lt16 hP k hk)
    · rw [List.mem_singleton.mp hp]
      refine peq_lst_self fun q hq => ?_
      obtain ⟨k, hk, rfl⟩ := List.mem_map.mp hq
      exact peq_sB (lt16 hQ k hk)
  refine ex_nil ?_
  -- the hues
  have eH : ([(P.map fun p => sA (p * e)), (Q.map fun p => sB (p * e))].map fun l => PV.lst (l.map fstP)) = [huesP (P.map (· * e)), huesP (Q.map (· * e))] := by
    simp only [List.map_cons, List.map_nil, List.map_map, huesP]; rfl
  refine ex_cons (ex1_unpackL (ps := [huesP (P.map (· * e)), huesP (Q.map (· * e))]) ((ev_mapL (fun l => PV.lst l) (l := [(P.map fun p => sA (p * e)), (Q.map fun p => sB (p * e))]) (fun a _ b _ h => by injection h) [] (fun l => PV.lst (l.map fstP)) (evit_list (ev_name rfl rfl rfl)) (by decide) .nil (.inl rfl) (fun l hl => ?_) (by show (2 : Nat) ≤ 4096; decide)).eq (by rw [eH])) rfl (fun x hx => ?_) ?_)
  · have ll : l.length ≤ 16 ∧ ∀ p ∈ l, ∃ x r, p = .tup (x :: r) ∧ r.length = 5 := by
      rcases List.mem_cons.mp hl with rfl | hl
      · exact ⟨by rw [List.length_map]; exact lP, fun p hp => by obtain ⟨k, _, rfl⟩ := List.mem_map.mp hp; exact ⟨_, _, rfl, rfl⟩⟩
      · rw [List.mem_singleton.mp hl]
        exact ⟨by rw [List.length_map]; exact lQ, fun p hp => by obtain ⟨k, _, rfl⟩ := List.mem_map.mp hp; exact ⟨_, _, rfl, rfl⟩⟩
    refine ev_mapL (fun p => p) (l := l) (fun a _ b _ h => h) [] fstP ((evit_list (ev_name rfl rfl rfl)).eq (by rw [List.map_id'])) (by decide) .nil (.inl rfl) (fun p hp => ?_) (by lia)
    obtain ⟨x, r, rfl, hr⟩ := ll.2 p hp
    exact ev_idxT (k := 0) (ev_name rfl rfl rfl) ev_int rfl (by rw [List.length_cons]; lia)
  · rcases List.mem_cons.mp hx with rfl | hx
    · exact ⟨.inl rfl, rfl⟩
    · rw [List.mem_singleton.mp hx]; exact ⟨.inr rfl, rfl⟩
  generalize hA : P.map (· * e) = A at *
  generalize hB : Q.map (· * e) = B at *
  have lA : A.length = P.length := by rw [← hA, List.length_map]
  have lB : B.length = Q.length := by rw [← hB, List.length_map]
  have slen : (sums A B).length = P.length * Q.length := by rw [sums_len, lA, lB]
  -- laid
  refine ex_cons (ex1_assign (p := .lst ((sortP (sums A B)).map fun k => tup3 (LT k))) (ev_callB rfl (hg _ (by decide)) PyProof.Rows.boot_sorted (evl_cons ((ev_comp2 (en := false) (ps := A.map fun k => PV.flt (fr k)) [(Str.ofString "second", huesP B)] (fun _ => B.map fun k => PV.flt (fr k)) (fun p q => lightF (Float64.add p.asFlt q.asFlt)) (evit_list (ev_name rfl rfl rfl)) (by intro h; cases h) (by decide) (.cons rfl rfl .nil) ?_ ?_).eq (q := .lst ((sums A B).map fun k => tup3 (LT k))) ?_) evl_nil) (cv_sortLT sums_lt (by lia) (by lia))) (.inl rfl) rfl ?_)
  · intro p hp
    obtain ⟨a, ha, rfl⟩ := List.mem_map.mp hp
    refine ⟨_, rfl, tgt1 (.inl rfl) rfl, evit_list (ev_name rfl rfl rfl), fun x hx => by rw [List.mem_singleton.mp hx]; rfl, fun q hq => ?_⟩
    obtain ⟨b, hb, rfl⟩ := List.mem_map.mp hq
    refine ⟨_, rfl, tgt1 (.inl rfl) rfl, ?_⟩
    have h1 := GA.lt a ha
    have h2 := GB.lt b hb
    refine (ev_call (it := iRgb) hdR rfl (evl_cons (p := .flt (fr (a + b))) ((ev_bin (ev_name rfl rfl rfl) (ev_name rfl rfl rfl) op_add_flt).eq (by rw [add_fr h1 (by lia)])) (evl_cons ev_flt (evl_cons ev_flt evl_nil))) (hsvRgb_walk hg (rgb_fr (k := a + b) (by lia))) plRgb).eq ?_
    show _ = lightF (Float64.add (fr a) (fr b))
    rw [add_fr h1 (by (clear h1 hq hb hp ha slen lB lA eH hFW GB hB GA hA eB eA frac lt16 p4 p3 p2 p1 hL he hn2 hQ hP hpal hn h64 lQ lP hc hdF hdP hdV hdH hdR hdS hdT hdK hg; omega)), lightF_fr (by (clear hq hb hp ha slen lB lA eH hFW GB hB GA hA eB eA frac lt16 p4 p3 p2 p1 hL he hn2 hQ hP hpal hn h64 lQ lP hc hdF hdP hdV hdH hdR hdS hdT hdK hg; omega))]; rfl
  · have : ((A.map fun k => PV.flt (fr k)).flatMap fun p => (B.map fun k => PV.flt (fr k)).map fun q => lightF (Float64.add p.asFlt q.asFlt)).length = A.length * B.length := by
      generalize (fun p q => lightF (Float64.add (PV.asFlt p) (PV.asFlt q))) = F
      clear slen lA hA GA hFW eH
      induction A with
      | nil => simp
      | cons a r ih => rw [List.map_cons, List.flatMap_cons, List.length_append, List.length_map, List.length_map, ih, List.length_cons, Nat.succ_mul]; lia
    rw [this, lA, lB]; lia
  · congr 1
    unfold sums
    rw [List.flatMap_map, List.map_flatMap]
    have key : ∀ (l : List Nat), (∀ a ∈ l, a < 16) → (l.flatMap fun a => (B.map fun k => PV.flt (fr k)).map fun q => lightF (Float64.add (PV.flt (fr a)).asFlt q.asFlt)) = l.flatMap fun a => (B.map fun b => (a + b) % 16).map fun k => tup3 (LT k) := by
      intro l
      induction l with
      | nil => intro _; rfl
      | cons a r ih =>
        intro hl
        rw [List.flatMap_cons, List.flatMap_cons, ih fun x hx => hl x (List.mem_cons_of_mem _ hx), List.map_map, List.map_map]
        congr 1
        refine List.map_congr_left fun b hb => ?_
        have h1 := hl a List.mem_cons_self
        have h2 := GB.lt b hb
        show lightF (Float64.add (fr a) (fr b)) = _
        rw [add_fr h1 (by (clear h1 hb hl ih slen lB lA eH hFW GB hB GA hA eB eA frac lt16 p4 p3 p2 p1 hL he hn2 hQ hP hpal hn h64 lQ lP hc hdF hdP hdV hdH hdR hdS hdT hdK hg; omega)), lightF_fr (by (clear hb hl ih slen lB lA eH hFW GB hB GA hA eB eA frac lt16 p4 p3 p2 p1 hL he hn2 hQ hP hpal hn h64 lQ lP hc hdF hdP hdV hdH hdR hdS hdT hdK hg; omega))]; rfl
    exact key A GA.lt
  -- the wheel
  have wl : (wheelL n e).length = n := by simp [wheelL]
  refine ex_cons (ex1_assign (p := .lst ((sortP (wheelL n e)).map fun k => tup3 (LT k))) (ev_callB rfl (hg _ (by decide)) PyProof.Rows.boot_sorted (evl_cons ((ev_mapL (fun (p : Nat) => PV.int p) (l := List.range n) nat_inj [(Str.ofString "size", .int n)] (fun p => tup3 (LT (p * e))) ((evit_range1 (ev_name rfl rfl rfl) (by lia) (by lia) rfl rfl (hg _ (by decide))).eq (by rw [rangePV_nat, Int.toNat_natCast])) (by decide) (.cons rfl rfl .nil) (.inl rfl)
      (fun p hp => ev_call (it := iRgb) hdR rfl (evl_cons (frac (List.mem_range.mp hp) rfl rfl) (evl_cons ev_flt (evl_cons ev_flt evl_nil))) (hsvRgb_walk hg (rgb_fr16 (hL.lt (List.mem_range.mp hp)))) plRgb) (by simp; lia)).eq (q := .lst ((wheelL n e).map fun k => tup3 (LT k))) (by unfold wheelL; rw [List.map_map]; rfl)) evl_nil) (cv_sortLT (wheel_lt hL) (by lia) (by (clear slen lB lA eH hFW GB hB GA hA eB eA frac lt16 p4 p3 p1 hL he hQ hP hpal hn h64 h2 lQ lP hc hdF hdP hdV hdH hdR hdS hdT hdK hg; omega)))) (.inl rfl) rfl ?_)
  -- both
  have sp : ∀ k ∈ sortP (sums A B), k < 16 := fun k hk => sums_lt k ((sortP_perm _).mem_iff.mp hk)
  have wp : ∀ k ∈ sortP (wheelL n e), k < 16 := fun k hk => wheel_lt hL k ((sortP_perm _).mem_iff.mp hk)
  exact ex_cons (ex1_return (ev_cmp (ev_call (it := iFolds) hdF rfl (evl_cons (ev_name rfl rfl rfl) (evl_cons (ev_name rfl rfl rfl) (evl_cons (ev_name rfl rfl rfl) evl_nil))) hFW plFolds) (ev_cmp (ev_name rfl rfl rfl) (ev_name rfl rfl rfl) (cm_eq (peq_lsts (n := 7) (f := fun k => tup3 (LT k)) fun a ha b hb => peq_LT (sp a ha) (wp b hb)))) cm_eq_bool) (.inl rfl))
end
end Mine

namespace Mine

/-! whole numbers on the line that change their sign at each eighth step: no two but nought have the product nought -/

noncomputable def S : Nat → (Int → Int) → Int
  | 0, _ => 0
  | n + 1, f => S n f + f n

theorem S_congr {f g : Int → Int} : ∀ {n : Nat}, (∀ k : Nat, k < n → f k = g k) → S n f = S n g
  | 0, _ => rfl
  | n + 1, h => by rw [S, S, S_congr fun k hk => h k (by lia), h n (Nat.lt_succ_self n)]
theorem S_add (f g : Int → Int) : ∀ n, S n (fun k => f k + g k) = S n f + S n g
  | 0 => rfl
  | n + 1 => by rw [S, S, S, S_add f g n]; lia
theorem S_sub (f g : Int → Int) : ∀ n, S n (fun k => f k - g k) = S n f - S n g
  | 0 => rfl
  | n + 1 => by rw [S, S, S, S_sub f g n]; lia
theorem S_mul (t : Int) (f : Int → Int) : ∀ n, S n (fun k => t * f k) = t * S n f
  | 0 => (Int.mul_zero t).symm
  | n + 1 => by rw [S, S, S_mul t f n, Int.mul_add]
theorem S_nil : ∀ n, S n (fun _ => 0) = 0
  | 0 => rfl
  | n + 1 => by rw [S, S_nil n]; rfl
theorem S_comm (F : Int → Int → Int) (m : Nat) : ∀ n, S n (fun i => S m fun j => F i j) = S m fun j => S n fun i => F i j
  | 0 => (S_nil m).symm
  | n + 1 => by rw [S, S_comm F m n, ← S_add]; rfl
theorem S_shift (f : Int → Int) : ∀ n : Nat, S n (fun k => f (k + 1)) = S n f - f 0 + f n
  | 0 => by show (0 : Int) = 0 - f 0 + f 0; lia
  | n + 1 => by
    rw [S, S, S_shift f n]
    have : ((n + 1 : Nat) : Int) = (n : Int) + 1 := rfl
    rw [this]; lia
theorem S_odd {f g : Int → Int} : ∀ {n : Nat}, (∀ k : Nat, k < n → f k % 2 = g k % 2) → S n f % 2 = S n g % 2
  | 0, _ => rfl
  | n + 1, h => by
    have h1 := S_odd (f := f) (g := g) (n := n) fun k hk => h k (by omega)
    have h2 := h n (Nat.lt_succ_self n)
    rw [S, S]; lia
theorem S_append (f : Int → Int) (n : Nat) : ∀ m, S (n + m) f = S n f + S m fun k => f (k + n)
  | 0 => (Int.add_zero _).symm
  | m + 1 => by
    show S (n + m) f + f ((n + m : Nat) : Int) = _
    rw [S_append f n m, S]
    have : ((n + m : Nat) : Int) = (m : Int) + n := by lia
    rw [this]; lia

noncomputable def Anti (f : Int → Int) : Prop := ∀ k, f (k + 8) = -f k
noncomputable def D (f : Int → Int) (k : Int) : Int := f k - f (k - 1)
noncomputable def conv (f g : Int → Int) (c : Int) : Int := S 8 fun k => f k * g (c - k)

theorem Anti.D {f : Int → Int} (h : Anti f) : Anti (D f) := fun k => by
  have h1 := h k
  have h2 := h (k - 1)
  unfold Mine.D
  rw [show k + 8 - 1 = k - 1 + 8 by lia, h1, h2]; lia
theorem Anti.conv {f g : Int → Int} (h : Anti g) : Anti (conv f g) := fun c => by
  unfold Mine.conv
  rw [← Int.neg_one_mul, ← S_mul]
  refine S_congr fun k _ => ?_
  rw [show c + 8 - (k : Int) = c - k + 8 by lia, h, Int.mul_neg, Int.neg_one_mul]

theorem conv_right (f g : Int → Int) (c : Int) : conv f (D g) c = conv f g c - conv f g (c - 1) := by
  unfold conv
  rw [← S_sub]
  refine S_congr fun k _ => ?_
  unfold D
  rw [Int.mul_sub, show c - (k : Int) - 1 = c - 1 - k by lia]
theorem conv_left {f g : Int → Int} (hf : Anti f) (hg : Anti g) (c : Int) : conv (D f) g c = conv f g c - conv f g (c - 1) := by
  have h1 : conv f g (c - 1) = S 8 fun k => f (k - 1) * g (c - k) := by
    have h2 := S_shift (fun k => f (k - 1) * g (c - k)) 8
    have e1 : f (((8 : Nat) : Int) - 1) * g (c - ((8 : Nat) : Int)) = f (0 - 1) * g (c - 0) := by
      have q1 := hf (0 - 1)
      have q2 := hg (c - 8)
      rw [show (((8 : Nat) : Int) - 1) = 0 - 1 + 8 by lia, q1, show c - 0 = c - 8 + 8 by lia, q2, Int.neg_mul, Int.mul_neg]; rfl
    simp only [e1] at h2
    have h3 : conv f g (c - 1) = S 8 fun k => f (k + 1 - 1) * g (c - (k + 1)) := S_congr fun k _ => by
      rw [show (k : Int) + 1 - 1 = k by lia, show c - ((k : Int) + 1) = c - 1 - k by lia]
    rw [h3, h2]; lia
  rw [h1]
  unfold conv
  rw [← S_sub]
  refine S_congr fun k _ => ?_
  unfold D
  rw [Int.sub_mul]

theorem step_back {h : Int → Int} (hs : ∀ k, h k = h (k - 1)) (k : Int) : ∀ n : Nat, h k = h (k - n)
  | 0 => by rw [show k - ((0 : Nat) : Int) = k by lia]
  | n + 1 => by rw [step_back hs k n, hs, show k - (n : Int) - 1 = k - ((n + 1 : Nat) : Int) by lia]
theorem const_of {h : Int → Int} (hs : ∀ k, h k = h (k - 1)) (k : Int) : h k = h 0 := by
  rcases Int.le_total 0 k with h0 | h0
  · have := step_back hs k k.toNat
    rwa [show k - (k.toNat : Int) = 0 by lia] at this
  · have := step_back hs 0 (-k).toNat
    rw [show 0 - ((-k).toNat : Int) = k by lia] at this
    exact this.symm
theorem const_zero {h : Int → Int} (ha : Anti h) (hs : ∀ k, h k = h (k - 1)) (k : Int) : h k = 0 := by
  have h1 := const_of hs k
  have h2 := const_of hs (k + 8)
  have h3 := ha k
  lia

noncomputable def prim (f : Int → Int) : Int → Int
  | .ofNat n => S n fun j => f (j + 1)
  | .negSucc n => -(S (n + 1) fun j => f (-j))
theorem prim_step (f : Int → Int) : ∀ k, prim f k - prim f (k - 1) = f k
  | .ofNat 0 => by
    show 0 - -(0 + f (-((0 : Nat) : Int))) = f 0
    rw [show -((0 : Nat) : Int) = 0 from rfl]; lia
  | .ofNat (n + 1) => by
    show S n (fun j => f (j + 1)) + f ((n : Int) + 1) - prim f (((n + 1 : Nat) : Int) - 1) = _
    rw [show ((n + 1 : Nat) : Int) - 1 = Int.ofNat n by show ((n + 1 : Nat) : Int) - 1 = (n : Int); omega]
    show S n (fun j => f (j + 1)) + f ((n : Int) + 1) - S n (fun j => f (j + 1)) = f ((n : Int) + 1)
    lia
  | .negSucc n => by
    show -(S (n + 1) fun j => f (-j)) - prim f (Int.negSucc n - 1) = f (Int.negSucc n)
    rw [show Int.negSucc n - 1 = Int.negSucc (n + 1) by lia]
    show -(S (n + 1) fun j => f (-j)) - -(S (n + 1) (fun j => f (-j)) + f (-((n + 1 : Nat) : Int))) = _
    rw [show -((n + 1 : Nat) : Int) = Int.negSucc n by lia]; lia

theorem solve {f : Int → Int} (ha : Anti f) (he : S 8 f % 2 = 0) : ∃ x, Anti x ∧ D x = f := by
  have hp := prim_step f
  have hc : ∀ k, prim f (k + 8) + prim f k = prim f (0 + 8) + prim f 0 := fun k => const_of (h := fun k => prim f (k + 8) + prim f k) (fun k => by
    have h1 := hp (k + 8)
    have h2 := hp k
    have h3 := ha k
    show prim f (k + 8) + prim f k = prim f (k - 1 + 8) + prim f (k - 1)
    rw [show k + 8 - 1 = k - 1 + 8 by (clear h3 h2 h1 hp he ha; omega)] at h1
    lia) k
  have h8 : (prim f (0 + 8) + prim f 0) % 2 = 0 := by
    show (S 8 (fun j => f (j + 1)) + 0) % 2 = 0
    rw [S_shift f 8]
    have := ha 0
    rw [show ((8 : Nat) : Int) = 0 + 8 from rfl, this]; lia
  refine ⟨fun k => prim f k - (prim f (0 + 8) + prim f 0) / 2, fun k => ?_, funext fun k => ?_⟩
  · have := hc k
    show prim f (k + 8) - _ = -(prim f k - _)
    lia
  · show prim f k - _ - (prim f (k - 1) - _) = f k
    have := hp k
    lia

noncomputable def DN : Nat → (Int → Int) → Int → Int
  | 0, x => x
  | i + 1, x => DN i (D x)

/-- F f is f and f turned by m, but for doubles -/
noncomputable def Twin (m : Int) (F : (Int → Int) → Int → Int) : Prop := ∀ f k, (F f k - f k - f (k - m)) % 2 = 0
theorem Twin.two {m : Int} {F : (Int → Int) → Int → Int} (h : Twin m F) : Twin (m + m) fun f => F (F f) := fun f k => by
  have h1 := h (F f) k
  have h2 := h f k
  have h3 := h f (k - m)
  rw [show k - m - m = k - (m + m) by lia] at h3
  show (F (F f) k - f k - f (k - (m + m))) % 2 = 0
  lia
theorem twin_one : Twin 1 D := fun f k => by
  show (f k - f (k - 1) - f k - f (k - 1)) % 2 = 0
  lia
theorem D8_even {x : Int → Int} (ha : Anti x) (k : Int) : DN 8 x k % 2 = 0 := by
  have h : (D (D (D (D (D (D (D (D x))))))) k - x k - x (k - (1 + 1 + (1 + 1) + (1 + 1 + (1 + 1))))) % 2 = 0 := twin_one.two.two.two x k
  have h2 := ha (k - (1 + 1 + (1 + 1) + (1 + 1 + (1 + 1))))
  rw [show k - (1 + 1 + (1 + 1) + (1 + 1 + (1 + 1))) + 8 = k by lia] at h2
  show D (D (D (D (D (D (D (D x))))))) k % 2 = 0
  lia

theorem DN_anti : ∀ (i : Nat) {x : Int → Int}, Anti x → Anti (DN i x)
  | 0, _, h => h
  | i + 1, _, h => DN_anti i h.D

/-- divided as often as may be: an odd sum, or eight times -/
theorem down {f : Int → Int} (ha : Anti f) : ∀ i, (∃ j x, Anti x ∧ DN j x = f ∧ S 8 x % 2 = 1) ∨ ∃ x, Anti x ∧ DN i x = f
  | 0 => .inr ⟨f, ha, rfl⟩
  | i + 1 => by
    rcases down ha i with h | ⟨x, h1, h2⟩
    · exact .inl h
    · rcases (by lia : S 8 x % 2 = 0 ∨ S 8 x % 2 = 1) with h0 | h0
      · obtain ⟨y, y1, y2⟩ := solve h1 h0
        exact .inr ⟨y, y1, by rw [DN, y2, h2]⟩
      · exact .inl ⟨i, x, h1, h2, h0⟩

theorem conv_zero_left {g : Int → Int} (hg : Anti g) : ∀ (j : Nat) {x : Int → Int}, Anti x → (∀ c, conv (DN j x) g c = 0) → ∀ c, conv x g c = 0
  | 0, _, _, h => h
  | j + 1, x, hx, h => by
    have h1 := conv_zero_left hg j hx.D h
    exact const_zero hg.conv fun k => by have := h1 k; rw [conv_left hx hg] at this; lia
theorem conv_zero_right {f : Int → Int} : ∀ (j : Nat) {x : Int → Int}, Anti x → (∀ c, conv f (DN j x) c = 0) → ∀ c, conv f x c = 0
  | 0, _, _, h => h
  | j + 1, x, hx, h => by
    have h1 := conv_zero_right j hx.D h
    exact const_zero hx.conv fun k => by have := h1 k; rw [conv_right] at this; lia

theorem turn_odd {g : Int → Int} (hg : Anti g) : ∀ k : Nat, S 8 (fun c => g (c - k)) % 2 = S 8 g % 2
  | 0 => by rw [S_congr (g := g) fun c _ => by rw [show (c : Int) - ((0 : Nat) : Int) = c by lia]]
  | k + 1 => by
    rw [← turn_odd hg k]
    have h1 := S_shift (fun c => g (c - (k + 1))) 8
    have h2 : S 8 (fun c => g (c + 1 - (k + 1))) = S 8 fun c => g (c - k) := S_congr fun c _ => by rw [show (c : Int) + 1 - (k + 1) = c - k by lia]
    have h3 := hg (0 - (k + 1))
    rw [h2] at h1
    rw [show ((8 : Nat) : Int) - ((k : Int) + 1) = 0 - (k + 1) + 8 by lia, h3] at h1
    show S 8 (fun c => g (c - ((k : Int) + 1))) % 2 = _
    lia

theorem odd_odd {f g : Int → Int} (hg : Anti g) (of : S 8 f % 2 = 1) (og : S 8 g % 2 = 1) : ¬ ∀ c, conv f g c = 0 := fun h => by
  have h1 : S 8 (conv f g) = 0 := by rw [S_congr (g := fun _ => 0) fun k _ => h k, S_nil]
  have h2 : S 8 (conv f g) = S 8 fun k => S 8 fun c => f k * g (c - k) := S_comm (fun c k => f k * g (c - k)) 8 8
  have h3 : S 8 (fun k => S 8 fun c => f k * g (c - k)) % 2 = S 8 f % 2 := S_odd fun k _ => by
    rw [S_mul, Int.mul_emod, turn_odd hg k, og, Int.mul_one, Int.emod_emod]
  have h4 : S 8 (conv f g) % 2 = S 8 f % 2 := by rw [h2]; exact h3
  rw [h1, of] at h4
  cases h4

noncomputable def Small (a : Int → Int) : Prop := ∀ k, a k = 0 ∨ a k = 1 ∨ a k = -1

theorem small_odd {f : Int → Int} (ha : Anti f) (hs : Small f) (hn : ¬ ∀ k, f k = 0) : ∃ j x, Anti x ∧ DN j x = f ∧ S 8 x % 2 = 1 := by
  rcases down ha 8 with h | ⟨x, h1, h2⟩
  · exact h
  · refine absurd (fun k => ?_) hn
    have h3 := D8_even h1 k
    rw [h2] at h3
    rcases hs k with h4 | h4 | h4 <;> lia

/-- two small ones whose product is nought: one is nought -/
theorem dom8 {f g : Int → Int} (af : Anti f) (ag : Anti g) (sf : Small f) (sg : Small g) (h : ∀ c, conv f g c = 0) : (∀ k, f k = 0) ∨ ∀ k, g k = 0 := by
  by_cases nf : ∀ k, f k = 0
  · exact .inl nf
  by_cases ng : ∀ k, g k = 0
  · exact .inr ng
  obtain ⟨i, x, ax, hx, ox⟩ := small_odd af sf nf
  obtain ⟨j, y, ay, hy, oy⟩ := small_odd ag sg ng
  subst hx hy
  exact absurd (conv_zero_right j ay (conv_zero_left ag i ax h)) (odd_odd ay ox oy)
end Mine

namespace Mine

/-- what stands at a place of the wheel -/
noncomputable def chi (A : List Nat) (k : Int) : Int := if decide ((k % 16).toNat ∈ A) then 1 else 0
noncomputable def alf (A : List Nat) (k : Int) : Int := chi A k - chi A (k + 8)
/-- how many pairs make a place -/
noncomputable def numAt (A B : List Nat) (c : Int) : Int := S 16 fun k => chi A k * chi B (c - k)

theorem chi_vals (A : List Nat) (k : Int) : chi A k = 0 ∨ chi A k = 1 := by
  unfold chi
  cases decide ((k % 16).toNat ∈ A) <;> simp
theorem chi_per16 (A : List Nat) {k m : Int} (h : k % 16 = m % 16) : chi A k = chi A m := by unfold chi; rw [h]
theorem chi_one {A : List Nat} {k : Nat} (hk : k < 16) : chi A k = 1 ↔ k ∈ A := by
  unfold chi
  rw [show (((k : Int)) % 16).toNat = k by lia]
  by_cases h : k ∈ A <;> simp [h]
theorem alf_anti (A : List Nat) : Anti (alf A) := fun k => by
  unfold alf
  rw [chi_per16 A (k := k + 8 + 8) (m := k) (by lia)]; lia
theorem alf_small (A : List Nat) : Small (alf A) := fun k => by
  have h1 := chi_vals A k
  have h2 := chi_vals A (k + 8)
  unfold alf
  lia

theorem conv_num (A B : List Nat) (c : Int) : conv (alf A) (alf B) c = numAt A B c - numAt A B (c + 8) := by
  have e : ∀ F : Int → Int, S 16 F = S 8 fun k => F k + F (k + 8) := fun F => by
    rw [S_add]; exact S_append F 8 8
  unfold numAt conv
  rw [e, e, ← S_sub]
  refine S_congr fun k _ => ?_
  rw [chi_per16 B (k := c - ((k : Int) + 8)) (m := c - k + 8) (by lia), chi_per16 B (k := c + 8 - (k : Int)) (m := c - k + 8) (by lia), chi_per16 B (k := c + 8 - ((k : Int) + 8)) (m := c - k) (by lia)]
  unfold alf
  rw [Int.sub_mul, Int.mul_sub, Int.mul_sub]
  lia

theorem alf_per {A : List Nat} (hl : Lt16 A) (h : ∀ k, alf A k = 0) : per8 A = true := by
  unfold per8
  rw [List.all_eq_true]
  intro k hk
  refine decide_eq_true ?_
  have h1 := h k
  have h2 := (chi_one (hl k hk)).mpr hk
  unfold alf at h1
  have h3 : chi A (((k + 8) % 16 : Nat) : Int) = 1 := by
    rw [chi_per16 A (m := (k : Int) + 8) (by lia)]; lia
  exact (chi_one (Nat.mod_lt _ (by decide))).mp h3

/-- as many pairs at each place as half a wheel on: one of the two goes onto itself by half a turn -/
theorem hajos {A B : List Nat} (hA : Lt16 A) (hB : Lt16 B) (h : ∀ c : Nat, c < 16 → numAt A B c = numAt A B ((c + 8) % 16 : Nat)) : per8 A = true ∨ per8 B = true := by
  have per : ∀ {c m : Int}, c % 16 = m % 16 → numAt A B c = numAt A B m := fun {c m} hc => S_congr fun k _ => by rw [chi_per16 B (k := c - k) (m := m - k) (by lia)]
  rcases dom8 (alf_anti A) (alf_anti B) (alf_small A) (alf_small B) (fun c => by
    rw [conv_num A B c, per (c := c) (m := ((c % 16).toNat : Nat)) (by lia), per (c := c + 8) (m := (((c % 16).toNat + 8) % 16 : Nat)) (by lia), h _ (by lia)]; lia) with h1 | h1
  · exact .inl (alf_per hA h1)
  · exact .inr (alf_per hB h1)

/-! counting -/

theorem S_at (g : Int → Int) (a : Nat) : ∀ n, S n (fun k => if k = (a : Int) then g k else 0) = if a < n then g a else 0
  | 0 => rfl
  | n + 1 => by
    rw [S, S_at g a n]
    by_cases h : a = n
    · subst h; simp
    · have h1 : ¬ ((n : Nat) : Int) = a := by lia
      simp only [h1, if_false, Int.add_zero]
      by_cases h2 : a < n
      · rw [if_pos h2, if_pos (by lia)]
      · rw [if_neg h2, if_neg (by lia)]

theorem sum_chi (g : Int → Int) : ∀ {A : List Nat}, A.Nodup → Lt16 A → (A.map fun (a : Nat) => g a).sum = S 16 fun k => chi A k * g k
  | [], _, _ => by rw [S_congr (g := fun _ => 0) fun k _ => by simp [chi], S_nil]; rfl
  | a :: r, hn, hl => by
    rw [List.nodup_cons] at hn
    have ha := hl a List.mem_cons_self
    have h1 := S_at g a 16
    rw [if_pos ha] at h1
    rw [List.map_cons, List.sum_cons, sum_chi g hn.2 fun k hk => hl k (List.mem_cons_of_mem _ hk), ← h1, ← S_add]
    refine S_congr fun k hk => ?_
    have ek : (((k : Nat) : Int) % 16).toNat = k := by lia
    unfold chi
    rw [ek]
    by_cases h : k = a
    · subst h; simp [hn.1]
    · have h2 : ¬ ((k : Nat) : Int) = a := by lia
      simp [h, h2]

theorem count_turn {B : List Nat} {a c : Nat} (hn : B.Nodup) (hl : Lt16 B) (ha : a < 16) (hc : c < 16) : ((B.map fun b => (a + b) % 16).count c : Int) = chi B (c - a) := by
  have nd : (B.map fun b => (a + b) % 16).Nodup := by
    unfold List.Nodup
    rw [List.pairwise_map]
    refine List.Pairwise.imp_of_mem (fun {x y} hx hy hne he => hne ?_) hn
    have := hl x hx
    have := hl y hy
    lia
  rw [nd.count]
  unfold chi
  have key : c ∈ (B.map fun b => (a + b) % 16) ↔ (((c : Int) - a) % 16).toNat ∈ B := by
    rw [List.mem_map]
    constructor
    · rintro ⟨b, hb, rfl⟩
      have := hl b hb
      rwa [show (((((a + b) % 16 : Nat) : Int) - a) % 16).toNat = b by lia]
    · intro h
      exact ⟨_, h, by omega⟩
  by_cases h : c ∈ (B.map fun b => (a + b) % 16)
  · rw [if_pos h, if_pos (decide_eq_true (key.mp h))]; rfl
  · rw [if_neg h, if_neg (by simpa using fun e => h (key.mpr e))]; rfl

theorem count_sums {B : List Nat} {c : Nat} (hn : B.Nodup) (hl : Lt16 B) (hc : c < 16) : ∀ {A : List Nat}, Lt16 A → ((sums A B).count c : Int) = (A.map fun (a : Nat) => chi B (c - a)).sum
  | [], _ => by simp [sums]
  | a :: r, h => by
    have ih := count_sums (c := c) hn hl hc (A := r) fun k hk => h k (List.mem_cons_of_mem _ hk)
    unfold sums at ih ⊢
    rw [List.flatMap_cons, List.count_append, List.map_cons, List.sum_cons, ← ih, ← count_turn hn hl (h a List.mem_cons_self) hc]
    simp

theorem count_num {A B : List Nat} {c : Nat} (nA : A.Nodup) (lA : Lt16 A) (nB : B.Nodup) (lB : Lt16 B) (hc : c < 16) : ((sums A B).count c : Int) = numAt A B c := by
  rw [count_sums nB lB hc lA, sum_chi (fun a => chi B (c - a)) nA lA]
  rfl
end Mine

namespace Mine

noncomputable def Inj (A B : List Nat) : Prop := ∀ a ∈ A, ∀ b ∈ B, ∀ a' ∈ A, ∀ b' ∈ B, (a + b) % 16 = (a' + b') % 16 → a = a' ∧ b = b'
noncomputable def Tile (c : Nat) (A B : List Nat) : Prop := Inj A B ∧ A.length * B.length = 2 ^ c

theorem turn_nodup {B : List Nat} (a : Nat) (hn : B.Nodup) (hl : Lt16 B) : (B.map fun b => (a + b) % 16).Nodup := by
  unfold List.Nodup
  rw [List.pairwise_map]
  refine List.Pairwise.imp_of_mem (fun {x y} hx hy hne he => hne ?_) hn
  have := hl x hx
  have := hl y hy
  lia

theorem sums_cons (a : Nat) (r B : List Nat) : sums (a :: r) B = (B.map fun b => (a + b) % 16) ++ sums r B := by unfold sums; rw [List.flatMap_cons]
theorem mem_sums {A B : List Nat} {c : Nat} : c ∈ sums A B ↔ ∃ a ∈ A, ∃ b ∈ B, (a + b) % 16 = c := by
  unfold sums
  simp [List.mem_flatMap, List.mem_map]

theorem sums_nodup {B : List Nat} (nB : B.Nodup) (lB : Lt16 B) : ∀ {A : List Nat}, A.Nodup → ((sums A B).Nodup ↔ Inj A B)
  | [], _ => ⟨fun _ a ha => by simp at ha, fun _ => by simp [sums]⟩
  | a :: r, hn => by
    rw [List.nodup_cons] at hn
    have ih := sums_nodup nB lB (A := r) hn.2
    rw [sums_cons, List.nodup_append]
    constructor
    · rintro ⟨_, h2, h3⟩ x hx b hb x' hx' b' hb' e
      have lb := lB b hb
      have lb' := lB b' hb'
      rcases List.mem_cons.mp hx with rfl | hx1
      · rcases List.mem_cons.mp hx' with rfl | hx'
        · exact ⟨rfl, by lia⟩
        · exact absurd e (h3 _ (List.mem_map.mpr ⟨b, hb, rfl⟩) _ (mem_sums.mpr ⟨x', hx', b', hb', rfl⟩))
      · skip
        rcases List.mem_cons.mp hx' with rfl | hx2
        · exact absurd e.symm (h3 _ (List.mem_map.mpr ⟨b', hb', rfl⟩) _ (mem_sums.mpr ⟨x, hx1, b, hb, rfl⟩))
        · exact (ih.mp h2) x hx1 b hb x' hx2 b' hb' e
    · intro h
      refine ⟨turn_nodup a nB lB, ih.mpr fun x hx b hb x' hx' b' hb' e => h x (List.mem_cons_of_mem _ hx) b hb x' (List.mem_cons_of_mem _ hx') b' hb' e, fun x hx y hy e => ?_⟩
      obtain ⟨b, hb, rfl⟩ := List.mem_map.mp hx
      obtain ⟨a', ha', b', hb', rfl⟩ := mem_sums.mp hy
      have := (h a List.mem_cons_self b hb a' (List.mem_cons_of_mem _ ha') b' hb' e).1
      subst this
      exact hn.1 ha'

theorem perm_of_len {l m : List Nat} (hl : l.Nodup) (hm : m.Nodup) (hs : ∀ x ∈ l, x ∈ m) (hlen : m.length ≤ l.length) : l.Perm m := by
  rw [List.perm_ext_iff_of_nodup hl hm]
  refine fun x => ⟨hs x, fun hx => ?_⟩
  by_cases h : x ∈ l
  · exact h
  · have := (List.nodup_cons.mpr ⟨h, hl⟩).length_le_of_subset (l₂ := m) fun y hy => by
      rcases List.mem_cons.mp hy with rfl | hy
      · exact hx
      · exact hs y hy
    rw [List.length_cons] at this; lia

theorem wheel_nodup {n e : Nat} (hL : Lv n e) : (wheelL n e).Nodup := by
  rcases hL with ⟨rfl, rfl⟩ | ⟨rfl, rfl⟩ | ⟨rfl, rfl⟩ | ⟨rfl, rfl⟩ | ⟨rfl, rfl⟩ <;> decide
theorem wheel_half {n e : Nat} (hL : Lv n e) (hn : 2 ≤ n) {c : Nat} (hc : c < 16) : (wheelL n e).count c = (wheelL n e).count ((c + 8) % 16) := by
  have key : ((List.range 16).all fun c => (wheelL n e).count c == (wheelL n e).count ((c + 8) % 16)) = true := by
    rcases hL with ⟨rfl, rfl⟩ | ⟨rfl, rfl⟩ | ⟨rfl, rfl⟩ | ⟨rfl, rfl⟩ | ⟨rfl, rfl⟩
    · lia
    all_goals decide +kernel
  exact eq_of_beq (all1 (f := fun c => (wheelL n e).count c == (wheelL n e).count ((c + 8) % 16)) key hc)

theorem tile_iff {c : Nat} (hc : c ≤ 4) {A B : List Nat} (GA : Good (2 ^ (4 - c)) A) (GB : Good (2 ^ (4 - c)) B) : (sums A B).Perm (wheelL (2 ^ c) (2 ^ (4 - c))) ↔ Tile c A B := by
  have hL := lv_of hc
  have wl : (wheelL (2 ^ c) (2 ^ (4 - c))).length = 2 ^ c := by simp [wheelL]
  constructor
  · intro h
    exact ⟨(sums_nodup GB.nodup GB.lt GA.nodup).mp (h.nodup_iff.mpr (wheel_nodup hL)), by rw [← sums_len, h.length_eq, wl]⟩
  · rintro ⟨h1, h2⟩
    refine perm_of_len ((sums_nodup GB.nodup GB.lt GA.nodup).mpr h1) (wheel_nodup hL) (fun x hx => ?_) (by rw [wl, sums_len, h2]; exact Nat.le_refl _)
    obtain ⟨a, ha, b, hb, rfl⟩ := mem_sums.mp hx
    obtain ⟨p, rfl⟩ := GA.mul a ha
    obtain ⟨q, rfl⟩ := GB.mul b hb
    rw [← Nat.add_mul, mod_mul hL]
    exact List.mem_map.mpr ⟨_, List.mem_range.mpr (Nat.mod_lt _ (by have := hL.pos; lia)), rfl⟩

theorem tile_per {c : Nat} (hc : c + 1 ≤ 4) {A B : List Nat} (GA : Good (2 ^ (4 - (c + 1))) A) (GB : Good (2 ^ (4 - (c + 1))) B) (h : Tile (c + 1) A B) : per8 A = true ∨ per8 B = true := by
  have hL := lv_of hc
  have hp := (tile_iff hc GA GB).mpr h
  have hn : 2 ≤ 2 ^ (c + 1) := by rw [Nat.pow_succ]; have := Nat.two_pow_pos c; lia
  refine hajos GA.lt GB.lt fun k hk => ?_
  rw [← count_num GA.nodup GA.lt GB.nodup GB.lt hk, ← count_num GA.nodup GA.lt GB.nodup GB.lt (Nat.mod_lt _ (by decide)), hp.count_eq, hp.count_eq, wheel_half hL hn hk]

theorem per_mem {A : List Nat} (h : per8 A = true) {k : Nat} (hk : k ∈ A) : (k + 8) % 16 ∈ A := of_decide_eq_true (List.all_eq_true.mp h k hk)

theorem not_both {c : Nat} {A B : List Nat} (nA : A ≠ []) (nB : B ≠ []) (lA : Lt16 A) (h1 : per8 A = true) (h2 : per8 B = true) : ¬ Tile c A B := fun h => by
  obtain ⟨a, r, rfl⟩ := List.exists_cons_of_ne_nil nA
  obtain ⟨b, s, rfl⟩ := List.exists_cons_of_ne_nil nB
  have ha := List.mem_cons_self (a := a) (l := r)
  have hb := List.mem_cons_self (a := b) (l := s)
  have := (h.1 a ha b hb _ (per_mem h1 ha) _ (per_mem h2 hb) (by lia)).1
  have := lA a ha
  lia

theorem tile_comm {c : Nat} {A B : List Nat} (h : Tile c A B) : Tile c B A :=
  ⟨fun a ha b hb a' ha' b' hb' e => (h.1 b hb a ha b' hb' a' ha' (by rw [Nat.add_comm b a, Nat.add_comm b' a']; exact e)).symm, by rw [Nat.mul_comm]; exact h.2⟩
theorem tile_pXY {c : Nat} {A B : List Nat} : Tile c A B ↔ Tile c (pX A B) (pY A B) := by
  unfold pX pY
  cases per8 B with
  | true => simp only [if_true]; exact ⟨tile_comm, tile_comm⟩
  | false => simp only [Bool.false_eq_true, if_false]

theorem low_mem {X : List Nat} {k : Nat} : k ∈ lowL X ↔ ∃ x ∈ X, x < 8 ∧ dbl x = k := by
  unfold lowL
  rw [List.mem_map]
  constructor
  · rintro ⟨x, hx, rfl⟩
    exact ⟨x, (List.mem_filter.mp hx).1, of_decide_eq_true (List.mem_filter.mp hx).2, rfl⟩
  · rintro ⟨x, h1, h2, rfl⟩
    exact ⟨x, List.mem_filter.mpr ⟨h1, decide_eq_true h2⟩, rfl⟩

theorem dbl_inj {Y : List Nat} (h : (Y.map dbl).Nodup) {y y' : Nat} (hy : y ∈ Y) (hy' : y' ∈ Y) (e : dbl y = dbl y') : y = y' := by
  unfold List.Nodup at h
  rw [List.pairwise_map] at h
  induction Y with
  | nil => simp at hy
  | cons a r ih =>
    rw [List.pairwise_cons] at h
    rcases List.mem_cons.mp hy with rfl | hy1
    · rcases List.mem_cons.mp hy' with rfl | hy2
      · rfl
      · exact absurd e (h.1 _ hy2)
    · rcases List.mem_cons.mp hy' with rfl | hy2
      · exact absurd e.symm (h.1 _ hy1)
      · exact ih h.2 hy1 hy2

theorem fold_nodup {X Y : List Nat} {e : Nat} (GX : Good e X) (GY : Good e Y) (hX : per8 X = true) (h : Inj X Y) : (Y.map dbl).Nodup := by
  unfold List.Nodup
  rw [List.pairwise_map]
  refine List.Pairwise.imp_of_mem (fun {y y'} hy hy' hne he => hne ?_) GY.nodup
  obtain ⟨x, r, rfl⟩ := List.exists_cons_of_ne_nil GX.ne
  have hx := List.mem_cons_self (a := x) (l := r)
  have ly := GY.lt y hy
  have ly' := GY.lt y' hy'
  have lx := GX.lt x hx
  unfold dbl at he
  rcases (by omega : y = y' ∨ (x + y') % 16 = ((x + 8) % 16 + y) % 16) with h1 | h1
  · exact h1
  · exact ((h x hx y' hy' _ (per_mem hX hx) y hy h1).2).symm

theorem fold_tile {c : Nat} {X Y : List Nat} {e : Nat} (GX : Good e X) (GY : Good e Y) (hX : per8 X = true) (hn : (Y.map dbl).Nodup) : Tile (c + 1) X Y ↔ Tile c (lowL X) (Y.map dbl) := by
  have hlen : X.length = 2 * (lowL X).length := by
    have := (low_perm GX.nodup GX.lt hX).length_eq
    rw [List.length_append, List.length_map] at this
    unfold lowL
    rw [List.length_map]; lia
  have len : X.length * Y.length = 2 ^ (c + 1) ↔ (lowL X).length * (Y.map dbl).length = 2 ^ c := by
    rw [List.length_map, hlen, Nat.pow_succ, Nat.mul_assoc]
    generalize (lowL X).length * Y.length = z
    lia
  unfold Tile
  rw [len]
  refine ⟨fun ⟨h, hl⟩ => ⟨?_, hl⟩, fun ⟨h, hl⟩ => ⟨?_, hl⟩⟩
  · intro a ha b hb a' ha' b' hb' e1
    obtain ⟨x, hx, x8, rfl⟩ := low_mem.mp ha
    obtain ⟨x', hx', x8', rfl⟩ := low_mem.mp ha'
    obtain ⟨y, hy, rfl⟩ := List.mem_map.mp hb
    obtain ⟨y', hy', rfl⟩ := List.mem_map.mp hb'
    have ly := GY.lt y hy
    have ly' := GY.lt y' hy'
    unfold dbl at e1
    rcases (by (clear ly' ly hb' hy' hb hy ha' x8' hx' ha hx hl h len hlen hn hX GY GX; omega) : (x + y) % 16 = (x' + y') % 16 ∨ (x + y) % 16 = ((x' + 8) % 16 + y') % 16) with h1 | h1
    · obtain ⟨q1, q2⟩ := h x hx y hy x' hx' y' hy' h1
      exact ⟨by rw [q1], by rw [q2]⟩
    · have := (h x hx y hy _ (per_mem hX hx') y' hy' h1).1
      lia
  · intro x hx y hy x' hx' y' hy' e1
    have lx := GX.lt x hx
    have lx' := GX.lt x' hx'
    have ly := GY.lt y hy
    have ly' := GY.lt y' hy'
    have low : ∀ z, z ∈ X → z < 16 → dbl z ∈ lowL X := fun z hz lz => by
      rcases Nat.lt_or_ge z 8 with h8 | h8
      · exact low_mem.mpr ⟨z, hz, h8, rfl⟩
      · exact low_mem.mpr ⟨(z + 8) % 16, per_mem hX hz, by lia, by unfold dbl; lia⟩
    have e2 : (dbl x + dbl y) % 16 = (dbl x' + dbl y') % 16 := by unfold dbl; lia
    have hq := (h _ (low x hx lx) _ (List.mem_map.mpr ⟨y, hy, rfl⟩) _ (low x' hx' lx') _ (List.mem_map.mpr ⟨y', hy', rfl⟩) e2).2
    have ey := dbl_inj hn hy hy' hq
    subst ey
    exact ⟨by lia, rfl⟩

theorem folds_iff : ∀ (c : Nat), c ≤ 4 → ∀ {A B : List Nat}, Good (2 ^ (4 - c)) A → Good (2 ^ (4 - c)) B → (foldsB c A B = true ↔ Tile c A B)
  | 0, _, A, B, GA, GB => by
    have one : ∀ {X : List Nat}, Good (2 ^ (4 - 0)) X → X = [0] := fun {X} G => by
      have hz : ∀ k ∈ X, k = 0 := fun k hk => by
        obtain ⟨p, hp⟩ := G.mul k hk
        have := G.lt k hk
        simp at hp; lia
      obtain ⟨x, r, rfl⟩ := List.exists_cons_of_ne_nil G.ne
      have := hz x List.mem_cons_self
      subst this
      cases r with
      | nil => rfl
      | cons y s =>
        have hy := hz y (by simp)
        have := G.nodup
        rw [List.nodup_cons] at this
        exact absurd (by simp [hy]) this.1
    rw [one GA, one GB]
    refine ⟨fun _ => ⟨fun a ha b hb a' ha' b' hb' _ => ?_, rfl⟩, fun _ => rfl⟩
    simp at ha hb ha' hb'
    lia
  | c + 1, hc, A, B, GA, GB => by
    have hL2 : Lv (2 ^ c) (2 * 2 ^ (4 - (c + 1))) := by rw [← e_dbl hc]; exact lv_of (by lia)
    unfold foldsB
    split
    · rename_i h
      have h' := eq_of_beq h
      refine ⟨fun h => (by cases h), fun ht => ?_⟩
      have hp := tile_per hc GA GB ht
      have hA : per8 A = true := by rcases hp with hp | hp; exact hp; rw [h']; exact hp
      exact absurd ht (not_both GA.ne GB.ne GA.lt hA (h' ▸ hA))
    · rename_i h
      have hne : per8 A ≠ per8 B := fun e => h (by rw [e, beq_self_eq_true])
      have GX := good_X GA GB
      have GY := good_Y GA GB
      have hX := per_X hne
      rw [tile_pXY]
      split
      · rename_i hd
        refine ⟨fun h => (by cases h), fun ht => ?_⟩
        have := dupL_iff.mpr (fold_nodup GX GY hX ht.1)
        rw [hd] at this; cases this
      · rename_i hd
        have hd' : dupL ((pY A B).map dbl) = false := by simpa using hd
        have hn := dupL_iff.mp hd'
        rw [fold_tile GX GY hX hn]
        refine folds_iff c (by omega) ?_ ?_
        · rw [e_dbl hc]; exact good_low hL2 GX hX
        · rw [e_dbl hc]; exact good_dbl hL2 GY hd'

/-- the law's answer is True -/
theorem law_true {c : Nat} (hc : c ≤ 4) {A B : List Nat} (GA : Good (2 ^ (4 - c)) A) (GB : Good (2 ^ (4 - c)) B) :
    (foldsB c A B == decide (sortP (sums A B) = sortP (wheelL (2 ^ c) (2 ^ (4 - c))))) = true := by
  rw [beq_iff_eq, Bool.eq_iff_iff, decide_eq_true_eq, sortP_eq sums_lt (wheel_lt (lv_of hc)), tile_iff hc GA GB]
  exact folds_iff c hc GA GB
end Mine

namespace Mine
open PySem PySem.W PyProof.Rows

theorem pick_mem {n : Nat} {l : List Nat} {p : Nat} : p ∈ pickL n l ↔ p < n ∧ p ∈ l := by
  unfold pickL
  rw [List.mem_filter, List.mem_range, decide_eq_true_eq]
theorem pick_nodup (n : Nat) (l : List Nat) : (pickL n l).Nodup := by
  unfold pickL
  exact (List.nodup_range (n := n)).sublist List.filter_sublist
theorem pick_len (n : Nat) (l : List Nat) : (pickL n l).length ≤ l.length := (pick_nodup n l).length_le_of_subset fun p hp => (pick_mem.mp hp).2

theorem good_pick {n e : Nat} (hL : Lv n e) {l : List Nat} (h : ∃ p, p < n ∧ p ∈ l) : Good e ((pickL n l).map (· * e)) where
  nodup := by
    unfold List.Nodup
    rw [List.pairwise_map]
    refine (pick_nodup n l).imp fun {a b} hne he => hne ?_
    exact Nat.eq_of_mul_eq_mul_right hL.pos.2.2.1 he
  lt := fun k hk => by
    obtain ⟨p, hp, rfl⟩ := List.mem_map.mp hk
    exact hL.lt (pick_mem.mp hp).1
  mul := fun k hk => by
    obtain ⟨p, hp, rfl⟩ := List.mem_map.mp hk
    exact ⟨p, rfl⟩
  ne := fun he => by
    obtain ⟨p, h1, h2⟩ := h
    have := List.map_eq_nil_iff.mp he
    have hm := pick_mem.mpr ⟨h1, h2⟩
    rw [this] at hm; simp at hm

section
variable {g : Pg}

theorem main2 (hg : ∀ x ∈ usedNames, x ∉ g.names) (hdefs : g.defs = [iKmp, iHls, iHsv, iRgb, iPal, iTold, iSeen, iFolds, iLaw]) (xs : List Int) (hx : xs.length ≤ 63) : Fn g 3 iLaw [intsL xs] (.bool true) := by
  have hc : countOf xs = 4 ∨ countOf xs = 3 := by unfold countOf; split <;> simp
  have hc4 : countOf xs ≤ 4 := by omega
  have ok := palAt_ok (heapsOf xs) (countOf xs)
  have hpal := pal_walk (g := g) (d := 1) hg xs hx
  have hL := lv_of hc4
  have n8 : 8 ≤ 2 ^ countOf xs := by rcases hc with h | h <;> rw [h] <;> decide
  generalize palAt (heapsOf xs) (countOf xs) = st at ok hpal
  obtain ⟨F, S⟩ := st
  obtain ⟨o1, o2, o3, o4, o5⟩ := ok
  simp only at o1 o2 o3 o4 o5
  have fin : ∀ (n e : Nat), n = 2 ^ countOf xs → e = 2 ^ (4 - countOf xs) → Lv n e → 8 ≤ n → (∀ p ∈ F, p < n) → (∀ p ∈ S, p < n) → F.length * S.length = n →
      (∀ p ∈ pickL n (movedL xs n F), p < n) ∧ (pickL n (movedL xs n F)).length ≤ 16 ∧ (pickL n S).length ≤ 16 ∧ Good e ((pickL n (movedL xs n F)).map (· * e)) ∧ Good e ((pickL n S).map (· * e)) ∧
      2 ≤ (pickL n (movedL xs n F)).length * (pickL n S).length ∧ (pickL n (movedL xs n F)).length * (pickL n S).length < 64 := by
    intro n e _ _ hL n8 o3 o4 o5
    obtain ⟨p1, p2, p3, p4⟩ := hL.pos
    obtain ⟨a, r, rfl⟩ : ∃ a r, F = a :: r := by
      cases F with
      | nil => simp at o5; lia
      | cons a r => exact ⟨a, r, rfl⟩
    obtain ⟨b, t, rfl⟩ : ∃ b t, S = b :: t := by
      cases S with
      | nil => simp at o5; lia
      | cons b t => exact ⟨b, t, rfl⟩
    have lr : ∀ (l : List Nat), (pickL n l).length ≤ n := fun l => by
      have := List.length_filter_le (fun p => decide (p ∈ l)) (List.range n)
      rwa [List.length_range] at this
    have m0 : ∃ p, p < n ∧ p ∈ movedL xs n (a :: r) := by
      have h1 := Int.fmod_nonneg_of_pos ((((a :: r).headD 0 : Nat) : Int) + xs.sum.fdiv 5) (b := (n : Int)) (by lia)
      have h2 := Int.fmod_lt_of_pos ((((a :: r).headD 0 : Nat) : Int) + xs.sum.fdiv 5) (b := (n : Int)) (by (clear h1 lr o5 hpal o4 o2 o3 o1 p4 p3 p1 n8 hL hc4 hc hx hdefs hg p2; omega))
      exact ⟨_, by (clear lr o5 hpal o4 o2 o3 o1 p4 p3 p2 p1 n8 hL hc4 hc hx hdefs hg; omega), List.mem_cons_self⟩
    have q0 : ∃ p, p < n ∧ p ∈ b :: t := ⟨b, o4 b List.mem_cons_self, List.mem_cons_self⟩
    have lm : (movedL xs n (a :: r)).length = (a :: r).length := by unfold movedL; simp
    have up1 := pick_len n (movedL xs n (a :: r))
    have up2 := pick_len n (b :: t)
    have lo2 : (b :: t).length ≤ (pickL n (b :: t)).length := o2.length_le_of_subset fun p hp => pick_mem.mpr ⟨o4 p hp, hp⟩
    have lo1 : r.length ≤ (pickL n (movedL xs n (a :: r))).length := (List.nodup_cons.mp o1).2.length_le_of_subset fun p hp => pick_mem.mpr ⟨o3 p (List.mem_cons_of_mem _ hp), by unfold movedL; exact List.mem_cons_of_mem _ hp⟩
    have pos1 : 1 ≤ (pickL n (movedL xs n (a :: r))).length := by
      obtain ⟨p, h1, h2⟩ := m0
      exact List.length_pos_of_mem (pick_mem.mpr ⟨h1, h2⟩)
    refine ⟨fun p hp => (pick_mem.mp hp).1, Nat.le_trans (lr _) p2, Nat.le_trans (lr _) p2, good_pick hL m0, good_pick hL q0, ?_, ?_⟩
    · have e2 : (pickL n (b :: t)).length = (b :: t).length := Nat.le_antisymm up2 lo2
      rw [e2]
      cases t with
      | nil =>
        simp only [List.length_cons, List.length_nil, Nat.mul_one, Nat.zero_add] at o5 ⊢
        lia
      | cons b' t' =>
        have : 1 * 2 ≤ (pickL n (movedL xs n (a :: r))).length * (b :: b' :: t').length := Nat.mul_le_mul pos1 (by simp)
        lia
    · have : (pickL n (movedL xs n (a :: r))).length * (pickL n (b :: t)).length ≤ (a :: r).length * (b :: t).length := Nat.mul_le_mul (by lia) up2
      lia
  obtain ⟨h1, h2, h3, h4, h5, h6, h7⟩ := fin _ _ rfl rfl hL n8 o3 o4 o5
  have hw := law_walk (g := g) (d := 0) hg (by rw [hdefs]; simp) (by rw [hdefs]; simp) (by rw [hdefs]; simp) (by rw [hdefs]; simp) (by rw [hdefs]; simp) (by rw [hdefs]; simp) (by rw [hdefs]; simp) (by rw [hdefs]; simp)
    hc4 hpal h1 (fun p hp => (pick_mem.mp hp).1) h2 h3 h4 h5 h6 h7 (by lia)
  rw [law_true hc4 h4 h5] at hw
  exact hw
end
end Mine

open PySem PySem.W PyProof.Rows
namespace Mine

theorem booked_of {h : Heap} {o : Obj} (ho : h.get? cStatics = some o) (hd : ∃ ep, o.data = .dict #[] ep) : NoneBooked h := by
  obtain ⟨ep, hd⟩ := hd
  refine ⟨fun _ => Option.none, ⟨o, #[], ep, ho, hd, ?_, fun _ => rfl⟩, rfl⟩
  intro x hx; simp at hx

theorem rep_script {h : Heap} {a : Addr} {items : List Value} {xs : List Int} (hl : h.IsList a items.toArray) (hi : IntsAre items xs) : Rep ⟨NoO, fun _ => Option.none⟩ h (intsL xs) (.ref a) := by
  refine rep_lst.mpr ⟨a, items.toArray, rfl, fun x => x, hl, ?_⟩
  rw [List.toList_toArray]
  clear hl
  induction hi with
  | nil => exact repL_nil.mpr rfl
  | cons _ _ _ ih => exact repL_cons.mpr ⟨_, _, rfl, rep_int.mpr ⟨_, rfl⟩, ih⟩
end Mine

set_option maxHeartbeats 8000000 in
theorem Mine.law2_holds : PySem.Challenge.rw_sc0027_02.Holds := hd2 (by
  k_fill
  intro w s₀ s₁ mg mb G Y fa o pm cd doc dV kV ho hd hcd hD hmg hg args vals as hpre hlay hrd hwl hlo
  have KX := kIn_of Y
  have V := (Ground.X G).2
  have GL := glob_more (Ground.glob G (by decide +kernel) (by decide +kernel)) V
  refine Ground.open G ?_
  intro T B D TE TW
  clear D TE TW B V Y hmg T G
  wrow_args hpre hlay hrd hwl hlo
  rename_i xs _ _ _ _ _ _ _ la items _ hl _ _ _ hi _ hlen _
  have hx : xs.length ≤ 63 := by lia
  have hdV : dV = .none := by rcases hD.pos with ⟨_, e⟩ | ⟨e, _⟩; exact e; exact absurd rfl e
  have hkV : kV = .none := by rcases hD.kw with ⟨_, e⟩ | ⟨e, _⟩; exact e; exact absurd rfl e
  subst hdV
  subst hkV
  have ok : (Mine.g2 w).Ok s₁.heap := ⟨⟨_, mg, mb, GL⟩, Mine.booked_of (KX cStatics _ rfl) ⟨_, rfl⟩⟩
  refine wpAny_mono (Mine.law_call (g := Mine.g2 w) (it := Mine.iLaw) (d := 3) (Mine.main2 (Mine.names2 w) (Mine.defs2 w) xs hx) Mine.plLaw rfl rfl ⟨rfl, by decide, by decide⟩ ok ho hd hcd (Mine.rep_script hl hi)) (fun u s' q => ?_) fun _ _ f => f.elim
  obtain ⟨W', h', tk', rfl, hu, ex⟩ := q
  cases Mine.rep_bool.mp hu
  refine GoodW.toG ⟨.inl ⟨_, .bool true, [], rfl, ?_, .bool true, ?_, ?_⟩, ex, rfl, hg⟩
  · intro cls; rfl
  · wrow_post
  · exact unshared_nil)

theorem PySem.Challenge.cw_sc0027_02_holds : PySem.Challenge.rw_sc0027_02.Holds := by
  exact Mine.law2_holds
