import PyProof.Rows.All
import Wide.All
import OpenK.AllK
import Wide.FinOn
import PyProof.Draws
import PyProof.EnumMake
import PyProof.WalksMore
import PySem.Challenge.RW_oc0092_01
set_option Elab.async false
section
set_option maxRecDepth 100000
namespace Mine
open PySem PySem.W PyProof.Rows PySem.Spec PySem.Calls

/-! ### heaps -/
theorem get?_none_ge {h : Heap} {a : Addr} (ha : h.objs.size ≤ a) : h.get? a = none := Heap.get?_none_of_le ha

def ghost : Obj := { cls := .none, data := .freed }

/-- any finite map of live objects is a heap -/
theorem realize (f : Addr → Option Obj) (n : Nat) (hb : ∀ a, n ≤ a → f a = none) (hf : ∀ a o, f a = some o → o.isFreed = false) :
    ∃ P : Heap, ∀ a, P.get? a = f a := by
  refine ⟨⟨Array.ofFn (n := n) fun i => (f i).getD ghost, {}⟩, fun a => ?_⟩
  unfold Heap.get?
  by_cases ha : a < n
  · have e : (Array.ofFn (n := n) fun i => (f i).getD ghost)[a]? = some ((f a).getD ghost) := by simp [ha]
    rw [e]
    cases hfa : f a with
    | none => rfl
    | some o =>
      have := hf a o hfa
      obtain ⟨c, d, dt, sl⟩ := o
      cases dt <;> first | rfl | simp [Obj.isFreed] at this
  · have ha' : n ≤ a := Nat.le_of_not_lt ha
    have e : (Array.ofFn (n := n) fun i => (f i).getD ghost)[a]? = none := by simp [ha']
    rw [e, hb a ha']

theorem live {h : Heap} {a : Addr} {o : Obj} (e : h.get? a = some o) : o.isFreed = false := (Heap.get?_some_iff.mp e).2

/-- a live object of h joins the frozen part -/
theorem freeze {P h : Heap} {a : Addr} {o : Obj} (st : P.StaysIn h) (ho : h.get? a = some o) :
    ∃ P' : Heap, P.StaysIn P' ∧ P'.StaysIn h ∧ P'.get? a = some o ∧ ∀ b ob, P'.get? b = some ob → P.get? b = some ob ∨ b = a := by
  obtain ⟨P', hP⟩ := realize (fun b => if b = a then some o else P.get? b) (max (a + 1) P.objs.size)
    (fun b hb => by
      have h1 : b ≠ a := fun e => absurd (Nat.le_trans (Nat.le_max_left _ _) hb) (by rw [e]; exact Nat.not_succ_le_self a)
      simp only [h1, if_false]; exact get?_none_ge (Nat.le_trans (Nat.le_max_right _ _) hb))
    (fun b ob e => by
      split at e
      · cases e; exact live ho
      · exact live e)
  refine ⟨P', fun b ob e => ?_, fun b ob e => ?_, ?_, fun b ob e => ?_⟩
  · rw [hP]; split
    · rename_i hb; subst hb; rw [← ho]; exact (st _ _ e).symm ▸ rfl
    · exact e
  · rw [hP] at e; split at e
    · rename_i hb; subst hb; rw [← e]; exact ho
    · exact st _ _ e
  · rw [hP]; simp
  · rw [hP] at e; split at e
    · exact .inr ‹_›
    · exact .inl e

theorem stays_refl (h : Heap) : h.StaysIn h := fun _ _ e => e
theorem stays_trans {a b c : Heap} (x : a.StaysIn b) (y : b.StaysIn c) : a.StaysIn c := fun _ _ e => y _ _ (x _ _ e)

/-! ### data -/
def Is (P : Heap) (v : Value) (d : PyData) : Prop := ∃ as, Reads P v d as
def IsAll (P : Heap) (vs : List Value) (ds : List PyData) : Prop := ∃ as, ReadsAll P vs ds as

theorem Is.mono {P P' : Heap} {v : Value} {d : PyData} (st : P.StaysIn P') (h : Is P v d) : Is P' v d := let ⟨as, r⟩ := h; ⟨as, Reads.keeps st r⟩
theorem IsAll.mono {P P' : Heap} {vs : List Value} {ds : List PyData} (st : P.StaysIn P') (h : IsAll P vs ds) : IsAll P' vs ds := let ⟨as, r⟩ := h; ⟨as, ReadsAll.keeps st r⟩
theorem Is.i {P : Heap} (i : Int) (t : Tok) : Is P (.int i t) (.int i) := ⟨_, .int i t⟩
theorem Is.b {P : Heap} (b : Bool) : Is P (.bool b) (.bool b) := ⟨_, .bool b⟩
theorem Is.s {P : Heap} (x : Str) (t : Tok) : Is P (.str x t) (.str x) := ⟨_, .str x t⟩
theorem Is.n {P : Heap} : Is P .none .none := ⟨_, .none⟩
theorem Is.int_inv {P : Heap} {v : Value} {i : Int} (h : Is P v (.int i)) : ∃ t, v = .int i t := by
  obtain ⟨as, r⟩ := h; cases r; exact ⟨_, rfl⟩
theorem Is.bool_inv {P : Heap} {v : Value} {b : Bool} (h : Is P v (.bool b)) : v = .bool b := by
  obtain ⟨as, r⟩ := h; cases r; rfl
theorem Is.str_inv {P : Heap} {v : Value} {x : Str} (h : Is P v (.str x)) : ∃ t, v = .str x t := by
  obtain ⟨as, r⟩ := h; cases r; exact ⟨_, rfl⟩
theorem Is.list_inv {P : Heap} {v : Value} {ds : List PyData} (h : Is P v (.list ds)) :
    ∃ a o vs n, v = .ref a ∧ P.get? a = some o ∧ o.cls = .type "list" ∧ o.data = .seq vs n ∧ IsAll P vs.toList ds := by
  obtain ⟨as, r⟩ := h
  cases r with
  | list h1 h2 h3 h4 => exact ⟨_, _, _, _, rfl, h1, h2, h3, _, h4⟩
theorem Is.tuple_inv {P : Heap} {v : Value} {ds : List PyData} (h : Is P v (.tuple ds)) :
    ∃ a o vs n, v = .ref a ∧ P.get? a = some o ∧ o.cls = .type "tuple" ∧ o.data = .seq vs n ∧ IsAll P vs.toList ds := by
  obtain ⟨as, r⟩ := h
  cases r with
  | tuple h1 h2 h3 h4 => exact ⟨_, _, _, _, rfl, h1, h2, h3, _, h4⟩
theorem Is.list {P : Heap} {a : Addr} {o : Obj} {vs : Array Value} {n : Nat} {ds : List PyData} (h1 : P.get? a = some o) (h2 : o.cls = .type "list") (h3 : o.data = .seq vs n) (h4 : IsAll P vs.toList ds) : Is P (.ref a) (.list ds) :=
  let ⟨_, r⟩ := h4; ⟨_, .list h1 h2 h3 r⟩
theorem Is.tuple {P : Heap} {a : Addr} {o : Obj} {vs : Array Value} {n : Nat} {ds : List PyData} (h1 : P.get? a = some o) (h2 : o.cls = .type "tuple") (h3 : o.data = .seq vs n) (h4 : IsAll P vs.toList ds) : Is P (.ref a) (.tuple ds) :=
  let ⟨_, r⟩ := h4; ⟨_, .tuple h1 h2 h3 r⟩

theorem IsAll.nil {P : Heap} : IsAll P [] [] := ⟨_, .nil⟩
theorem IsAll.cons {P : Heap} {v : Value} {d : PyData} {vs : List Value} {ds : List PyData} (h : Is P v d) (r : IsAll P vs ds) : IsAll P (v :: vs) (d :: ds) :=
  let ⟨_, x⟩ := h; let ⟨_, y⟩ := r; ⟨_, .cons x y⟩
theorem IsAll.nil_inv {P : Heap} {vs : List Value} (h : IsAll P vs []) : vs = [] := by obtain ⟨as, r⟩ := h; cases r; rfl
theorem IsAll.cons_inv {P : Heap} {vs : List Value} {d : PyData} {ds : List PyData} (h : IsAll P vs (d :: ds)) : ∃ v r, vs = v :: r ∧ Is P v d ∧ IsAll P r ds := by
  obtain ⟨as, r⟩ := h
  cases r with
  | cons x y => exact ⟨_, _, rfl, ⟨_, x⟩, ⟨_, y⟩⟩
theorem IsAll.vcons_inv {P : Heap} {v : Value} {vs : List Value} {ds : List PyData} (h : IsAll P (v :: vs) ds) : ∃ d r, ds = d :: r ∧ Is P v d ∧ IsAll P vs r := by
  obtain ⟨as, r⟩ := h
  cases r with
  | cons x y => exact ⟨_, _, rfl, ⟨_, x⟩, ⟨_, y⟩⟩
theorem IsAll.length {P : Heap} : ∀ {vs : List Value} {ds : List PyData}, IsAll P vs ds → vs.length = ds.length
  | [], ds, h => by obtain ⟨as, r⟩ := h; cases r; rfl
  | v :: vs, ds, h => by
    obtain ⟨d, r, rfl, _, h2⟩ := h.vcons_inv
    simp [IsAll.length h2]
theorem IsAll.append {P : Heap} : ∀ {vs ws : List Value} {ds es : List PyData}, IsAll P vs ds → IsAll P ws es → IsAll P (vs ++ ws) (ds ++ es)
  | [], _, _, _, h, k => by obtain ⟨as, r⟩ := h; cases r; exact k
  | v :: vs, ws, ds, es, h, k => by
    obtain ⟨d, r, rfl, h1, h2⟩ := h.vcons_inv
    exact .cons h1 (IsAll.append h2 k)
theorem IsAll.get {P : Heap} : ∀ {vs : List Value} {ds : List PyData} {k : Nat} {d : PyData}, IsAll P vs ds → ds[k]? = some d → ∃ v, vs[k]? = some v ∧ Is P v d
  | [], ds, k, d, h, e => by obtain ⟨as, r⟩ := h; cases r; simp at e
  | v :: vs, ds, k, d, h, e => by
    obtain ⟨d', r, rfl, h1, h2⟩ := h.vcons_inv
    cases k with
    | zero => simp at e; subst e; exact ⟨v, rfl, h1⟩
    | succ k => simpa using IsAll.get h2 (by simpa using e)
theorem IsAll.getv {P : Heap} : ∀ {vs : List Value} {ds : List PyData} {k : Nat} {v : Value}, IsAll P vs ds → vs[k]? = some v → ∃ d, ds[k]? = some d ∧ Is P v d
  | [], ds, k, d, h, e => by simp at e
  | v :: vs, ds, k, d, h, e => by
    obtain ⟨d', r, rfl, h1, h2⟩ := h.vcons_inv
    cases k with
    | zero => simp at e; subst e; exact ⟨d', rfl, h1⟩
    | succ k => simpa using IsAll.getv h2 (by simpa using e)
theorem IsAll.one {P : Heap} {v : Value} {d : PyData} (h : Is P v d) : IsAll P [v] [d] := .cons h .nil
theorem IsAll.snoc {P : Heap} {vs : List Value} {ds : List PyData} {v : Value} {d : PyData} (h : IsAll P vs ds) (k : Is P v d) : IsAll P (vs ++ [v]) (ds ++ [d]) := h.append (.one k)
theorem IsAll.take {P : Heap} : ∀ {vs : List Value} {ds : List PyData} (k : Nat), IsAll P vs ds → IsAll P (vs.take k) (ds.take k)
  | [], ds, k, h => by obtain ⟨as, r⟩ := h; cases r; simp; exact .nil
  | v :: vs, ds, k, h => by
    obtain ⟨d', r, rfl, h1, h2⟩ := h.vcons_inv
    cases k with
    | zero => simp; exact .nil
    | succ k => simpa using IsAll.cons h1 (IsAll.take k h2)
theorem IsAll.drop {P : Heap} : ∀ {vs : List Value} {ds : List PyData} (k : Nat), IsAll P vs ds → IsAll P (vs.drop k) (ds.drop k)
  | [], ds, k, h => by obtain ⟨as, r⟩ := h; cases r; simp; exact .nil
  | v :: vs, ds, k, h => by
    cases k with
    | zero => simpa using h
    | succ k =>
      obtain ⟨d', r, rfl, h1, h2⟩ := h.vcons_inv
      simpa using IsAll.drop k h2
/-- a scalar: its reading hangs on no heap -/
def scal : PyData → Bool
  | .none | .bool _ | .int _ | .str _ => true
  | _ => false
theorem Is.scal {P P' : Heap} {v : Value} {d : PyData} (h : Is P v d) (hs : Mine.scal d = true) : Is P' v d := by
  obtain ⟨as, r⟩ := h
  cases r with
  | none => exact .n
  | bool b => exact .b b
  | int i t => exact .i i t
  | str x t => exact .s x t
  | _ => cases hs
end Mine
end

section
set_option maxRecDepth 100000
set_option linter.unusedVariables false
namespace Mine
open PySem PySem.W PyProof.Rows PySem.Spec PySem.Calls

def frs (Fs : List Env) : List Addr := Fs.filterMap (·.frame)

/-- h' keeps all of h; frames may change their slots -/
def Ext (fr : List Addr) (h h' : Heap) : Prop := ∀ b o, h.get? b = some o → (b ∉ fr → h'.get? b = some o) ∧ ∃ sl, h'.get? b = some { o with slots := sl }
theorem Ext.refl (fr : List Addr) (h : Heap) : Ext fr h h := fun _ o e => ⟨fun _ => e, o.slots, e⟩
theorem Ext.trans {fr : List Addr} {a b c : Heap} (x : Ext fr a b) (y : Ext fr b c) : Ext fr a c := fun p o e => by
  refine ⟨fun hn => (y _ _ ((x _ _ e).1 hn)).1 hn, ?_⟩
  obtain ⟨sl, e1⟩ := (x _ _ e).2
  obtain ⟨sl', e2⟩ := (y _ _ e1).2
  exact ⟨sl', e2⟩
theorem Ext.of_stays {fr : List Addr} {h h' : Heap} (x : h.StaysIn h') : Ext fr h h' := fun _ o e => ⟨fun _ => x _ _ e, o.slots, x _ _ e⟩
theorem Ext.some {fr : List Addr} {h h' : Heap} (x : Ext fr h h') {b : Addr} {o : Obj} (e : h.get? b = some o) : ∃ o', h'.get? b = some o' ∧ o'.data = o.data ∧ o'.cls = o.cls :=
  let ⟨_, sl, e'⟩ := x b o e; ⟨_, e', rfl, rfl⟩
theorem Ext.none {fr : List Addr} {h h' : Heap} (x : Ext fr h h') {b : Addr} (e : h'.get? b = none) : h.get? b = none := by
  cases q : h.get? b with
  | none => rfl
  | some o => obtain ⟨o', e', _⟩ := x.some q; rw [e] at e'; cases e'
theorem ns_ext {fr : List Addr} {h h' : Heap} {a : Addr} {m : Str → Option Value} (n : h.Ns a m) (x : Ext fr h h') : h'.Ns a m := by
  obtain ⟨o, es, ep, e, hd, r⟩ := n
  obtain ⟨o', e', hd', _⟩ := x.some e
  exact ⟨o', es, ep, e', hd'.trans hd, r⟩
theorem cell_ext {fr : List Addr} {h h' : Heap} {a : Addr} {v : Option Value} (n : h.IsCell a v) (x : Ext fr h h') : h'.IsCell a v := by
  obtain ⟨o, e, hd⟩ := n
  obtain ⟨o', e', hd', _⟩ := x.some e
  exact ⟨o', e', hd'.trans hd⟩
/-- the same but for objects outside h -/
theorem ext_sameBut {fr : List Addr} {h₀ h h' : Heap} {a : Addr} (x : Ext fr h₀ h) (hs : Heap.SameBut a h h') (ha : h₀.get? a = Option.none) : Ext fr h₀ h' := fun b o e => by
  have hb : b ≠ a := fun q => by rw [q, ha] at e; cases e
  rw [hs.2 b hb]; exact x b o e

structure FnRec where
  name : Str
  params : Arguments
  body : List Stmt
  scope : Scope

structure TI where
  mg : Str → Option Value
  mb : Str → Option Value
  fns : List FnRec
  dat : List (Str × PyData)
  bl : List (Str × Value)

structure Tp (T : TI) (P : Heap) : Prop where
  g : P.Ns mainGlobals T.mg
  b : P.Ns builtinsNs T.mb
  nolimit : P.NoLimit
  fn : ∀ d ∈ T.fns, ∃ a o pm code doc, T.mg d.name = some (.ref a) ∧ P.get? a = some o ∧ o.data = .func (docDef d.name d.params d.body d.scope pm code doc) ∧ P.CodeRec code d.name
  dt : ∀ p ∈ T.dat, ∃ v, T.mg p.1 = some v ∧ Is P v p.2
  bl : ∀ p ∈ T.bl, T.mg p.1 = none ∧ T.mb p.1 = some p.2
theorem Tp.mono {T : TI} {P P' : Heap} (t : Tp T P) (k : P.StaysIn P') : Tp T P' where
  g := t.g.keeps k
  b := t.b.keeps k
  nolimit := t.nolimit.keeps k
  fn := fun d hd => let ⟨a, o, pm, code, doc, h1, h2, h3, h4⟩ := t.fn d hd; ⟨a, o, pm, code, doc, h1, k _ _ h2, h3, h4.keeps k⟩
  dt := fun p hp => let ⟨v, h1, h2⟩ := t.dt p hp; ⟨v, h1, h2.mono k⟩
  bl := t.bl

structure Kx where
  prog : Program
  w : World
  T : TI
  n : Nat
  c : Bool
  Fs : List Env

abbrev Kx.M (K : Kx) : Model := model K.prog K.w

structure OkA (K : Kx) (A : Around) : Prop where
  fr : A.frames = some K.Fs
  dp : A.depth + K.n < recursionLimit
  un : A.units + 16 * K.n + 200 < cLine
  hd : K.c = true → A.handled = none

def lobj (vs : List Value) (n : Nat) : Obj := { cls := .type "list", data := .seq vs.toArray n }

inductive Slot where
  | dat (d : PyData)
  | own (a : Addr) (ds : List PyData)
  | dct (a : Addr) (n : Nat) (f : Int → Option PyData)
def Slot.adr : Slot → Option Addr
  | .dat _ => none
  | .own a _ => some a
  | .dct a _ _ => some a
abbrev St := List (Str × Slot)

def DMap (P : Heap) (fv : Int → Option Value) (f : Int → Option PyData) : Prop :=
  ∀ k, (f k = none ∧ fv k = none) ∨ ∃ d v, f k = some d ∧ fv k = some v ∧ Is P v d
theorem DMap.mono {P P' : Heap} {fv : Int → Option Value} {f : Int → Option PyData} (h : DMap P fv f) (k : P.StaysIn P') : DMap P' fv f := fun i =>
  (h i).imp id fun ⟨d, v, h1, h2, h3⟩ => ⟨d, v, h1, h2, h3.mono k⟩

structure Am where
  h₀ : Heap
  P₀ : Heap
  g₀ : Array GenState
  o₀ : OsState
structure Fm where
  env : Env
  W : List Str

def Holds (env : Env) (h : Heap) (x : Str) (v : Value) : Prop :=
  (env.kindOf x = some .local ∧ ∃ m, h.Ns env.locals m ∧ m x = some v) ∨
  ((env.kindOf x = some .cell ∨ env.kindOf x = some .free) ∧ (x == ("__classdict__" : Str)) = false ∧ ∃ c, env.cells.lookup x = some c ∧ h.IsCell c (some v))

def SlotIs (K : Kx) (L : Addr) (M : Am) (P h : Heap) : Slot → Value → Prop
  | .dat d, v => Is P v d
  | .own a ds, v => v = .ref a ∧ (∃ vs n, h.get? a = some (lobj vs n) ∧ IsAll P vs ds) ∧ P.get? a = none ∧ M.h₀.get? a = none ∧ a ∉ frs K.Fs ∧ a ≠ L
  | .dct a n f, v => v = .ref a ∧ (∃ fv, h.IntMap a fv ∧ h.DictLe a n ∧ DMap P fv f) ∧ P.get? a = none ∧ M.h₀.get? a = none ∧ a ∉ frs K.Fs ∧ a ≠ L

structure Rel (K : Kx) (F : Fm) (M : Am) (P : Heap) (σ : St) (s : Shared) : Prop where
  tp : Tp K.T P
  sub0 : M.P₀.StaysIn P
  stay : P.StaysIn s.heap
  ext : Ext (frs K.Fs) M.h₀ s.heap
  new : ∀ a o, P.get? a = some o → M.P₀.get? a = some o ∨ M.h₀.get? a = none
  frm : s.heap.FunFrames P K.Fs
  loc : ∃ m, s.heap.Ns F.env.locals m
  locP : P.get? F.env.locals = none
  loc0 : M.h₀.get? F.env.locals = none
  cel : ∀ x ∈ F.W, ∃ c v, F.env.cells.lookup x = some c ∧ s.heap.IsCell c v ∧ P.get? c = none ∧ M.h₀.get? c = none
  celd : ∀ x ∈ F.W, ∀ y c, F.env.cells.lookup x = some c → F.env.cells.lookup y = some c → y = x
  var : ∀ x sl, σ.lookup x = some sl → ∃ v, Holds F.env s.heap x v ∧ SlotIs K F.env.locals M P s.heap sl v
  fn : F.env.scope.kind = .function
  glb : F.env.globals = mainGlobals
  blt : F.env.builtins = builtinsNs
  gens : s.gens = M.g₀
  os : s.os = M.o₀

structure Grow (fr : List Addr) (P : Heap) (s : Shared) (P' : Heap) (s' : Shared) : Prop where
  sub : P.StaysIn P'
  stay : P'.StaysIn s'.heap
  ext : Ext fr s.heap s'.heap
  new : ∀ a o, P'.get? a = some o → P.get? a = some o ∨ s.heap.get? a = none
  gens : s'.gens = s.gens
  os : s'.os = s.os

theorem Grow.refl {fr : List Addr} {P : Heap} {s : Shared} (st : P.StaysIn s.heap) : Grow fr P s P s := ⟨stays_refl _, st, Ext.refl fr s.heap, fun _ _ e => .inl e, rfl, rfl⟩
theorem Grow.trans {fr : List Addr} {P P' P'' : Heap} {s s' s'' : Shared} (x : Grow fr P s P' s') (y : Grow fr P' s' P'' s'') : Grow fr P s P'' s'' where
  sub := stays_trans x.sub y.sub
  stay := y.stay
  ext := x.ext.trans y.ext
  new := fun a o e => (y.new a o e).elim (x.new a o) fun q => .inr (x.ext.none q)
  gens := y.gens.trans x.gens
  os := y.os.trans x.os
/-- a step that keeps the whole heap -/
theorem Grow.of_stays {fr : List Addr} {P : Heap} {s s' : Shared} (st : P.StaysIn s.heap) (k : s.heap.StaysIn s'.heap) (hg : s'.gens = s.gens := by rfl) (ho : s'.os = s.os := by rfl) : Grow fr P s P s' :=
  ⟨stays_refl _, stays_trans st k, .of_stays k, fun _ _ e => .inl e, hg, ho⟩
/-- a new object is frozen -/
theorem Grow.freeze {fr : List Addr} {P P' : Heap} {s s' : Shared} {a : Addr} {o : Obj} (g : Grow fr P s P' s') (ho : s'.heap.get? a = some o) (hn : s.heap.get? a = none) :
    ∃ P'', Grow fr P s P'' s' ∧ P'.StaysIn P'' ∧ P''.get? a = some o := by
  obtain ⟨P'', h1, h2, h3, h4⟩ := Mine.freeze g.stay ho
  exact ⟨P'', ⟨stays_trans g.sub h1, h2, g.ext, fun b ob e => (h4 b ob e).elim (g.new b ob) fun q => .inr (q ▸ hn), g.gens, g.os⟩, h1, h3⟩

theorem funFrames_ext {fr : List Addr} {h h' P : Heap} {l : List Env} (hl : h.FunFrames P l) (x : Ext fr h h') : h'.FunFrames P l :=
  hl.of_keeps fun b o e _ => let ⟨o', e', hd, _⟩ := x.some e; ⟨o', e', hd⟩
theorem funFrames_base {h P P' : Heap} : ∀ {l : List Env}, h.FunFrames P l → (∀ a o, P'.get? a = some o → P.get? a = some o ∨ h.get? a = none) → h.FunFrames P' l
  | [], _, _ => trivial
  | _ :: _, ⟨hk, ⟨L, o, hf, hn, ho, hd⟩, hr⟩, hnew => by
    have hL : P'.get? L = none := by
      cases q : P'.get? L with
      | none => rfl
      | some o' =>
        rcases hnew L o' q with e | e
        · rw [hn] at e; cases e
        · rw [ho] at e; cases e
    exact ⟨hk, ⟨L, o, hf, hL, ho, hd⟩, funFrames_base hr hnew⟩

section
variable {K : Kx} {F : Fm} {M : Am} {P P' : Heap} {σ : St} {s s' : Shared}

theorem holds_ext {fr : List Addr} {env : Env} {h h' : Heap} {x : Str} {v : Value} (H : Holds env h x v) (e : Ext fr h h') : Holds env h' x v := by
  rcases H with ⟨hk, m, hn, hv⟩ | ⟨hk, hx, c, hc, hv⟩
  · exact .inl ⟨hk, m, ns_ext hn e, hv⟩
  · exact .inr ⟨hk, hx, c, hc, cell_ext hv e⟩
theorem slot_grow {L : Addr} {sl : Slot} {v : Value} (H : SlotIs K L M P s.heap sl v) (g : Grow (frs K.Fs) P s P' s') : SlotIs K L M P' s'.heap sl v := by
  cases sl with
  | dat d => exact Is.mono g.sub H
  | own a ds =>
    obtain ⟨hv, ⟨vs, n, ho, hi⟩, h1, h2, h3, h4⟩ := H
    refine ⟨hv, ⟨vs, n, (g.ext _ _ ho).1 h3, hi.mono g.sub⟩, ?_, h2, h3, h4⟩
    cases q : P'.get? a with
    | none => rfl
    | some o' =>
      rcases g.new a o' q with e | e
      · rw [h1] at e; cases e
      · rw [ho] at e; cases e
  | dct a n f =>
    obtain ⟨hv, ⟨fv, hm, hz, hi⟩, h1, h2, h3, h4⟩ := H
    obtain ⟨o, es, ep, ho, hm'⟩ := id hm
    have hk : ∀ o, s.heap.get? a = some o → s'.heap.get? a = some o := fun o e => (g.ext _ _ e).1 h3
    refine ⟨hv, ⟨fv, ⟨o, es, ep, hk _ ho, hm'⟩, hz.of_same ho (hk _ ho), hi.mono g.sub⟩, ?_, h2, h3, h4⟩
    cases q : P'.get? a with
    | none => rfl
    | some o' =>
      rcases g.new a o' q with e | e
      · rw [h1] at e; cases e
      · rw [ho] at e; cases e

theorem Rel.grow (R : Rel K F M P σ s) (g : Grow (frs K.Fs) P s P' s') : Rel K F M P' σ s' where
  tp := R.tp.mono g.sub
  sub0 := stays_trans R.sub0 g.sub
  stay := g.stay
  ext := R.ext.trans g.ext
  new := fun a o e => (g.new a o e).elim (R.new a o) fun q => .inr (R.ext.none q)
  frm := funFrames_ext (funFrames_base R.frm g.new) g.ext
  loc := let ⟨m, hn⟩ := R.loc; ⟨m, ns_ext hn g.ext⟩
  locP := by
    cases q : P'.get? F.env.locals with
    | none => rfl
    | some o' =>
      obtain ⟨m, o, _, _, ho, _⟩ := R.loc
      rcases g.new _ o' q with e | e
      · rw [R.locP] at e; cases e
      · rw [ho] at e; cases e
  loc0 := R.loc0
  cel := fun x hx => by
    obtain ⟨c, v, h1, h2, h3, h4⟩ := R.cel x hx
    refine ⟨c, v, h1, cell_ext h2 g.ext, ?_, h4⟩
    cases q : P'.get? c with
    | none => rfl
    | some o' =>
      obtain ⟨o, ho, _⟩ := h2
      rcases g.new _ o' q with e | e
      · rw [h3] at e; cases e
      · rw [ho] at e; cases e
  celd := R.celd
  var := fun x sl hx => let ⟨v, h1, h2⟩ := R.var x sl hx; ⟨v, holds_ext h1 g.ext, slot_grow h2 g⟩
  fn := R.fn
  glb := R.glb
  blt := R.blt
  gens := g.gens.trans R.gens
  os := g.os.trans R.os

def Sub (σ' σ : St) : Prop := ∀ x sl, σ'.lookup x = some sl → σ.lookup x = some sl
theorem Rel.sub {σ' : St} (R : Rel K F M P σ s) (h : Sub σ' σ) : Rel K F M P σ' s := { R with var := fun x sl hx => R.var x sl (h x sl hx) }
theorem Sub.refl (σ : St) : Sub σ σ := fun _ _ e => e
theorem Sub.nil {σ : St} : Sub [] σ := fun _ _ e => by cases e
theorem mem_of_lookup' {α : Type} : ∀ {l : List (Str × α)} {n : Str} {c : α}, l.lookup n = some c → (n, c) ∈ l
  | (k, v) :: r, n, c, h => by
    rw [List.lookup_cons] at h
    cases hb : n == k with
    | true => rw [hb] at h; cases h; rw [beq_iff_eq.mp hb]; exact List.mem_cons_self
    | false => rw [hb] at h; exact List.mem_cons_of_mem _ (mem_of_lookup' h)
def SubL : St → St → Prop
  | [], _ => True
  | p :: r, σ => σ.lookup p.1 = some p.2 ∧ SubL r σ
theorem SubL.sub : ∀ {σ' σ : St}, SubL σ' σ → Sub σ' σ
  | [], _, _, _, _, e => by cases e
  | (k, v) :: r, σ, ⟨h1, h2⟩, x, sl, e => by
    rw [List.lookup_cons] at e
    cases hb : x == k with
    | true => rw [hb] at e; cases e; rw [beq_iff_eq.mp hb]; exact h1
    | false => rw [hb] at e; exact SubL.sub h2 x sl e
theorem lookup_cons_ne {x y : Str} {sl : Slot} {σ : St} (h : y ≠ x) : List.lookup y ((x, sl) :: σ) = σ.lookup y := by
  rw [List.lookup_cons]; have : (y == x) = false := by simpa using h
  rw [this]
theorem lookup_cons_eq {x : Str} {sl : Slot} {σ : St} : List.lookup x ((x, sl) :: σ) = some sl := by
  rw [List.lookup_cons]; simp
end
end Mine
end

section
set_option maxRecDepth 100000
set_option linter.unusedVariables false
namespace Mine
open PySem PySem.W PyProof.Rows PySem.Spec PySem.Calls

section
variable {K : Kx} {F : Fm} {M : Am} {P P' : Heap} {σ : St} {s s' : Shared}

theorem ns_data {h : Heap} {a : Addr} {m : Str → Option Value} (n : h.Ns a m) : ∃ o es ep, h.get? a = some o ∧ o.data = .dict es ep := let ⟨o, es, ep, h1, h2, _⟩ := n; ⟨o, es, ep, h1, h2⟩
theorem funFrames_same {h h' P : Heap} {a : Addr} : ∀ {l : List Env}, h.FunFrames P l → Heap.SameBut a h h' → (∃ o, h'.get? a = some o ∧ ∀ vs, o.data ≠ .fields vs) → h'.FunFrames P l
  | [], _, _, _ => trivial
  | _ :: _, ⟨hk, ⟨L, o, hf, hn, ho, hd⟩, hr⟩, hs, ha => by
    refine ⟨hk, ?_, funFrames_same hr hs ha⟩
    by_cases e : L = a
    · subst e; obtain ⟨o', h1, h2⟩ := ha; exact ⟨L, o', hf, hn, h1, h2⟩
    · exact ⟨L, o, hf, hn, (hs.2 L e).trans ho, hd⟩

/-- what a slot is at v does not hang on an object that is no list, no dict of the frame's -/
theorem slot_same {L a : Addr} {sl : Slot} {v : Value} {h h' : Heap} (H : SlotIs K L M P h sl v) (hs : Heap.SameBut a h h') (ha : sl.adr ≠ some a) : SlotIs K L M P h' sl v := by
  cases sl with
  | dat d => exact H
  | own b ds =>
    obtain ⟨hv, ⟨vs, n, ho, hi⟩, r⟩ := H
    have hb : b ≠ a := fun e => ha (by rw [← e]; rfl)
    exact ⟨hv, ⟨vs, n, (hs.2 b hb).trans ho, hi⟩, r⟩
  | dct b n f =>
    obtain ⟨hv, ⟨fv, hm, hz, hi⟩, r⟩ := H
    have hb : b ≠ a := fun e => ha (by rw [← e]; rfl)
    obtain ⟨o, es, ep, ho, hm'⟩ := hm
    exact ⟨hv, ⟨fv, ⟨o, es, ep, (hs.2 b hb).trans ho, hm'⟩, hz.of_same ho ((hs.2 b hb).trans ho), hi⟩, r⟩
theorem slot_ne_loc {L a : Addr} {sl : Slot} {v : Value} {h : Heap} (H : SlotIs K L M P h sl v) : sl.adr ≠ some L := by
  cases sl with
  | dat d => intro e; cases e
  | own b ds => intro e; cases e; exact H.2.2.2.2.2 rfl
  | dct b n f => intro e; cases e; exact H.2.2.2.2.2 rfl
theorem slot_ne_cell {L a : Addr} {sl : Slot} {v : Value} {h : Heap} {c : Option Value} (H : SlotIs K L M P h sl v) (hc : h.IsCell a c) : sl.adr ≠ some a := by
  obtain ⟨o, ho, hd⟩ := hc
  cases sl with
  | dat d => intro e; cases e
  | own b ds => intro e; cases e; obtain ⟨_, ⟨vs, n, hb, _⟩, _⟩ := H; rw [hb] at ho; cases ho; cases hd
  | dct b n f => intro e; cases e; obtain ⟨_, ⟨fv, ⟨o', es, ep, hb, _, hd', _⟩, _⟩, _⟩ := H; rw [hb] at ho; cases ho; rw [hd] at hd'; cases hd'

theorem Rel.store_local {x : Str} {v : Value} {sl : Slot} {m : Str → Option Value} {h' : Heap} {tk : Nat} (R : Rel K F M P σ s) (hx : F.env.kindOf x = some .local) (hn : s.heap.Ns F.env.locals m)
    (hn' : h'.Ns F.env.locals (fun y => if y = x then some v else m y)) (hs : Heap.SameBut F.env.locals s.heap h') (hv : SlotIs K F.env.locals M P s.heap sl v) :
    Rel K F M P ((x, sl) :: σ) { s with heap := h', toks := tk } where
  tp := R.tp
  sub0 := R.sub0
  stay := fun b o e => by
    have hb : b ≠ F.env.locals := fun q => by rw [q, R.locP] at e; cases e
    exact (hs.2 b hb).trans (R.stay b o e)
  ext := ext_sameBut R.ext hs R.loc0
  new := R.new
  frm := by
    obtain ⟨o, es, ep, h1, h2⟩ := ns_data hn'
    exact funFrames_same R.frm hs ⟨o, h1, fun vs q => by rw [h2] at q; cases q⟩
  loc := ⟨_, hn'⟩
  locP := R.locP
  loc0 := R.loc0
  cel := fun y hy => by
    obtain ⟨c, u, h1, h2, h3, h4⟩ := R.cel y hy
    refine ⟨c, u, h1, h2.sameBut hs fun q => ?_, h3, h4⟩
    obtain ⟨o, ho, hd⟩ := h2
    obtain ⟨o', es, ep, h1', h2'⟩ := ns_data hn
    rw [q, h1'] at ho; cases ho; rw [hd] at h2'; cases h2'
  celd := R.celd
  var := fun y tl hy => by
    by_cases e : y = x
    · subst e; rw [lookup_cons_eq] at hy; cases hy
      exact ⟨v, .inl ⟨hx, _, hn', by simp⟩, slot_same hv hs (slot_ne_loc (a := 0) hv)⟩
    · rw [lookup_cons_ne e] at hy
      obtain ⟨u, h1, h2⟩ := R.var y tl hy
      refine ⟨u, ?_, slot_same h2 hs (slot_ne_loc (a := 0) h2)⟩
      rcases h1 with ⟨hk, m', hm', hv'⟩ | ⟨hk, hx', c, hc, hv'⟩
      · refine .inl ⟨hk, _, hn', ?_⟩
        rw [if_neg e]
        obtain ⟨o1, es1, ep1, g1, d1, _, f1⟩ := hm'
        obtain ⟨o2, es2, ep2, g2, d2, _, f2⟩ := hn
        rw [g1] at g2; cases g2; rw [d1] at d2; cases d2
        rw [← f2, f1]; exact hv'
      · refine .inr ⟨hk, hx', c, hc, hv'.sameBut hs fun q => ?_⟩
        obtain ⟨o, ho, hd⟩ := hv'
        obtain ⟨o', es, ep, h1', h2'⟩ := ns_data hn
        rw [q, h1'] at ho; cases ho; rw [hd] at h2'; cases h2'
  fn := R.fn
  glb := R.glb
  blt := R.blt
  gens := R.gens
  os := R.os

theorem Rel.store_cell {x : Str} {v : Value} {sl : Slot} {c : Addr} {v₀ : Option Value} {h' : Heap} {tk : Nat} (R : Rel K F M P σ s) (hx : F.env.kindOf x = some .cell) (hW : x ∈ F.W) (hcl : (x == ("__classdict__" : Str)) = false) (hc : F.env.cells.lookup x = some c)
    (hv₀ : s.heap.IsCell c v₀) (hv' : h'.IsCell c (some v)) (hs : Heap.SameBut c s.heap h') (hv : SlotIs K F.env.locals M P s.heap sl v) :
    Rel K F M P ((x, sl) :: σ) { s with heap := h', toks := tk } := by
  obtain ⟨c', u₀, hc', _, hP, h0⟩ := R.cel x hW
  rw [hc] at hc'; cases hc'
  have hL : F.env.locals ≠ c := fun q => by
    obtain ⟨m, o, es, ep, g1, d1, _⟩ := R.loc
    obtain ⟨o', g2, d2⟩ := hv₀
    rw [q, g2] at g1; cases g1; rw [d2] at d1; cases d1
  exact {
    tp := R.tp
    sub0 := R.sub0
    stay := fun b o e => by
      have hb : b ≠ c := fun q => by rw [q, hP] at e; cases e
      exact (hs.2 b hb).trans (R.stay b o e)
    ext := ext_sameBut R.ext hs h0
    new := R.new
    frm := by
      obtain ⟨o, h1, h2⟩ := hv'
      exact funFrames_same R.frm hs ⟨o, h1, fun vs q => by rw [h2] at q; cases q⟩
    loc := let ⟨m, hn⟩ := R.loc; ⟨m, hn.sameBut hs hL⟩
    locP := R.locP
    loc0 := R.loc0
    cel := fun y hy => by
      obtain ⟨d, u, h1, h2, h3, h4⟩ := R.cel y hy
      by_cases q : d = c
      · subst q; exact ⟨d, _, h1, hv', h3, h4⟩
      · exact ⟨d, u, h1, h2.sameBut hs q, h3, h4⟩
    celd := R.celd
    var := fun y tl hy => by
      by_cases e : y = x
      · subst e; rw [lookup_cons_eq] at hy; cases hy
        exact ⟨v, .inr ⟨.inl hx, hcl, c, hc, hv'⟩, slot_same hv hs (slot_ne_cell hv hv₀)⟩
      · rw [lookup_cons_ne e] at hy
        obtain ⟨u, h1, h2⟩ := R.var y tl hy
        refine ⟨u, ?_, slot_same h2 hs (slot_ne_cell h2 hv₀)⟩
        rcases h1 with ⟨hk, m', hm', hv'⟩ | ⟨hk, hx', d, hd, hv''⟩
        · exact .inl ⟨hk, m', hm'.sameBut hs hL, hv'⟩
        · refine .inr ⟨hk, hx', d, hd, hv''.sameBut hs fun q => ?_⟩
          subst q
          exact e (R.celd x hW y d hc hd)
    fn := R.fn
    glb := R.glb
    blt := R.blt
    gens := R.gens
    os := R.os }

/-- no other name of σ holds the object a -/
def Apart (x : Str) (a : Addr) (σ : St) : Prop := ∀ y sl, y ≠ x → σ.lookup y = some sl → sl.adr ≠ some a
theorem apart_of {x : Str} {a : Addr} {σ : St} (h : ∀ p ∈ σ, p.1 ≠ x → p.2.adr ≠ some a) : Apart x a σ := fun y sl hy hl => h _ (mem_of_lookup' hl) hy

/-- the object of an owned name is turned -/
theorem Rel.turn {x : Str} {a : Addr} {sl sl' : Slot} {h' : Heap} {tk : Nat} (R : Rel K F M P σ s) (hx : σ.lookup x = some sl) (ha : sl.adr = some a) (hs : Heap.SameBut a s.heap h') (hap : Apart x a σ)
    (hv : ∀ v, SlotIs K F.env.locals M P s.heap sl v → SlotIs K F.env.locals M P h' sl' v) : Rel K F M P ((x, sl') :: σ) { s with heap := h', toks := tk } := by
  obtain ⟨v, H, S⟩ := R.var x sl hx
  have facts : P.get? a = none ∧ M.h₀.get? a = none ∧ a ∉ frs K.Fs ∧ a ≠ F.env.locals ∧ (∃ o, s.heap.get? a = some o ∧ ((∃ vs n, o.data = .seq vs n) ∨ (o.cls = .type "dict" ∧ ∃ es n, o.data = .dict es n))) := by
    cases sl with
    | dat d => cases ha
    | own b ds =>
      cases ha
      obtain ⟨hv, ⟨vs, n, ho, hi⟩, h1, h2, h3, h4⟩ := S
      exact ⟨h1, h2, h3, h4, _, ho, .inl ⟨_, _, rfl⟩⟩
    | dct b n f =>
      cases ha
      obtain ⟨hv, ⟨fv, ⟨o, es, ep, ho, hc, hd, _⟩, _⟩, h1, h2, h3, h4⟩ := S
      exact ⟨h1, h2, h3, h4, o, ho, .inr ⟨hc, es, ep, hd⟩⟩
  obtain ⟨hP, h0, hf, hL, o, ho, hk⟩ := facts
  have ncell : ∀ c u, s.heap.IsCell c u → c ≠ a := fun c u ⟨o', g, d⟩ q => by
    rw [q, ho] at g; cases g
    rcases hk with ⟨_, _, e⟩ | ⟨_, _, _, e⟩ <;> (rw [d] at e; cases e)
  exact {
    tp := R.tp
    sub0 := R.sub0
    stay := fun b o e => by
      have hb : b ≠ a := fun q => by rw [q, hP] at e; cases e
      exact (hs.2 b hb).trans (R.stay b o e)
    ext := ext_sameBut R.ext hs h0
    new := R.new
    frm := by
      have : ∀ {l : List Env}, s.heap.FunFrames P l → a ∉ frs l → h'.FunFrames P l := by
        intro l
        induction l with
        | nil => intro _ _; trivial
        | cons e r ih =>
          rintro ⟨hk, ⟨L, o, hf, hn, ho, hd⟩, hr⟩ hna
          have h1 : a ∉ L :: frs r := by simpa [frs, List.filterMap_cons, hf] using hna
          refine ⟨hk, ⟨L, o, hf, hn, (hs.2 L fun q => h1 (by rw [q]; exact .head _)).trans ho, hd⟩, ih hr fun q => h1 (.tail _ q)⟩
      exact this R.frm hf
    loc := let ⟨m, hn⟩ := R.loc; ⟨m, hn.sameBut hs (Ne.symm hL)⟩
    locP := R.locP
    loc0 := R.loc0
    cel := fun y hy => by
      obtain ⟨d, u, h1, h2, h3, h4⟩ := R.cel y hy
      exact ⟨d, u, h1, h2.sameBut hs (ncell d u h2), h3, h4⟩
    celd := R.celd
    var := fun y tl hy => by
      have hold : ∀ y u, Holds F.env s.heap y u → Holds F.env h' y u := by
        rintro y u (⟨hk, m', hm', hv'⟩ | ⟨hk, hx', d, hd, hv''⟩)
        · exact .inl ⟨hk, m', hm'.sameBut hs (Ne.symm hL), hv'⟩
        · exact .inr ⟨hk, hx', d, hd, hv''.sameBut hs (ncell d _ hv'')⟩
      by_cases e : y = x
      · subst e; rw [lookup_cons_eq] at hy; cases hy
        exact ⟨v, hold _ _ H, hv v S⟩
      · rw [lookup_cons_ne e] at hy
        obtain ⟨u, h1, h2⟩ := R.var y tl hy
        exact ⟨u, hold _ _ h1, slot_same h2 hs (hap y tl e hy)⟩
    fn := R.fn
    glb := R.glb
    blt := R.blt
    gens := R.gens
    os := R.os }

/-- an owned list becomes data -/
theorem Rel.freeze {x : Str} {a : Addr} {ds : List PyData} (R : Rel K F M P σ s) (hx : σ.lookup x = some (.own a ds)) (hap : Apart x a σ) :
    ∃ P', Rel K F M P' ((x, .dat (.list ds)) :: σ) s ∧ P.StaysIn P' ∧ (∀ b o, P'.get? b = some o → P.get? b = some o ∨ b = a) := by
  obtain ⟨v, H, hv, ⟨vs, n, ho, hi⟩, h1, h2, h3, h4⟩ := R.var x _ hx
  obtain ⟨P', k1, k2, k3, k4⟩ := Mine.freeze R.stay ho
  have none' : ∀ b, b ≠ a → P.get? b = none → P'.get? b = none := fun b hb e => by
    cases q : P'.get? b with
    | none => rfl
    | some o' =>
      rcases k4 b o' q with r | r
      · rw [e] at r; cases r
      · exact absurd r hb
  refine ⟨P', ?_, k1, k4⟩
  exact {
    tp := R.tp.mono k1
    sub0 := stays_trans R.sub0 k1
    stay := k2
    ext := R.ext
    new := fun b o e => (k4 b o e).elim (R.new b o) fun q => .inr (q ▸ h2)
    frm := by
      have : ∀ {l : List Env}, s.heap.FunFrames P l → a ∉ frs l → s.heap.FunFrames P' l := by
        intro l
        induction l with
        | nil => intro _ _; trivial
        | cons e r ih =>
          rintro ⟨hk, ⟨L, o, hf, hn, ho, hd⟩, hr⟩ hna
          have g1 : a ∉ L :: frs r := by simpa [frs, List.filterMap_cons, hf] using hna
          refine ⟨hk, ⟨L, o, hf, none' L (fun q => g1 (by rw [q]; exact .head _)) hn, ho, hd⟩, ih hr fun q => g1 (.tail _ q)⟩
      exact this R.frm h3
    loc := R.loc
    locP := none' _ (Ne.symm h4) R.locP
    loc0 := R.loc0
    cel := fun y hy => by
      obtain ⟨d, u, g1, g2, g3, g4⟩ := R.cel y hy
      refine ⟨d, u, g1, g2, none' d (fun q => ?_) g3, g4⟩
      obtain ⟨o', e1, e2⟩ := g2
      rw [q, ho] at e1; cases e1; cases e2
    celd := R.celd
    var := fun y tl hy => by
      by_cases e : y = x
      · subst e; rw [lookup_cons_eq] at hy; cases hy
        refine ⟨v, H, ?_⟩
        subst hv
        exact Is.list k3 rfl rfl (by simpa using hi.mono k1)
      · rw [lookup_cons_ne e] at hy
        obtain ⟨u, g1, g2⟩ := R.var y tl hy
        refine ⟨u, g1, ?_⟩
        have hne := hap y tl e hy
        cases tl with
        | dat d => exact Is.mono k1 g2
        | own b es =>
          obtain ⟨hv, ⟨vs, n, ho, hi⟩, h1, r⟩ := g2
          exact ⟨hv, ⟨vs, n, ho, hi.mono k1⟩, none' b (fun q => hne (by rw [q]; rfl)) h1, r⟩
        | dct b n f =>
          obtain ⟨hv, ⟨fv, hm, hz, hi⟩, h1, r⟩ := g2
          exact ⟨hv, ⟨fv, hm, hz, hi.mono k1⟩, none' b (fun q => hne (by rw [q]; rfl)) h1, r⟩
    fn := R.fn
    glb := R.glb
    blt := R.blt
    gens := R.gens
    os := R.os }
end
end Mine
end

section
set_option maxRecDepth 100000
set_option linter.unusedVariables false
namespace Mine
open PySem PySem.W PyProof.Rows PySem.Spec PySem.Calls

def NoE : Value → Shared → Prop := fun _ _ => False
def Pv (K : Kx) (P : Heap) (s : Shared) (d : PyData) : Value → Shared → Prop := fun v s' => ∃ P', Grow (frs K.Fs) P s P' s' ∧ Is P' v d

def Ev (K : Kx) (F : Fm) (σ : St) (e : Expr) (d : PyData) : Prop :=
  ∀ A M P s, OkA K A → Rel K F M P σ s → wpAny K.M A (eval e F.env) (Pv K P s d) NoE s
def EvL (K : Kx) (F : Fm) (σ : St) (es : List Expr) (ds : List PyData) : Prop :=
  ∀ A M P s pos, OkA K A → Rel K F M P σ s → wpAny K.M A (spliced (backTo pos (starEach es F.env))) (fun vs s' => ∃ P', Grow (frs K.Fs) P s P' s' ∧ IsAll P' vs ds) NoE s
def Tr (K : Kx) (F : Fm) (σ : St) (e : Expr) (b : Bool) : Prop :=
  ∀ A M P s, OkA K A → Rel K F M P σ s → wpAny K.M A (isTrue e F.env (eval e F.env)) (fun r s' => r = b ∧ Grow (frs K.Fs) P s P s') NoE s
/-- an operation upon values -/
def Bo (K : Kx) (F : Fm) (σ : St) (op : Operator) (d1 d2 d : PyData) : Prop :=
  ∀ A M P s v1 v2, OkA K A → Rel K F M P σ s → Is P v1 d1 → Is P v2 d2 → wpAny K.M A (binaryOp op v1 v2) (Pv K P s d) NoE s
def Co (K : Kx) (F : Fm) (σ : St) (op : CmpOp) (d1 d2 : PyData) (b : Bool) : Prop :=
  ∀ A M P s v1 v2, OkA K A → Rel K F M P σ s → Is P v1 d1 → Is P v2 d2 → wpAny K.M A (compareOp op v1 v2) (fun v s' => v = .bool b ∧ Grow (frs K.Fs) P s P s') NoE s
def Tv (K : Kx) (F : Fm) (σ : St) (d : PyData) (b : Bool) : Prop :=
  ∀ A M P s v, OkA K A → Rel K F M P σ s → Is P v d → wpAny K.M A (truthy v) (fun r s' => r = b ∧ Grow (frs K.Fs) P s P s') NoE s
/-- an item by an index -/
def Su (K : Kx) (F : Fm) (σ : St) (d1 d2 d : PyData) : Prop :=
  ∀ A M P s v1 v2 value slice, OkA K A → Rel K F M P σ s → Is P v1 d1 → Is P v2 d2 → (∀ v1 v2 : Value, subscripted slice false v1 v2 = operate [v1, v2] (getItem v1 v2)) →
    wpAny K.M A (subscriptTail value slice v1 v2) (Pv K P s d) NoE s
def As (K : Kx) (F : Fm) (t : Expr) (d : PyData) (σ σ' : St) : Prop :=
  ∀ A M P s v, OkA K A → Rel K F M P σ s → Is P v d → wpAny K.M A (assign t F.env v) (fun _ s' => ∃ P', Rel K F M P' σ' s' ∧ P.StaysIn P') NoE s

/-- a def -/
def Fn (K : Kx) (n : Nat) (f : FnRec) (args : List PyData) (r : PyData) : Prop :=
  ∀ Fs A s P vs a, OkA { K with n := n, c := true, Fs := Fs } A → Tp K.T P → P.StaysIn s.heap → s.heap.FunFrames P Fs → K.T.mg f.name = some (.ref a) → IsAll P vs args →
    codeAny K.M A (.call (.ref a) ⟨vs, []⟩) (fun res s' => ∃ v P', res = .ok (.ret v) ∧ Grow (frs Fs) P s P' s' ∧ Is P' v r) s

section
variable {K : Kx} {F : Fm} {σ : St}

theorem Grow.drop {fr : List Addr} {P P' : Heap} {s s' : Shared} (g : Grow fr P s P' s') : Grow fr P s P s' :=
  ⟨stays_refl _, stays_trans g.sub g.stay, g.ext, fun _ _ e => .inl e, g.gens, g.os⟩
theorem noE {M : Model} {A : Around} {α : Type} {t : Sem α} {Q Q' : α → Shared → Prop} {E : Value → Shared → Prop} {s : Shared} (h : wpAny M A t Q NoE s) (hQ : ∀ a s, Q a s → Q' a s) : wpAny M A t Q' E s :=
  wpAny_mono h hQ fun _ _ x => x.elim
theorem ev_then {e : Expr} {d : PyData} {A : Around} {M : Am} {P : Heap} {s : Shared} {E : Value → Shared → Prop} {Q : Value → Shared → Prop} (h : Ev K F σ e d) (ok : OkA K A) (R : Rel K F M P σ s)
    (k : ∀ v s' P', Grow (frs K.Fs) P s P' s' → Rel K F M P' σ s' → Is P' v d → Q v s') : wpAny K.M A (eval e F.env) Q E s :=
  noE (h A M P s ok R) fun v s' ⟨P', g, hi⟩ => k v s' P' g (R.grow g) hi
theorem Pv.after {P P' : Heap} {s s' : Shared} {d : PyData} {v : Value} {s'' : Shared} (g : Grow (frs K.Fs) P s P' s') (h : Pv K P' s' d v s'') : Pv K P s d v s'' :=
  let ⟨P'', g', hi⟩ := h; ⟨P'', g.trans g', hi⟩
theorem OkA.mono {K' : Kx} {A : Around} (h : OkA K A) (hf : K'.Fs = K.Fs) (hn : K'.n ≤ K.n) (hc : K'.c = true → K.c = true) : OkA K' A :=
  ⟨h.fr.trans (by rw [hf]), by have := h.dp; omega, by have := h.un; omega, fun x => h.hd (hc x)⟩

theorem ev_name {x : Str} {pos : Pos} {d : PyData} (hx : σ.lookup x = some (.dat d)) (hd : (x == ("__debug__" : Str)) = false := by decide) : Ev K F σ (.Name x pos) d := by
  intro A M P s ok R
  obtain ⟨v, H, hi⟩ := R.var x _ hx
  refine wpAny_Name ?_ hd
  have fin : Pv K P s d v s := ⟨P, .refl R.stay, hi⟩
  rcases H with ⟨hk, m, hn, hv⟩ | ⟨hk | hk, hcl, c, hc, hv⟩
  · exact wpAny_loadName_local R.fn hk hn hv fin
  · exact wpAny_loadName_cell R.fn hk hc hv fin
  · exact wpAny_loadName_free R.fn hk hc hv fin hcl

theorem load_builtin {x : Str} {pos : Pos} {v : Value} (hb : (x, v) ∈ K.T.bl) (hk : F.env.kindOf x = some .globalImplicit) (hd : (x == ("__debug__" : Str)) = false)
    {A : Around} {M : Am} {P : Heap} {s : Shared} {E : Value → Shared → Prop} {Q : Value → Shared → Prop} (R : Rel K F M P σ s) (h : Q v s) : wpAny K.M A (eval (.Name x pos) F.env) Q E s := by
  have hg : s.heap.Ns F.env.globals K.T.mg := by rw [R.glb]; exact R.tp.g.keeps R.stay
  have hb' : s.heap.Ns F.env.builtins K.T.mb := by rw [R.blt]; exact R.tp.b.keeps R.stay
  exact Name_function_global R.fn hk (loadGlobal_builtin hg (R.tp.bl _ hb).1 hb' (R.tp.bl _ hb).2 h) hd
theorem load_global {x : Str} {pos : Pos} {v : Value} (hv : K.T.mg x = some v) (hk : F.env.kindOf x = some .globalImplicit) (hd : (x == ("__debug__" : Str)) = false)
    {A : Around} {M : Am} {P : Heap} {s : Shared} {E : Value → Shared → Prop} {Q : Value → Shared → Prop} (R : Rel K F M P σ s) (h : Q v s) : wpAny K.M A (eval (.Name x pos) F.env) Q E s := by
  have hg : s.heap.Ns F.env.globals K.T.mg := by rw [R.glb]; exact R.tp.g.keeps R.stay
  exact Name_function_global R.fn hk (loadGlobal_global hg hv h) hd
theorem ev_gdata {x : Str} {pos : Pos} {d : PyData} (hx : (x, d) ∈ K.T.dat) (hk : F.env.kindOf x = some .globalImplicit := by rfl) (hd : (x == ("__debug__" : Str)) = false := by decide) : Ev K F σ (.Name x pos) d := by
  intro A M P s ok R
  obtain ⟨v, hv, hi⟩ := R.tp.dt _ hx
  exact load_global hv hk hd R ⟨P, .refl R.stay, hi⟩

theorem toks_grow {fr : List Addr} {P : Heap} {s : Shared} {n : Nat} (st : P.StaysIn s.heap) : Grow fr P s P { s with toks := n } := ⟨stays_refl _, st, Ext.refl _ _, fun _ _ e => .inl e, rfl, rfl⟩
theorem ev_int {i : Int} {k : Nat} {pos : Pos} : Ev K F σ (.Constant (.int i) k pos) (.int i) := fun A M P s ok R => wpAny_Constant_int ⟨P, toks_grow R.stay, .i _ _⟩
theorem ev_str {x : Str} {k : Nat} {pos : Pos} : Ev K F σ (.Constant (.str x) k pos) (.str x) := fun A M P s ok R => wpAny_Constant_str ⟨P, toks_grow R.stay, .s _ _⟩
theorem ev_bool {b : Bool} {k : Nat} {pos : Pos} : Ev K F σ (.Constant (.bool b) k pos) (.bool b) := fun A M P s ok R => wpAny_Constant_bool ⟨P, .refl R.stay, .b _⟩

theorem ev_bin {e1 e2 : Expr} {op : Operator} {pos : Pos} {d1 d2 d : PyData} (h1 : Ev K F σ e1 d1) (h2 : Ev K F σ e2 d2) (ho : Bo K F σ op d1 d2 d) : Ev K F σ (.BinOp e1 op e2 pos) d := by
  intro A M P s ok R
  refine wpAny_BinOp (ev_then h1 ok R fun v1 s1 P1 g1 R1 i1 => ev_then h2 ok R1 fun v2 s2 P2 g2 R2 i2 => ?_)
  exact noE (ho A M P2 s2 v1 v2 ok R2 (i1.mono g2.sub) i2) fun v s' h => Pv.after (g1.trans g2) h
theorem ev_cmp {e1 e2 : Expr} {op : CmpOp} {pos : Pos} {d1 d2 : PyData} {b : Bool} (h1 : Ev K F σ e1 d1) (h2 : Ev K F σ e2 d2) (ho : Co K F σ op d1 d2 b) (hm : behindInMarks op e2 = false := by with_unfolding_all rfl) : Ev K F σ (.Compare e1 [op] [e2] pos) (.bool b) := by
  intro A M P s ok R
  refine wpAny_Compare1 (ev_then h1 ok R fun v1 s1 P1 g1 R1 i1 => ev_then h2 ok R1 fun v2 s2 P2 g2 R2 i2 => ?_) hm
  refine noE (ho A M P2 s2 v1 v2 ok R2 (i1.mono g2.sub) i2) fun v s' h => Pv.after (g1.trans g2) ⟨P2, h.2, ?_⟩
  rw [h.1]; exact .b b
theorem tr_cmp {e1 e2 : Expr} {op : CmpOp} {pos : Pos} {d1 d2 : PyData} {b : Bool} (h1 : Ev K F σ e1 d1) (h2 : Ev K F σ e2 d2) (ho : Co K F σ op d1 d2 b) (hm : behindInMarks op e2 = false := by with_unfolding_all rfl) : Tr K F σ (.Compare e1 [op] [e2] pos) b := by
  intro A M P s ok R
  refine wpAny_isTrue_Compare1 (ev_then h1 ok R fun v1 s1 P1 g1 R1 i1 => ev_then h2 ok R1 fun v2 s2 P2 g2 R2 i2 => ?_) hm
  refine noE (ho A M P2 s2 v1 v2 ok R2 (i1.mono g2.sub) i2) fun v s' h => ?_
  rw [h.1]
  exact wpAny_truthy_bool ⟨rfl, ((g1.trans g2).trans h.2).drop⟩
theorem tr_val {e : Expr} {d : PyData} {b : Bool} (h : Ev K F σ e d) (ht : Tv K F σ d b) (he : ∀ whole, isTrue e F.env whole = (do let v ← whole; standAt e.pos; holding [v] (truthy v)) := by intro _; rfl) : Tr K F σ e b := fun A M P s ok R =>
  wpAny_isTrue_value (ev_then h ok R fun v s' P' g R' i => noE (ht A M P' s' v ok R' i) fun r s'' x => ⟨x.1, (g.trans x.2).drop⟩) (he _)
theorem tr_and2 {e1 e2 : Expr} {pos : Pos} {a b : Bool} (h1 : Tr K F σ e1 a) (h2 : a = true → Tr K F σ e2 b) : Tr K F σ (.BoolOp .And [e1, e2] pos) (a && b) := by
  intro A M P s ok R
  refine wpAny_isTrue_BoolOp (wpAny_allTrue_And_cons (noE (h1 A M P s ok R) fun r s1 x => ?_))
  obtain ⟨rfl, g⟩ := x
  cases r with
  | false => exact ⟨rfl, g⟩
  | true =>
    refine wpAny_allTrue_And_cons (noE (h2 rfl A M P s1 ok (R.grow g)) fun r s2 x => ?_)
    obtain ⟨rfl, g2⟩ := x
    cases r with
    | false => exact ⟨rfl, g.trans g2⟩
    | true => exact wpAny_allTrue_And_nil ⟨rfl, g.trans g2⟩
theorem ev_ifexp {t a b : Expr} {pos : Pos} {c : Bool} {d : PyData} (h : Tr K F σ t c) (h1 : c = true → Ev K F σ a d) (h2 : c = false → Ev K F σ b d) : Ev K F σ (.IfExp t a b pos) d := by
  intro A M P s ok R
  refine wpAny_IfExp (noE (h A M P s ok R) fun r s1 x => ?_)
  obtain ⟨rfl, g⟩ := x
  cases r with
  | true => exact noE (h1 rfl A M P s1 ok (R.grow g)) fun v s' q => Pv.after g q
  | false => exact noE (h2 rfl A M P s1 ok (R.grow g)) fun v s' q => Pv.after g q

theorem ev_sub {e1 e2 : Expr} {pos : Pos} {d1 d2 d : PyData} (h1 : Ev K F σ e1 d1) (h2 : Ev K F σ e2 d2) (hs : Su K F σ d1 d2 d) (hq : ∀ v1 v2 : Value, subscripted e2 false v1 v2 = operate [v1, v2] (getItem v1 v2) := by intro _ _; rfl) : Ev K F σ (.Subscript e1 e2 pos) d := by
  intro A M P s ok R
  refine Subscript_ (ev_then h1 ok R fun v1 s1 P1 g1 R1 i1 => ev_then h2 ok R1 fun v2 s2 P2 g2 R2 i2 => ?_)
  exact noE (hs A M P2 s2 v1 v2 _ _ ok R2 (i1.mono g2.sub) i2 hq) fun v s' h => Pv.after (g1.trans g2) h

theorem evl_nil : EvL K F σ [] [] := fun A M P s pos ok R => spliced_none ⟨P, .refl R.stay, .nil⟩
theorem evl_cons {e : Expr} {es : List Expr} {d : PyData} {ds : List PyData} (h : Ev K F σ e d) (hr : EvL K F σ es ds) (he : ∀ env, starEach (e :: es) env = (false, eval e env) :: starEach es env := by intro _; rfl) : EvL K F σ (e :: es) (d :: ds) := by
  intro A M P s pos ok R
  refine spliced_more (ev_then h ok R fun v s1 P1 g1 R1 i1 => noE (hr A M P1 s1 pos ok R1) fun vs s2 x => ?_) (he _)
  obtain ⟨P2, g2, i2⟩ := x
  exact ⟨P2, g1.trans g2, .cons (i1.mono g2.sub) i2⟩

theorem ev_call {f : Str} {np pos : Pos} {e : Expr} {es : List Expr} {fr : FnRec} {n : Nat} {ds : List PyData} {r : PyData} (hm : fr ∈ K.T.fns) (hf : fr.name = f) (ha : EvL K F σ (e :: es) ds) (hc : K.c = true) (hF : Fn K n fr ds r) (hn : n ≤ K.n)
    (hk : F.env.kindOf f = some .globalImplicit := by rfl) (hd : (f == ("__debug__" : Str)) = false := by decide) (he : ∀ env, starEach (e :: es) env = (false, eval e env) :: starEach es env := by intro _; rfl) : Ev K F σ (.Call (.Name f np) (e :: es) [] pos) r := by
  intro A M P s ok R
  obtain ⟨a, o, pm, code, doc, h1, h2, h3, h4⟩ := R.tp.fn fr hm
  rw [hf] at h1
  refine wpAny_Call_NameR (load_global h1 hk hd R ?_)
  refine callWith_def (o := o) h3 (noE (ha A M P s pos ok R) fun vs s1 x => ?_) (he _)
  obtain ⟨P1, g, i⟩ := x
  have R1 := R.grow g
  refine ⟨R1.stay _ _ (g.sub _ _ h2), wpAny_call ?_⟩
  refine codeAny_mono (hF K.Fs A s1 P1 vs a (ok.mono rfl hn fun _ => hc) R1.tp R1.stay R1.frm (hf ▸ h1) i) fun res s2 q => ?_
  obtain ⟨v, P2, rfl, g2, i2⟩ := q
  exact ⟨P2, g.trans g2, i2⟩
end
end Mine
end

section
set_option maxRecDepth 100000
set_option linter.unusedVariables false
namespace Mine
open PySem PySem.W PyProof.Rows PySem.Spec PySem.Calls

/-- an exception on its way within the frame f -/
def Fly (M : Am) (P h : Heap) (f : Addr) (e : Addr) (cls : String) (b : Bool) : Prop :=
  P.get? e = none ∧ M.h₀.get? e = none ∧ ∃ oe vs, h.get? e = some oe ∧ oe.cls = .type cls ∧ oe.data = .fields vs ∧ (1 < vs.size ∧ 2 < vs.size ∧ (b = true → vs[2]? = some .none)) ∧
    (vs[1]? = some .none ∨ ∃ T oT ts, vs[1]? = some (.ref T) ∧ T ≠ e ∧ P.get? T = none ∧ M.h₀.get? T = none ∧ h.get? T = some oT ∧ oT.data = .fields ts ∧ 3 < ts.size ∧ ts[3]? = some (rawInt f))
/-- it bears its traceback -/
def FlyT (M : Am) (P h : Heap) (e : Addr) (cls : String) (b : Bool) (fl : Value) : Prop :=
  P.get? e = none ∧ M.h₀.get? e = none ∧ ∃ oe vs, h.get? e = some oe ∧ oe.cls = .type cls ∧ oe.data = .fields vs ∧ (1 < vs.size ∧ 2 < vs.size ∧ (b = true → vs[2]? = some .none)) ∧
    ∃ T oT ts, vs[1]? = some (.ref T) ∧ T ≠ e ∧ P.get? T = none ∧ M.h₀.get? T = none ∧ h.get? T = some oT ∧ oT.data = .fields ts ∧ 3 < ts.size ∧ ts[3]? = some fl
theorem FlyT.fly {M : Am} {P h : Heap} {f e : Addr} {cls : String} {b : Bool} (x : FlyT M P h e cls b (rawInt f)) : Fly M P h f e cls b :=
  let ⟨h1, h2, oe, vs, h3, h4, h5, h6, h7⟩ := x; ⟨h1, h2, oe, vs, h3, h4, h5, h6, .inr h7⟩

inductive Out where
  | nx (σ : St)
  | br (σ : St)
  | co (σ : St)
  | rt (d : PyData)
  | ex (cls : String) (b : Bool) (σ : St)

def Post (K : Kx) (F : Fm) (M : Am) (Φ : Out → Prop) : Flow → Shared → Prop := fun f s' => ∃ P', match f with
  | .next => ∃ σ', Rel K F M P' σ' s' ∧ Φ (.nx σ')
  | .brk => ∃ σ', Rel K F M P' σ' s' ∧ Φ (.br σ')
  | .cont => ∃ σ', Rel K F M P' σ' s' ∧ Φ (.co σ')
  | .ret v => ∃ d, Rel K F M P' [] s' ∧ Is P' v d ∧ Φ (.rt d)
def PostE (K : Kx) (F : Fm) (M : Am) (Φ : Out → Prop) : Value → Shared → Prop := fun e s' => ∃ P' σ' a f cls b, e = .ref a ∧ F.env.frame = some f ∧ Rel K F M P' σ' s' ∧ Fly M P' s'.heap f a cls b ∧ Φ (.ex cls b σ')
def Ex (K : Kx) (F : Fm) (σ : St) (ss : List Stmt) (Φ : Out → Prop) : Prop :=
  ∀ A M P s, OkA K A → Rel K F M P σ s → wpAny K.M A (execs ss F.env) (Post K F M Φ) (PostE K F M Φ) s
def Ex1 (K : Kx) (F : Fm) (σ : St) (st : Stmt) (Φ : Out → Prop) : Prop :=
  ∀ A M P s, OkA K A → Rel K F M P σ s → wpAny K.M A (exec st F.env) (Post K F M Φ) (PostE K F M Φ) s

section
variable {K : Kx} {F : Fm} {σ : St} {M : Am} {P : Heap} {s : Shared}

theorem Post.imp {Φ Ψ : Out → Prop} (h : ∀ o, Φ o → Ψ o) {f : Flow} {s : Shared} (x : Post K F M Φ f s) : Post K F M Ψ f s := by
  obtain ⟨P', x⟩ := x
  refine ⟨P', ?_⟩
  cases f with
  | next => obtain ⟨σ', h1, h2⟩ := x; exact ⟨σ', h1, h _ h2⟩
  | brk => obtain ⟨σ', h1, h2⟩ := x; exact ⟨σ', h1, h _ h2⟩
  | cont => obtain ⟨σ', h1, h2⟩ := x; exact ⟨σ', h1, h _ h2⟩
  | ret v => obtain ⟨d, h1, h2, h3⟩ := x; exact ⟨d, h1, h2, h _ h3⟩
theorem PostE.imp {Φ Ψ : Out → Prop} (h : ∀ cls b σ, Φ (.ex cls b σ) → Ψ (.ex cls b σ)) {e : Value} {s : Shared} (x : PostE K F M Φ e s) : PostE K F M Ψ e s := by
  obtain ⟨P', σ', a, f, cls, b, h1, h2, h3, h4, h5⟩ := x
  exact ⟨P', σ', a, f, cls, b, h1, h2, h3, h4, h _ _ _ h5⟩
theorem Ex.imp {ss : List Stmt} {Φ Ψ : Out → Prop} (x : Ex K F σ ss Φ) (h : ∀ o, Φ o → Ψ o) : Ex K F σ ss Ψ := fun A M P s ok R =>
  wpAny_mono (x A M P s ok R) (fun _ _ y => y.imp h) fun _ _ y => y.imp fun _ _ _ => h _
theorem Ex.sub {σ' : St} {ss : List Stmt} {Φ : Out → Prop} (x : Ex K F σ' ss Φ) (h : Sub σ' σ) : Ex K F σ ss Φ := fun A M P s ok R => x A M P s ok (R.sub h)

theorem ex_nil {Φ : Out → Prop} (h : Φ (.nx σ)) : Ex K F σ [] Φ := fun A M P s ok R => wpAny_execs_nil ⟨P, σ, R, h⟩
def seqΦ (K : Kx) (F : Fm) (rest : List Stmt) (Φ : Out → Prop) : Out → Prop
  | .nx σ' => Ex K F σ' rest Φ
  | o => Φ o
theorem ex_cons {st : Stmt} {rest : List Stmt} {Φ : Out → Prop} (h : Ex1 K F σ st (seqΦ K F rest Φ)) : Ex K F σ (st :: rest) Φ := by
  intro A M P s ok R
  refine wpAny_execs_cons (wpAny_mono (h A M P s ok R) (fun f s1 x => ?_) fun _ _ y => y.imp fun _ _ _ h => h)
  obtain ⟨P', x⟩ := x
  cases f with
  | next => obtain ⟨σ', R', h'⟩ := x; exact h' A M P' s1 ok R'
  | brk => exact ⟨P', x⟩
  | cont => exact ⟨P', x⟩
  | ret v => exact ⟨P', x⟩

theorem Rel.nil (R : Rel K F M P σ s) : Rel K F M P [] s := R.sub Sub.nil

theorem ex1_return {e : Expr} {pos : Pos} {d : PyData} {Φ : Out → Prop} (h : Ev K F σ e d) (hΦ : Φ (.rt d)) : Ex1 K F σ (.Return (some e) pos) Φ := fun A M P s ok R =>
  wpAny_Return_some (ev_then h ok R fun v s' P' g R' i => ⟨P', d, R'.nil, i, hΦ⟩)
theorem ex1_break {pos : Pos} {Φ : Out → Prop} (hΦ : Φ (.br σ)) : Ex1 K F σ (.Break pos) Φ := fun A M P s ok R => wpAny_Break ⟨P, σ, R, hΦ⟩
theorem ex1_if {t : Expr} {a b : List Stmt} {pos : Pos} {c : Bool} {Φ : Out → Prop} (h : Tr K F σ t c) (h1 : c = true → Ex K F σ a Φ) (h2 : c = false → Ex K F σ b Φ) : Ex1 K F σ (.If t a b pos) Φ := fun A M P s ok R =>
  wpAny_If (noE (h A M P s ok R) fun r s1 x => by
    obtain ⟨rfl, g⟩ := x
    cases r with
    | true => exact h1 rfl A M P s1 ok (R.grow g)
    | false => exact h2 rfl A M P s1 ok (R.grow g))

/-- a slot stored under a name -/
theorem store_slot {x : Str} {v : Value} {sl : Slot} {A : Around} {E : Value → Shared → Prop} {Q : Unit → Shared → Prop} (R : Rel K F M P σ s) (hx : F.env.kindOf x = some .local ∨ (F.env.kindOf x = some .cell ∧ x ∈ F.W ∧ (x == ("__classdict__" : Str)) = false))
    (hv : SlotIs K F.env.locals M P s.heap sl v) (h : ∀ s', Rel K F M P ((x, sl) :: σ) s' → Q () s') : wpAny K.M A (storeName F.env x v) Q E s := by
  rcases hx with hx | ⟨hx, hW, hcl⟩
  · obtain ⟨m, hn⟩ := R.loc
    exact wpAny_storeName_local hx hn (fun h' hn' hs => h _ (R.store_local hx hn hn' hs hv)) (by rw [R.fn]; rfl)
  · obtain ⟨c, v₀, hc, hv₀, _, _⟩ := R.cel x hW
    exact wpAny_storeName_cell R.fn hx hc hv₀ fun h' hv' hs => h _ (R.store_cell (tk := s.toks) hx hW hcl hc hv₀ hv' hs hv)

def Stores (F : Fm) (x : Str) : Prop := F.env.kindOf x = some .local ∨ (F.env.kindOf x = some .cell ∧ x ∈ F.W ∧ (x == ("__classdict__" : Str)) = false)

theorem as_name {x : Str} {pos : Pos} {d : PyData} (hx : Stores F x) : As K F (.Name x pos) d σ ((x, .dat d) :: σ) := fun A M P s v ok R i =>
  wpAny_assign_Name (store_slot (sl := .dat d) R hx i fun s' R' => ⟨P, R', stays_refl _⟩)

theorem ex1_assign {t e : Expr} {pos : Pos} {d : PyData} {σ' : St} {Φ : Out → Prop} (h : Ev K F σ e d) (ha : As K F t d σ σ') (hΦ : Φ (.nx σ'))
    (hq : swapsWithSole [t] e pos.line F.env = pure false := by rfl) (hw : swappedStores [t] e F.env = pure none := by rfl) (hs : (assignEach [t] F.env).map (·.2) = [assign t F.env] := by rfl) : Ex1 K F σ (.Assign [t] e pos) Φ := by
  intro A M P s ok R
  have e1 : exec (.Assign [t] e pos) F.env = (do
    standAt pos
    if ← swapsWithSole [t] e pos.line F.env then do
      evalThenUse e F.env fun v => assignAll v ((assignEach [t] F.env).map (·.2))
      pure .next
    else do
      let v ← eval e F.env
      assignStores F.env v (← swappedStores [t] e F.env) ((assignEach [t] F.env).map (·.2))) := rfl
  rw [e1, hq, hw, hs]
  refine wpAny_bind (wpAny_standAt (wpAny_bind (wpAny_pure ?_)))
  show wpAny _ _ (eval e F.env >>= _) _ _ _
  refine wpAny_bind (ev_then h ok R fun v s' P' g R' i => wpAny_bind (wpAny_pure ?_))
  unfold assignStores assignAll
  dsimp only
  refine wpAny_bind (noE (ha A M P' s' v ok R' i) fun _ s'' x => ?_)
  obtain ⟨P'', R'', _⟩ := x
  exact wpAny_pure ⟨P'', σ', R'', hΦ⟩
end
end Mine
end

section
set_option maxRecDepth 100000
set_option linter.unusedVariables false
namespace Mine
open PySem PySem.W PyProof.Rows PySem.Spec PySem.Calls

section
variable {K : Kx} {F : Fm} {σ : St} {M : Am} {P : Heap} {s : Shared}

/-- a step that turns objects of the interpreter's own (iterators, exceptions) alone -/
theorem Rel.step {h' : Heap} {tk : Nat} (R : Rel K F M P σ s) (E : Addr → Prop) (hE : ∀ b, E b → P.get? b = none ∧ M.h₀.get? b = none ∧ ∀ o, s.heap.get? b = some o → ∃ vs, o.data = .fields vs)
    (hk : ∀ b o, ¬ E b → s.heap.get? b = some o → (b ∉ frs K.Fs → h'.get? b = some o) ∧ ∃ sl, h'.get? b = some { o with slots := sl }) : Rel K F M P σ { s with heap := h', toks := tk } := by
  have nE : ∀ b o, s.heap.get? b = some o → (∀ vs, o.data ≠ .fields vs) → ¬ E b := fun b o e hn x => by
    obtain ⟨vs, q⟩ := (hE b x).2.2 o e; exact hn vs q
  have kd : ∀ b o, s.heap.get? b = some o → (∀ vs, o.data ≠ .fields vs) → ∃ o', h'.get? b = some o' ∧ o'.data = o.data := fun b o e hn => by
    obtain ⟨sl, q⟩ := (hk b o (nE b o e hn) e).2; exact ⟨_, q, rfl⟩
  have kns : ∀ a m, s.heap.Ns a m → h'.Ns a m := fun a m ⟨o, es, ep, e, hd, r⟩ => by
    obtain ⟨o', e', hd'⟩ := kd a o e fun vs q => by rw [hd] at q; cases q
    exact ⟨o', es, ep, e', hd'.trans hd, r⟩
  have kcl : ∀ c v, s.heap.IsCell c v → h'.IsCell c v := fun c v ⟨o, e, hd⟩ => by
    obtain ⟨o', e', hd'⟩ := kd c o e fun vs q => by rw [hd] at q; cases q
    exact ⟨o', e', hd'.trans hd⟩
  exact {
    tp := R.tp
    sub0 := R.sub0
    stay := fun b o e => by
      have hb : ¬ E b := fun x => by rw [(hE b x).1] at e; cases e
      refine (hk b o hb (R.stay b o e)).1 fun x => ?_
      have := (R.frm.mem x).1
      rw [this] at e; cases e
    ext := fun b o e => by
      have hb : ¬ E b := fun x => by rw [(hE b x).2.1] at e; cases e
      obtain ⟨h1, sl, h2⟩ := R.ext b o e
      refine ⟨fun x => (hk b o hb (h1 x)).1 x, ?_⟩
      obtain ⟨sl', h3⟩ := (hk b _ hb h2).2
      exact ⟨sl', h3⟩
    new := R.new
    frm := R.frm.of_keeps kd
    loc := let ⟨m, hn⟩ := R.loc; ⟨m, kns _ _ hn⟩
    locP := R.locP
    loc0 := R.loc0
    cel := fun x hx => let ⟨c, v, h1, h2, h3⟩ := R.cel x hx; ⟨c, v, h1, kcl _ _ h2, h3⟩
    celd := R.celd
    var := fun x sl hx => by
      obtain ⟨v, H, S⟩ := R.var x sl hx
      refine ⟨v, ?_, ?_⟩
      · rcases H with ⟨hk, m, hn, hv⟩ | ⟨hk, hx, c, hc, hv⟩
        · exact .inl ⟨hk, m, kns _ _ hn, hv⟩
        · exact .inr ⟨hk, hx, c, hc, kcl _ _ hv⟩
      · cases sl with
        | dat d => exact S
        | own a ds =>
          obtain ⟨hv, ⟨vs, n, ho, hi⟩, h1, h2, h3, h4⟩ := S
          exact ⟨hv, ⟨vs, n, (hk a _ (nE a _ ho fun _ q => by cases q) ho).1 h3, hi⟩, h1, h2, h3, h4⟩
        | dct a n f =>
          obtain ⟨hv, ⟨fv, ⟨o, es, ep, ho, hc, hd, hm⟩, hz, hi⟩, h1, h2, h3, h4⟩ := S
          have q := (hk a _ (nE a _ ho fun _ q => by rw [hd] at q; cases q) ho).1 h3
          exact ⟨hv, ⟨fv, ⟨o, es, ep, q, hc, hd, hm⟩, hz.of_same ho q, hi⟩, h1, h2, h3, h4⟩
    fn := R.fn
    glb := R.glb
    blt := R.blt
    gens := R.gens
    os := R.os }

theorem Rel.step' {h' : Heap} {tk : Nat} (R : Rel K F M P σ s) (E : Addr → Prop) (hE : ∀ b, E b → P.get? b = none ∧ M.h₀.get? b = none ∧ ∀ o, s.heap.get? b = some o → ∃ vs, o.data = .fields vs)
    (hk : ∀ b o, ¬ E b → s.heap.get? b = some o → h'.get? b = some o) : Rel K F M P σ { s with heap := h', toks := tk } :=
  R.step E hE fun b o hb e => ⟨fun _ => hk b o hb e, o.slots, hk b o hb e⟩

/-- the base may be larger by objects of the interpreter's own -/
theorem Rel.rebase {h₁ : Heap} (R : Rel K F M P σ s) (E : Addr → Prop) (hE : ∀ b, E b → P.get? b = none ∧ ∃ o vs, s.heap.get? b = some o ∧ o.data = .fields vs)
    (h1 : ∀ b o, h₁.get? b = some o → M.h₀.get? b = some o ∨ (E b ∧ s.heap.get? b = some o)) : Rel K F { M with h₀ := h₁, P₀ := P } P σ s where
  tp := R.tp
  sub0 := stays_refl _
  stay := R.stay
  ext := fun b o e => by
    rcases h1 b o e with q | ⟨_, q⟩
    · exact R.ext b o q
    · exact ⟨fun _ => q, o.slots, q⟩
  new := fun a o e => .inl e
  frm := R.frm
  loc := R.loc
  locP := R.locP
  loc0 := by
    cases r : h₁.get? F.env.locals with
    | none => rfl
    | some o' =>
      rcases h1 _ o' r with x | ⟨x, _⟩
      · rw [R.loc0] at x; cases x
      · obtain ⟨_, o, vs, g, d⟩ := hE _ x
        obtain ⟨m, o2, es, ep, g2, d2, _⟩ := R.loc
        rw [g] at g2; cases g2; rw [d] at d2; cases d2
  cel := fun x hx => by
    obtain ⟨c, v, g1, g2, g3, g4⟩ := R.cel x hx
    refine ⟨c, v, g1, g2, g3, ?_⟩
    cases r : h₁.get? c with
    | none => rfl
    | some o' =>
      rcases h1 _ o' r with x | ⟨x, _⟩
      · rw [g4] at x; cases x
      · obtain ⟨_, o, vs, g, d⟩ := hE _ x
        obtain ⟨o2, g2, d2⟩ := g2
        rw [g] at g2; cases g2; rw [d] at d2; cases d2
  celd := R.celd
  var := fun x sl hx => by
    obtain ⟨v, H, S⟩ := R.var x sl hx
    refine ⟨v, H, ?_⟩
    cases sl with
    | dat d => exact S
    | own a ds =>
      obtain ⟨hv, ⟨vs, n, ho, hi⟩, k1, k2, k3⟩ := S
      refine ⟨hv, ⟨vs, n, ho, hi⟩, k1, ?_, k3⟩
      cases r : h₁.get? a with
      | none => rfl
      | some o' =>
        rcases h1 _ o' r with x | ⟨x, _⟩
        · rw [k2] at x; cases x
        · obtain ⟨_, o, vs, g, d⟩ := hE _ x
          rw [g] at ho; cases ho; cases d
    | dct a n f =>
      obtain ⟨hv, ⟨fv, hm, hz, hi⟩, k1, k2, k3⟩ := S
      refine ⟨hv, ⟨fv, hm, hz, hi⟩, k1, ?_, k3⟩
      cases r : h₁.get? a with
      | none => rfl
      | some o' =>
        rcases h1 _ o' r with x | ⟨x, _⟩
        · rw [k2] at x; cases x
        · obtain ⟨_, o, vs, g, d⟩ := hE _ x
          obtain ⟨o2, es, ep, ho, hc, hd, _⟩ := hm
          rw [g] at ho; cases ho; rw [d] at hd; cases hd
  fn := R.fn
  glb := R.glb
  blt := R.blt
  gens := R.gens
  os := R.os

theorem Rel.unbase {M' : Am} {P' : Heap} {σ' : St} {s' : Shared} (R : Rel K F M' P' σ' s') (h : M.h₀.StaysIn M'.h₀) (hP : M.P₀.StaysIn M'.P₀) (hN : ∀ a o, M'.P₀.get? a = some o → M.P₀.get? a = some o ∨ M.h₀.get? a = none) (hg : M'.g₀ = M.g₀) (ho : M'.o₀ = M.o₀) : Rel K F M P' σ' s' where
  tp := R.tp
  sub0 := stays_trans hP R.sub0
  stay := R.stay
  ext := fun b o e => R.ext b o (h b o e)
  new := fun a o e => (R.new a o e).elim (hN a o) fun q => by
    refine .inr ?_
    cases r : M.h₀.get? a with
    | none => rfl
    | some o' => have := h a o' r; rw [q] at this; cases this
  frm := R.frm
  loc := R.loc
  locP := R.locP
  loc0 := by
    cases r : M.h₀.get? F.env.locals with
    | none => rfl
    | some o' => have := h _ o' r; rw [R.loc0] at this; cases this
  cel := fun x hx => by
    obtain ⟨c, v, g1, g2, g3, g4⟩ := R.cel x hx
    refine ⟨c, v, g1, g2, g3, ?_⟩
    cases r : M.h₀.get? c with
    | none => rfl
    | some o' => have := h _ o' r; rw [g4] at this; cases this
  celd := R.celd
  var := fun x sl hx => by
    obtain ⟨v, H, S⟩ := R.var x sl hx
    refine ⟨v, H, ?_⟩
    have nn : ∀ a, M'.h₀.get? a = none → M.h₀.get? a = none := fun a e => by
      cases r : M.h₀.get? a with
      | none => rfl
      | some o' => have := h _ o' r; rw [e] at this; cases this
    cases sl with
    | dat d => exact S
    | own a ds => exact ⟨S.1, S.2.1, S.2.2.1, nn _ S.2.2.2.1, S.2.2.2.2⟩
    | dct a n f => exact ⟨S.1, S.2.1, S.2.2.1, nn _ S.2.2.2.1, S.2.2.2.2⟩
  fn := R.fn
  glb := R.glb
  blt := R.blt
  gens := R.gens.trans hg
  os := R.os.trans ho

/-- a larger base made of the elder one and a few objects at hand -/
theorem base_with (h₀ h : Heap) (wr : List Addr) : ∃ h₁ : Heap, ∀ b, h₁.get? b = if b ∈ wr then h.get? b else h₀.get? b := by
  refine realize (fun b => if b ∈ wr then h.get? b else h₀.get? b) (max h.objs.size h₀.objs.size) (fun a ha => ?_) (fun a o e => ?_)
  · split
    · exact get?_none_ge (Nat.le_trans (Nat.le_max_left _ _) ha)
    · exact get?_none_ge (Nat.le_trans (Nat.le_max_right _ _) ha)
  · split at e <;> exact live e

/-- what is known of an iterator -/
structure ItOk (K : Kx) (A : Around) (P : Heap) (I : Addr) (fp wr : List Addr) (ds : List PyData) (Pw : Nat → Value → Prop) (St : Nat → Heap → Prop) : Prop where
  W : Walks K.prog K.w A I fp wr ds.length Pw St
  val : ∀ i v, i < ds.length → Pw i v → ∃ d, ds[i]? = some d ∧ Is P v d
  ex : ∀ i h, St i h → ∀ b ∈ wr, ∃ o vs, h.get? b = some o ∧ o.data = .fields vs
  fpP : ∀ b ∈ fp, b ∈ wr ∨ ∃ o, P.get? b = some o
  lt : ∀ t i s v (Q : Unit → Shared → Prop) (E : Value → Shared → Prop), St i s.heap → Q () s → wpAny K.M A (letOwnedTupleGo t (.ref I) v) Q E s

def EvI (K : Kx) (F : Fm) (σ : St) (e : Expr) (ds : List PyData) : Prop :=
  ∀ A M P s, OkA K A → Rel K F M P σ s → wpAny K.M A (eval e F.env) (fun x s₁ => wpAny K.M A (pyIter x) (fun it s₂ =>
    ∃ P' I fp wr Pw St, it = .ref I ∧ Grow (frs K.Fs) P s P' s₂ ∧ ItOk K A P' I fp wr ds Pw St ∧ St 0 s₂.heap ∧ (∀ b ∈ wr, s.heap.get? b = none ∧ P'.get? b = none)) NoE s₁) NoE s

/-- the loop's state between its turns -/
structure Mid (K : Kx) (F : Fm) (A : Around) (M : Am) (I : Addr) (fp wr : List Addr) (ds : List PyData) (Pw : Nat → Value → Prop) (St : Nat → Heap → Prop) (Pi P : Heap) (σ : Mine.St) (i : Nat) (s : Shared) : Prop where
  R : Rel K F M P σ s
  st : St i s.heap
  sub : Pi.StaysIn P
  wr0 : ∀ b ∈ wr, M.h₀.get? b = none ∧ P.get? b = none

theorem mid_turn {A : Around} {I : Addr} {fp wr : List Addr} {ds : List PyData} {Pw : Nat → Value → Prop} {St : Nat → Heap → Prop} {Pi : Heap} {i : Nat} {E : Value → Shared → Prop} {Q : Option Value → Shared → Prop}
    (it : ItOk K A Pi I fp wr ds Pw St) (m : Mid K F A M I fp wr ds Pw St Pi P σ i s)
    (hi : i < ds.length) (h : ∀ v s' d, ds[i]? = some d → Is P v d → Mid K F A M I fp wr ds Pw St Pi P σ (i + 1) s' → Q (some v) s') : wpAny K.M A (pyNext (.ref I)) Q E s := by
  refine it.W.item i s Q E hi m.st fun v h' tk hv st hk => ?_
  obtain ⟨d, hd, hi⟩ := it.val i v hi hv
  have R' := m.R.step' (h' := h') (tk := tk) (· ∈ wr) (fun b hb => ⟨(m.wr0 b hb).2, (m.wr0 b hb).1, fun o e => by
    obtain ⟨o', vs, e', hd'⟩ := it.ex i _ m.st b hb
    rw [e] at e'; cases e'; exact ⟨vs, hd'⟩⟩) (fun b o hb e => hk b o hb e)
  exact h v _ d hd (hi.mono m.sub) ⟨R', st, m.sub, m.wr0⟩
theorem mid_done {A : Around} {I : Addr} {fp wr : List Addr} {ds : List PyData} {Pw : Nat → Value → Prop} {St : Nat → Heap → Prop} {Pi : Heap} {E : Value → Shared → Prop} {Q : Option Value → Shared → Prop}
    (it : ItOk K A Pi I fp wr ds Pw St) (m : Mid K F A M I fp wr ds Pw St Pi P σ ds.length s)
    (h : ∀ s', Rel K F M P σ s' → Q none s') : wpAny K.M A (pyNext (.ref I)) Q E s := by
  refine it.W.done s Q E m.st fun h' tk hk => ?_
  exact h _ (m.R.step' (h' := h') (tk := tk) (· ∈ wr) (fun b hb => ⟨(m.wr0 b hb).2, (m.wr0 b hb).1, fun o e => by
    obtain ⟨o', vs, e', hd'⟩ := it.ex _ _ m.st b hb
    rw [e] at e'; cases e'; exact ⟨vs, hd'⟩⟩) (fun b o hb e => hk b o hb e))

/-- a turn's body under the larger base -/
theorem mid_body {A : Around} {I : Addr} {fp wr : List Addr} {ds : List PyData} {Pw : Nat → Value → Prop} {St : Nat → Heap → Prop} {Pi : Heap} {i : Nat} 
    (it : ItOk K A Pi I fp wr ds Pw St) (m : Mid K F A M I fp wr ds Pw St Pi P σ i s) :
    ∃ M' : Am, Rel K F M' P σ s ∧ (∀ P' σ' s', Rel K F M' P' σ' s' → Rel K F M P' σ' s') ∧
      (∀ P' σ' s', Rel K F M' P' σ' s' → Mid K F A M I fp wr ds Pw St Pi P' σ' i s') ∧ (∀ b, M'.h₀.get? b = none → M.h₀.get? b = none) := by
  obtain ⟨h₁, hh⟩ := base_with M.h₀ s.heap wr
  have st01 : M.h₀.StaysIn h₁ := fun b o e => by
    rw [hh]; split
    · rename_i hb; rw [(m.wr0 b hb).1] at e; cases e
    · exact e
  have und : ∀ P' σ' s', Rel K F { M with h₀ := h₁, P₀ := P } P' σ' s' → Rel K F M P' σ' s' := fun P' σ' s' R' => R'.unbase st01 m.R.sub0 m.R.new rfl rfl
  refine ⟨{ M with h₀ := h₁, P₀ := P }, m.R.rebase (· ∈ wr) (fun b hb => ⟨(m.wr0 b hb).2, it.ex i _ m.st b hb⟩) (fun b o e => ?_), und, fun P' σ' s' R' => ⟨und _ _ _ R', ?_, stays_trans m.sub R'.sub0, fun b hb => ⟨(m.wr0 b hb).1, ?_⟩⟩, fun b e => ?_⟩
  · rw [hh] at e; split at e
    · exact .inr ⟨‹_›, e⟩
    · exact .inl e
  · refine it.W.frame _ _ _ m.st fun b hb o e => ?_
    rcases it.fpP b hb with q | ⟨o', q⟩
    · have : h₁.get? b = some o := by rw [hh, if_pos q]; exact e
      refine (R'.ext b o this).1 fun x => ?_
      have := (m.R.frm.mem x).2
      obtain ⟨o2, e2, hn⟩ := this
      obtain ⟨o3, vs, e3, hd⟩ := it.ex i _ m.st b q
      rw [e3] at e2; cases e2; exact hn vs hd
    · have h1 := m.R.stay b o' (m.sub b o' q)
      rw [e] at h1; cases h1
      exact R'.stay b o (R'.sub0 b o (m.sub b o q))
  · cases r : P'.get? b with
    | none => rfl
    | some o =>
      rcases R'.new b o r with q | q
      · have : P.get? b = some o := q
        rw [(m.wr0 b hb).2] at this; cases this
      · obtain ⟨o3, vs, e3, hd⟩ := it.ex i _ m.st b hb
        have : h₁.get? b = some o3 := by rw [hh, if_pos hb]; exact e3
        rw [show h₁.get? b = none from q] at this; cases this
  · cases r : M.h₀.get? b with
    | none => rfl
    | some o => have := st01 b o r; rw [show h₁.get? b = none from e] at this; cases this
end
end Mine
end

section
set_option maxRecDepth 100000
set_option linter.unusedVariables false
namespace Mine
open PySem PySem.W PyProof.Rows PySem.Spec PySem.Calls

section
variable {K : Kx} {F : Fm} {σ : St} {M : Am} {P : Heap} {s : Shared}

theorem fly_none {f e : Addr} {cls : String} {b : Bool} (y : Fly M P s.heap f e cls b) (R : Rel K F M P σ s) : e ∉ frs K.Fs := fun hm => by
  obtain ⟨_, _, oe, vs, he, _, hd, _⟩ := y
  obtain ⟨_, o, ho, hn⟩ := R.frm.mem hm
  rw [he] at ho; cases ho; exact hn vs hd

theorem noteFrame_fly {A : Around} {outer : List Env} {f e : Addr} {cls : String} {b : Bool} {E : Value → Shared → Prop} {Q : Unit → Shared → Prop} (ok : OkA K A) (hF : K.Fs = F.env :: outer) (hf : F.env.frame = some f)
    (R : Rel K F M P σ s) (y : Fly M P s.heap f e cls b) (h : ∀ s', Rel K F M P σ s' → FlyT M P s'.heap e cls b (rawInt f) → Q () s') : wpAny K.M A (noteFrame (.ref e) F.env) Q E s := by
  have hen := fly_none y R
  obtain ⟨y1, y2, oe, vs, he, hc, hd, hsz, y3⟩ := y
  rcases y3 with h1 | ⟨T, oT, ts, h1, h2, h3, h4, h5, h6, h7, h8⟩
  · unfold noteFrame
    simp only [hf]
    refine wpAny_bind (wpAny_field he hd h1 ?_)
    rw [if_neg (by decide)]
    refine wpAny_bind (wpAny_frameOf_fun (by rw [ok.fr, hF]) (hF ▸ R.frm) hf fun h₁ hs₁ => ?_)
    refine wpAny_bind (wpAny_entryPlaceOf fun pl hpl => ?_)
    unfold EntryCells.newEntry newFields
    refine wpAny_bind (wpAny_newObj_type ?_ (hpl.sizeOk5 _ _ _ _ _))
    have he₁ : h₁.get? e = some oe := (hs₁.2.1 e (by rw [← hF]; exact hen)).trans he
    have he₂ := Heap.get?_push_of_some (h := h₁) { cls := .type "traceback", dict := none, data := .fields ([Value.none, .ref f, .none, rawInt f, .none] ++ (if pl.isEmpty then List.replicate 6 Value.none else pl)).toArray } he₁
    refine wpAny_setField he₂ hd hsz.1 ?_
    have hTe : h₁.objs.size ≠ e := Nat.ne_of_gt (Heap.lt_size he₁)
    have hd₃ := Obj.data_mapFields hd (·.setIfInBounds 1 (Value.ref h₁.objs.size))
    have nw : s.heap.get? h₁.objs.size = none := get?_none_ge (by rw [hs₁.1]; exact Nat.le_refl _)
    refine h _ (R.step (tk := s.toks) (· = e) (fun b hb => by subst hb; exact ⟨y1, y2, fun o q => by rw [he] at q; cases q; exact ⟨vs, hd⟩⟩) fun b o hb hbo => ?_) ?_
    · have hbT : h₁.objs.size ≠ b := fun q => by rw [← q, nw] at hbo; cases hbo
      obtain ⟨sl, q⟩ := hs₁.2.2 b o hbo
      refine ⟨fun hn => ?_, sl, ?_⟩
      · rw [Heap.get?_update_other _ _ (Ne.symm hb)]
        exact Heap.get?_push_of_some _ ((hs₁.2.1 b (by rw [← hF]; exact hn)).trans hbo)
      · rw [Heap.get?_update_other _ _ (Ne.symm hb)]
        exact Heap.get?_push_of_some _ q
    · refine ⟨y1, y2, _, _, Heap.get?_update_self _ he₂ (Obj.isFreed_of_fields hd₃), ?_, hd₃, ⟨by simpa using hsz.1, by simpa using hsz.2.1, fun q => by rw [Array.getElem?_setIfInBounds]; simpa using hsz.2.2 q⟩, h₁.objs.size, _, _, by simp [hsz.1], hTe, ?_, ?_, (Heap.get?_update_other _ _ (Ne.symm hTe)).trans (Heap.get?_push_size h₁ rfl), rfl, by simp, by simp⟩
      · rw [← hc]; cases oe; cases hd; rfl
      · cases q : P.get? h₁.objs.size with
        | none => rfl
        | some o => have := R.stay _ o q; rw [nw] at this; cases this
      · cases q : M.h₀.get? h₁.objs.size with
        | none => rfl
        | some o => obtain ⟨o', e', _⟩ := R.ext.some q; rw [nw] at e'; cases e'
  · exact wpAny_noteFrame_inFlight hf he hd h1 h5 h6 h8 (h s R ⟨y1, y2, oe, vs, he, hc, hd, hsz, T, oT, ts, h1, h2, h3, h4, h5, h6, h7, h8⟩)

/-- the traceback's mark is set -/
theorem setFlight_fly {A : Around} {e : Addr} {cls : String} {b : Bool} {fl : Value} {f : Option Addr} {E : Value → Shared → Prop} {Q : Unit → Shared → Prop}
    (R : Rel K F M P σ s) (y : FlyT M P s.heap e cls b fl) (h : ∀ s', Rel K F M P σ s' → FlyT M P s'.heap e cls b (f.elim .none fun f => rawInt f) → Q () s') : wpAny K.M A (setFlight (.ref e) f) Q E s := by
  obtain ⟨y1, y2, oe, vs, he, hc, hd, hsz, T, oT, ts, h1, h2, h3, h4, h5, h6, h7, h8⟩ := y
  unfold setFlight
  refine wpAny_bind (wpAny_field he hd h1 ?_)
  rw [if_pos (show (Value.ref T != Value.none) = true from by simp)]
  refine wpAny_setField h5 h6 h7 ?_
  have hd₃ := Obj.data_mapFields h6 (·.setIfInBounds 3 (f.elim Value.none fun f => rawInt f))
  refine h _ (R.step' (tk := s.toks) (· = T) (fun b hb => by subst hb; exact ⟨h3, h4, fun o q => by rw [h5] at q; cases q; exact ⟨ts, h6⟩⟩) fun b o hb hbo => by rw [Heap.get?_update_other _ _ (Ne.symm hb)]; exact hbo) ?_
  exact ⟨y1, y2, oe, vs, (Heap.get?_update_other _ _ h2).trans he, hc, hd, hsz, T, _, _, h1, h2, h3, h4, Heap.get?_update_self _ h5 (Obj.isFreed_of_fields hd₃), hd₃, by simpa using h7, by simp [h7]⟩

theorem cameBack_fly {A : Around} {f e : Addr} {cls : String} {b : Bool} {fl : Value} {E : Value → Shared → Prop} (hf : F.env.frame = some f)
    (R : Rel K F M P σ s) (y : FlyT M P s.heap e cls b fl) (h : ∀ s', Rel K F M P σ s' → FlyT M P s'.heap e cls b (rawInt f) → E (.ref e) s') : cameBackBy K.M A F.env E (.ref e) s := by
  unfold cameBackBy
  have y' := y
  obtain ⟨y1, y2, oe, vs, he, hc, hd, hsz, T, oT, ts, h1, h2, h3, h4, h5, h6, h7, h8⟩ := y'
  refine wpAny_bind (wpAny_field he hd h1 ?_)
  rw [if_neg (by simp), hf]
  exact setFlight_fly (f := some f) R y fun s' R' y' => h s' R' y'

/-- an exception of a loop's turn comes up through the loop -/
theorem postE_up {A : Around} {M' : Am} {outer : List Env} {Φ Ψ : Out → Prop} {e : Value} (ok : OkA K A) (hF : K.Fs = F.env :: outer) (hM : ∀ P' σ' s', Rel K F M' P' σ' s' → Rel K F M P' σ' s') (hM0 : ∀ b, M'.h₀.get? b = none → M.h₀.get? b = none)
    (x : PostE K F M' Φ e s) (h : ∀ cls b σ, Φ (.ex cls b σ) → Ψ (.ex cls b σ)) : notedBy K.M A F.env (fun x s' => cameBackBy K.M A F.env (PostE K F M Ψ) x s') e s := by
  obtain ⟨P', σ', a, f, cls, b, rfl, hf, R, y, hΦ⟩ := x
  refine noteFrame_fly ok hF hf R y fun s' R' y' => ?_
  refine cameBack_fly hf R' y' fun s'' R'' y'' => ⟨P', σ', a, f, cls, b, rfl, hf, hM _ _ _ R'', ?_, h _ _ _ hΦ⟩
  obtain ⟨y1, y2, oe, vs, he, hc, hd, hsz, T, oT, ts, h1, h2, h3, h4, h5, h6, h7, h8⟩ := y''
  exact ⟨y1, hM0 _ y2, oe, vs, he, hc, hd, hsz, .inr ⟨T, oT, ts, h1, h2, h3, hM0 _ h4, h5, h6, h7, h8⟩⟩

def turnΦ (J : St → Prop) (Φ : Out → Prop) : Out → Prop
  | .nx σ' => J σ'
  | .co σ' => J σ'
  | .br σ' => Φ (.nx σ')
  | o => Φ o

theorem ex1_for {t iter : Expr} {body orelse : List Stmt} {pos : Pos} {ds : List PyData} {outer : List Env} {Φ : Out → Prop} (J : Nat → St → Prop) (hF : K.Fs = F.env :: outer) (hi : EvI K F σ iter ds) (h0 : J 0 σ)
    (turn : ∀ i d σi, ds[i]? = some d → J i σi → ∃ σi', As K F t d σi σi' ∧ Ex K F σi' body (turnΦ (J (i + 1)) Φ))
    (fin : ∀ σn, J ds.length σn → Ex K F σn orelse Φ) (hs : ∀ x, foldedSetIterable iter F.env x = pure x := by intro _; rfl) : Ex1 K F σ (.For t iter body orelse pos) Φ := by
  intro A M P s ok R
  refine wpAny_For (noE (hi A M P s ok R) fun x s₁ h₁ => noE h₁ fun it s₂ h₂ => ?_) hs
  obtain ⟨P', I, fp, wr, Pw, Stt, rfl, g, io, st0, hwr⟩ := h₂
  refine codeAny_forLoop_any (fun n s' => ∃ i P'' σi, n = ds.length + 1 - i ∧ i ≤ ds.length ∧ J i σi ∧ Mid K F A M I fp wr ds Pw Stt P' P'' σi i s') ?_ (ds.length + 1) ⟨0, P', σ, by omega, by omega, h0, R.grow g, st0, stays_refl _, fun b hb => ⟨R.ext.none (hwr b hb).1, (hwr b hb).2⟩⟩
  rintro n s' ⟨i, P'', σi, rfl, hle, hJ, m⟩
  by_cases hlt : i < ds.length
  · refine mid_turn io m hlt fun v s3 d hd hv m3 => ?_
    obtain ⟨σi', ha, hb⟩ := turn i d σi hd hJ
    refine io.lt t (i + 1) s3 v _ _ m3.st ?_
    obtain ⟨M', R', hback, hmid, hM0⟩ := mid_body io m3
    refine noE (ha A M' P'' s3 v ok R' hv) fun _ s4 x => ?_
    obtain ⟨P4, R4, _⟩ := x
    refine wpAny_mono (hb A M' P4 s4 ok R4) (fun fl s5 x => ?_) fun e s5 x => postE_up ok hF hback hM0 x fun _ _ _ h => h
    obtain ⟨P5, x⟩ := x
    cases fl with
    | next => obtain ⟨σ5, R5, h5⟩ := x; exact ⟨ds.length + 1 - (i + 1), by omega, i + 1, P5, σ5, rfl, hlt, h5, hmid _ _ _ R5⟩
    | cont => obtain ⟨σ5, R5, h5⟩ := x; exact ⟨ds.length + 1 - (i + 1), by omega, i + 1, P5, σ5, rfl, hlt, h5, hmid _ _ _ R5⟩
    | brk => obtain ⟨σ5, R5, h5⟩ := x; exact ⟨P5, σ5, hback _ _ _ R5, h5⟩
    | ret v => obtain ⟨d5, R5, i5, h5⟩ := x; exact ⟨P5, d5, hback _ _ _ R5, i5, h5⟩
  · have e : i = ds.length := by omega
    subst e
    refine mid_done io m fun s3 R3 => ?_
    exact wpAny_mono (fin σi hJ A M P'' s3 ok R3) (fun fl s5 x => x) fun e s5 x => postE_up ok hF (fun _ _ _ r => r) (fun _ r => r) x fun _ _ _ h => h

theorem ex1_while {test : Expr} {body orelse : List Stmt} {pos : Pos} {outer : List Env} {Φ : Out → Prop} (J : Nat → St → Prop) (n₀ : Nat) (hF : K.Fs = F.env :: outer) (h0 : J n₀ σ)
    (turn : ∀ n σi, J n σi → ∃ b, Tr K F σi test b ∧ (b = true → Ex K F σi body (turnΦ (fun σ' => ∃ m, m < n ∧ J m σ') Φ)) ∧ (b = false → Ex K F σi orelse Φ)) : Ex1 K F σ (.While test body orelse pos) Φ := by
  intro A M P s ok R
  refine wpAny_While (codeAny_whileLoop (fun n s' => ∃ P'' σi, J n σi ∧ Rel K F M P'' σi s') ?_ n₀ ⟨P, σ, h0, R⟩)
  rintro n s' ⟨P'', σi, hJ, R'⟩
  obtain ⟨b, ht, hb1, hb2⟩ := turn n σi hJ
  refine noE (ht A M P'' s' ok R') fun r s1 x => ?_
  obtain ⟨rfl, g⟩ := x
  cases r with
  | true =>
    simp only [if_true]
    refine wpAny_mono (hb1 rfl A M P'' s1 ok (R'.grow g)) (fun fl s5 x => ?_) fun e s5 x => postE_up ok hF (fun _ _ _ r => r) (fun _ r => r) x fun _ _ _ h => h
    obtain ⟨P5, x⟩ := x
    cases fl with
    | next => obtain ⟨σ5, R5, m, hm, h5⟩ := x; exact ⟨m, hm, P5, σ5, h5, R5⟩
    | cont => obtain ⟨σ5, R5, m, hm, h5⟩ := x; exact ⟨m, hm, P5, σ5, h5, R5⟩
    | brk => obtain ⟨σ5, R5, h5⟩ := x; exact ⟨P5, σ5, R5, h5⟩
    | ret v => obtain ⟨d5, R5, i5, h5⟩ := x; exact ⟨P5, d5, R5, i5, h5⟩
  | false =>
    simp only [Bool.false_eq_true, if_false]
    exact wpAny_mono (hb2 rfl A M P'' s1 ok (R'.grow g)) (fun fl s5 x => x) fun e s5 x => postE_up ok hF (fun _ _ _ r => r) (fun _ r => r) x fun _ _ _ h => h
end
end Mine
end

section
set_option maxRecDepth 100000
set_option linter.unusedVariables false
namespace Mine
open PySem PySem.W PyProof.Rows PySem.Spec PySem.Calls

/-! ### a def -/
theorem bindL_miss {kf : Str → Option NameKind} {x : Str} : ∀ (pn : List Str) (vs : List Value) (m : Str → Option Value), x ∉ pn → bindL kf (pn.zip vs) m x = m x
  | [], _, m, _ => rfl
  | _ :: _, [], m, _ => rfl
  | p :: pn, v :: vs, m, h => by
    have h1 : x ≠ p := fun e => h (by rw [e]; exact .head _)
    show bindL kf (pn.zip vs) _ x = _
    rw [bindL_miss pn vs _ fun q => h (.tail _ q)]
    split
    · simp [h1]
    · rfl
theorem bindL_hit {kf : Str → Option NameKind} {x : Str} {v : Value} (hk : kf x = some .local) : ∀ (pn : List Str) (vs : List Value) (m : Str → Option Value) (i : Nat), pn.Nodup → pn[i]? = some x → vs[i]? = some v → bindL kf (pn.zip vs) m x = some v
  | [], _, m, i, _, h, _ => by simp at h
  | _ :: _, [], m, i, _, _, h => by simp at h
  | p :: pn, u :: vs, m, i, hn, h1, h2 => by
    show bindL kf (pn.zip vs) _ x = _
    obtain ⟨n1, n2⟩ := List.nodup_cons.mp hn
    cases i with
    | zero =>
      simp at h1 h2; subst h1; subst h2
      rw [bindL_miss pn vs _ n1, if_pos hk]; simp
    | succ i => exact bindL_hit hk pn vs _ i n2 (by simpa using h1) (by simpa using h2)
theorem bindC_miss {kf : Str → Option NameKind} {x : Str} : ∀ (pn : List Str) (vs : List Value) (m : Str → Option Value), x ∉ pn → bindC kf (pn.zip vs) m x = m x
  | [], _, m, _ => rfl
  | _ :: _, [], m, _ => rfl
  | p :: pn, v :: vs, m, h => by
    have h1 : x ≠ p := fun e => h (by rw [e]; exact .head _)
    show bindC kf (pn.zip vs) _ x = _
    rw [bindC_miss pn vs _ fun q => h (.tail _ q)]
    split
    · rfl
    · simp [h1]
theorem bindC_hit {kf : Str → Option NameKind} {x : Str} {v : Value} (hk : ¬ kf x = some .local) : ∀ (pn : List Str) (vs : List Value) (m : Str → Option Value) (i : Nat), pn.Nodup → pn[i]? = some x → vs[i]? = some v → bindC kf (pn.zip vs) m x = some v
  | [], _, m, i, _, h, _ => by simp at h
  | _ :: _, [], m, i, _, _, h => by simp at h
  | p :: pn, u :: vs, m, i, hn, h1, h2 => by
    show bindC kf (pn.zip vs) _ x = _
    obtain ⟨n1, n2⟩ := List.nodup_cons.mp hn
    cases i with
    | zero =>
      simp at h1 h2; subst h1; subst h2
      rw [bindC_miss pn vs _ n1, if_neg hk]; simp
    | succ i => exact bindC_hit hk pn vs _ i n2 (by simpa using h1) (by simpa using h2)

/-- a def's frame -/
abbrev fenv (f : FnRec) (L a : Addr) (code : Value) : Env := newEnv f.scope L mainGlobals (cellsFrom (L + 1) f.scope.names []) (f.name ++ ".<locals>.") (some a) code none builtinsNs

def slotsOf (pn : List Str) (args : List PyData) : St := pn.zip (args.map .dat)

theorem fn_intro {K : Kx} {f : FnRec} {args : List PyData} {r : PyData} {n : Nat} (pn W : List Str) (hm : f ∈ K.T.fns)
    (hb : ∀ vs pm code doc, vs.length = args.length → bindArgs (docDef f.name f.params f.body f.scope pm code doc) ⟨vs, []⟩ = pure (pn.zip vs))
    (hk : f.scope.kind = .function) (hco : f.scope.isCoroutine = false) (hgen : f.scope.isGenerator = false) (hnd : pn.Nodup)
    (hkd : ∀ x ∈ pn, f.scope.names.lookup x = some .local ∨ (f.scope.names.lookup x = some .cell ∧ (x == ("__classdict__" : Str)) = false)) (hW : ∀ x ∈ W, f.scope.names.lookup x = some .cell)
    (h : ∀ Fs L a code, Ex { K with n := n, c := true, Fs := fenv f L a code :: Fs } ⟨fenv f L a code, W⟩ (slotsOf pn args) f.body (fun o => o = .rt r)) : Fn K (n + 1) f args r := by
  intro Fs A s P vs a ok tp st ff hmg hi
  obtain ⟨a', o, pm, code, doc, h1, h2, h3, h4⟩ := tp.fn f hm
  rw [hmg] at h1; cases h1
  refine codeAny_call_function (by have := ok.dp; omega) (st _ _ h2) h3 hco hgen rfl (h4.keeps st) ?_
  rw [hb vs pm code doc hi.length]
  refine wpAny_pure ?_
  have hkind : ∀ x ∈ pn.zip vs, f.scope.names.lookup x.1 = some .local ∨ (f.scope.names.lookup x.1 = some .cell ∧ ((cellsFrom (s.heap.objs.size + 1) f.scope.names []).lookup x.1).isSome = true) := fun x hx => by
    rcases hkd x.1 (List.of_mem_zip hx).1 with q | ⟨q, _⟩
    · exact .inl q
    · exact .inr ⟨q, cellsFrom_some _ _ _ (.inl q)⟩
  refine wpAny_newFunctionEnv_cells hk hkind fun env he s' x => ?_
  subst he
  have keep := x.toInCall.keep
  obtain ⟨h', tk, hs'⟩ := x.toInCall.same
  have hL : s.heap.get? s.heap.objs.size = none := get?_none_ge (Nat.le_refl _)
  have hPL : ∀ b, s.heap.get? b = none → P.get? b = none := fun b e => by
    cases q : P.get? b with
    | none => rfl
    | some o => have := st b o q; rw [e] at this; cases this
  refine ⟨(tp.nolimit.keeps st).keeps keep, codeAny_func ?_⟩
  have R : Rel { K with n := n, c := true, Fs := fenv f s.heap.objs.size a code :: Fs } ⟨fenv f s.heap.objs.size a code, W⟩ ⟨s.heap, P, s.gens, s.os⟩ P (slotsOf pn args) s' := {
    tp := tp
    sub0 := stays_refl _
    stay := stays_trans st keep
    ext := .of_stays keep
    new := fun a o e => .inl e
    frm := by
      obtain ⟨oL, es, ep, g1, d1⟩ := ns_data x.toInCall.ns
      refine ⟨by show f.scope.kind ≠ .module; rw [hk]; decide, ⟨s.heap.objs.size, oL, rfl, hPL _ hL, g1, fun vs q => by rw [d1] at q; cases q⟩, ?_⟩
      exact funFrames_ext (fr := []) ff (.of_stays keep)
    loc := ⟨_, x.toInCall.ns⟩
    locP := hPL _ hL
    loc0 := hL
    cel := fun y hy => by
      obtain ⟨c, hc⟩ := Option.isSome_iff_exists.mp (cellsFrom_some f.scope.names (s.heap.objs.size + 1) [] (.inl (hW y hy)))
      have hn : s.heap.get? c = none := get?_none_ge (Nat.le_of_lt (x.above y c (PySem.mem_of_lookup hc)))
      exact ⟨c, _, hc, x.cell y c hc, hPL _ hn, hn⟩
    celd := fun y hy z c h1 h2 => name_of_addr x.apart (PySem.mem_of_lookup h2) (PySem.mem_of_lookup h1)
    var := fun y sl hy => by
      have hmem := mem_of_lookup' hy
      obtain ⟨i, hi'⟩ := List.mem_iff_getElem?.mp hmem
      unfold slotsOf at hi'
      rw [List.getElem?_zip_eq_some] at hi'
      obtain ⟨e1, e2⟩ := hi'
      rw [List.getElem?_map] at e2
      obtain ⟨d, e3, rfl⟩ := Option.map_eq_some_iff.mp e2
      obtain ⟨v, e4, e5⟩ := hi.get e3
      refine ⟨v, ?_, e5⟩
      rcases hkd y (List.mem_of_getElem? e1) with q | ⟨q, q'⟩
      · exact .inl ⟨q, _, x.toInCall.ns, bindL_hit q pn vs _ i hnd e1 e4⟩
      · obtain ⟨c, hc⟩ := Option.isSome_iff_exists.mp (cellsFrom_some f.scope.names (s.heap.objs.size + 1) [] (.inl q))
        have hnl : ¬ (fenv f s.heap.objs.size a code).kindOf y = some .local := by
          show ¬ f.scope.names.lookup y = some .local
          rw [q]; decide
        refine .inr ⟨.inl q, q', c, hc, ?_⟩
        have q1 : s'.heap.IsCell c (bindC (fenv f s.heap.objs.size a code).kindOf (pn.zip vs) (fun _ => none) y) := x.cell y c hc
        rw [bindC_hit hnl pn vs _ i hnd e1 e4] at q1
        exact q1
    fn := hk
    glb := rfl
    blt := rfl
    gens := by rw [hs']
    os := by rw [hs'] }
  have ok' : OkA { K with n := n, c := true, Fs := fenv f s.heap.objs.size a code :: Fs } (A.deeper (fenv f s.heap.objs.size a code)) :=
    ⟨by show A.frames.map _ = _; rw [ok.fr]; rfl, by show A.depth + 1 + n < _; have := ok.dp; simp only at this; omega, by show A.units + 3 + 16 * n + 200 < _; have := ok.un; simp only at this; omega, fun _ => ok.hd rfl⟩
  refine wpAny_mono (h Fs s.heap.objs.size a code _ _ _ _ ok' R) (fun fl s2 p => ?_) (fun e s2 p => ?_)
  · obtain ⟨P', p⟩ := p
    cases fl with
    | next => obtain ⟨_, _, q⟩ := p; cases q
    | brk => obtain ⟨_, _, q⟩ := p; cases q
    | cont => obtain ⟨_, _, q⟩ := p; cases q
    | ret v =>
      obtain ⟨d, R2, i2, q⟩ := p
      cases q
      refine ⟨v, P', rfl, ⟨R2.sub0, R2.stay, fun b o e => ?_, R2.new, R2.gens, R2.os⟩, i2⟩
      obtain ⟨g1, g2⟩ := R2.ext b o e
      refine ⟨fun hn => g1 fun hm => ?_, g2⟩
      have : b ∈ s.heap.objs.size :: frs Fs := hm
      rcases List.mem_cons.mp this with q | q
      · rw [q, hL] at e; cases e
      · exact hn q
  · obtain ⟨_, _, _, _, _, _, _, _, _, _, q⟩ := p; cases q
end Mine
end

section
set_option maxRecDepth 100000
set_option linter.unusedVariables false
namespace Mine
open PySem PySem.W PyProof.Rows PySem.Spec PySem.Calls

section
variable {K : Kx} {F : Fm} {σ : St}

theorem push_stays (h : Heap) (o : Obj) : h.StaysIn (h.push o) := fun _ _ e => Heap.get?_push_of_some _ e
theorem none_of {P h : Heap} {a : Addr} (st : P.StaysIn h) (e : h.get? a = none) : P.get? a = none := by
  cases q : P.get? a with
  | none => rfl
  | some o => have := st a o q; rw [e] at this; cases this
theorem size_none (h : Heap) : h.get? h.objs.size = none := get?_none_ge (Nat.le_refl _)

/-! ### what can be walked through -/
theorem evi_list {e : Expr} {ds : List PyData} (hc : K.c = true) (h : Ev K F σ e (.list ds)) : EvI K F σ e ds := by
  intro A M P s ok R
  refine ev_then h ok R fun v s1 P1 g1 R1 i1 => ?_
  obtain ⟨a, o, vs, n, rfl, ho, hcl, hd, hi⟩ := i1.list_inv
  have hl : s1.heap.IsList a vs := ⟨o, R1.stay _ _ ho, hcl, n, hd⟩
  have hne : a ≠ s1.heap.objs.size := fun q => by have := R1.stay _ _ ho; rw [q, size_none] at this; cases this
  refine wpAny_pyIter_list hl ?_
  have hlen : vs.size = ds.length := by have := hi.length; simpa using this
  have W := Walks.list (prog := K.prog) (w := K.w) (ok.hd hc) s1.heap.objs.size a hne vs
  rw [hlen] at W
  have g2 : Grow (frs K.Fs) P1 s1 P1 { s1 with heap := s1.heap.push { cls := .type "list_iterator", data := .fields #[.ref a, .int 0 0] } } := Grow.of_stays R1.stay (push_stays _ _)
  refine ⟨P1, s1.heap.objs.size, _, _, _, _, rfl, g1.trans g2, ⟨W, fun i v hlt hv => ?_, fun i h st b hb => ?_, fun b hb => ?_, fun t i s v Q E st hQ => ?_⟩, ⟨⟨_, Heap.get?_push_size _ rfl, rfl, rfl⟩, hl.at fun o e => Heap.get?_push_of_some _ e⟩, fun b hb => ?_⟩
  · exact hi.getv (by simpa using hv)
  · rw [List.mem_singleton.mp hb]
    obtain ⟨⟨o, h1, h2, h3⟩, _⟩ := st
    exact ⟨o, _, h1, h3⟩
  · rcases List.mem_cons.mp hb with q | q
    · exact .inl (by rw [q]; exact .head _)
    · rw [List.mem_singleton.mp q]; exact .inr ⟨o, ho⟩
  · obtain ⟨⟨o, h1, h2, h3⟩, _⟩ := st
    unfold letOwnedTupleGo
    split
    · cases v <;> first | exact wpAny_pure hQ | skip
      refine wpAny_bind (wpAny_load h1 ?_)
      rw [h2, h3]
      exact wpAny_pure hQ
    · cases v <;> first | exact wpAny_pure hQ | skip
      refine wpAny_bind (wpAny_load h1 ?_)
      rw [h2, h3]
      exact wpAny_pure hQ
    · exact wpAny_pure hQ
  · rw [List.mem_singleton.mp hb]
    exact ⟨g1.ext.none (size_none _), none_of R1.stay (size_none _)⟩

theorem evi_tuple {e : Expr} {ds : List PyData} (hc : K.c = true) (h : Ev K F σ e (.tuple ds)) : EvI K F σ e ds := by
  intro A M P s ok R
  refine ev_then h ok R fun v s1 P1 g1 R1 i1 => ?_
  obtain ⟨a, o, vs, n, rfl, ho, hcl, hd, hi⟩ := i1.tuple_inv
  have hl : s1.heap.IsTuple a vs := ⟨o, R1.stay _ _ ho, hcl, n, hd⟩
  have hne : a ≠ s1.heap.objs.size := fun q => by have := R1.stay _ _ ho; rw [q, size_none] at this; cases this
  refine wpAny_pyIter_tuple hl ?_
  have hlen : vs.size = ds.length := by have := hi.length; simpa using this
  have W := Walks.tuple (prog := K.prog) (w := K.w) (ok.hd hc) s1.heap.objs.size a hne vs
  rw [hlen] at W
  have g2 : Grow (frs K.Fs) P1 s1 P1 { s1 with heap := s1.heap.push { cls := .type "tuple_iterator", data := .fields #[.ref a, .int 0 0] } } := Grow.of_stays R1.stay (push_stays _ _)
  refine ⟨P1, s1.heap.objs.size, _, _, _, _, rfl, g1.trans g2, ⟨W, fun i v hlt hv => ?_, fun i h st b hb => ?_, fun b hb => ?_, fun t i s v Q E st hQ => ?_⟩, ⟨⟨_, Heap.get?_push_size _ rfl, rfl, rfl⟩, hl.at fun o e => Heap.get?_push_of_some _ e⟩, fun b hb => ?_⟩
  · exact hi.getv (by simpa using hv)
  · rw [List.mem_singleton.mp hb]
    obtain ⟨⟨o, h1, h2, h3⟩, _⟩ := st
    exact ⟨o, _, h1, h3⟩
  · rcases List.mem_cons.mp hb with q | q
    · exact .inl (by rw [q]; exact .head _)
    · rw [List.mem_singleton.mp q]; exact .inr ⟨o, ho⟩
  · obtain ⟨⟨o, h1, h2, h3⟩, _⟩ := st
    unfold letOwnedTupleGo
    split
    · cases v <;> first | exact wpAny_pure hQ | skip
      refine wpAny_bind (wpAny_load h1 ?_)
      rw [h2, h3]
      exact wpAny_pure hQ
    · cases v <;> first | exact wpAny_pure hQ | skip
      refine wpAny_bind (wpAny_load h1 ?_)
      rw [h2, h3]
      exact wpAny_pure hQ
    · exact wpAny_pure hQ
  · rw [List.mem_singleton.mp hb]
    exact ⟨g1.ext.none (size_none _), none_of R1.stay (size_none _)⟩

def rng (a c : Int) (n : Nat) : List PyData := (List.range n).map fun (i : Nat) => PyData.int (a + (i : Int) * c)
theorem rng_length (a c : Int) (n : Nat) : (rng a c n).length = n := by simp [rng]
theorem rng_get {a c : Int} {n i : Nat} (h : i < n) : (rng a c n)[i]? = some (.int (a + (i : Int) * c)) := by simp [rng, h]

/-- a range object -/
def EvR (K : Kx) (F : Fm) (σ : St) (e : Expr) (a b c : Int) : Prop :=
  ∀ A M P s, OkA K A → Rel K F M P σ s → wpAny K.M A (eval e F.env) (fun v s' => ∃ r t u w, v = .ref r ∧ Grow (frs K.Fs) P s P s' ∧ IsRange s'.heap r a b c t u w) NoE s

theorem evi_range {e : Expr} {a b c : Int} {n : Nat} (hc : K.c = true) (h : EvR K F σ e a b c) (hsm : Builtin.Range.small a b c = true) (hn : Builtin.Range.rangeSize a b c = n) : EvI K F σ e (rng a c n) := by
  intro A M P s ok R
  refine noE (h A M P s ok R) fun v s1 x => ?_
  obtain ⟨r, t, u, w', rfl, g1, hr⟩ := x
  have R1 := R.grow g1
  refine wpAny_pyIter_range hr hsm ?_
  have W := Walks.range (prog := K.prog) (w := K.w) (ok.hd hc) s1.heap.objs.size a c n
  rw [← rng_length a c n] at W
  have g2 : Grow (frs K.Fs) P s1 P { s1 with heap := s1.heap.push { cls := .type "range_iterator", data := .fields #[rawInt a, rawInt (Builtin.Range.rangeSize a b c), rawInt c] } } := Grow.of_stays R1.stay (push_stays _ _)
  refine ⟨P, s1.heap.objs.size, _, _, _, _, rfl, g1.trans g2, ⟨W, fun i v hlt hv => ?_, fun i h st b hb => ?_, fun b hb => ?_, fun t i s v Q E st hQ => ?_⟩, ?_, fun b hb => ?_⟩
  · obtain ⟨t, rfl⟩ := hv
    rw [rng_length] at hlt
    exact ⟨_, rng_get hlt, .i _ _⟩
  · rw [List.mem_singleton.mp hb]
    exact ⟨_, _, st, rfl⟩
  · exact .inl hb
  · unfold letOwnedTupleGo
    split
    · cases v <;> first | exact wpAny_pure hQ | skip
      refine wpAny_bind (wpAny_load st ?_)
      exact wpAny_pure hQ
    · cases v <;> first | exact wpAny_pure hQ | skip
      refine wpAny_bind (wpAny_load st ?_)
      exact wpAny_pure hQ
    · exact wpAny_pure hQ
  · show IsRangeIter _ _ _ _ _
    rw [rng_length, ← hn]
    have : (Heap.push s1.heap { cls := .type "range_iterator", data := .fields #[rawInt a, rawInt (Builtin.Range.rangeSize a b c), rawInt c] }).get? s1.heap.objs.size = _ := Heap.get?_push_size _ rfl
    simpa using this
  · rw [List.mem_singleton.mp hb]
    exact ⟨g1.ext.none (size_none _), none_of R1.stay (size_none _)⟩
end
end Mine
end

section
set_option maxRecDepth 100000
set_option linter.unusedVariables false
namespace Mine
open PySem PySem.W PyProof.Rows PySem.Spec PySem.Calls

section
variable {K : Kx} {F : Fm} {σ : St}

theorem call_typ {T : String} {x : Str} {np pos : Pos} {e : Expr} {es : List Expr} {ds : List PyData} {A : Around} {M : Am} {P : Heap} {s : Shared} {E : Value → Shared → Prop} {Q : Value → Shared → Prop} (hb : (x, Value.type T) ∈ K.T.bl) (ha : EvL K F σ (e :: es) ds)
    (hk : F.env.kindOf x = some .globalImplicit) (hd : (x == ("__debug__" : Str)) = false) (he : ∀ env, starEach (e :: es) env = (false, eval e env) :: starEach es env) (hp : ∀ env pos, (backTo pos (starEach es env)).any (·.1) = false)
    (ok : OkA K A) (R : Rel K F M P σ s) (h : ∀ vs s' P', Grow (frs K.Fs) P s P' s' → Rel K F M P' σ s' → IsAll P' vs ds → wpAny K.M A (call (.type T) vs) Q E s') : wpAny K.M A (eval (.Call (.Name x np) (e :: es) [] pos) F.env) Q E s := by
  refine wpAny_Call_NameR (load_builtin hb hk hd R ?_)
  refine PyProof.Rows.callWith_type1 (noE (ha A M P s pos ok R) fun vs s1 x => ?_) (he _) (hp _ _)
  obtain ⟨P1, g, i⟩ := x
  exact h vs s1 P1 g (R.grow g) i
theorem call_blt {T : String} {x : Str} {np pos : Pos} {e : Expr} {es : List Expr} {ds : List PyData} {A : Around} {M : Am} {P : Heap} {s : Shared} {E : Value → Shared → Prop} {Q : Value → Shared → Prop} (hb : (x, Value.builtin T) ∈ K.T.bl) (ha : EvL K F σ (e :: es) ds)
    (hk : F.env.kindOf x = some .globalImplicit) (hd : (x == ("__debug__" : Str)) = false) (he : ∀ env, starEach (e :: es) env = (false, eval e env) :: starEach es env) (hp : ∀ env pos, (backTo pos (starEach es env)).any (·.1) = false)
    (ok : OkA K A) (R : Rel K F M P σ s) (h : ∀ vs s' P', Grow (frs K.Fs) P s P' s' → Rel K F M P' σ s' → IsAll P' vs ds → wpAny K.M A (call (.builtin T) vs) Q E s') : wpAny K.M A (eval (.Call (.Name x np) (e :: es) [] pos) F.env) Q E s := by
  refine wpAny_Call_NameR (load_builtin hb hk hd R ?_)
  refine PyProof.Rows.callWith_builtin1 (noE (ha A M P s pos ok R) fun vs s1 x => ?_) (he _) (hp _ _)
  obtain ⟨P1, g, i⟩ := x
  exact h vs s1 P1 g (R.grow g) i

theorem isall1 {P : Heap} {vs : List Value} {d : PyData} (h : IsAll P vs [d]) : ∃ v, vs = [v] ∧ Is P v d := by
  obtain ⟨v, r, rfl, h1, h2⟩ := h.cons_inv
  rw [h2.nil_inv]; exact ⟨v, rfl, h1⟩
theorem isall2 {P : Heap} {vs : List Value} {d e : PyData} (h : IsAll P vs [d, e]) : ∃ v w, vs = [v, w] ∧ Is P v d ∧ Is P w e := by
  obtain ⟨v, r, rfl, h1, h2⟩ := h.cons_inv
  obtain ⟨w, rfl, h3⟩ := isall1 h2
  exact ⟨v, w, rfl, h1, h3⟩
theorem isall3 {P : Heap} {vs : List Value} {d e f : PyData} (h : IsAll P vs [d, e, f]) : ∃ v w x, vs = [v, w, x] ∧ Is P v d ∧ Is P w e ∧ Is P x f := by
  obtain ⟨v, r, rfl, h1, h2⟩ := h.cons_inv
  obtain ⟨w, x, rfl, h3, h4⟩ := isall2 h2
  exact ⟨v, w, x, rfl, h1, h3, h4⟩

theorem evr1 {np pos : Pos} {e : Expr} {n : Int} (hb : (("range" : Str), Value.type "range") ∈ K.T.bl) (h : Ev K F σ e (.int n)) (hk : F.env.kindOf ("range" : Str) = some .globalImplicit := by rfl)
    (he : ∀ env, starEach [e] env = [(false, eval e env)] := by intro _; rfl) : EvR K F σ (.Call (.Name ("range" : Str) np) [e] [] pos) 0 n 1 := by
  intro A M P s ok R
  refine call_typ hb (evl_cons h evl_nil he) hk (by decide) he (fun _ _ => rfl) ok R fun vs s1 P1 g R1 i => ?_
  obtain ⟨v, rfl, h1⟩ := isall1 i
  obtain ⟨t, rfl⟩ := h1.int_inv
  exact call_range_1 ⟨_, _, _, _, rfl, (g.trans (Grow.of_stays R1.stay (push_stays _ _))).drop, IsRange.new ..⟩
theorem evr3 {np pos : Pos} {e f k : Expr} {a b c : Int} (hb : (("range" : Str), Value.type "range") ∈ K.T.bl) (h : Ev K F σ e (.int a)) (h' : Ev K F σ f (.int b)) (h'' : Ev K F σ k (.int c)) (hc : c ≠ 0) (hp : Builtin.divisionGoesByPylong (b - a) c = false) (hk : F.env.kindOf ("range" : Str) = some .globalImplicit := by rfl)
    (he : ∀ env, starEach [e, f, k] env = [(false, eval e env), (false, eval f env), (false, eval k env)] := by intro _; rfl) (he' : ∀ env, starEach [f, k] env = [(false, eval f env), (false, eval k env)] := by intro _; rfl) (he'' : ∀ env, starEach [k] env = [(false, eval k env)] := by intro _; rfl) : EvR K F σ (.Call (.Name ("range" : Str) np) [e, f, k] [] pos) a b c := by
  intro A M P s ok R
  refine call_typ hb (evl_cons h (evl_cons h' (evl_cons h'' evl_nil he'') fun env => by rw [he', he'']) fun env => by rw [he, he']) hk (by decide) (fun env => by rw [he, he']) (fun _ _ => by rw [he']; rfl) ok R fun vs s1 P1 g R1 i => ?_
  obtain ⟨v, w, x, rfl, h1, h2, h3⟩ := isall3 i
  obtain ⟨t, rfl⟩ := h1.int_inv
  obtain ⟨u, rfl⟩ := h2.int_inv
  obtain ⟨u', rfl⟩ := h3.int_inv
  exact call_range_3 hc ⟨_, _, _, _, rfl, (g.trans (Grow.of_stays R1.stay (push_stays _ _))).drop, IsRange.new ..⟩ (.inl hp)

/-! ### new lists -/
def Nw (K : Kx) (P : Heap) (s : Shared) (ds : List PyData) : Value → Shared → Prop := fun v s' => ∃ P' a vs n, v = .ref a ∧ Grow (frs K.Fs) P s P' s' ∧ s'.heap.get? a = some (lobj vs n) ∧ IsAll P' vs ds ∧ s.heap.get? a = none ∧ P'.get? a = none
def EvN (K : Kx) (F : Fm) (σ : St) (e : Expr) (ds : List PyData) : Prop :=
  ∀ A M P s, OkA K A → Rel K F M P σ s → wpAny K.M A (eval e F.env) (Nw K P s ds) NoE s
theorem Nw.pv {P : Heap} {s s' : Shared} {ds : List PyData} {v : Value} (h : Nw K P s ds v s') : Pv K P s (.list ds) v s' := by
  obtain ⟨P', a, vs, n, rfl, g, ho, hi, hn, hP⟩ := h
  obtain ⟨P'', g', h1, h2⟩ := g.freeze ho hn
  exact ⟨P'', g', Is.list h2 rfl rfl (by simpa using hi.mono h1)⟩
theorem EvN.ev {e : Expr} {ds : List PyData} (h : EvN K F σ e ds) : Ev K F σ e (.list ds) := fun A M P s ok R => noE (h A M P s ok R) fun _ _ x => x.pv
theorem Nw.after {P P' : Heap} {s s' : Shared} {ds : List PyData} {v : Value} {s'' : Shared} (g : Grow (frs K.Fs) P s P' s') (h : Nw K P' s' ds v s'') : Nw K P s ds v s'' := by
  obtain ⟨P'', a, vs, n, h1, g', h2, h3, h4, h5⟩ := h
  exact ⟨P'', a, vs, n, h1, g.trans g', h2, h3, g.ext.none h4, h5⟩
theorem new_list {P : Heap} {s : Shared} {vs : List Value} {ds : List PyData} {A : Around} {E : Value → Shared → Prop} (st : P.StaysIn s.heap) (hi : IsAll P vs ds) (hsz : ds.length ≤ 1000000) : wpAny K.M A (newList vs) (Nw K P s ds) E s := by
  refine wpAny_newObj_type ⟨P, s.heap.objs.size, vs, 0, rfl, Grow.of_stays st (push_stays _ _), Heap.get?_push_size _ rfl, hi, size_none _, none_of st (size_none _)⟩ ?_
  show vs.toArray.size ≤ sizeLine
  rw [List.size_toArray, hi.length]
  exact Nat.le_trans hsz (by decide)
theorem evn_list {es : List Expr} {pos : Pos} {ds : List PyData} (h : EvL K F σ es ds) (hsz : ds.length ≤ 1000000 := by decide) : EvN K F σ (.List es pos) ds := by
  intro A M P s ok R
  refine List_ (noE (h A M P s pos ok R) fun vs s1 x => ?_)
  obtain ⟨P1, g, i⟩ := x
  exact noE (new_list g.stay i hsz) fun _ _ x => Nw.after g x
theorem ev_tuple {es : List Expr} {k : Nat} {pos : Pos} {ds : List PyData} (h : EvL K F σ es ds) (hsz : ds.length ≤ 1000000 := by decide) : Ev K F σ (.Tuple es k pos) (.tuple ds) := by
  intro A M P s ok R
  refine Tuple_ (noE (h A M P s pos ok R) fun vs s1 x => ?_)
  obtain ⟨P1, g, i⟩ := x
  refine wpAny_newObj_type ?_ (by show vs.toArray.size ≤ sizeLine; rw [List.size_toArray, i.length]; exact Nat.le_trans hsz (by decide))
  have g2 : Grow (frs K.Fs) P1 s1 P1 { s1 with heap := s1.heap.push { cls := .type "tuple", data := .seq vs.toArray } } := Grow.of_stays g.stay (push_stays _ _)
  obtain ⟨P'', g', h1, h2⟩ := (g.trans g2).freeze (a := s1.heap.objs.size) (Heap.get?_push_size _ rfl) (g.ext.none (size_none _))
  exact ⟨P'', g', Is.tuple h2 rfl rfl (by simpa using i.mono h1)⟩

/-- list(e) of a list -/
theorem evn_listcall {np pos : Pos} {e : Expr} {ds : List PyData} (hb : (("list" : Str), Value.type "list") ∈ K.T.bl) (h : Ev K F σ e (.list ds)) (hsz : ds.length ≤ 1000000) (hk : F.env.kindOf ("list" : Str) = some .globalImplicit := by rfl)
    (he : ∀ env, starEach [e] env = [(false, eval e env)] := by intro _; rfl) : EvN K F σ (.Call (.Name ("list" : Str) np) [e] [] pos) ds := by
  intro A M P s ok R
  refine call_typ hb (evl_cons h evl_nil he) hk (by decide) he (fun _ _ => rfl) ok R fun vs s1 P1 g R1 i => ?_
  obtain ⟨v, rfl, h1⟩ := isall1 i
  obtain ⟨a, o, ws, n, rfl, ho, hcl, hd, hi⟩ := h1.list_inv
  refine call_list_seq (hsz := by have := hi.length; simp at this; rw [this]; exact Nat.le_trans hsz (by decide)) a (.inl rfl) (R1.stay _ _ ho) hcl hd fun h' c' hk hD => ?_
  have g2 : Grow (frs K.Fs) P1 s1 P1 { s1 with heap := h' } := Grow.of_stays R1.stay hk
  exact ⟨P1, s1.heap.objs.size, ws.toList, c', rfl, g.trans g2, by simpa [lobj] using hD, hi, g.ext.none (size_none _), none_of R1.stay (size_none _)⟩
/-- list(range(..)) -/
theorem evn_listrange {np pos : Pos} {e : Expr} {a b c : Int} {n : Nat} (hc : K.c = true) (hb : (("list" : Str), Value.type "list") ∈ K.T.bl) (h : EvR K F σ e a b c) (hsm : Builtin.Range.small a b c = true) (hn : Builtin.Range.rangeSize a b c = n) (hsz : n ≤ 1000000) (hk : F.env.kindOf ("list" : Str) = some .globalImplicit := by rfl)
    (he : ∀ env, starEach [e] env = [(false, eval e env)] := by intro _; rfl) : EvN K F σ (.Call (.Name ("list" : Str) np) [e] [] pos) (rng a c n) := by
  intro A M P s ok R
  refine wpAny_Call_NameR (load_builtin hb hk (by decide) R ?_)
  refine PyProof.Rows.callWith_type1 ?_ (he _) rfl
  refine spliced_more (noE (h A M P s ok R) fun v s1 x => ?_) (he _)
  obtain ⟨r, t, u, w', rfl, g, hr⟩ := x
  have R1 := R.grow g
  refine spliced_none ?_
  refine call_list_range (ok.hd hc) hr hsm hn (Nat.le_trans hsz (by decide)) fun h' tk acc' c' hk hD hit => ?_
  have g2 : Grow (frs K.Fs) P s1 P { s1 with heap := h', toks := tk } := Grow.of_stays R1.stay hk
  refine ⟨P, s1.heap.objs.size, acc'.toList, c', rfl, g.trans g2, by simpa [lobj] using hD, ?_, g.ext.none (size_none _), none_of R1.stay (size_none _)⟩
  have : ∀ (vs : List Value) (ds : List PyData), vs.length = ds.length → (∀ (i : Nat) v, vs[i]? = some v → ∃ d, ds[i]? = some d ∧ Is P v d) → IsAll P vs ds := by
    intro vs
    induction vs with
    | nil => intro ds hl _; cases ds with
      | nil => exact .nil
      | cons _ _ => simp at hl
    | cons v vs ih =>
      intro ds hl hv
      cases ds with
      | nil => simp at hl
      | cons d ds =>
        obtain ⟨d', e1, e2⟩ := hv 0 v rfl
        simp at e1; subst e1
        exact .cons e2 (ih ds (by simpa using hl) fun i v' hv' => by simpa using hv (i + 1) v' (by simpa using hv'))
  have hl : acc'.size = n := hit.1
  refine this _ _ (by simp [rng_length, hl]) fun i v hv => ?_
  have hlt : i < n := by
    have := (List.getElem?_eq_some_iff.mp hv).1
    simpa [hl] using this
  obtain ⟨t, rfl⟩ := hit.2 i v (by simpa using hv)
  exact ⟨_, rng_get hlt, .i _ _⟩
end
end Mine
end

section
set_option maxRecDepth 100000
set_option linter.unusedVariables false
namespace Mine
open PySem PySem.W PyProof.Rows PySem.Spec PySem.Calls

/-! ### data of ints, lists and tuples, to a depth -/
def okn : Nat → PyData → Bool
  | _, .int _ => true
  | n + 1, .list ds => ds.all (okn n)
  | n + 1, .tuple ds => ds.all (okn n)
  | _, _ => false
theorem okn_lay : ∀ (n : Nat) (d : PyData), okn n d = true → d.canLay0 = true ∧ d.depth ≤ n := by
  have all : ∀ (n : Nat), (∀ d, okn n d = true → d.canLay0 = true ∧ d.depth ≤ n) → ∀ ds : List PyData, ds.all (okn n) = true → PyData.canLayAll0 ds = true ∧ PyData.depthAll ds ≤ n := by
    intro n ih ds
    induction ds with
    | nil => intro _; simp [PyData.canLayAll0, PyData.depthAll]
    | cons d ds hi =>
      intro h
      rw [List.all_cons, Bool.and_eq_true] at h
      have h1 := ih d h.1
      have h2 := hi h.2
      simp only [PyData.canLayAll0, PyData.depthAll, h1.1, h2.1, Bool.and_self, true_and]
      have := h1.2; have := h2.2; omega
  intro n
  induction n with
  | zero => intro d h; cases d <;> simp [okn] at h; simp [PyData.canLay0, PyData.depth]
  | succ n ih =>
    intro d h
    cases d with
    | int i => simp [PyData.canLay0, PyData.depth]
    | list ds =>
      have := all n ih ds (by simpa [okn] using h)
      simp only [PyData.canLay0, PyData.depth, this.1, true_and]
      have := this.2; omega
    | tuple ds =>
      have := all n ih ds (by simpa [okn] using h)
      simp only [PyData.canLay0, PyData.depth, this.1, true_and]
      have := this.2; omega
    | _ => simp [okn] at h
theorem okn_layAll {n : Nat} {ds : List PyData} (h : ds.all (okn n) = true) : PyData.canLayAll0 ds = true ∧ PyData.depthAll ds ≤ n + 1 := by
  have := okn_lay (n + 1) (.list ds) (by simpa [okn] using h)
  simp only [PyData.canLay0, PyData.depth] at this
  exact ⟨this.1, by have := this.2; omega⟩
theorem okn_shaped {n : Nat} {d : PyData} (h : okn n d = true) (hn : n ≤ 64 := by decide) : SeqAt.shaped d = true := by
  have := okn_lay n d h
  unfold SeqAt.shaped
  rw [this.1, Bool.true_and]; exact decide_eq_true (Nat.le_trans this.2 hn)

def dI (xs : List Int) : PyData := .list (xs.map .int)
def dL (xs : List (List Int)) : PyData := .list (xs.map dI)
theorem ok_dI (xs : List Int) : okn 1 (dI xs) = true := by simp [okn, dI]
theorem eqvAll_ints : ∀ xs ys : List Int, PyData.eqvAll (xs.map .int) (ys.map .int) = decide (xs = ys)
  | [], [] => by simp [PyData.eqvAll]
  | [], _ :: _ => by simp [PyData.eqvAll]
  | _ :: _, [] => by simp [PyData.eqvAll]
  | x :: xs, y :: ys => by
    simp only [List.map_cons, PyData.eqvAll, PyData.eqv, eqvAll_ints xs ys, List.cons.injEq, Bool.decide_and]
    rfl
theorem eqv_dI (xs ys : List Int) : PyData.eqv (dI xs) (dI ys) = decide (xs = ys) := eqvAll_ints xs ys
theorem any_int (xs : List Int) (y : Int) : ((xs.map PyData.int).any fun x => PyData.eqv x (.int y)) = decide (y ∈ xs) := by
  induction xs with
  | nil => simp
  | cons x xs ih => simp only [List.map_cons, List.any_cons, ih, PyData.eqv, List.mem_cons, Bool.decide_or]; congr 1; rw [Bool.eq_iff_iff, beq_iff_eq, decide_eq_true_iff]; exact eq_comm

section
variable {K : Kx} {F : Fm} {σ : St}

theorem co_eq {d1 d2 : PyData} (h1 : SeqAt.shaped d1 = true) (h2 : SeqAt.shaped d2 = true) : Co K F σ .Eq d1 d2 (PyData.eqv d1 d2) := by
  intro A M P s v1 v2 ok R ⟨_, i1⟩ ⟨_, i2⟩
  exact eq_dataH (Reads.keeps R.stay i1) (Reads.keeps R.stay i2) h1 h2 (by have := ok.un; omega) ⟨rfl, .refl R.stay⟩
theorem co_ne {d1 d2 : PyData} (h1 : SeqAt.shaped d1 = true) (h2 : SeqAt.shaped d2 = true) : Co K F σ .NotEq d1 d2 (!PyData.eqv d1 d2) := by
  intro A M P s v1 v2 ok R ⟨_, i1⟩ ⟨_, i2⟩
  exact ne_dataH (Reads.keeps R.stay i1) (Reads.keeps R.stay i2) h1 h2 (by have := ok.un; omega) ⟨rfl, .refl R.stay⟩
theorem co_in {d : PyData} {xs : List PyData} {n : Nat} (h1 : okn n d = true) (h2 : xs.all (okn n) = true) (hn : n ≤ 60 := by decide) : Co K F σ .In d (.list xs) (xs.any fun y => PyData.eqv y d) := by
  intro A M P s v1 v2 ok R ⟨_, i1⟩ ⟨_, i2⟩
  refine SeqAt.in_list_reads (Reads.keeps R.stay i2) (Reads.keeps R.stay i1) (okn_layAll h2).1 (okn_lay n d h1).1 ?_ ⟨rfl, .refl R.stay⟩
  have := (okn_lay n d h1).2
  have := Nat.min_le_right (PyData.depthAll xs) d.depth
  have := ok.un
  omega
theorem co_notin {d : PyData} {xs : List PyData} {n : Nat} (h1 : okn n d = true) (h2 : xs.all (okn n) = true) (hn : n ≤ 60 := by decide) : Co K F σ .NotIn d (.list xs) (!xs.any fun y => PyData.eqv y d) := by
  intro A M P s v1 v2 ok R ⟨_, i1⟩ ⟨_, i2⟩
  refine SeqAt.notIn_list_reads (Reads.keeps R.stay i2) (Reads.keeps R.stay i1) (okn_layAll h2).1 (okn_lay n d h1).1 ?_ ⟨rfl, .refl R.stay⟩
  have := (okn_lay n d h1).2
  have := Nat.min_le_right (PyData.depthAll xs) d.depth
  have := ok.un
  omega

/-! ### owned lists -/
theorem ex_freeze {x : Str} {a : Addr} {ds : List PyData} {ss : List Stmt} {Φ : Out → Prop} (hx : σ.lookup x = some (.own a ds)) (hap : Apart x a σ) (h : Ex K F ((x, .dat (.list ds)) :: σ) ss Φ) : Ex K F σ ss Φ := by
  intro A M P s ok R
  obtain ⟨P', R', h1, h2⟩ := R.freeze hx hap
  exact h A M P' s ok R'
/-- an owned list is looked at -/
theorem tr_borrow {x : Str} {a : Addr} {ds : List PyData} {e : Expr} {b : Bool} (hx : σ.lookup x = some (.own a ds)) (hap : Apart x a σ) (h : Tr K F ((x, .dat (.list ds)) :: σ) e b) : Tr K F σ e b := by
  intro A M P s ok R
  obtain ⟨P', R', h1, h2⟩ := R.freeze hx hap
  exact noE (h A M P' s ok R') fun r s' q => ⟨q.1, ⟨stays_refl _, stays_trans h1 q.2.stay, q.2.ext, fun _ _ e => .inl e, q.2.gens, q.2.os⟩⟩
theorem ev_borrow {x : Str} {a : Addr} {ds : List PyData} {e : Expr} {d : PyData} (hx : σ.lookup x = some (.own a ds)) (hap : Apart x a σ) (h : Ev K F ((x, .dat (.list ds)) :: σ) e d) (hs : scal d = true := by rfl) : Ev K F σ e d := by
  intro A M P s ok R
  obtain ⟨P', R', h1, h2⟩ := R.freeze hx hap
  exact noE (h A M P' s ok R') fun r s' ⟨P'', g, hi⟩ => ⟨P, ⟨stays_refl _, stays_trans h1 (stays_trans g.sub g.stay), g.ext, fun _ _ e => .inl e, g.gens, g.os⟩, hi.scal hs⟩

/-- no name of σ holds the object a -/
def New (a : Addr) (σ : St) : Prop := ∀ y sl, σ.lookup y = some sl → sl.adr ≠ some a
theorem New.apart {a : Addr} {σ : St} {x : Str} {sl : Slot} (h : New a σ) : Apart x a ((x, sl) :: σ) := fun y tl hy hl => by rw [lookup_cons_ne hy] at hl; exact h y tl hl
theorem new_of {M : Am} {P : Heap} {s : Shared} {a : Addr} (R : Rel K F M P σ s) (ha : s.heap.get? a = none) : New a σ := fun y sl hl q => by
  obtain ⟨v, H, S⟩ := R.var y sl hl
  cases sl with
  | dat d => cases q
  | own b ds => cases q; obtain ⟨_, ⟨vs, n, ho, _⟩, _⟩ := S; rw [ha] at ho; cases ho
  | dct b n f => cases q; obtain ⟨_, ⟨fv, ⟨o, es, ep, ho, _⟩, _⟩, _⟩ := S; rw [ha] at ho; cases ho
theorem nw_slot {M : Am} {P P' : Heap} {s s' : Shared} {a : Addr} {vs : List Value} {n : Nat} {ds : List PyData} (R : Rel K F M P σ s) (g : Grow (frs K.Fs) P s P' s') (ho : s'.heap.get? a = some (lobj vs n)) (hi : IsAll P' vs ds) (hn : s.heap.get? a = none) (hP : P'.get? a = none) :
    SlotIs K F.env.locals M P' s'.heap (.own a ds) (.ref a) := by
  refine ⟨rfl, ⟨vs, n, ho, hi⟩, hP, R.ext.none hn, fun hm => ?_, fun q => ?_⟩
  · obtain ⟨_, o, e, _⟩ := R.frm.mem hm
    rw [hn] at e; cases e
  · obtain ⟨m, o, es, ep, e, _⟩ := R.loc
    rw [← q, hn] at e; cases e
theorem ex1_own {x : Str} {np pos : Pos} {e : Expr} {ds : List PyData} {Φ : Out → Prop} (h : EvN K F σ e ds) (hx : Stores F x) (hΦ : ∀ a, New a σ → Φ (.nx ((x, .own a ds) :: σ)))
    (hq : swapsWithSole [.Name x np] e pos.line F.env = pure false := by rfl) (hw : swappedStores [.Name x np] e F.env = pure none := by rfl) : Ex1 K F σ (.Assign [.Name x np] e pos) Φ := by
  intro A M P s ok R
  have e1 : exec (.Assign [.Name x np] e pos) F.env = (do
    standAt pos
    if ← swapsWithSole [.Name x np] e pos.line F.env then do
      evalThenUse e F.env fun v => assignAll v ((assignEach [.Name x np] F.env).map (·.2))
      pure .next
    else do
      let v ← eval e F.env
      assignStores F.env v (← swappedStores [.Name x np] e F.env) ((assignEach [.Name x np] F.env).map (·.2))) := rfl
  rw [e1, hq, hw]
  refine wpAny_bind (wpAny_standAt (wpAny_bind (wpAny_pure ?_)))
  show wpAny _ _ (eval e F.env >>= _) _ _ _
  refine wpAny_bind (noE (h A M P s ok R) fun v s' y => wpAny_bind (wpAny_pure ?_))
  obtain ⟨P', a, vs, n, rfl, g, ho, hi, hn, hP⟩ := y
  unfold assignStores assignAll
  dsimp only [assignEach, List.map]
  have hnew := new_of R hn
  refine wpAny_bind (wpAny_assign_Name (store_slot (sl := .own a ds) (R.grow g) hx (nw_slot R g ho hi hn hP) fun s'' R'' => ?_))
  exact wpAny_pure ⟨P', _, R'', hΦ a hnew⟩

/-- a method of a list called upon an owned name -/
theorem own_meth {x : Str} {a : Addr} {ds : List PyData} {name : Str} {id : String} {np apos pos : Pos} {e : Expr} {es : List Expr} {ts : List PyData} {A : Around} {M : Am} {P : Heap} {s : Shared} {E : Value → Shared → Prop} {Q : Value → Shared → Prop}
    (slot : PySem.Slot "list" name id) (hty : typeOf (.builtin id) = pure (.type "method_descriptor")) (hx : σ.lookup x = some (.own a ds)) (hargs : EvL K F σ (e :: es) ts) (ok : OkA K A) (R : Rel K F M P σ s)
    (h : ∀ vs s' P', Grow (frs K.Fs) P s P' s' → Rel K F M P' σ s' → IsAll P' vs ts → wpAny K.M A (call (.builtin id) (.ref a :: vs)) Q E s')
    (hbase : attributeBase (.Name x np) name F.env (eval (.Name x np) F.env) = eval (.Name x np) F.env)
    (hfew : ((backTo pos (starEach (e :: es) F.env)).all (fun x => !x.1) && (backToKw pos (keywordEach [] F.env)).all (fun x => x.1.isSome)
      && decide ((e :: es).length + ([] : List Keyword).length + (if ([] : List Keyword).isEmpty then 0 else 1) < 30)) = true)
    (hline : (apos.endLine == pos.line) = true) (hd : (x == ("__debug__" : Str)) = false) (he : ∀ env, starEach (e :: es) env = (false, eval e env) :: starEach es env) (hp : ∀ env pos, (backTo pos (starEach es env)).any (·.1) = false) :
    wpAny K.M A (eval (.Call (.Attribute (.Name x np) name apos) (e :: es) [] pos) F.env) Q E s := by
  refine wpAny_Call_method hbase hfew hline PySem.F.plainAttrs_list slot hty ?_
  obtain ⟨v, H, hv, ⟨vs, n, ho, hi⟩, _⟩ := R.var x _ hx
  subst hv
  refine wpAny_Name ?_ hd
  have fin : s.TypeIs (.ref a) "list" ∧ (∀ a', Value.ref a = .ref a' → ∃ ob, s.heap.get? a' = some ob ∧ ob.dict = none) ∧ wpAny K.M A (callWith pos (.builtin id) [.ref a] (backTo pos (starEach (e :: es) F.env)) []) Q E s := by
    refine ⟨⟨_, ho, rfl⟩, fun a' q => by cases q; exact ⟨_, ho, rfl⟩, ?_⟩
    refine callWith_method1 (noE (hargs A M P s pos ok R) fun vs s1 y => ?_) (he _) (hp _ _)
    obtain ⟨P1, g, i⟩ := y
    exact h vs s1 P1 g (R.grow g) i
  rcases H with ⟨hk, m, hn, hv⟩ | ⟨hk | hk, hcl, c, hc, hv⟩
  · exact wpAny_loadName_local R.fn hk hn hv fin
  · exact wpAny_loadName_cell R.fn hk hc hv fin
  · exact wpAny_loadName_free R.fn hk hc hv fin hcl

theorem ex1_append {x : Str} {a : Addr} {ds : List PyData} {np apos pos pos' : Pos} {e : Expr} {d : PyData} {Φ : Out → Prop} (hx : σ.lookup x = some (.own a ds)) (hap : Apart x a σ) (h : Ev K F σ e d) (hΦ : Φ (.nx ((x, .own a (ds ++ [d])) :: σ))) (hsz : ds.length ≤ 1000000)
    (hbase : attributeBase (.Name x np) ("append" : Str) F.env (eval (.Name x np) F.env) = eval (.Name x np) F.env := by rfl)
    (hfew : ((backTo pos (starEach [e] F.env)).all (fun x => !x.1) && (backToKw pos (keywordEach [] F.env)).all (fun x => x.1.isSome)
      && decide (([e] : List Expr).length + ([] : List Keyword).length + (if ([] : List Keyword).isEmpty then 0 else 1) < 30)) = true := by rfl)
    (hline : (apos.endLine == pos.line) = true := by rfl) (hd : (x == ("__debug__" : Str)) = false := by decide) (he : ∀ env, starEach [e] env = [(false, eval e env)] := by intro _; rfl)
    (hi : interactive F.env = false := by rfl) (hs : ∀ env, swapsWith (.Call (.Attribute (.Name x np) ("append" : Str) apos) [e] [] pos) none pos'.line env = pure false := by intro _; rfl) :
    Ex1 K F σ (.Expr (.Call (.Attribute (.Name x np) ("append" : Str) apos) [e] [] pos) pos') Φ := by
  intro A M P s ok R
  refine wpAny_Expr_any (own_meth PySem.F.slot_list_append PySem.F.type_list_append hx (evl_cons h evl_nil he) ok R (fun vs s1 P1 g R1 i => ?_) hbase hfew hline hd he (fun _ _ => rfl)) hi (hs _)
  obtain ⟨v, rfl, hv⟩ := isall1 i
  obtain ⟨u, H, hu, ⟨ws, n, ho, hws⟩, r⟩ := R1.var x _ hx
  refine wpAny_list_append_plain (items := ws.toArray) ⟨n, ho⟩ (fun h' hl' hs' => ?_) (by rw [List.size_toArray, hws.length]; exact Nat.le_trans hsz (by decide))
  obtain ⟨n', ho'⟩ := hl'
  refine ⟨P1, _, R1.turn (tk := s1.toks) hx rfl hs' hap (fun v' S => ?_), hΦ⟩
  obtain ⟨e1, _, e3⟩ := S
  exact ⟨e1, ⟨ws ++ [v], n', by simpa [lobj] using ho', hws.snoc hv⟩, e3⟩
end
end Mine
end

section
set_option maxRecDepth 100000
set_option linter.unusedVariables false
namespace Mine
open PySem PySem.W PyProof.Rows PySem.Spec PySem.Calls
section
variable {K : Kx} {F : Fm} {σ : St}
theorem As.pre {t : Expr} {d : PyData} {σ₁ σ₂ : St} (h : As K F t d σ₁ σ₂) (hs : Sub σ₁ σ) : As K F t d σ σ₂ := fun A M P s v ok R i => h A M P s v ok (R.sub hs) i
theorem ex1_forS {t iter : Expr} {body orelse : List Stmt} {pos : Pos} {ds : List PyData} {outer : List Env} {Φ : Out → Prop} (σf : Nat → St) (hF : K.Fs = F.env :: outer) (hi : EvI K F σ iter ds) (h0 : SubL (σf 0) σ)
    (turn : ∀ i d, ds[i]? = some d → ∃ σi', As K F t d (σf i) σi' ∧ Ex K F σi' body (turnΦ (fun σ' => SubL (σf (i + 1)) σ') Φ))
    (fin : Ex K F (σf ds.length) orelse Φ) (hs : ∀ x, foldedSetIterable iter F.env x = pure x := by intro _; rfl) : Ex1 K F σ (.For t iter body orelse pos) Φ :=
  ex1_for (fun i σ' => Sub (σf i) σ') hF hi h0.sub (fun i d σi hd hJ => by
    obtain ⟨σi', ha, hb⟩ := turn i d hd
    exact ⟨σi', ha.pre hJ, hb.imp fun o ho => by
      cases o with
      | nx σ' => exact SubL.sub ho
      | co σ' => exact SubL.sub ho
      | br σ' => exact ho
      | rt d => exact ho
      | ex c b σ' => exact ho⟩) (fun σn hJ => fin.sub hJ) hs
end
end Mine
end

section
set_option maxRecDepth 100000
set_option linter.unusedVariables false
namespace Mine
open PySem PySem.W PyProof.Rows PySem.Spec PySem.Calls

section
variable {K : Kx} {F : Fm} {σ : St} {M : Am} {P : Heap} {s : Shared}

theorem none_or {h : Heap} {a : Addr} (f : ∀ o, h.get? a = some o → False) : h.get? a = none := by
  cases r : h.get? a with
  | none => rfl
  | some o => exact (f o r).elim

/-- the base grows by objects that the frame does not hold -/
theorem Rel.rebaseG {h₁ : Heap} (R : Rel K F M P σ s) (E : Addr → Prop) (hE : ∀ b, E b → P.get? b = none ∧ b ≠ F.env.locals ∧ (∀ x ∈ F.W, F.env.cells.lookup x ≠ some b) ∧ (∀ x sl, σ.lookup x = some sl → sl.adr ≠ some b))
    (h1 : ∀ b o, h₁.get? b = some o → M.h₀.get? b = some o ∨ (E b ∧ s.heap.get? b = some o)) : Rel K F { M with h₀ := h₁, P₀ := P } P σ s where
  tp := R.tp
  sub0 := stays_refl _
  stay := R.stay
  ext := fun b o e => by
    rcases h1 b o e with q | ⟨_, q⟩
    · exact R.ext b o q
    · exact ⟨fun _ => q, o.slots, q⟩
  new := fun a o e => .inl e
  frm := R.frm
  loc := R.loc
  locP := R.locP
  loc0 := none_or fun o r => by
    rcases h1 _ o r with x | ⟨x, _⟩
    · rw [R.loc0] at x; cases x
    · exact (hE _ x).2.1 rfl
  cel := fun x hx => by
    obtain ⟨c, v, g1, g2, g3, g4⟩ := R.cel x hx
    refine ⟨c, v, g1, g2, g3, none_or fun o r => ?_⟩
    rcases h1 _ o r with y | ⟨y, _⟩
    · rw [g4] at y; cases y
    · exact (hE _ y).2.2.1 x hx g1
  celd := R.celd
  var := fun x sl hx => by
    obtain ⟨v, H, S⟩ := R.var x sl hx
    refine ⟨v, H, ?_⟩
    cases sl with
    | dat d => exact S
    | own a ds =>
      obtain ⟨hv, k0, k1, k2, k3⟩ := S
      refine ⟨hv, k0, k1, none_or fun o r => ?_, k3⟩
      rcases h1 _ o r with y | ⟨y, _⟩
      · rw [k2] at y; cases y
      · exact (hE _ y).2.2.2 x _ hx rfl
    | dct a n f =>
      obtain ⟨hv, k0, k1, k2, k3⟩ := S
      refine ⟨hv, k0, k1, none_or fun o r => ?_, k3⟩
      rcases h1 _ o r with y | ⟨y, _⟩
      · rw [k2] at y; cases y
      · exact (hE _ y).2.2.2 x _ hx rfl
  fn := R.fn
  glb := R.glb
  blt := R.blt
  gens := R.gens
  os := R.os

/-- an object that the frame does not hold is turned -/
theorem Rel.other {h' : Heap} {tk : Nat} {a : Addr} (R : Rel K F M P σ s) (hP : P.get? a = none) (h0 : M.h₀.get? a = none) (hf : a ∉ frs K.Fs) (hL : a ≠ F.env.locals) (hcl : ∀ c v, s.heap.IsCell c v → c ≠ a) (hsl : ∀ x sl, σ.lookup x = some sl → sl.adr ≠ some a)
    (hs : Heap.SameBut a s.heap h') : Rel K F M P σ { s with heap := h', toks := tk } where
  tp := R.tp
  sub0 := R.sub0
  stay := fun b o e => by
    have hb : b ≠ a := fun q => by rw [q, hP] at e; cases e
    exact (hs.2 b hb).trans (R.stay b o e)
  ext := ext_sameBut R.ext hs h0
  new := R.new
  frm := by
    have : ∀ {l : List Env}, s.heap.FunFrames P l → a ∉ frs l → h'.FunFrames P l := by
      intro l
      induction l with
      | nil => intro _ _; trivial
      | cons e r ih =>
        rintro ⟨hk, ⟨L, o, hf, hn, ho, hd⟩, hr⟩ hna
        have h1 : a ∉ L :: frs r := by simpa [frs, List.filterMap_cons, hf] using hna
        refine ⟨hk, ⟨L, o, hf, hn, (hs.2 L fun q => h1 (by rw [q]; exact .head _)).trans ho, hd⟩, ih hr fun q => h1 (.tail _ q)⟩
    exact this R.frm hf
  loc := let ⟨m, hn⟩ := R.loc; ⟨m, hn.sameBut hs (Ne.symm hL)⟩
  locP := R.locP
  loc0 := R.loc0
  cel := fun y hy => by
    obtain ⟨d, u, h1, h2, h3, h4⟩ := R.cel y hy
    exact ⟨d, u, h1, h2.sameBut hs (hcl d u h2), h3, h4⟩
  celd := R.celd
  var := fun y tl hy => by
    obtain ⟨u, h1, h2⟩ := R.var y tl hy
    refine ⟨u, ?_, slot_same h2 hs (hsl y tl hy)⟩
    rcases h1 with ⟨hk, m', hm', hv'⟩ | ⟨hk, hx', d, hd, hv''⟩
    · exact .inl ⟨hk, m', hm'.sameBut hs (Ne.symm hL), hv'⟩
    · exact .inr ⟨hk, hx', d, hd, hv''.sameBut hs (hcl d _ hv'')⟩
  fn := R.fn
  glb := R.glb
  blt := R.blt
  gens := R.gens
  os := R.os

/-- the list that a comprehension fills -/
def DOk (K : Kx) (L : Addr) (M : Am) (P : Heap) (D : Addr) (outs : List PyData) (s : Shared) : Prop :=
  (∃ vs n, s.heap.get? D = some (lobj vs n) ∧ IsAll P vs outs) ∧ P.get? D = none ∧ M.h₀.get? D = none ∧ D ∉ frs K.Fs ∧ D ≠ L
def plainSt (σ : St) : Prop := ∀ x sl, σ.lookup x = some sl → sl.adr = none

theorem mid_turn' {A : Around} {I : Addr} {fp wr : List Addr} {ds : List PyData} {Pw : Nat → Value → Prop} {St : Nat → Heap → Prop} {Pi : Heap} {i : Nat} {E : Value → Shared → Prop} {Q : Option Value → Shared → Prop}
    (it : ItOk K A Pi I fp wr ds Pw St) (m : Mid K F A M I fp wr ds Pw St Pi P σ i s)
    (hi : i < ds.length) (h : ∀ v s' d, ds[i]? = some d → Is P v d → Mid K F A M I fp wr ds Pw St Pi P σ (i + 1) s' → (∀ b o, b ∉ wr → s.heap.get? b = some o → s'.heap.get? b = some o) → Q (some v) s') : wpAny K.M A (pyNext (.ref I)) Q E s := by
  refine it.W.item i s Q E hi m.st fun v h' tk hv st hk => ?_
  obtain ⟨d, hd, hi⟩ := it.val i v hi hv
  have R' := m.R.step' (h' := h') (tk := tk) (· ∈ wr) (fun b hb => ⟨(m.wr0 b hb).2, (m.wr0 b hb).1, fun o e => by
    obtain ⟨o', vs, e', hd'⟩ := it.ex i _ m.st b hb
    rw [e] at e'; cases e'; exact ⟨vs, hd'⟩⟩) (fun b o hb e => hk b o hb e)
  exact h v _ d hd (hi.mono m.sub) ⟨R', st, m.sub, m.wr0⟩ hk
theorem mid_done' {A : Around} {I : Addr} {fp wr : List Addr} {ds : List PyData} {Pw : Nat → Value → Prop} {St : Nat → Heap → Prop} {Pi : Heap} {E : Value → Shared → Prop} {Q : Option Value → Shared → Prop}
    (it : ItOk K A Pi I fp wr ds Pw St) (m : Mid K F A M I fp wr ds Pw St Pi P σ ds.length s)
    (h : ∀ s', Rel K F M P σ s' → (∀ b o, b ∉ wr → s.heap.get? b = some o → s'.heap.get? b = some o) → Q none s') : wpAny K.M A (pyNext (.ref I)) Q E s := by
  refine it.W.done s Q E m.st fun h' tk hk => ?_
  exact h _ (m.R.step' (h' := h') (tk := tk) (· ∈ wr) (fun b hb => ⟨(m.wr0 b hb).2, (m.wr0 b hb).1, fun o e => by
    obtain ⟨o', vs, e', hd'⟩ := it.ex _ _ m.st b hb
    rw [e] at e'; cases e'; exact ⟨vs, hd'⟩⟩) (fun b o hb e => hk b o hb e)) hk

theorem wr_ne {A : Around} {I : Addr} {fp wr : List Addr} {ds : List PyData} {Pw : Nat → Value → Prop} {St : Nat → Heap → Prop} {Pi : Heap} {i : Nat} {D : Addr} {o : Obj}
    (it : ItOk K A Pi I fp wr ds Pw St) (st : St i s.heap) (hD : s.heap.get? D = some o) (hn : ∀ vs, o.data ≠ .fields vs) : D ∉ wr := fun hm => by
  obtain ⟨o', vs, e, hd⟩ := it.ex i _ st D hm
  rw [hD] at e; cases e; exact hn vs hd

/-- a turn of a comprehension under a base that holds the iterator and the list -/
theorem mid_bodyD {A : Around} {I : Addr} {fp wr : List Addr} {ds : List PyData} {Pw : Nat → Value → Prop} {St : Nat → Heap → Prop} {Pi : Heap} {i : Nat} {D : Addr} {outs : List PyData}
    (it : ItOk K A Pi I fp wr ds Pw St) (m : Mid K F A M I fp wr ds Pw St Pi P σ i s) (hD : DOk K F.env.locals M P D outs s) (hσ : plainSt σ) :
    ∃ M' : Am, Rel K F M' P σ s ∧ M'.P₀ = P ∧
      (∀ P' σ' s', Rel K F M' P' σ' s' → Mid K F A M I fp wr ds Pw St Pi P' σ' i s' ∧ DOk K F.env.locals M P' D outs s') := by
  obtain ⟨⟨vs, n, ho, hi⟩, d1, d2, d3, d4⟩ := hD
  obtain ⟨h₁, hh⟩ := base_with M.h₀ s.heap (D :: wr)
  have st01 : M.h₀.StaysIn h₁ := fun b o e => by
    rw [hh]; split
    · rename_i hb
      rcases List.mem_cons.mp hb with q | q
      · rw [q, d2] at e; cases e
      · rw [(m.wr0 b q).1] at e; cases e
    · exact e
  have und : ∀ P' σ' s', Rel K F { M with h₀ := h₁, P₀ := P } P' σ' s' → Rel K F M P' σ' s' := fun P' σ' s' R' => R'.unbase st01 m.R.sub0 m.R.new rfl rfl
  have hE : ∀ b, b ∈ D :: wr → P.get? b = none ∧ b ≠ F.env.locals ∧ (∀ x ∈ F.W, F.env.cells.lookup x ≠ some b) ∧ (∀ x sl, σ.lookup x = some sl → sl.adr ≠ some b) := fun b hb => by
    have kind : ∃ o, s.heap.get? b = some o ∧ (∀ v, o.data ≠ .cell v) ∧ ∀ es n, o.data ≠ .dict es n := by
      rcases List.mem_cons.mp hb with q | q
      · subst q; exact ⟨_, ho, (fun _ x => by cases x), (fun _ _ x => by cases x)⟩
      · obtain ⟨o, vs, e, hd⟩ := it.ex i _ m.st b q
        exact ⟨o, e, (fun _ x => by rw [hd] at x; cases x), (fun _ _ x => by rw [hd] at x; cases x)⟩
    obtain ⟨o, e, k1, k2⟩ := kind
    refine ⟨?_, fun q => ?_, fun x hx q => ?_, fun x sl hx => by rw [hσ x sl hx]; intro q; cases q⟩
    · rcases List.mem_cons.mp hb with q | q
      · rw [q]; exact d1
      · exact (m.wr0 b q).2
    · obtain ⟨mm, o2, es, ep, e2, hd2, _⟩ := m.R.loc
      rw [← q, e] at e2; cases e2; exact k2 _ _ hd2
    · obtain ⟨c, v, g1, ⟨o2, g2, g3⟩, _⟩ := m.R.cel x hx
      rw [q] at g1; cases g1
      rw [e] at g2; cases g2; exact k1 _ g3
  refine ⟨{ M with h₀ := h₁, P₀ := P }, m.R.rebaseG (· ∈ D :: wr) hE (fun b o e => ?_), rfl, fun P' σ' s' R' => ⟨⟨und _ _ _ R', ?_, stays_trans m.sub R'.sub0, fun b hb => ⟨(m.wr0 b hb).1, none_or fun o r => ?_⟩⟩, ⟨vs, n, ?_, hi.mono R'.sub0⟩, none_or fun o r => ?_, d2, d3, d4⟩⟩
  · rw [hh] at e; split at e
    · exact .inr ⟨‹_›, e⟩
    · exact .inl e
  · refine it.W.frame _ _ _ m.st fun b hb o e => ?_
    rcases it.fpP b hb with q | ⟨o', q⟩
    · have : h₁.get? b = some o := by rw [hh, if_pos (.tail _ q)]; exact e
      refine (R'.ext b o this).1 fun x => ?_
      obtain ⟨o2, e2, hn⟩ := (m.R.frm.mem x).2
      obtain ⟨o3, vs, e3, hd⟩ := it.ex i _ m.st b q
      rw [e3] at e2; cases e2; exact hn vs hd
    · have h1 := m.R.stay b o' (m.sub b o' q)
      rw [e] at h1; cases h1
      exact R'.stay b o (R'.sub0 b o (m.sub b o q))
  · rcases R'.new b o r with q | q
    · have : P.get? b = some o := q
      rw [(m.wr0 b hb).2] at this; cases this
    · obtain ⟨o3, vs, e3, hd⟩ := it.ex i _ m.st b hb
      have : h₁.get? b = some o3 := by rw [hh, if_pos (.tail _ hb)]; exact e3
      rw [show h₁.get? b = none from q] at this; cases this
  · exact (R'.ext D _ (by rw [hh, if_pos (.head _)]; exact ho)).1 d3
  · rcases R'.new D o r with q | q
    · have : P.get? D = some o := q
      rw [d1] at this; cases this
    · have : h₁.get? D = some (lobj vs n) := by rw [hh, if_pos (.head _)]; exact ho
      rw [show h₁.get? D = none from q] at this; cases this

/-- the tests of a clause -/
def Trs (K : Kx) (F : Fm) (σ : St) (ifs : List Expr) (b : Bool) : Prop :=
  ∀ A M P s, OkA K A → Rel K F M P σ s → wpAny K.M A (forIn ifs true fun c r => if r = true then do let ok ← isTrue c F.env (eval c F.env); pure (ForInStep.yield ok) else pure (ForInStep.yield r)) (fun r s' => r = b ∧ Grow (frs K.Fs) P s P s') NoE s
theorem trs_nil : Trs K F σ [] true := fun A M P s ok R => wpAny_tests_nil ⟨rfl, .refl R.stay⟩
theorem trs_one {e : Expr} {b : Bool} (h : Tr K F σ e b) : Trs K F σ [e] b := fun A M P s ok R => wpAny_tests_one (h A M P s ok R)

/-- the item appended -/
theorem append_D {A : Around} {D : Addr} {outs : List PyData} {v : Value} {d : PyData} {E : Value → Shared → Prop} {Q : Value → Shared → Prop} (R : Rel K F M P σ s) (hD : DOk K F.env.locals M P D outs s) (hσ : plainSt σ) (hv : Is P v d) (hsz : outs.length ≤ 1000000)
    (h : ∀ s', Rel K F M P σ s' → DOk K F.env.locals M P D (outs ++ [d]) s' → Heap.SameBut D s.heap s'.heap → Q .none s') : wpAny K.M A (call (.builtin "list.append") [.ref D, v]) Q E s := by
  obtain ⟨⟨vs, n, ho, hi⟩, d1, d2, d3, d4⟩ := hD
  refine wpAny_list_append_plain (items := vs.toArray) ⟨n, ho⟩ (fun h' hl' hs' => ?_) (by rw [List.size_toArray, hi.length]; exact Nat.le_trans hsz (by decide))
  obtain ⟨n', ho'⟩ := hl'
  refine h _ (R.other (tk := s.toks) d1 d2 d3 d4 (fun c u ⟨o, e, hd⟩ q => by rw [q, ho] at e; cases e; cases hd) (fun x sl hx => by rw [hσ x sl hx]; intro q; cases q) hs') ?_ hs'
  exact ⟨⟨vs ++ [v], n', by simpa [lobj] using ho', hi.snoc hv⟩, d1, d2, d3, d4⟩
end
end Mine
end

section
set_option maxRecDepth 100000
set_option linter.unusedVariables false
namespace Mine
open PySem PySem.W PyProof.Rows PySem.Spec PySem.Calls

def lastTree (elt target iter : Expr) (ifs : List Expr) (c : Code) (it acc : Value) (env : Env) : Sem Fin := do
  standAt iter.pos
  match ← pyNext it with
  | none => pure (.done .next)
  | some v =>
    letOwnedTupleGo target it v
    assign target env v
    let mut ok := true
    for c in ifs do
      if ok then ok ← isTrue c env (eval c env)
    if ok then
      (do let _ ← call (.builtin "list.append") [acc, ← eval elt env])
    again c

def outsTo (out : Nat → Option PyData) (n : Nat) : List PyData := (List.range n).filterMap out
theorem outsTo_zero (out : Nat → Option PyData) : outsTo out 0 = [] := rfl
theorem outsTo_some {out : Nat → Option PyData} {n : Nat} {d : PyData} (h : out n = some d) : outsTo out (n + 1) = outsTo out n ++ [d] := by simp [outsTo, List.range_succ, List.filterMap_append, h]
theorem outsTo_none {out : Nat → Option PyData} {n : Nat} (h : out n = none) : outsTo out (n + 1) = outsTo out n := by simp [outsTo, List.range_succ, List.filterMap_append, h]
theorem outsTo_length (out : Nat → Option PyData) (n : Nat) : (outsTo out n).length ≤ n := by
  have := List.length_filterMap_le out (List.range n); simpa [outsTo] using this

/-- a turn of the last clause -/
def Turn (K : Kx) (F : Fm) (σ : St) (elt target : Expr) (ifs : List Expr) (d : PyData) (r : Option PyData) : Prop :=
  ∃ σ1, As K F target d σ σ1 ∧ Sub σ σ1 ∧ plainSt σ1 ∧ ∃ b, Trs K F σ1 ifs b ∧ (b = false → r = none) ∧ (b = true → ∃ e, r = some e ∧ Ev K F σ1 elt e)

section
variable {K : Kx} {F : Fm} {σ : St} {M : Am} {P : Heap} {s : Shared}

theorem comp_last {A : Around} {I D : Addr} {fp wr : List Addr} {ds outs : List PyData} {Pw : Nat → Value → Prop} {Stt : Nat → Heap → Prop} {Pi : Heap} {elt target iter : Expr} {ifs : List Expr} {gens : List Comprehension} {scope : Scope} {pos : Pos} {k : Nat} {R : Result → Shared → Prop} (out : Nat → Option PyData)
    (heq : compTurn (.ListComp elt gens scope pos) k (.ref I) (.ref D) F.env = lastTree elt target iter ifs (.compLoop (.ListComp elt gens scope pos) k (.ref I) (.ref D) F.env) (.ref I) (.ref D) F.env)
    (ok : OkA K A) (it : ItOk K A Pi I fp wr ds Pw Stt) (m : Mid K F A M I fp wr ds Pw Stt Pi P σ 0 s) (hD : DOk K F.env.locals M P D outs s) (hσ : plainSt σ) (hsz : outs.length + ds.length ≤ 1000000)
    (turn : ∀ i d, ds[i]? = some d → Turn K F σ elt target ifs d (out i))
    (fin : ∀ P' s', Rel K F M P' σ s' → P.StaysIn P' → DOk K F.env.locals M P' D (outs ++ outsTo out ds.length) s' → R (.ok .next) s') :
    codeAny K.M A (.compLoop (.ListComp elt gens scope pos) k (.ref I) (.ref D) F.env) R s := by
  refine codeAny_loop rfl (fun n s' => ∃ i P', n = ds.length + 1 - i ∧ i ≤ ds.length ∧ P.StaysIn P' ∧ Mid K F A M I fp wr ds Pw Stt Pi P' σ i s' ∧ DOk K F.env.locals M P' D (outs ++ outsTo out i) s')
    ?_ (ds.length + 1) ⟨0, P, by omega, by omega, stays_refl _, m, by rw [outsTo_zero, List.append_nil]; exact hD⟩
  rintro n s1 ⟨i, P1, rfl, hle, hPP, m1, hD1⟩
  show wpAny _ A ((compTurn (.ListComp elt gens scope pos) k (.ref I) (.ref D) F.env).onRaise (fun x => do noteFrame x F.env; theTreesLotGoes x)) _ _ s1
  refine wpAny_noted ?_
  rw [heq]
  unfold lastTree
  have hDw : D ∉ wr := by
    obtain ⟨⟨vs, n, ho, _⟩, _⟩ := hD1
    exact wr_ne it m1.st ho fun _ q => by cases q
  refine wpAny_bind (wpAny_standAt (wpAny_bind ?_))
  by_cases hlt : i < ds.length
  · refine mid_turn' it m1 hlt fun v s2 d hd hv m2 hk2 => ?_
    have hD2 : DOk K F.env.locals M P1 D (outs ++ outsTo out i) s2 := by
      obtain ⟨⟨vs, n, ho, hi⟩, r⟩ := hD1
      exact ⟨⟨vs, n, hk2 _ _ hDw ho, hi⟩, r⟩
    refine wpAny_bind (it.lt target (i + 1) s2 v _ _ m2.st ?_)
    obtain ⟨σ1, ha, hsub, hσ1, b, ht, hb0, hb1⟩ := turn i d hd
    obtain ⟨M', R', hM', hmid⟩ := mid_bodyD it m2 hD2 hσ
    refine wpAny_bind (noE (ha A M' P1 s2 v ok R' hv) fun _ s3 x => ?_)
    obtain ⟨P3, R3, h13⟩ := x
    refine wpAny_bind (noE (ht A M' P3 s3 ok R3) fun r s4 x => ?_)
    obtain ⟨rfl, g4⟩ := x
    have R4 := R3.grow g4
    cases r with
    | false =>
      obtain ⟨m4, hD4⟩ := hmid _ _ _ R4
      refine wpAny_pure ⟨rfl, ds.length + 1 - (i + 1), by omega, i + 1, P3, rfl, hlt, stays_trans hPP h13, ⟨m4.R.sub hsub, m4.st, m4.sub, m4.wr0⟩, ?_⟩
      rw [outsTo_none (hb0 rfl)]; exact hD4
    | true =>
      obtain ⟨e, he, hev⟩ := hb1 rfl
      refine wpAny_bind (wpAny_bind (ev_then hev ok R4 fun v5 s5 P5 g5 R5 i5 => wpAny_bind ?_))
      obtain ⟨m5, hD5⟩ := hmid _ _ _ R5
      refine append_D m5.R hD5 hσ1 i5 (by have := outsTo_length out i; simp; omega) fun s6 R6 hD6 hs6 => ?_
      refine wpAny_pure (wpAny_pure ⟨rfl, ds.length + 1 - (i + 1), by omega, i + 1, P5, rfl, hlt, stays_trans hPP (stays_trans h13 g5.sub), ⟨R6.sub hsub, ?_, m5.sub, m5.wr0⟩, ?_⟩)
      · refine it.W.frame _ _ _ m5.st fun b hb o e => ?_
        have hbD : b ≠ D := fun q => by
          rcases it.fpP b hb with r | ⟨o', r⟩
          · exact hDw (q ▸ r)
          · have := m5.sub _ _ r
            rw [q, hD5.2.1] at this; cases this
        rw [hs6.2 b hbD]; exact e
      · rw [outsTo_some he, ← List.append_assoc]; exact hD6
  · have e : i = ds.length := by omega
    subst e
    refine mid_done' it m1 fun s2 R2 hk2 => ?_
    refine wpAny_pure (fin P1 s2 R2 hPP ?_)
    obtain ⟨⟨vs, n, ho, hi⟩, r⟩ := hD1
    exact ⟨⟨vs, n, hk2 _ _ hDw ho, hi⟩, r⟩
end
end Mine
end

section
set_option maxRecDepth 100000
set_option linter.unusedVariables false
namespace Mine
open PySem PySem.W PyProof.Rows PySem.Spec PySem.Calls

/-- the frame of a comprehension -/
def cEnv (scope : Scope) (cl : List (Str × Addr)) (C : Addr) (env : Env) : Env :=
  { scope := relabel scope env, locals := C, globals := env.globals, cells := cellsFrom (C + 1) scope.names cl, qual := env.qual, func := none, code := env.code, frame := env.frame, builtins := env.builtins }

theorem cells_new : ∀ (names : List (Str × NameKind)) (h : Heap) (acc : List (Str × Addr)) (y : Str) (c : Addr), (cellsFrom h.objs.size names acc).lookup y = some c →
    acc.lookup y = some c ∨ (h.objs.size ≤ c ∧ (pushCells h names).IsCell c none)
  | [], h, acc, y, c, e => .inl e
  | (n, k) :: r, h, acc, y, c, e => by
    unfold cellsFrom at e
    unfold pushCells
    split at e
    · rename_i hk
      have e' : (cellsFrom (h.push { cls := .type "cell", data := .cell none }).objs.size r ((n, h.objs.size) :: acc)).lookup y = some c := by rw [Heap.size_push]; exact e
      rw [if_pos hk]
      rcases cells_new r (h.push { cls := .type "cell", data := .cell none }) ((n, h.objs.size) :: acc) y c e' with q | ⟨q1, q2⟩
      · rw [List.lookup_cons] at q
        cases hb : y == n with
        | true =>
          rw [hb] at q; cases q
          exact .inr ⟨Nat.le_refl _, ⟨_, pushCells_keeps _ _ _ _ (Heap.get?_push_size _ rfl), rfl⟩⟩
        | false => rw [hb] at q; exact .inl q
      · rw [Heap.size_push] at q1
        exact .inr ⟨Nat.le_of_succ_le q1, q2⟩
    · rename_i hk
      rw [if_neg hk]
      exact cells_new r h acc y c e
theorem cells_inj : ∀ (names : List (Str × NameKind)) (m n : Nat) (acc : List (Str × Addr)), m ≤ n → (∀ y z c, (y, c) ∈ acc → (z, c) ∈ acc → m ≤ c → y = z) → (∀ y c, (y, c) ∈ acc → c < n) →
    ∀ y z c, (y, c) ∈ cellsFrom n names acc → (z, c) ∈ cellsFrom n names acc → m ≤ c → y = z
  | [], m, n, acc, _, h1, _, y, z, c, a, b, hc => h1 y z c a b hc
  | (x, k) :: r, m, n, acc, hmn, h1, h2, y, z, c, a, b, hc => by
    unfold cellsFrom at a b
    split at a
    · rename_i hk
      rw [if_pos hk] at b
      refine cells_inj r m (n + 1) ((x, n) :: acc) (Nat.le_succ_of_le hmn) ?_ ?_ y z c a b hc
      · intro y z c hy hz hc
        rcases List.mem_cons.mp hy with e | hy <;> rcases List.mem_cons.mp hz with e' | hz
        · cases e; cases e'; rfl
        · cases e; exact absurd (h2 _ _ hz) (Nat.lt_irrefl _)
        · cases e'; exact absurd (h2 _ _ hy) (Nat.lt_irrefl _)
        · exact h1 y z c hy hz hc
      · intro y c hy
        rcases List.mem_cons.mp hy with e | hy
        · cases e; exact Nat.lt_succ_self _
        · exact Nat.lt_succ_of_lt (h2 y c hy)
    · rename_i hk
      rw [if_neg hk] at b
      exact cells_inj r m n acc hmn h1 h2 y z c a b hc

theorem wp_compEnv {M : Model} {A : Around} {E : Value → Shared → Prop} {s : Shared} {scope : Scope} {globals : Addr} {cl : List (Str × Addr)} {qual : Str} {env : Env} {Q : Env → Shared → Prop}
    (h : Q { scope := scope, locals := s.heap.objs.size, globals := globals, cells := cellsFrom (s.heap.objs.size + 1) scope.names cl, qual := qual, func := none, code := env.code, frame := env.frame, builtins := env.builtins }
      { s with heap := pushCells (s.heap.push { cls := .type "dict", data := .dict #[] }) scope.names }) :
    wpAny M A (newFunctionEnv scope globals cl [] qual none .none (some env)) Q E s := by
  simp only [newFunctionEnv, Option.isSome_some, if_true]
  refine wpAny_bind (wpAny_alloc ?_)
  refine wpAny_bind (wpAny_layCells _ (fun name kind cells => by cases hkc : kind == NameKind.cell <;> simp [hkc]) _ _ _ _ ?_)
  rw [List.forIn_nil]
  refine wpAny_bind (wpAny_pure (wpAny_pure ?_))
  have e : ({ s with heap := s.heap.push { cls := .type "dict", data := .dict #[] } } : Shared).heap.objs.size = s.heap.objs.size + 1 := Heap.size_push ..
  rw [e]
  exact h

/-- what a comprehension takes from around it -/
def Cap (F : Fm) (scope : Scope) (cl : List (Str × Addr)) (σ : St) : List (Str × Addr) → St → Prop
  | [], [] => True
  | (y, c) :: r, (z, .dat d) :: r' => y = z ∧ σ.lookup y = some (.dat d) ∧ (F.env.kindOf y = some .cell ∨ F.env.kindOf y = some .free) ∧ F.env.cells.lookup y = some c ∧
      ((relabel scope F.env).names.lookup y = some .cell ∨ (relabel scope F.env).names.lookup y = some .free) ∧ (y == ("__classdict__" : Str)) = false ∧ (∀ C, (cellsFrom (C + 1) scope.names cl).lookup y = some c) ∧ Cap F scope cl σ r r'
  | _, _ => False
theorem Cap.plain {F : Fm} {scope : Scope} {cl : List (Str × Addr)} {σ : St} : ∀ {r : List (Str × Addr)} {σc : St}, Cap F scope cl σ r σc → plainSt σc
  | [], [], _, x, sl, e => by cases e
  | (y, c) :: r, (z, .dat d) :: r', h, x, sl, e => by
    rw [List.lookup_cons] at e
    cases hb : x == z with
    | true => rw [hb] at e; cases e; rfl
    | false => rw [hb] at e; exact Cap.plain h.2.2.2.2.2.2.2 x sl e
theorem Cap.get {F : Fm} {scope : Scope} {cl : List (Str × Addr)} {σ : St} : ∀ {r : List (Str × Addr)} {σc : St}, Cap F scope cl σ r σc → ∀ x sl, σc.lookup x = some sl → ∃ c d, sl = .dat d ∧ σ.lookup x = some (.dat d) ∧ (F.env.kindOf x = some .cell ∨ F.env.kindOf x = some .free) ∧ F.env.cells.lookup x = some c ∧
      ((relabel scope F.env).names.lookup x = some .cell ∨ (relabel scope F.env).names.lookup x = some .free) ∧ (x == ("__classdict__" : Str)) = false ∧ (∀ C, (cellsFrom (C + 1) scope.names cl).lookup x = some c)
  | [], [], _, x, sl, e => by cases e
  | (y, c) :: r, (z, .dat d) :: r', h, x, sl, e => by
    rw [List.lookup_cons] at e
    cases hb : x == z with
    | true =>
      rw [hb] at e; cases e
      obtain rfl := beq_iff_eq.mp hb
      obtain ⟨rfl, h1, h2, h3, h4, h5, h6, _⟩ := h
      exact ⟨c, d, rfl, h1, h2, h3, h4, h5, h6⟩
    | false => rw [hb] at e; exact Cap.get h.2.2.2.2.2.2.2 x sl e
theorem Cap.mem {F : Fm} {scope : Scope} {cl : List (Str × Addr)} {σ : St} : ∀ {r : List (Str × Addr)} {σc : St}, Cap F scope cl σ r σc → ∀ p ∈ r, ∃ d, σ.lookup p.1 = some (.dat d) ∧ (F.env.kindOf p.1 = some .cell ∨ F.env.kindOf p.1 = some .free) ∧ F.env.cells.lookup p.1 = some p.2
  | [], [], _, p, hp => nomatch hp
  | (y, c) :: r, (z, .dat d) :: r', h, p, hp => by
    rcases List.mem_cons.mp hp with rfl | hp
    · exact ⟨d, h.2.1, h.2.2.1, h.2.2.2.1⟩
    · exact Cap.mem h.2.2.2.2.2.2.2 p hp
end Mine
end

section
set_option maxRecDepth 100000
set_option linter.unusedVariables false
namespace Mine
open PySem PySem.W PyProof.Rows PySem.Spec PySem.Calls

def CLoop (K : Kx) (F : Fm) (σ : St) (e : Expr) (k : Nat) (ds res : List PyData) (B : Nat := 500000) : Prop :=
  ∀ A M P s I fp wr Pw Stt Pi D outs (R : Result → Shared → Prop), OkA K A → ItOk K A Pi I fp wr ds Pw Stt → Mid K F A M I fp wr ds Pw Stt Pi P σ 0 s → DOk K F.env.locals M P D outs s → plainSt σ → outs.length ≤ B →
    (∀ P' s', Rel K F M P' σ s' → P.StaysIn P' → DOk K F.env.locals M P' D (outs ++ res) s' → R (.ok .next) s') → codeAny K.M A (.compLoop e k (.ref I) (.ref D) F.env) R s

theorem CLoop.le {K : Kx} {F : Fm} {σ : St} {e : Expr} {k : Nat} {ds res : List PyData} {B B' : Nat} (h : CLoop K F σ e k ds res B) (hB : B' ≤ B) : CLoop K F σ e k ds res B' :=
  fun A M P s I fp wr Pw Stt Pi D outs R ok it m hD hσ hsz fin => h A M P s I fp wr Pw Stt Pi D outs R ok it m hD hσ (Nat.le_trans hsz hB) fin

theorem cloop_last {K : Kx} {F : Fm} {σ : St} {elt target iter : Expr} {ifs : List Expr} {gens : List Comprehension} {scope : Scope} {pos : Pos} {k : Nat} {ds : List PyData} (out : Nat → Option PyData) (hl : ds.length ≤ 500000)
    (turn : ∀ i d, ds[i]? = some d → Turn K F σ elt target ifs d (out i))
    (heq : ∀ it acc, compTurn (.ListComp elt gens scope pos) k it acc F.env = lastTree elt target iter ifs (.compLoop (.ListComp elt gens scope pos) k it acc F.env) it acc F.env) :
    CLoop K F σ (.ListComp elt gens scope pos) k ds (outsTo out ds.length) := by
  intro A M P s I fp wr Pw Stt Pi D outs R ok it m hD hσ hsz fin
  exact comp_last out (heq _ _) ok it m hD hσ (by omega) turn fin

section
variable {K : Kx} {F : Fm} {σ : St}

/-- a comprehension's loop is entered -/
theorem comp_core {elt : Expr} {g : Comprehension} {gs : List Comprehension} {scope : Scope} {pos : Pos} {cl : List (Str × Addr)} {W' : List Str} {σc : St} {ds res : List PyData} {A : Around} {M : Am} {P : Heap} {s : Shared} {use : Option (Value → Sem Unit)} {ipos : Pos} {E : Value → Shared → Prop} {Q : Value → Shared → Prop}
    (hi : EvI K F σ g.iter ds) (hclos : closureFor scope F.env = pure cl) (hcap : Cap F scope cl σ cl σc) (hkind : scope.kind = .function) (hnames : ∀ x ∈ scope.names, x.2 = .local → scope.names.lookup x.1 = some .local)
    (hW : ∀ x ∈ W', scope.names.lookup x = some .cell) (hga : g.is_async = 0) (hloop : ∀ C, CLoop K ⟨cEnv scope cl C F.env, W'⟩ σc (.ListComp elt (g :: gs) scope pos) 0 ds res 0)
    (hs : ∀ x, foldedSetIterable g.iter F.env x = pure x) (ok : OkA K A) (R : Rel K F M P σ s)
    (fin : ∀ P' C D s', Rel K ⟨cEnv scope cl C F.env, W'⟩ ⟨s.heap, P', s.gens, s.os⟩ P' σc s' → Grow (frs K.Fs) P s P' s' → DOk K C ⟨s.heap, P', s.gens, s.os⟩ P' D res s' → s.heap.get? C = none → compPost K.M A E use Q (.ref D) C (.ok .next) s') :
    wpAny K.M A (comprehension (.ListComp elt (g :: gs) scope pos) scope F.env ipos (newList []) false (eval g.iter F.env) use) Q E s := by
  refine wpAny_comprehension_free rfl hs hclos hkind hnames (noE (hi A M P s ok R) fun x s1 h1 => noE h1 fun it s2 h2 => ?_)
  obtain ⟨P', I, fp, wr, Pw, Stt, rfl, g2, io, st0, hwr⟩ := h2
  have R2 := R.grow g2
  refine wpAny_newObj_type (wp_compEnv ?_)
  generalize hH3 : s2.heap.push { cls := .type "list", dict := none, data := .seq ([] : List Value).toArray } = H3
  have z3 : H3.objs.size = s2.heap.objs.size + 1 := by rw [← hH3]; exact Heap.size_push ..
  generalize hH4 : pushCells (H3.push { cls := .type "dict", data := .dict #[] }) scope.names = H4
  have k23 : s2.heap.StaysIn H3 := hH3 ▸ push_stays _ _
  have k34 : H3.StaysIn H4 := fun b o e => hH4 ▸ pushCells_keeps _ _ _ _ (Heap.get?_push_of_some _ e)
  have k24 : s2.heap.StaysIn H4 := stays_trans k23 k34
  have n2 : s.heap.get? s2.heap.objs.size = none := g2.ext.none (size_none _)
  have n3' : s2.heap.get? H3.objs.size = none := get?_none_ge (by rw [z3]; exact Nat.le_succ _)
  have n3 : s.heap.get? H3.objs.size = none := g2.ext.none n3'
  have hDo : H4.get? s2.heap.objs.size = some (lobj [] 0) := k34 _ _ (hH3 ▸ Heap.get?_push_size _ rfl)
  have hCo : H4.get? H3.objs.size = some { cls := .type "dict", data := .dict #[] } := hH4 ▸ pushCells_keeps _ _ _ _ (Heap.get?_push_size _ rfl)
  have hNs : H4.Ns H3.objs.size (fun _ => none) := ⟨_, #[], 0, hCo, rfl, fun e he => by simp at he, fun _ => rfl⟩
  have hL : ∀ p ∈ cl, @LT.lt Nat _ p.2 s2.heap.objs.size := fun p hp => by
    obtain ⟨d, h1, h2, h3⟩ := hcap.mem p hp
    obtain ⟨v, H, _⟩ := R2.var _ _ h1
    rcases H with ⟨hk, _⟩ | ⟨_, _, c, hc, o, ho, _⟩
    · rcases h2 with q | q <;> (rw [q] at hk; cases hk)
    · rw [h3] at hc; cases hc; exact Heap.lt_size ho
  have hcells : ∀ y c, (cellsFrom (H3.objs.size + 1) scope.names cl).lookup y = some c → cl.lookup y = some c ∨ (H3.objs.size + 1 ≤ c ∧ H4.IsCell c none) := fun y c e => by
    have := cells_new scope.names (H3.push { cls := .type "dict", data := .dict #[] }) cl y c (by rw [Heap.size_push]; exact e)
    rw [Heap.size_push, hH4] at this; exact this
  have hsome : ∀ x ∈ W', ∃ c, (cellsFrom (H3.objs.size + 1) scope.names cl).lookup x = some c := fun x hx => Option.isSome_iff_exists.mp (cellsFrom_some _ _ _ (.inl (hW x hx)))
  have hnew : ∀ x ∈ W', ∀ c, (cellsFrom (H3.objs.size + 1) scope.names cl).lookup x = some c → H3.objs.size + 1 ≤ c ∧ H4.IsCell c none := fun x hx c e => by
    rcases hcells x c e with q | q
    · exfalso
      have h1 := hcap.mem _ (PySem.mem_of_lookup q)
      obtain ⟨d, _, hk, _⟩ := h1
      -- an own cell is found ahead of what is taken
      have : ∀ (names : List (Str × NameKind)) (n : Nat) (acc : List (Str × Addr)), names.lookup x = some .cell ∨ (∃ c', acc.lookup x = some c' ∧ H3.objs.size + 1 ≤ c') → H3.objs.size + 1 ≤ n → ∀ c', (cellsFrom n names acc).lookup x = some c' → H3.objs.size + 1 ≤ c' := by
        intro names
        induction names with
        | nil =>
          intro n acc h hn c' e'
          rcases h with h | ⟨c2, h, hc2⟩
          · cases h
          · unfold cellsFrom at e'; rw [h] at e'; cases e'; exact hc2
        | cons p r ih =>
          intro n acc h hn c' e'
          obtain ⟨y, k⟩ := p
          unfold cellsFrom at e'
          split at e'
          · refine ih (n + 1) ((y, n) :: acc) ?_ (Nat.le_succ_of_le hn) c' e'
            by_cases hy : (x == y) = true
            · exact .inr ⟨n, by rw [List.lookup_cons, hy], hn⟩
            · rcases h with h | ⟨c2, h, hc2⟩
              · rw [List.lookup_cons] at h; simp only [hy] at h; exact .inl h
              · exact .inr ⟨c2, by rw [List.lookup_cons]; simp only [hy]; exact h, hc2⟩
          · rename_i hk'
            refine ih n acc ?_ hn c' e'
            rcases h with h | h
            · rw [List.lookup_cons] at h
              by_cases hy : (x == y) = true
              · rw [hy] at h; cases h; exact absurd rfl hk'
              · simp only [hy] at h; exact .inl h
            · exact .inr h
      have h2 := this scope.names (H3.objs.size + 1) cl (.inl (hW x hx)) (Nat.le_refl _) c e
      have h3 : @LT.lt Nat _ c s2.heap.objs.size := hL _ (PySem.mem_of_lookup q)
      omega
    · exact q
  have RC : Rel K ⟨cEnv scope cl H3.objs.size F.env, W'⟩ ⟨s.heap, P', s.gens, s.os⟩ P' σc { s2 with heap := H4 } := {
    tp := R2.tp
    sub0 := stays_refl _
    stay := stays_trans R2.stay k24
    ext := g2.ext.trans (.of_stays k24)
    new := fun a o e => .inl e
    frm := funFrames_ext (fr := []) R2.frm (.of_stays k24)
    loc := ⟨_, hNs⟩
    locP := none_of R2.stay n3'
    loc0 := n3
    cel := fun x hx => by
      obtain ⟨c, hc⟩ := hsome x hx
      obtain ⟨h1, h2⟩ := hnew x hx c hc
      have h3 : s2.heap.get? c = none := get?_none_ge (by omega)
      exact ⟨c, none, hc, h2, none_of R2.stay h3, g2.ext.none h3⟩
    celd := fun x hx y c h1 h2 => by
      have q := (hnew x hx c h1).1
      exact (cells_inj scope.names (H3.objs.size + 1) (H3.objs.size + 1) cl (Nat.le_refl _) (fun y z c hy hz hc => by have h9 : @LT.lt Nat _ c s2.heap.objs.size := hL _ hy; omega) (fun y c hy => by have h9 : @LT.lt Nat _ c s2.heap.objs.size := hL _ hy; exact Nat.lt_of_lt_of_le h9 (by rw [z3]; omega)) y x c (PySem.mem_of_lookup h2) (PySem.mem_of_lookup h1) q)
    var := fun x sl hx => by
      obtain ⟨c, d, rfl, h1, h2, h3, h4, h5, h6⟩ := hcap.get x sl hx
      obtain ⟨v, H, S⟩ := R2.var _ _ h1
      refine ⟨v, .inr ⟨h4, h5, c, h6 _, ?_⟩, S⟩
      rcases H with ⟨hk, _⟩ | ⟨_, _, c', hc', hv⟩
      · rcases h2 with q | q <;> (rw [q] at hk; cases hk)
      · rw [h3] at hc'; cases hc'; exact hv.keeps k24
    fn := by show scope.kind = .function; exact hkind
    glb := R.glb
    blt := R.blt
    gens := g2.gens
    os := g2.os }
  have hDok : DOk K H3.objs.size ⟨s.heap, P', s.gens, s.os⟩ P' s2.heap.objs.size [] { s2 with heap := H4 } := by
    refine ⟨⟨[], 0, hDo, .nil⟩, none_of R2.stay (size_none _), n2, fun hm => ?_, fun q => by rw [z3] at q; exact absurd q (Nat.ne_of_lt (Nat.lt_succ_self _))⟩
    obtain ⟨_, o, e, _⟩ := R2.frm.mem hm
    rw [size_none] at e; cases e
  have hMid : Mid K ⟨cEnv scope cl H3.objs.size F.env, W'⟩ A ⟨s.heap, P', s.gens, s.os⟩ I fp wr ds Pw Stt P' P' σc 0 { s2 with heap := H4 } :=
    ⟨RC, io.W.frame _ _ _ st0 fun b _ o e => k24 b o e, stays_refl _, hwr⟩
  have loop := hloop H3.objs.size A ⟨s.heap, P', s.gens, s.os⟩ P' { s2 with heap := H4 } I fp wr Pw Stt P' s2.heap.objs.size [] (compPost K.M A E use Q (.ref s2.heap.objs.size) H3.objs.size) ok io hMid hDok hcap.plain (by simp) fun P'' s' R' hPP hD' => by
    have e1 : Rel K ⟨cEnv scope cl H3.objs.size F.env, W'⟩ ⟨s.heap, P'', s.gens, s.os⟩ P'' σc s' := {
      R' with
      sub0 := stays_refl _
      new := fun a o e => .inl e
      var := fun x sl hx => by
        obtain ⟨v, H, S⟩ := R'.var x sl hx
        refine ⟨v, H, ?_⟩
        cases sl with
        | dat d => exact S
        | own a ds => exact S
        | dct a n f => exact S }
    refine fin P'' H3.objs.size s2.heap.objs.size s' e1 ⟨stays_trans g2.sub hPP, R'.stay, R'.ext, fun a o e => ?_, R'.gens, R'.os⟩ (by rw [List.nil_append] at hD'; exact hD') n3
    rcases R'.new a o e with q | q
    · exact g2.new a o q
    · exact .inr q
  obtain ⟨gt, gi, gf, ga⟩ := g
  cases hga
  exact codeAny_compStart_list loop (io.W.self 0 _ _ _ hMid.st loop)
end
end Mine
end

section
set_option maxRecDepth 100000
set_option linter.unusedVariables false
namespace Mine
open PySem PySem.W PyProof.Rows PySem.Spec PySem.Calls

section
variable {K : Kx} {F : Fm} {σ : St}

/-- what is asked of a comprehension's scope -/
structure CScope (F : Fm) (scope : Scope) (cl : List (Str × Addr)) (W' : List Str) : Prop where
  clos : closureFor scope F.env = pure cl
  kind : scope.kind = .function
  names : ∀ x ∈ scope.names, x.2 = .local → scope.names.lookup x.1 = some .local
  W : ∀ x ∈ W', scope.names.lookup x = some .cell

theorem frs_ne {M : Am} {P : Heap} {s : Shared} {a : Addr} (R : Rel K F M P σ s) (h : s.heap.get? a = none) : a ∉ frs K.Fs := fun hm => by
  obtain ⟨_, o, e, _⟩ := R.frm.mem hm
  rw [h] at e; cases e
theorem loc_ne {M : Am} {P : Heap} {s : Shared} {a : Addr} (R : Rel K F M P σ s) (h : s.heap.get? a = none) : a ≠ F.env.locals := fun q => by
  obtain ⟨m, o, es, ep, e, _⟩ := R.loc
  rw [← q, h] at e; cases e

theorem evn_compG {elt : Expr} {g : Comprehension} {gs : List Comprehension} {scope : Scope} {pos : Pos} {cl : List (Str × Addr)} {W' : List Str} {σc : St} {ds res : List PyData}
    (hi : EvI K F σ g.iter ds) (hsc : CScope F scope cl W') (hcap : Cap F scope cl σ cl σc) (hloop : ∀ C, CLoop K ⟨cEnv scope cl C F.env, W'⟩ σc (.ListComp elt (g :: gs) scope pos) 0 ds res 0)
    (hga : g.is_async = 0 := by rfl) (hs : ∀ x, foldedSetIterable g.iter F.env x = pure x := by intro _; rfl) : EvN K F σ (.ListComp elt (g :: gs) scope pos) res := by
  intro A M P s ok R
  have e0 : eval (.ListComp elt (g :: gs) scope pos) F.env = comprehension (.ListComp elt (g :: gs) scope pos) scope F.env (firstIterPos (g :: gs) pos) (newList []) false (eval g.iter F.env) := by
    rw [eval_ListComp]
    obtain ⟨gt, gi, gf, ga⟩ := g
    cases hga
    rfl
  rw [e0]
  refine comp_core hi hsc.clos hcap hsc.kind hsc.names hsc.W hga hloop hs ok R fun P' C D s' RC g' hD hCn => ?_
  obtain ⟨m, hm⟩ := RC.loc
  refine ⟨m, hm, fun h' hs' => ?_⟩
  obtain ⟨⟨vs, n, ho, hi'⟩, d1, d2, d3, d4⟩ := hD
  have hCP : P'.get? C = none := RC.locP
  refine ⟨P', D, vs, n, rfl, ⟨g'.sub, fun b o e => ?_, ext_sameBut g'.ext hs' hCn, g'.new, g'.gens, g'.os⟩, (hs'.2 D d4).trans ho, hi', d2, d1⟩
  have hb : b ≠ C := fun q => by rw [q, hCP] at e; cases e
  exact (hs'.2 b hb).trans (g'.stay b o e)

theorem ex1_compG {x : Str} {np spos : Pos} {elt : Expr} {g : Comprehension} {gs : List Comprehension} {scope : Scope} {pos : Pos} {cl : List (Str × Addr)} {W' : List Str} {σc : St} {ds res : List PyData} {Φ : Out → Prop}
    (hi : EvI K F σ g.iter ds) (hsc : CScope F scope cl W') (hcap : Cap F scope cl σ cl σc) (hloop : ∀ C, CLoop K ⟨cEnv scope cl C F.env, W'⟩ σc (.ListComp elt (g :: gs) scope pos) 0 ds res 0) (hΦ : ∀ a, New a σ → Φ (.nx ((x, .own a res) :: σ)))
    (hx : F.env.kindOf x = some .local := by rfl) (hq : swapsWithSole [.Name x np] (.ListComp elt (g :: gs) scope pos) spos.line F.env = pure true := by rfl)
    (hga : g.is_async = 0 := by rfl) (hs : ∀ x, foldedSetIterable g.iter F.env x = pure x := by intro _; rfl) : Ex1 K F σ (.Assign [.Name x np] (.ListComp elt (g :: gs) scope pos) spos) Φ := by
  intro A M P s ok R
  have e1 : exec (.Assign [.Name x np] (.ListComp elt (g :: gs) scope pos) spos) F.env = (do
    standAt spos
    if ← swapsWithSole [.Name x np] (.ListComp elt (g :: gs) scope pos) spos.line F.env then do
      evalThenUse (.ListComp elt (g :: gs) scope pos) F.env fun v => assignAll v ((assignEach [.Name x np] F.env).map (·.2))
      pure .next
    else do
      let v ← eval (.ListComp elt (g :: gs) scope pos) F.env
      assignStores F.env v (← swappedStores [.Name x np] (.ListComp elt (g :: gs) scope pos) F.env) ((assignEach [.Name x np] F.env).map (·.2))) := rfl
  rw [e1, hq]
  refine wpAny_bind (wpAny_standAt (wpAny_bind (wpAny_pure ?_)))
  show wpAny _ _ (evalThenUse (.ListComp elt (g :: gs) scope pos) F.env (fun v => assignAll v [assign (.Name x np) F.env]) >>= _) _ _ _
  have e2 : evalThenUse (.ListComp elt (g :: gs) scope pos) F.env (fun v => assignAll v [assign (.Name x np) F.env]) = (do
      let _ ← comprehension (.ListComp elt (g :: gs) scope pos) scope F.env (firstIterPos (g :: gs) pos) (newList []) false (eval g.iter F.env) (some (fun v => assignAll v [assign (.Name x np) F.env]))) := by
    obtain ⟨gt, gi, gf, ga⟩ := g
    cases hga
    rfl
  rw [e2]
  refine wpAny_bind (wpAny_bind (comp_core (Q := fun _ s' => wpAny K.M A (pure PUnit.unit) (fun a s' => wpAny K.M A (pure Flow.next) (Post K F M Φ) (PostE K F M Φ) s') (PostE K F M Φ) s') hi hsc.clos hcap hsc.kind hsc.names hsc.W hga hloop hs ok R fun P' C D s' RC g' hD hCn => ?_))
  obtain ⟨mc, hmc⟩ := RC.loc
  obtain ⟨⟨vs, n, ho, hi'⟩, d1, d2, d3, d4⟩ := hD
  have R' := R.grow g'
  obtain ⟨m, hm⟩ := R'.loc
  have hCL := loc_ne R hCn
  have hDL := loc_ne R d2
  show wpAny K.M A (assign (.Name x np) F.env (.ref D)) _ _ s'
  refine wpAny_assign_Name (wpAny_storeName_local hx hm (fun h2 hn2 hs2 => ?_) (by rw [R.fn]; rfl))
  have hnew := new_of R d2
  have R2 := R'.store_local (tk := s'.toks + 1) (sl := .own D res) hx hm hn2 hs2 (nw_slot R g' ho hi' d2 d1)
  refine ⟨mc, hmc.sameBut hs2 hCL, fun h3 hs3 => wpAny_pure (wpAny_pure ?_)⟩
  refine ⟨P', _, R2.other (tk := s'.toks + 1) RC.locP (R.ext.none hCn) (frs_ne R hCn) hCL (fun c v ⟨o, e, hd⟩ q => ?_) (fun y sl hy => ?_) hs3, hΦ D hnew⟩
  · obtain ⟨o2, es, ep, e2, hd2, _⟩ := hmc.sameBut hs2 hCL
    have e' : h2.get? c = some o := e
    rw [q, e2] at e'; cases e'; rw [hd] at hd2; cases hd2
  · by_cases hyx : y = x
    · subst hyx; rw [lookup_cons_eq] at hy; cases hy
      intro q; cases q; exact d4 rfl
    · rw [lookup_cons_ne hyx] at hy
      exact new_of R hCn y sl hy

/-- one clause -/
theorem evn_comp {elt target iter : Expr} {ifs : List Expr} {scope : Scope} {pos : Pos} {cl : List (Str × Addr)} {W' : List Str} {σc : St} {ds : List PyData} (out : Nat → Option PyData)
    (hi : EvI K F σ iter ds) (hl : ds.length ≤ 500000) (hsc : CScope F scope cl W') (hcap : Cap F scope cl σ cl σc) (turn : ∀ C i d, ds[i]? = some d → Turn K ⟨cEnv scope cl C F.env, W'⟩ σc elt target ifs d (out i))
    (hs : ∀ x, foldedSetIterable iter F.env x = pure x := by intro _; rfl) : EvN K F σ (.ListComp elt [⟨target, iter, ifs, 0⟩] scope pos) (outsTo out ds.length) :=
  evn_compG hi hsc hcap (fun C => (cloop_last out hl (turn C) fun _ _ => rfl).le (Nat.zero_le _)) rfl hs
theorem ex1_comp {x : Str} {np spos : Pos} {elt target iter : Expr} {ifs : List Expr} {scope : Scope} {pos : Pos} {cl : List (Str × Addr)} {W' : List Str} {σc : St} {ds : List PyData} {Φ : Out → Prop} (out : Nat → Option PyData)
    (hi : EvI K F σ iter ds) (hl : ds.length ≤ 500000) (hsc : CScope F scope cl W') (hcap : Cap F scope cl σ cl σc) (turn : ∀ C i d, ds[i]? = some d → Turn K ⟨cEnv scope cl C F.env, W'⟩ σc elt target ifs d (out i)) (hΦ : ∀ a, New a σ → Φ (.nx ((x, .own a (outsTo out ds.length)) :: σ)))
    (hx : F.env.kindOf x = some .local := by rfl) (hq : swapsWithSole [.Name x np] (.ListComp elt [⟨target, iter, ifs, 0⟩] scope pos) spos.line F.env = pure true := by rfl)
    (hs : ∀ x, foldedSetIterable iter F.env x = pure x := by intro _; rfl) : Ex1 K F σ (.Assign [.Name x np] (.ListComp elt [⟨target, iter, ifs, 0⟩] scope pos) spos) Φ :=
  ex1_compG hi hsc hcap (fun C => (cloop_last out hl (turn C) fun _ _ => rfl).le (Nat.zero_le _)) hΦ hx hq rfl hs
end
end Mine
end

section
set_option maxRecDepth 100000
set_option linter.unusedVariables false
namespace Mine
open PySem PySem.W PyProof.Rows PySem.Spec PySem.Calls

section
variable {K : Kx} {F : Fm} {σ : St}

theorem pv_int {P : Heap} {s : Shared} {i : Int} {t n : Nat} (st : P.StaysIn s.heap) : Pv K P s (.int i) (.int i t) { s with toks := n } := ⟨P, toks_grow st, .i _ _⟩
theorem bo_add {a b : Int} : Bo K F σ .Add (.int a) (.int b) (.int (a + b)) := fun A M P s v1 v2 ok R i1 i2 => by
  obtain ⟨t, rfl⟩ := i1.int_inv; obtain ⟨u, rfl⟩ := i2.int_inv
  exact PySem.P.add_int (pv_int R.stay)
theorem bo_sub {a b : Int} : Bo K F σ .Sub (.int a) (.int b) (.int (a - b)) := fun A M P s v1 v2 ok R i1 i2 => by
  obtain ⟨t, rfl⟩ := i1.int_inv; obtain ⟨u, rfl⟩ := i2.int_inv
  exact PySem.P.sub_int (pv_int R.stay)
theorem bo_mul {a b : Int} (h : IntMulOk a b) : Bo K F σ .Mult (.int a) (.int b) (.int (a * b)) := fun A M P s v1 v2 ok R i1 i2 => by
  obtain ⟨t, rfl⟩ := i1.int_inv; obtain ⟨u, rfl⟩ := i2.int_inv
  exact PySem.P.mul_int (pv_int R.stay) h
theorem bo_div {a b : Int} (hb : b ≠ 0) (hs : b.natAbs < 1073741824) : Bo K F σ .FloorDiv (.int a) (.int b) (.int (a.fdiv b)) := fun A M P s v1 v2 ok R i1 i2 => by
  obtain ⟨t, rfl⟩ := i1.int_inv; obtain ⟨u, rfl⟩ := i2.int_inv
  exact floordiv_int hb (pv_int R.stay) (.inl (PyProof.noPylong_small hs))
theorem bo_mod {a b : Int} (hb : b ≠ 0) : Bo K F σ .Mod (.int a) (.int b) (.int (a.fmod b)) := fun A M P s v1 v2 ok R i1 i2 => by
  obtain ⟨t, rfl⟩ := i1.int_inv; obtain ⟨u, rfl⟩ := i2.int_inv
  exact mod_int' hb (pv_int R.stay)
theorem bo_pow {a n : Int} (hn : 0 ≤ n) (hn2 : n ≤ 1000000) (ha : a.natAbs < 2 ^ 64) : Bo K F σ .Pow (.int a) (.int n) (.int (a ^ n.toNat)) := fun A M P s v1 v2 ok R i1 i2 => by
  obtain ⟨t, rfl⟩ := i1.int_inv; obtain ⟨u, rfl⟩ := i2.int_inv
  exact pow_int_small hn hn2 ha (pv_int R.stay)
theorem bo_and {a b : Int} : Bo K F σ .BitAnd (.int a) (.int b) (.int (Builtin.bitAnd a b)) := fun A M P s v1 v2 ok R i1 i2 => by
  obtain ⟨t, rfl⟩ := i1.int_inv; obtain ⟨u, rfl⟩ := i2.int_inv
  exact and_int (pv_int R.stay)
theorem ev_neg {e : Expr} {pos : Pos} {a : Int} (h : Ev K F σ e (.int a)) : Ev K F σ (.UnaryOp .USub e pos) (.int (-a)) := fun A M P s ok R =>
  wpAny_UnaryOp (ev_then h ok R fun v s' P' g R' i => by
    obtain ⟨t, rfl⟩ := i.int_inv
    exact PySem.P.neg_int (Pv.after g (pv_int R'.stay)))
theorem co_int_eq {a b : Int} : Co K F σ .Eq (.int a) (.int b) (a == b) := fun A M P s v1 v2 ok R i1 i2 => by
  obtain ⟨t, rfl⟩ := i1.int_inv; obtain ⟨u, rfl⟩ := i2.int_inv
  exact PySem.P.eq_int ⟨rfl, .refl R.stay⟩
theorem co_int_ne {a b : Int} : Co K F σ .NotEq (.int a) (.int b) (a != b) := fun A M P s v1 v2 ok R i1 i2 => by
  obtain ⟨t, rfl⟩ := i1.int_inv; obtain ⟨u, rfl⟩ := i2.int_inv
  exact PySem.P.ne_int ⟨rfl, .refl R.stay⟩
theorem co_int_lt {a b : Int} : Co K F σ .Lt (.int a) (.int b) (decide (a < b)) := fun A M P s v1 v2 ok R i1 i2 => by
  obtain ⟨t, rfl⟩ := i1.int_inv; obtain ⟨u, rfl⟩ := i2.int_inv
  exact PySem.P.lt_int ⟨rfl, .refl R.stay⟩
theorem co_int_gt {a b : Int} : Co K F σ .Gt (.int a) (.int b) (decide (a > b)) := fun A M P s v1 v2 ok R i1 i2 => by
  obtain ⟨t, rfl⟩ := i1.int_inv; obtain ⟨u, rfl⟩ := i2.int_inv
  exact PySem.P.gt_int ⟨rfl, .refl R.stay⟩
theorem tv_bool {b : Bool} : Tv K F σ (.bool b) b := fun A M P s v ok R i => by
  obtain rfl := i.bool_inv
  exact wpAny_truthy_bool ⟨rfl, .refl R.stay⟩
theorem tv_list {ds : List PyData} (hsz : ds.length < 1000000000) : Tv K F σ (.list ds) (!ds.isEmpty) := fun A M P s v ok R i => by
  obtain ⟨a, o, vs, n, rfl, ho, hc, hd, hi⟩ := i.list_inv
  have hl : s.heap.IsList a vs := ⟨o, R.stay _ _ ho, hc, n, hd⟩
  have hlen := hi.length
  refine wpAny_truthy_list hl (by simp at hlen; omega) ⟨?_, toks_grow R.stay⟩
  cases ds with
  | nil => have := hi.nil_inv; simp at this; simp [this]
  | cons d ds =>
    obtain ⟨v, r, e, _⟩ := hi.cons_inv
    have : vs.size ≠ 0 := by rw [← Array.length_toList, e]; simp
    simp [Array.isEmpty, this]
theorem su_list {ds : List PyData} {i : Int} {d : PyData} (h0 : 0 ≤ i) (h1 : i < 2 ^ 63) (hd : ds[i.toNat]? = some d) : Su K F σ (.list ds) (.int i) d := fun A M P s v1 v2 value slice ok R i1 i2 hq => by
  obtain ⟨a, o, vs, n, rfl, ho, hc, hdt, hi⟩ := i1.list_inv
  obtain ⟨t, rfl⟩ := i2.int_inv
  have hl : s.heap.IsList a vs := ⟨o, R.stay _ _ ho, hc, n, hdt⟩
  obtain ⟨v, hv, hv'⟩ := hi.get hd
  exact tail_any hl.typeIs slot_list_getitem.lookup (wpAny_getItem_list hl h0 h1 (by simpa using hv) ⟨P, .refl R.stay, hv'⟩) (hq _ _)
theorem su_tuple {ds : List PyData} {i : Int} {d : PyData} (h0 : 0 ≤ i) (h1 : i < 2 ^ 63) (hd : ds[i.toNat]? = some d) : Su K F σ (.tuple ds) (.int i) d := fun A M P s v1 v2 value slice ok R i1 i2 hq => by
  obtain ⟨a, o, vs, n, rfl, ho, hc, hdt, hi⟩ := i1.tuple_inv
  obtain ⟨t, rfl⟩ := i2.int_inv
  have hl : IsTup s.heap a vs := ⟨o, R.stay _ _ ho, hc, n, hdt⟩
  obtain ⟨v, hv, hv'⟩ := hi.get hd
  have hlt : i.toNat < vs.size := by
    have := (List.getElem?_eq_some_iff.mp hv).1
    simpa using this
  refine tail_any hl.typeIs slot_tuple_getitem.lookup (getItem_tuple hl (by omega) h1 (j := i.toNat) ?_ (by simpa using hv) ⟨P, .refl R.stay, hv'⟩) (hq _ _)
  unfold seqIndex?
  have h2 : ¬ i < 0 := by omega
  have h3 : i < (vs.size : Int) := by omega
  simp [h0, h2, h3]
theorem push_list (h : Heap) (vs : Array Value) : (h.push { cls := .type "list", data := .seq vs }).get? h.objs.size = some (lobj vs.toList 0) := Heap.get?_push_size _ rfl
theorem bo_cat {xs ys : List PyData} (hsz : xs.length + ys.length ≤ 1000000) : ∀ A M P s v1 v2, OkA K A → Rel K F M P σ s → Is P v1 (.list xs) → Is P v2 (.list ys) → wpAny K.M A (binaryOp .Add v1 v2) (Nw K P s (xs ++ ys)) NoE s := fun A M P s v1 v2 ok R i1 i2 => by
  obtain ⟨a, ⟨cls, dd, data, sl⟩, vs, n, rfl, ho, hc, hd, hi⟩ := i1.list_inv
  obtain ⟨b, ⟨cls2, dd2, data2, sl2⟩, ws, n2, rfl, ho2, hc2, hd2, hi2⟩ := i2.list_inv
  simp only at hc hd hc2 hd2
  subst hc hd hc2 hd2
  have ho' := R.stay _ _ ho
  have ho2' := R.stay _ _ ho2
  have l1 := hi.length
  have l2 := hi2.length
  have hz : vs.size + ws.size ≤ sizeLine := by simp at l1 l2; rw [l1, l2]; exact Nat.le_trans hsz (by decide)
  refine concat_meets ⟨_, ho', rfl⟩ ⟨_, ho2', rfl⟩ noFill_list_add seq_list_add PySem.F.slot_list_add PySem.F.entry_list_add (PySem.F.args_list_add_2 _ _) (list_addW a b vs ws n n2 dd dd2 sl sl2 hz) ⟨ho', ho2', ?_⟩
  exact ⟨P, s.heap.objs.size, vs.toList ++ ws.toList, 0, rfl, Grow.of_stays R.stay (push_stays _ _), by have := push_list s.heap (vs ++ ws); rw [Array.toList_append] at this; exact this, hi.append hi2, size_none _, none_of R.stay (size_none _)⟩
theorem evn_cat {e1 e2 : Expr} {pos : Pos} {xs ys : List PyData} (h1 : Ev K F σ e1 (.list xs)) (h2 : Ev K F σ e2 (.list ys)) (hsz : xs.length + ys.length ≤ 1000000) : EvN K F σ (.BinOp e1 .Add e2 pos) (xs ++ ys) := by
  intro A M P s ok R
  refine wpAny_BinOp (ev_then h1 ok R fun v1 s1 P1 g1 R1 i1 => ev_then h2 ok R1 fun v2 s2 P2 g2 R2 i2 => ?_)
  exact noE (bo_cat hsz A M P2 s2 v1 v2 ok R2 (i1.mono g2.sub) i2) fun v s' h => Nw.after (g1.trans g2) h
/-- a part of a slice -/
def EvP (K : Kx) (F : Fm) (σ : St) (e : Option Expr) (i : Option Int) : Prop :=
  ∀ A M P s, OkA K A → Rel K F M P σ s → wpAny K.M A (evalPart e F.env) (fun v s' => IsPart v i ∧ Grow (frs K.Fs) P s P s') NoE s
theorem evp_none : EvP K F σ none none := fun A M P s ok R => wpAny_evalPart_none ⟨.none, .refl R.stay⟩
theorem evp_some {e : Expr} {i : Int} (h : Ev K F σ e (.int i)) : EvP K F σ (some e) (some i) := fun A M P s ok R => wpAny_evalPart_some (ev_then h ok R fun v s' P' g R' hi => by
  obtain ⟨t, rfl⟩ := hi.int_inv
  exact ⟨.int i t, g.drop⟩)
theorem evn_sliceG {e : Expr} {lo hi : Option Expr} {sp pos : Pos} {xs ys : List PyData} {l u : Option Int} (h : Ev K F σ e (.list xs)) (hlo : EvP K F σ lo l) (hhi : EvP K F σ hi u) (hsz : xs.length ≤ 1000000)
    (hp : ∀ P vs, IsAll P vs xs → IsAll P (slicePick vs.toArray l u none).toList ys) : EvN K F σ (.Subscript e (.Slice lo hi none sp) pos) ys := by
  intro A M P s ok R
  refine Subscript_ (ev_then h ok R fun v1 s1 P1 g1 R1 i1 => wpAny_Slice ?_)
  refine noE (hlo A M P1 s1 ok R1) fun vl s2 x => ?_
  obtain ⟨pl, g2⟩ := x
  have R2 := R1.grow g2
  refine noE (hhi A M P1 s2 ok R2) fun vu s3 x => ?_
  obtain ⟨pu, g3⟩ := x
  have R3 := R2.grow g3
  refine wpAny_evalPart_none ?_
  obtain ⟨a, o, vs, n, rfl, ho, hc, hd, hi'⟩ := i1.list_inv
  have g4 : Grow (frs K.Fs) P1 s3 P1 { s3 with heap := s3.heap.push { cls := .type "slice", data := .fields #[vl, vu, .none] } } := Grow.of_stays R3.stay (push_stays _ _)
  have R4 := R3.grow g4
  have hl : ({ s3 with heap := s3.heap.push { cls := .type "slice", data := .fields #[vl, vu, .none] } } : Shared).heap.IsList a vs := ⟨o, R4.stay _ _ ho, hc, n, hd⟩
  have hlen := hi'.length
  refine tail_any hl.typeIs slot_list_getitem.lookup (wpAny_getItem_list_slice (sl := s3.heap.objs.size) hl ⟨_, Heap.get?_push_size _ rfl, rfl, rfl⟩ pl pu .none (by intro q; cases q) ?_ (by simp at hlen; rw [hlen]; exact Nat.le_trans hsz (by decide))) (ops := [.ref s3.heap.objs.size, .ref a]) rfl
  have gg := ((g1.trans g2).trans g3).trans g4
  have hii := hp P1 vs.toList hi'
  refine Nw.after gg ⟨P1, _, (slicePick vs l u none).toList, 0, rfl, Grow.of_stays R4.stay (push_stays _ _), push_list _ _, by simpa using hii, size_none _, none_of R4.stay (size_none _)⟩
theorem evn_from {e lo : Expr} {sp pos : Pos} {xs : List PyData} {l : Nat} (h : Ev K F σ e (.list xs)) (hlo : Ev K F σ lo (.int l)) (hsz : xs.length ≤ 1000000) : EvN K F σ (.Subscript e (.Slice (some lo) none none sp) pos) (xs.drop l) :=
  evn_sliceG h (evp_some hlo) evp_none hsz fun P vs hi => by rw [slicePick_from']; simpa using hi.drop l
theorem evn_upto {e hi : Expr} {sp pos : Pos} {xs : List PyData} {u : Nat} (h : Ev K F σ e (.list xs)) (hhi : Ev K F σ hi (.int u)) (hsz : xs.length ≤ 1000000) : EvN K F σ (.Subscript e (.Slice none (some hi) none sp) pos) (xs.take u) :=
  evn_sliceG h evp_none (evp_some hhi) hsz fun P vs hi => by rw [slicePick_upto']; simpa using hi.take u
end
end Mine
end

section
set_option maxRecDepth 100000
set_option linter.unusedVariables false
namespace Mine
open PySem PySem.W PyProof.Rows PySem.Spec PySem.Calls

def fnAt (p : Program) (i : Nat) : FnRec := match p.main.body[i]? with
  | some (.FunctionDef name args body _ _ _ scope _ _ _) => ⟨name, args, body, scope⟩
  | _ => ⟨"", ⟨[], [], none, [], [], none, []⟩, [], { kind := .function, names := [], isGenerator := false, isCoroutine := false }⟩

section
variable {K : Kx} {F : Fm} {σ : St}
theorem plain_of {σ : St} (h : ∀ p ∈ σ, p.2.adr = none) : plainSt σ := fun x sl e => h _ (mem_of_lookup' e)
theorem turn_name {x : Str} {px : Pos} {d : PyData} {elt : Expr} {ifs : List Expr} {r : Option PyData} {b : Bool} (hx : Stores F x) (hsub : SubL σ ((x, .dat d) :: σ)) (hpl : ∀ p ∈ σ, p.2.adr = none) (ht : Trs K F ((x, .dat d) :: σ) ifs b) (h0 : b = false → r = none)
    (h1 : b = true → ∃ e, r = some e ∧ Ev K F ((x, .dat d) :: σ) elt e) : Turn K F σ elt (.Name x px) ifs d r :=
  ⟨_, as_name hx, hsub.sub, plain_of (fun p hp => (List.mem_cons.mp hp).elim (fun e => by rw [e]; rfl) (hpl p)), b, ht, h0, h1⟩
theorem turn_if {x : Str} {px : Pos} {d e : PyData} {elt t : Expr} {b : Bool} (hx : Stores F x) (hsub : SubL σ ((x, .dat d) :: σ)) (hpl : ∀ p ∈ σ, p.2.adr = none) (ht : Tr K F ((x, .dat d) :: σ) t b) (h1 : b = true → Ev K F ((x, .dat d) :: σ) elt e) : Turn K F σ elt (.Name x px) [t] d (if b then some e else none) :=
  turn_name hx hsub hpl (trs_one ht) (fun hb => by rw [hb]; rfl) (fun hb => ⟨e, by rw [hb]; rfl, h1 hb⟩)
theorem turn_all {x : Str} {px : Pos} {d e : PyData} {elt : Expr} (hx : Stores F x) (hsub : SubL σ ((x, .dat d) :: σ)) (hpl : ∀ p ∈ σ, p.2.adr = none) (h1 : Ev K F ((x, .dat d) :: σ) elt e) : Turn K F σ elt (.Name x px) [] d (some e) :=
  turn_name hx hsub hpl trs_nil (fun hb => by cases hb) (fun hb => ⟨e, rfl, h1⟩)

theorem bind1 (f : FnRec) (p : Str) (args : List PyData) (ha : args.length = 1) (h : ∀ v pm code doc, bindArgs (docDef f.name f.params f.body f.scope pm code doc) ⟨[v], []⟩ = pure [(p, v)]) : ∀ vs pm code doc, vs.length = args.length → bindArgs (docDef f.name f.params f.body f.scope pm code doc) ⟨vs, []⟩ = pure ([p].zip vs) := by
  intro vs pm code doc hl
  rw [ha] at hl
  obtain ⟨v, rfl⟩ := List.length_eq_one_iff.mp hl
  exact h v pm code doc
theorem bind2 (f : FnRec) (p q : Str) (args : List PyData) (ha : args.length = 2) (h : ∀ v w pm code doc, bindArgs (docDef f.name f.params f.body f.scope pm code doc) ⟨[v, w], []⟩ = pure [(p, v), (q, w)]) : ∀ vs pm code doc, vs.length = args.length → bindArgs (docDef f.name f.params f.body f.scope pm code doc) ⟨vs, []⟩ = pure ([p, q].zip vs) := by
  intro vs pm code doc hl
  rw [ha] at hl
  match vs, hl with
  | [v, w], _ => exact h v w pm code doc
end
end Mine
end

section
set_option maxRecDepth 100000
set_option linter.unusedVariables false
namespace Mine
open PySem PySem.W PyProof.Rows PySem.Spec PySem.Calls PySem.MeetsSeq PySem.SeqAt
open AutoSeq1 (wpAny_loadPart')

theorem remove_loopAt (l : Addr) (items : Array Value) (n : Nat) (x : Value) (e : Value → Bool) (j : Nat) (hj : j < items.size) (hit : e items[j] = true) (k : Nat) (hs1 : items.size ≤ sizeLine) :
    ∀ i : Nat, j - i = k → i ≤ j → (∀ m (hm : m < items.size), i ≤ m → m < j → e items[m] = false) → Meets (Builtin.«list.remove.loop» ⟨[.ref l, x, rawInt i], []⟩)
      (fun A R s => s.heap.get? l = some { cls := .type "list", dict := none, data := .seq items n, slots := #[] } ∧ (∀ y, y ∈ items → EqAt A.in1 s y x (e y)) ∧ R (.ok (.ret .none)) { s with heap := s.heap.update l (Obj.mapSeq fun xs => xs.eraseIdxIfInBounds j) }) := by
  induction k with
  | zero =>
    intro i hk hij hno prog w A R s h
    obtain ⟨hp, g, d, tk, os⟩ := s; obtain ⟨hl, he, h⟩ := h
    have hij' : i = j := by omega
    subst hij'
    wp_walk using wpAny_loadPart' hl
    have hi : items[((i : Nat) : Int).toNat]? = some items[i] := by simp [hj]
    rw [hi]
    refine wpAny_bind (he _ (Array.getElem_mem hj) prog w _ _ ?_)
    rw [hit]
    have hz' : (items.eraseIdxIfInBounds i).size ≤ sizeLine + 1 := Nat.le_trans (size_erased items _) (Nat.le_succ_of_le hs1)
    wp_walk using (wpAny_updateSeq hl rfl (hz := hs1) (_hz' := hz')), wpAny_loadPart' hl
    simpa using h
  | succ k ih =>
    intro i hk hij hno prog w A R s h
    obtain ⟨hp, g, d, tk, os⟩ := s; obtain ⟨hl, he, h⟩ := h
    have hlt : i < items.size := by omega
    wp_walk using wpAny_loadPart' hl
    have hi : items[((i : Nat) : Int).toNat]? = some items[i] := by simp [hlt]
    have hc : ((i : Int) + 1) = ((i + 1 : Nat) : Int) := by push_cast; rfl
    rw [hi]
    refine wpAny_bind (he _ (Array.getElem_mem hlt) prog w _ _ ?_)
    rw [hno i hlt (Nat.le_refl _) (by omega)]
    wp_walk
    rw [hc]
    exact ⟨plainId_quiet plain_remove_loop _, codeAny_builtin entry_remove_loop (by
      rw [Around.under_plainId plain_remove_loop _]
      exact ih (i + 1) (by omega) (by omega) (fun m hm h1 h2 => hno m hm (by omega) h2) prog w A R _ ⟨hl, he, h⟩)⟩
theorem list_removeAt (l : Addr) (items : Array Value) (n : Nat) (x : Value) (e : Value → Bool) (j : Nat) (hj : j < items.size)
    (hit : e items[j] = true) (hno : ∀ m (hm : m < items.size), m < j → e items[m] = false) (hs1 : items.size ≤ sizeLine) :
    Meets (Builtin.«list.remove» ⟨[.ref l, x], []⟩)
      (fun A R s => s.heap.get? l = some { cls := .type "list", dict := none, data := .seq items n, slots := #[] } ∧ (∀ y, y ∈ items → EqAt A.in1 s y x (e y)) ∧ R (.ok (.ret .none)) { s with heap := s.heap.update l (Obj.mapSeq fun xs => xs.eraseIdxIfInBounds j) }) := by
  intro prog w A R s h
  obtain ⟨hp, g, d, tk, os⟩ := s; obtain ⟨hl, he, h⟩ := h
  wp_walk using wpAny_loadPart' hl
  exact ⟨plainId_quiet plain_remove_loop _, codeAny_builtin entry_remove_loop (by
    rw [Around.under_plainId plain_remove_loop _]
    exact remove_loopAt l items n x e j hj hit _ hs1 0 rfl (Nat.zero_le _) (fun m hm _ h2 => hno m hm h2) prog w A R _ ⟨hl, he, h⟩)⟩
theorem remove_loop_noneAt (l : Addr) (items : Array Value) (n : Nat) (x : Value) (e : Value → Bool) (hno : ∀ m (hm : m < items.size), e items[m] = false) (k : Nat) :
    ∀ i : Nat, items.size - i = k → Meets (Builtin.«list.remove.loop» ⟨[.ref l, x, rawInt i], []⟩)
      (fun A R s => s.heap.get? l = some { cls := .type "list", dict := none, data := .seq items n, slots := #[] } ∧ (∀ y, y ∈ items → EqAt A.in1 s y x (e y)) ∧ raisesNew "ValueError" A R s) := by
  induction k with
  | zero =>
    intro i hk prog w A R s h
    obtain ⟨hp, g, d, tk, os⟩ := s; obtain ⟨hl, he, h⟩ := h
    wp_walk using wpAny_loadPart' hl
    have hi : items[((i : Nat) : Int).toNat]? = none := by simp; omega
    rw [hi]
    wp_walk
    exact_raiseError plainExc_ValueError h.1 h.2
  | succ k ih =>
    intro i hk prog w A R s h
    obtain ⟨hp, g, d, tk, os⟩ := s; obtain ⟨hl, he, h⟩ := h
    have hlt : i < items.size := by omega
    wp_walk using wpAny_loadPart' hl
    have hi : items[((i : Nat) : Int).toNat]? = some items[i] := by simp [hlt]
    have hc : ((i : Int) + 1) = ((i + 1 : Nat) : Int) := by push_cast; rfl
    rw [hi]
    refine wpAny_bind (he _ (Array.getElem_mem hlt) prog w _ _ ?_)
    rw [hno i hlt]
    wp_walk
    rw [hc]
    exact ⟨plainId_quiet plain_remove_loop _, codeAny_builtin entry_remove_loop (by
      rw [Around.under_plainId plain_remove_loop _]
      exact ih (i + 1) (by omega) prog w A R _ ⟨hl, he, h⟩)⟩
theorem list_remove_noneAt (l : Addr) (items : Array Value) (n : Nat) (x : Value) (e : Value → Bool) (hno : ∀ m (hm : m < items.size), e items[m] = false) :
    Meets (Builtin.«list.remove» ⟨[.ref l, x], []⟩)
      (fun A R s => s.heap.get? l = some { cls := .type "list", dict := none, data := .seq items n, slots := #[] } ∧ (∀ y, y ∈ items → EqAt A.in1 s y x (e y)) ∧ raisesNew "ValueError" A R s) := by
  intro prog w A R s h
  obtain ⟨hp, g, d, tk, os⟩ := s; obtain ⟨hl, he, h⟩ := h
  wp_walk using wpAny_loadPart' hl
  exact ⟨plainId_quiet plain_remove_loop _, codeAny_builtin entry_remove_loop (by
    rw [Around.under_plainId plain_remove_loop _]
    exact remove_loop_noneAt l items n x e hno _ 0 rfl prog w A R _ ⟨hl, he, h⟩)⟩

section
variable {K : Kx} {F : Fm} {σ : St} {M : Am} {P : Heap} {s : Shared}

theorem IsAll.eraseIdx {P : Heap} : ∀ {vs : List Value} {ds : List PyData} (k : Nat), IsAll P vs ds → IsAll P (vs.eraseIdx k) (ds.eraseIdx k)
  | [], ds, k, h => by obtain ⟨as, r⟩ := h; cases r; simp; exact .nil
  | v :: vs, ds, k, h => by
    obtain ⟨d', r, rfl, h1, h2⟩ := h.vcons_inv
    cases k with
    | zero => simpa using h2
    | succ k => simpa using IsAll.cons h1 (IsAll.eraseIdx k h2)

theorem erase_obj (ws : List Value) (n j : Nat) : ∃ n2, Obj.mapSeq (fun xs => xs.eraseIdxIfInBounds j) (lobj ws n) = lobj (ws.eraseIdx j) n2 := by
  have e : ws.toArray.eraseIdxIfInBounds j = (ws.eraseIdx j).toArray := by
    unfold Array.eraseIdxIfInBounds
    split
    · simp
    · rename_i h
      rw [List.eraseIdx_of_length_le (by simpa using h)]
  refine ⟨if (ws.toArray.eraseIdxIfInBounds j).size == ws.toArray.size then n else n + 1, ?_⟩
  have e2 : ws.eraseIdx j = (ws.toArray.eraseIdxIfInBounds j).toList := by rw [e]
  rw [e2]
  rfl

/-- list.remove upon an owned list: found -/
theorem own_remove {A : Around} {x : Str} {a : Addr} {ds : List PyData} {d : PyData} {v : Value} {j n : Nat} {E : Value → Shared → Prop} {Q : Value → Shared → Prop} (ok : OkA K A) (R : Rel K F M P σ s) (hx : σ.lookup x = some (.own a ds)) (hap : Apart x a σ) (hv : Is P v d) (h1 : okn n d = true) (h2 : ds.all (okn n) = true) (hn : n ≤ 60) (hsz : ds.length ≤ 1000000)
    (hj : ∃ dj, ds[j]? = some dj ∧ PyData.eqv dj d = true) (hno : ∀ m dm, m < j → ds[m]? = some dm → PyData.eqv dm d = false)
    (h : ∀ s', Rel K F M P ((x, .own a (ds.eraseIdx j)) :: σ) s' → Q .none s') : wpAny K.M A (call (.builtin "list.remove") [.ref a, v]) Q E s := by
  obtain ⟨u, H, hu, ⟨ws, n', ho, hws⟩, r⟩ := R.var x _ hx
  obtain ⟨bs, rv⟩ := hv
  obtain ⟨as, rw'⟩ := hws
  have rws : ReadsAll s.heap ws.toArray.toList ds as := by simpa using ReadsAll.keeps R.stay rw'
  have lay := okn_layAll h2
  have layd := okn_lay n d h1
  have hlen := IsAll.length ⟨_, rw'⟩
  have hmap := readsAll_map ds _ _ lay.1 rws
  have he := items_eqAt (A := A) rws (Reads.keeps R.stay rv) lay.1 layd.1 (by have := Nat.min_le_right (PyData.depthAll ds) d.depth; have := layd.2; have := ok.un; omega)
  have at' : ∀ (i : Nat) (hi : i < ws.toArray.size) di, ds[i]? = some di → readOf s.heap ws.toArray[i] = di := fun i hi di e => by
    have : (ws.map (readOf s.heap))[i]? = some di := by rw [← e, ← hmap]
    rw [List.getElem?_map] at this
    have hi' : i < ws.length := by simpa using hi
    simpa [hi'] using this
  obtain ⟨dj, ej, hj'⟩ := hj
  have hjl : j < ws.toArray.size := by
    have := (List.getElem?_eq_some_iff.mp ej).1
    simp only [List.size_toArray]; omega
  refine call_meets PySem.F.slot_list_remove ⟨_, ho, rfl⟩ PySem.F.entry_list_remove (PySem.F.args_list_remove_2 _ _) (list_removeAt a ws.toArray n' v _ j hjl (by rw [at' j hjl dj ej]; exact hj') (fun m hm hmj => ?_) (by rw [List.size_toArray, hlen]; exact Nat.le_trans hsz (by decide))) ⟨ho, he, ?_⟩
  · have hml : m < ds.length := by rw [← hlen]; simpa using hm
    rw [at' m hm _ (List.getElem?_eq_getElem hml)]
    exact hno m _ hmj (List.getElem?_eq_getElem hml)
  · refine h _ (R.turn (tk := s.toks) hx rfl (Heap.SameBut.update ..) hap fun v' S => ?_)
    obtain ⟨e1, _, e3⟩ := S
    have hup := Heap.get?_update_self (Obj.mapSeq fun xs => xs.eraseIdxIfInBounds j) ho rfl
    obtain ⟨n2, e4⟩ := erase_obj ws n' j
    exact ⟨e1, ⟨ws.eraseIdx j, n2, hup.trans (by rw [e4]), IsAll.eraseIdx j ⟨_, rw'⟩⟩, e3⟩
/-- not found: it raises -/
theorem own_remove_none {A : Around} {x : Str} {a : Addr} {ds : List PyData} {d : PyData} {v : Value} {n : Nat} {E : Value → Shared → Prop} {Q : Value → Shared → Prop} (ok : OkA K A) (hc : K.c = true) (R : Rel K F M P σ s) (hx : σ.lookup x = some (.own a ds)) (hv : Is P v d) (h1 : okn n d = true) (h2 : ds.all (okn n) = true) (hn : n ≤ 60)
    (hno : ∀ dm ∈ ds, PyData.eqv dm d = false) (h : ∀ h' tk e, Heap.NewExc s.heap h' e "ValueError" → E (.ref e) { s with heap := h', toks := tk }) : wpAny K.M A (call (.builtin "list.remove") [.ref a, v]) Q E s := by
  obtain ⟨u, H, hu, ⟨ws, n', ho, hws⟩, r⟩ := R.var x _ hx
  obtain ⟨bs, rv⟩ := hv
  obtain ⟨as, rw'⟩ := hws
  have rws : ReadsAll s.heap ws.toArray.toList ds as := by simpa using ReadsAll.keeps R.stay rw'
  have lay := okn_layAll h2
  have layd := okn_lay n d h1
  have hlen := IsAll.length ⟨_, rw'⟩
  have hmap := readsAll_map ds _ _ lay.1 rws
  have he := items_eqAt (A := A) rws (Reads.keeps R.stay rv) lay.1 layd.1 (by have := Nat.min_le_right (PyData.depthAll ds) d.depth; have := layd.2; have := ok.un; omega)
  refine call_meets PySem.F.slot_list_remove ⟨_, ho, rfl⟩ PySem.F.entry_list_remove (PySem.F.args_list_remove_2 _ _) (list_remove_noneAt a ws.toArray n' v _ (fun m hm => ?_)) ⟨ho, he, ok.hd hc, fun h' tk e hx => h h' tk e hx⟩
  have hml : m < ds.length := by rw [← hlen]; simpa using hm
  have : (ws.map (readOf s.heap))[m]? = some ds[m] := by rw [← List.getElem?_eq_getElem hml, ← hmap]
  rw [List.getElem?_map] at this
  have hi' : m < ws.length := by simpa using hm
  have e2 : readOf s.heap ws.toArray[m] = ds[m] := by simpa [hi'] using this
  rw [e2]
  exact hno _ (List.getElem_mem hml)
end
end Mine
end

section
set_option maxRecDepth 100000
set_option linter.unusedVariables false
namespace Mine
open PySem PySem.W PyProof.Rows PySem.Spec PySem.Calls

section
variable {K : Kx} {F : Fm} {σ : St} {M : Am} {P : Heap} {s : Shared}

abbrev Kx.calm (K : Kx) : Kx := { K with c := false }
theorem Rel.calm (R : Rel K F M P σ s) : Rel K.calm F M P σ s := ⟨R.tp, R.sub0, R.stay, R.ext, R.new, R.frm, R.loc, R.locP, R.loc0, R.cel, R.celd, fun x sl h => by
  obtain ⟨v, H, S⟩ := R.var x sl h
  exact ⟨v, H, by cases sl <;> exact S⟩, R.fn, R.glb, R.blt, R.gens, R.os⟩
theorem Rel.uncalm (R : Rel K.calm F M P σ s) : Rel K F M P σ s := ⟨R.tp, R.sub0, R.stay, R.ext, R.new, R.frm, R.loc, R.locP, R.loc0, R.cel, R.celd, fun x sl h => by
  obtain ⟨v, H, S⟩ := R.var x sl h
  exact ⟨v, H, by cases sl <;> exact S⟩, R.fn, R.glb, R.blt, R.gens, R.os⟩
theorem Post.uncalm {Φ : Out → Prop} {f : Flow} (h : Post K.calm F M Φ f s) : Post K F M Φ f s := by
  obtain ⟨P', h⟩ := h
  refine ⟨P', ?_⟩
  cases f with
  | next => obtain ⟨σ', h1, h2⟩ := h; exact ⟨σ', h1.uncalm, h2⟩
  | brk => obtain ⟨σ', h1, h2⟩ := h; exact ⟨σ', h1.uncalm, h2⟩
  | cont => obtain ⟨σ', h1, h2⟩ := h; exact ⟨σ', h1.uncalm, h2⟩
  | ret v => obtain ⟨d, h1, h2, h3⟩ := h; exact ⟨d, h1.uncalm, h2, h3⟩

/-- a new exception leaves the step -/
theorem postE_new {Φ : Out → Prop} {h' : Heap} {tk : Nat} {e f : Addr} {cls : String} (R : Rel K F M P σ s) (x : Heap.NewExc s.heap h' e cls) (hf : F.env.frame = some f) (hΦ : Φ (.ex cls true σ)) : PostE K F M Φ (.ref e) { s with heap := h', toks := tk } := by
  have g : Grow (frs K.Fs) P s P { s with heap := h', toks := tk } := Grow.of_stays R.stay x.keeps
  obtain ⟨ob, t, h1, h2, h3⟩ := x.there
  exact ⟨P, σ, e, f, cls, true, rfl, hf, R.grow g, ⟨none_of R.stay x.new, R.ext.none x.new, ob, _, h1, h2, h3, ⟨by simp, by simp, fun _ => rfl⟩, .inl rfl⟩, hΦ⟩

def tryΦ (K : Kx) (F : Fm) (T : String) (suite : List Stmt) (Φ : Out → Prop) : Out → Prop
  | .ex cls _ σ' => cls = T ∧ Ex K.calm F σ' suite Φ
  | o => Φ o

theorem ex1_try {T : String} {x : Str} {np hp pos : Pos} {body suite : List Stmt} {b₀ : Stmt} {outer : List Env} {f : Addr} {Φ : Out → Prop} (hF : K.Fs = F.env :: outer) (hf : F.env.frame = some f) (hT : (x, Value.type T) ∈ K.T.bl) (hne : ∀ cls b σ', ¬ Φ (.ex cls b σ'))
    (h : Ex K F σ body (tryΦ K F T (b₀ :: suite) Φ)) (hk : F.env.kindOf x = some .globalImplicit := by rfl) (hd : (x == ("__debug__" : Str)) = false := by decide)
    (h1 : subB T (.type "BaseException") = some true := by decide +kernel) (h2 : subB ((Manifest.find? T).elim "type" fun y => y.metatype) (.type "tuple") = some false := by decide +kernel) (h3 : subB T (.type T) = some true := by decide +kernel) :
    Ex1 K F σ (.Try body [.ExceptHandler (some (.Name x np)) none (b₀ :: suite) hp] [] [] pos) Φ := by
  intro A M P s ok R
  refine wpAny_Try_except (wpAny_mono (h A M P s ok R) (fun fl s1 q => ?_) fun e s1 q => ?_)
  · obtain ⟨P1, q⟩ := q
    cases fl with
    | next => obtain ⟨σ1, R1, hΦ⟩ := q; exact wpAny_execs_nil ⟨P1, σ1, R1, hΦ⟩
    | brk => exact ⟨P1, q⟩
    | cont => exact ⟨P1, q⟩
    | ret v => exact ⟨P1, q⟩
  · obtain ⟨P1, σ1, a, f', cls, b, rfl, hf', R1, y, rfl, hs⟩ := q
    rw [hf] at hf'; cases hf'
    refine noteFrame_fly ok hF hf R1 y fun s2 R2 y2 => ?_
    refine setFlight_fly (f := none) R2 y2 fun s3 R3 y3 => ?_
    have okm : OkA K.calm (A.mark (some (.ref a))) := ⟨ok.fr, ok.dp, ok.un, fun q => by cases q⟩
    refine wpAny_handleBy_builtin (X := cls) (T := cls) (b := true) (isSubtype_of_subB h1) (isSubtype_of_subB h2) (isSubtype_of_subB h3) ?_
    refine load_builtin hT hk hd R3 ⟨rfl, ?_, ?_⟩
    · obtain ⟨_, _, oe, vs, he, hc, _⟩ := y3
      exact ⟨oe, he, hc⟩
    · simp only [if_true]
      refine setFlight_fly (f := none) R3 y3 fun s4 R4 y4 => ?_
      exact wpAny_mono (hs _ M P1 s4 okm R4.calm) (fun fl s5 q => q.uncalm) fun e s5 q => by
        obtain ⟨_, _, _, _, _, _, _, _, _, _, q⟩ := q
        exact (hne _ _ _ q).elim

/-! ### unpacking -/
theorem as_tuple2 {t1 t2 : Expr} {k : Nat} {pos : Pos} {d1 d2 : PyData} {σ1 σ2 : St} (hc : K.c = true) (h1 : As K F t1 d1 σ σ1) (h2 : As K F t2 d2 σ1 σ2) (he : ∀ env, assignEach [t1, t2] env = [(false, assign t1 env), (false, assign t2 env)] := by intro _; rfl) : As K F (.Tuple [t1, t2] k pos) (.tuple [d1, d2]) σ σ2 := by
  intro A M P s v ok R i
  obtain ⟨a, o, vs, n, rfl, ho, hcl, hd, hi⟩ := i.tuple_inv
  have hl : s.heap.IsTuple a vs := ⟨o, R.stay _ _ ho, hcl, n, hd⟩
  obtain ⟨v1, v2, e, i1, i2⟩ := isall2 hi
  have hz : vs.size = 2 := by rw [← Array.length_toList, e]; rfl
  refine wpAny_assign_Tuple (ok.hd hc) hl (by rw [he, hz]; rfl) (by rw [he]; rfl) fun h' hx => ?_
  have g : Grow (frs K.Fs) P s P { s with heap := h' } := Grow.of_stays R.stay fun b o q => hx b o (fun e' => by rw [e', size_none] at q; cases q) q
  rw [he, e]
  refine wpAny_assignInOrder_more (noE (h1 A M P _ v1 ok (R.grow g) i1) fun _ s1 q => ?_)
  obtain ⟨P1, R1, st1⟩ := q
  refine wpAny_assignInOrder_more (noE (h2 A M P1 s1 v2 ok R1 (i2.mono st1)) fun _ s2 q => ?_)
  obtain ⟨P2, R2, st2⟩ := q
  exact wpAny_assignInOrder_none ⟨P2, R2, stays_trans st1 st2⟩
end
end Mine
end

section
set_option maxRecDepth 100000
set_option linter.unusedVariables false
namespace Mine
open PySem PySem.W PyProof.Rows PySem.Spec PySem.Calls

theorem first_at {α : Type} [DecidableEq α] : ∀ (ts : List α) (y : α), y ∈ ts → ∃ j, ts[j]? = some y ∧ (∀ m z, m < j → ts[m]? = some z → z ≠ y) ∧ ts.eraseIdx j = ts.erase y
  | [], y, h => nomatch h
  | t :: ts, y, h => by
    by_cases e : t = y
    · subst e
      exact ⟨0, rfl, fun m z hm => absurd hm (Nat.not_lt_zero _), by simp⟩
    · have h' : y ∈ ts := by
        rcases List.mem_cons.mp h with q | q
        · exact absurd q.symm e
        · exact q
      obtain ⟨j, h1, h2, h3⟩ := first_at ts y h'
      refine ⟨j + 1, by simpa using h1, fun m z hm hz => ?_, by rw [List.eraseIdx_cons_succ, h3, List.erase_cons_tail (by simpa using e)]⟩
      cases m with
      | zero => simp at hz; subst hz; exact e
      | succ m => exact h2 m z (by omega) (by simpa using hz)

theorem map_eraseIdx' {α β : Type} (f : α → β) : ∀ (l : List α) (j : Nat), (l.map f).eraseIdx j = (l.eraseIdx j).map f
  | [], _ => by simp
  | _ :: _, 0 => by simp
  | a :: l, j + 1 => by simp [map_eraseIdx' f l j]

section
variable {K : Kx} {F : Fm} {σ : St}

/-- the statement «x.remove(e)», over data that a type stands for -/
theorem ex1_remove {α : Type} [DecidableEq α] (emb : α → PyData) (n : Nat) (hemb : ∀ y, okn n (emb y) = true) (heq : ∀ y z, PyData.eqv (emb y) (emb z) = decide (y = z)) {x : Str} {a : Addr} {ts : List α} {y : α} {np apos pos pos' : Pos} {e : Expr} {Φ : Out → Prop} {f : Addr} (hc : K.c = true) (hf : F.env.frame = some f)
    (hx : σ.lookup x = some (.own a (ts.map emb))) (hap : Apart x a σ) (h : Ev K F σ e (emb y)) (hn : n ≤ 60) (hsz : ts.length ≤ 1000000) (hyes : y ∈ ts → Φ (.nx ((x, .own a ((ts.erase y).map emb)) :: σ))) (hno : y ∉ ts → Φ (.ex "ValueError" true σ))
    (hbase : attributeBase (.Name x np) ("remove" : Str) F.env (eval (.Name x np) F.env) = eval (.Name x np) F.env := by rfl)
    (hfew : ((backTo pos (starEach [e] F.env)).all (fun x => !x.1) && (backToKw pos (keywordEach [] F.env)).all (fun x => x.1.isSome)
      && decide (([e] : List Expr).length + ([] : List Keyword).length + (if ([] : List Keyword).isEmpty then 0 else 1) < 30)) = true := by rfl)
    (hline : (apos.endLine == pos.line) = true := by rfl) (hd : (x == ("__debug__" : Str)) = false := by decide) (he : ∀ env, starEach [e] env = [(false, eval e env)] := by intro _; rfl)
    (hi : interactive F.env = false := by rfl) (hs : ∀ env, swapsWith (.Call (.Attribute (.Name x np) ("remove" : Str) apos) [e] [] pos) none pos'.line env = pure false := by intro _; rfl) :
    Ex1 K F σ (.Expr (.Call (.Attribute (.Name x np) ("remove" : Str) apos) [e] [] pos) pos') Φ := by
  intro A M P s ok R
  refine wpAny_Expr_any (own_meth PySem.F.slot_list_remove PySem.F.type_list_remove hx (evl_cons h evl_nil he) ok R (fun vs s1 P1 g R1 i => ?_) hbase hfew hline hd he (fun _ _ => rfl)) hi (hs _)
  obtain ⟨v, rfl, hv⟩ := isall1 i
  have hall : (ts.map emb).all (okn n) = true := by simp [hemb]
  by_cases hy : y ∈ ts
  · obtain ⟨j, h1, h2, h3⟩ := first_at ts y hy
    refine own_remove ok R1 hx hap hv (hemb y) hall hn (by simpa using hsz) (j := j) ⟨emb y, by rw [List.getElem?_map, h1]; rfl, by rw [heq]; simp⟩ (fun m dm hm hdm => ?_) fun s' R' => ?_
    · rw [List.getElem?_map] at hdm
      obtain ⟨z, hz, rfl⟩ := Option.map_eq_some_iff.mp hdm
      rw [heq]
      exact decide_eq_false (h2 m z hm hz)
    · rw [map_eraseIdx', h3] at R'
      exact ⟨P1, _, R', hyes hy⟩
  · refine own_remove_none ok hc R1 hx hv (hemb y) hall hn (fun dm hdm => ?_) fun h' tk ex hx' => postE_new R1 hx' hf (hno hy)
    obtain ⟨z, hz, rfl⟩ := List.mem_map.mp hdm
    rw [heq]
    exact decide_eq_false fun q => hy (q ▸ hz)
theorem ev_not {e : Expr} {pos : Pos} {d : PyData} {b : Bool} (h : Ev K F σ e d) (ht : Tv K F σ d b) : Ev K F σ (.UnaryOp .Not e pos) (.bool (!b)) := fun A M P s ok R =>
  wpAny_UnaryOp (ev_then h ok R fun v s' P' g R' i => not_of (noE (ht A M P' s' v ok R' i) fun r s'' q => by
    rw [q.1]; exact ⟨P', g.trans q.2, .b _⟩))
end
end Mine
end

section
set_option maxRecDepth 100000
set_option linter.unusedVariables false
namespace Mine
open PySem PySem.W PyProof.Rows PySem.Spec PySem.Calls

/-- a call that may turn the objects of X -/
structure GrowU (fr X : List Addr) (P : Heap) (s : Shared) (P' : Heap) (s' : Shared) : Prop where
  sub : P.StaysIn P'
  stay : P'.StaysIn s'.heap
  ext : ∀ b o, b ∉ X → s.heap.get? b = some o → (b ∉ fr → s'.heap.get? b = some o) ∧ ∃ sl, s'.heap.get? b = some { o with slots := sl }
  new : ∀ a o, P'.get? a = some o → P.get? a = some o ∨ s.heap.get? a = none ∨ a ∈ X
  gens : s'.gens = s.gens
  os : s'.os = s.os

structure OwnArg (fr : List Addr) (P : Heap) (s : Shared) (a : Addr) (ds : List PyData) : Prop where
  obj : ∃ vs n, s.heap.get? a = some (lobj vs n) ∧ IsAll P vs ds
  P : P.get? a = none
  fr : a ∉ fr

/-- a def of two arguments, both lists of the caller's own that it may turn -/
def FnU (K : Kx) (n : Nat) (f : FnRec) (xs ys : List PyData) (r : PyData) : Prop :=
  ∀ Fs A s P a ea aa, OkA { K with n := n, c := true, Fs := Fs } A → Tp K.T P → P.StaysIn s.heap → s.heap.FunFrames P Fs → K.T.mg f.name = some (.ref a) → OwnArg (frs Fs) P s ea xs → OwnArg (frs Fs) P s aa ys → ea ≠ aa →
    codeAny K.M A (.call (.ref a) ⟨[.ref ea, .ref aa], []⟩) (fun res s' => ∃ v P', res = .ok (.ret v) ∧ GrowU (frs Fs) [ea, aa] P s P' s' ∧ Is P' v r) s

theorem fn_introU {K : Kx} {f : FnRec} {xs ys : List PyData} {r : PyData} {n : Nat} (p q : Str) (hm : f ∈ K.T.fns)
    (hb : ∀ v w pm code doc, bindArgs (docDef f.name f.params f.body f.scope pm code doc) ⟨[v, w], []⟩ = pure [(p, v), (q, w)])
    (hk : f.scope.kind = .function) (hco : f.scope.isCoroutine = false) (hgen : f.scope.isGenerator = false) (hpq : p ≠ q)
    (hp : f.scope.names.lookup p = some .local) (hq : f.scope.names.lookup q = some .local)
    (h : ∀ Fs L a code ea aa, ea ≠ aa → Ex { K with n := n, c := true, Fs := fenv f L a code :: Fs } ⟨fenv f L a code, []⟩ [(p, .own ea xs), (q, .own aa ys)] f.body (fun o => o = .rt r)) : FnU K (n + 1) f xs ys r := by
  intro Fs A s P a ea aa ok tp st ff hmg he ha hne
  obtain ⟨a', o, pm, code, doc, h1, h2, h3, h4⟩ := tp.fn f hm
  rw [hmg] at h1; cases h1
  refine codeAny_call_function (by have := ok.dp; omega) (st _ _ h2) h3 hco hgen rfl (h4.keeps st) ?_
  rw [hb]
  refine wpAny_pure ?_
  refine wpAny_newFunctionEnv_cells hk (fun x hx => .inl ?_) fun env hen s' x => ?_
  · rcases List.mem_cons.mp hx with rfl | hx
    · exact hp
    · rw [List.mem_singleton.mp hx]; exact hq
  subst hen
  have keep := x.toInCall.keep
  obtain ⟨h', tk, hs'⟩ := x.toInCall.same
  have hL : s.heap.get? s.heap.objs.size = none := size_none _
  have hPL : ∀ b, s.heap.get? b = none → P.get? b = none := fun b e => none_of st e
  obtain ⟨h₀, hh⟩ := base_with s.heap ⟨#[], {}⟩ [ea, aa]
  have hemp : ∀ b, (⟨#[], {}⟩ : Heap).get? b = none := fun b => get?_none_ge (Nat.zero_le _)
  have hh' : ∀ b o, h₀.get? b = some o → s.heap.get? b = some o := fun b o e => by
    rw [hh] at e; split at e
    · rw [hemp] at e; cases e
    · exact e
  have hea : h₀.get? ea = none := by rw [hh, if_pos (.head _)]; exact hemp _
  have haa : h₀.get? aa = none := by rw [hh, if_pos (.tail _ (.head _))]; exact hemp _
  obtain ⟨⟨vs, n1, ho1, hi1⟩, hP1, hf1⟩ := he
  obtain ⟨⟨ws, n2, ho2, hi2⟩, hP2, hf2⟩ := ha
  have hL1 : ea ≠ s.heap.objs.size := fun q => by rw [q, hL] at ho1; cases ho1
  have hL2 : aa ≠ s.heap.objs.size := fun q => by rw [q, hL] at ho2; cases ho2
  refine ⟨(tp.nolimit.keeps st).keeps keep, codeAny_func ?_⟩
  have hL0 : h₀.get? s.heap.objs.size = none := none_or fun o e => by have := hh' _ _ e; rw [hL] at this; cases this
  have kp : (fenv f s.heap.objs.size a code).kindOf p = some .local := hp
  have kq : (fenv f s.heap.objs.size a code).kindOf q = some .local := hq
  have R : Rel { K with n := n, c := true, Fs := fenv f s.heap.objs.size a code :: Fs } ⟨fenv f s.heap.objs.size a code, []⟩ ⟨h₀, P, s.gens, s.os⟩ P [(p, .own ea xs), (q, .own aa ys)] s' := {
    tp := tp
    sub0 := stays_refl _
    stay := stays_trans st keep
    ext := .of_stays fun b o e => keep b o (hh' b o e)
    new := fun a o e => .inl e
    frm := by
      obtain ⟨oL, es, ep, g1, d1⟩ := ns_data x.toInCall.ns
      refine ⟨by show f.scope.kind ≠ .module; rw [hk]; decide, ⟨s.heap.objs.size, oL, rfl, hPL _ hL, g1, fun vs q => by rw [d1] at q; cases q⟩, ?_⟩
      exact funFrames_ext (fr := []) ff (.of_stays keep)
    loc := ⟨_, x.toInCall.ns⟩
    locP := hPL _ hL
    loc0 := hL0
    cel := fun y hy => nomatch hy
    celd := fun y hy => nomatch hy
    var := fun y sl hy => by
      have h9 : ∀ b, b ∉ frs Fs → b ≠ s.heap.objs.size → b ∉ frs (fenv f s.heap.objs.size a code :: Fs) := fun b h1 h2 hm => by
        have : b ∈ s.heap.objs.size :: frs Fs := hm
        rcases List.mem_cons.mp this with q | q
        · exact h2 q
        · exact h1 q
      by_cases e : y = p
      · subst e; rw [lookup_cons_eq] at hy; cases hy
        exact ⟨.ref ea, .inl ⟨kp, _, x.toInCall.ns, bindL_hit kp [y, q] [.ref ea, .ref aa] _ 0 (by simp [hpq]) rfl rfl⟩, rfl, ⟨vs, n1, keep _ _ ho1, hi1⟩, hP1, hea, h9 _ hf1 hL1, hL1⟩
      · rw [lookup_cons_ne e] at hy
        by_cases e' : y = q
        · subst e'; rw [lookup_cons_eq] at hy; cases hy
          exact ⟨.ref aa, .inl ⟨kq, _, x.toInCall.ns, bindL_hit kq [p, y] [.ref ea, .ref aa] _ 1 (by simp [hpq]) rfl rfl⟩, rfl, ⟨ws, n2, keep _ _ ho2, hi2⟩, hP2, haa, h9 _ hf2 hL2, hL2⟩
        · rw [lookup_cons_ne e'] at hy; cases hy
    fn := hk
    glb := rfl
    blt := rfl
    gens := by rw [hs']
    os := by rw [hs'] }
  have ok' : OkA { K with n := n, c := true, Fs := fenv f s.heap.objs.size a code :: Fs } (A.deeper (fenv f s.heap.objs.size a code)) :=
    ⟨by show A.frames.map _ = _; rw [ok.fr]; rfl, by show A.depth + 1 + n < _; have := ok.dp; simp only at this; omega, by show A.units + 3 + 16 * n + 200 < _; have := ok.un; simp only at this; omega, fun _ => ok.hd rfl⟩
  refine wpAny_mono (h Fs s.heap.objs.size a code ea aa hne _ _ _ _ ok' R) (fun fl s2 p => ?_) (fun e s2 p => ?_)
  · obtain ⟨P', p⟩ := p
    cases fl with
    | next => obtain ⟨_, _, q⟩ := p; cases q
    | brk => obtain ⟨_, _, q⟩ := p; cases q
    | cont => obtain ⟨_, _, q⟩ := p; cases q
    | ret v =>
      obtain ⟨d, R2, i2, q⟩ := p
      cases q
      refine ⟨v, P', rfl, ⟨R2.sub0, R2.stay, fun b o hb e => ?_, fun b o e => ?_, R2.gens, R2.os⟩, i2⟩
      · have e0 : h₀.get? b = some o := by rw [hh, if_neg hb]; exact e
        obtain ⟨g1, g2⟩ := R2.ext b o e0
        refine ⟨fun hn => g1 fun hm => ?_, g2⟩
        have : b ∈ s.heap.objs.size :: frs Fs := hm
        rcases List.mem_cons.mp this with q | q
        · rw [q, hL] at e; cases e
        · exact hn q
      · rcases R2.new b o e with q | q
        · exact .inl q
        · by_cases hb : b ∈ [ea, aa]
          · exact .inr (.inr hb)
          · refine .inr (.inl ?_)
            rw [show h₀.get? b = s.heap.get? b by rw [hh, if_neg hb]] at q
            exact q
  · obtain ⟨_, _, _, _, _, _, _, _, _, _, q⟩ := p; cases q
end Mine
end

section
set_option maxRecDepth 100000
set_option linter.unusedVariables false
namespace Mine
open PySem PySem.W PyProof.Rows PySem.Spec PySem.Calls

section
variable {K : Kx} {F : Fm} {σ : St}

theorem own_meth0 {x : Str} {a : Addr} {ds : List PyData} {name : Str} {id : String} {np apos pos : Pos} {A : Around} {M : Am} {P : Heap} {s : Shared} {E : Value → Shared → Prop} {Q : Value → Shared → Prop}
    (slot : PySem.Slot "list" name id) (hty : typeOf (.builtin id) = pure (.type "method_descriptor")) (hx : σ.lookup x = some (.own a ds)) (R : Rel K F M P σ s)
    (h : wpAny K.M A (call (.builtin id) [.ref a]) Q E s)
    (hbase : attributeBase (.Name x np) name F.env (eval (.Name x np) F.env) = eval (.Name x np) F.env)
    (hfew : ((backTo pos (starEach [] F.env)).all (fun x => !x.1) && (backToKw pos (keywordEach [] F.env)).all (fun x => x.1.isSome)
      && decide (([] : List Expr).length + ([] : List Keyword).length + (if ([] : List Keyword).isEmpty then 0 else 1) < 30)) = true)
    (hline : (apos.endLine == pos.line) = true) (hd : (x == ("__debug__" : Str)) = false) :
    wpAny K.M A (eval (.Call (.Attribute (.Name x np) name apos) [] [] pos) F.env) Q E s := by
  refine wpAny_Call_method hbase hfew hline PySem.F.plainAttrs_list slot hty ?_
  obtain ⟨v, H, hv, ⟨vs, n, ho, hi⟩, _⟩ := R.var x _ hx
  subst hv
  refine wpAny_Name ?_ hd
  have fin : s.TypeIs (.ref a) "list" ∧ (∀ a', Value.ref a = .ref a' → ∃ ob, s.heap.get? a' = some ob ∧ ob.dict = none) ∧ wpAny K.M A (callWith pos (.builtin id) [.ref a] (backTo pos (starEach [] F.env)) []) Q E s :=
    ⟨⟨_, ho, rfl⟩, fun a' q => by cases q; exact ⟨_, ho, rfl⟩, callWith_method0 h⟩
  rcases H with ⟨hk, m, hn, hv⟩ | ⟨hk | hk, hcl, c, hc, hv⟩
  · exact wpAny_loadName_local R.fn hk hn hv fin
  · exact wpAny_loadName_cell R.fn hk hc hv fin
  · exact wpAny_loadName_free R.fn hk hc hv fin hcl

/-- y = x.pop() -/
theorem ex1_pop {x y : Str} {a : Addr} {ds : List PyData} {d : PyData} {np apos pos pos' yp : Pos} {Φ : Out → Prop} (hx : σ.lookup x = some (.own a (ds ++ [d]))) (hap : Apart x a σ) (hy : Stores F y) (hsz : ds.length ≤ 100000) (hΦ : Φ (.nx ((y, .dat d) :: (x, .own a ds) :: σ)))
    (hbase : attributeBase (.Name x np) ("pop" : Str) F.env (eval (.Name x np) F.env) = eval (.Name x np) F.env := by rfl)
    (hfew : ((backTo pos (starEach [] F.env)).all (fun x => !x.1) && (backToKw pos (keywordEach [] F.env)).all (fun x => x.1.isSome)
      && decide (([] : List Expr).length + ([] : List Keyword).length + (if ([] : List Keyword).isEmpty then 0 else 1) < 30)) = true := by rfl)
    (hline : (apos.endLine == pos.line) = true := by rfl) (hd : (x == ("__debug__" : Str)) = false := by decide)
    (hq : swapsWithSole [.Name y yp] (.Call (.Attribute (.Name x np) ("pop" : Str) apos) [] [] pos) pos'.line F.env = pure false := by rfl) (hw : swappedStores [.Name y yp] (.Call (.Attribute (.Name x np) ("pop" : Str) apos) [] [] pos) F.env = pure none := by rfl) :
    Ex1 K F σ (.Assign [.Name y yp] (.Call (.Attribute (.Name x np) ("pop" : Str) apos) [] [] pos) pos') Φ := by
  intro A M P s ok R
  have e1 : exec (.Assign [.Name y yp] (.Call (.Attribute (.Name x np) ("pop" : Str) apos) [] [] pos) pos') F.env = (do
    standAt pos'
    if ← swapsWithSole [.Name y yp] (.Call (.Attribute (.Name x np) ("pop" : Str) apos) [] [] pos) pos'.line F.env then do
      evalThenUse (.Call (.Attribute (.Name x np) ("pop" : Str) apos) [] [] pos) F.env fun v => assignAll v ((assignEach [.Name y yp] F.env).map (·.2))
      pure .next
    else do
      let v ← eval (.Call (.Attribute (.Name x np) ("pop" : Str) apos) [] [] pos) F.env
      assignStores F.env v (← swappedStores [.Name y yp] (.Call (.Attribute (.Name x np) ("pop" : Str) apos) [] [] pos) F.env) ((assignEach [.Name y yp] F.env).map (·.2))) := rfl
  rw [e1, hq, hw]
  refine wpAny_bind (wpAny_standAt (wpAny_bind (wpAny_pure ?_)))
  show wpAny _ _ (eval (.Call (.Attribute (.Name x np) ("pop" : Str) apos) [] [] pos) F.env >>= _) _ _ _
  refine wpAny_bind (own_meth0 PySem.F.slot_list_pop PySem.F.type_list_pop hx R ?_ hbase hfew hline hd)
  obtain ⟨u, H, hu, ⟨ws, n, ho, hws⟩, r⟩ := R.var x _ hx
  have hlen := hws.length
  rw [List.length_append, List.length_singleton] at hlen
  have hlast : (ds ++ [d])[ds.length]? = some d := by simp
  obtain ⟨v, hv, hvd⟩ := hws.get hlast
  have hz : ws.toArray.size - 1 = ds.length := by rw [List.size_toArray, hlen]; omega
  refine call_meets PySem.F.slot_list_pop ⟨_, ho, rfl⟩ PySem.F.entry_list_pop (PySem.F.args_list_pop_1 _) (MeetsSeq.list_pop_last a ws.toArray n v (by rw [hz]; simpa using hv) (by rw [List.size_toArray, hlen]; exact Nat.le_trans (by omega) (show 1000000 ≤ sizeLine by decide))) ⟨ho, ?_⟩
  have R' := R.turn (h' := s.heap.update a (Obj.mapSeq fun xs => xs.eraseIdxIfInBounds (ws.toArray.size - 1))) (tk := s.toks) (sl' := .own a ds) hx rfl (Heap.SameBut.update ..) hap (fun v' S => by
    obtain ⟨e1, _, e3⟩ := S
    have hup := Heap.get?_update_self (Obj.mapSeq fun xs => xs.eraseIdxIfInBounds (ws.toArray.size - 1)) ho rfl
    obtain ⟨n2, e4⟩ := erase_obj ws n (ws.toArray.size - 1)
    refine ⟨e1, ⟨ws.eraseIdx (ws.toArray.size - 1), n2, hup.trans (by rw [e4]), ?_⟩, e3⟩
    have := IsAll.eraseIdx ds.length hws
    rw [hz]
    simpa [List.eraseIdx_append_of_length_le] using this)
  refine wpAny_bind (wpAny_pure ?_)
  unfold assignStores assignAll
  dsimp only [assignEach, List.map]
  refine wpAny_bind (wpAny_assign_Name (store_slot (sl := .dat d) R' hy hvd fun s'' R'' => wpAny_pure ⟨P, _, R'', hΦ⟩))
end
end Mine
end

section
set_option maxRecDepth 100000
set_option linter.unusedVariables false
namespace Mine
open PySem PySem.W PyProof.Rows PySem.Spec PySem.Calls

section
variable {K : Kx} {F : Fm} {σ : St} {M : Am} {P P' : Heap} {s s' : Shared}

theorem Rel.growU {X : List Addr} {σ' : St} (R : Rel K F M P σ s) (g : GrowU (frs K.Fs) X P s P' s') (hX : ∀ b ∈ X, M.h₀.get? b = none ∧ b ≠ F.env.locals ∧ b ∉ frs K.Fs ∧ (∀ c v, s.heap.IsCell c v → c ≠ b)) (hsub : Sub σ' σ) (hap : ∀ x sl, σ'.lookup x = some sl → ∀ b ∈ X, sl.adr ≠ some b) : Rel K F M P' σ' s' := by
  have nn : ∀ b o, s.heap.get? b = some o → b ∉ X → P.get? b = none → P'.get? b = none := fun b o e hb hp => none_or fun o' q => by
    rcases g.new b o' q with r | r | r
    · rw [hp] at r; cases r
    · rw [e] at r; cases r
    · exact hb r
  have kns : ∀ m, s.heap.Ns F.env.locals m → s'.heap.Ns F.env.locals m := fun m ⟨o, es, ep, e, hd, r⟩ => by
    obtain ⟨sl, q⟩ := (g.ext _ _ (fun hm => (hX _ hm).2.1 rfl) e).2
    exact ⟨_, es, ep, q, hd, r⟩
  have kcl : ∀ c v, s.heap.IsCell c v → s'.heap.IsCell c v := fun c v hc => by
    obtain ⟨o, e, hd⟩ := id hc
    obtain ⟨sl, q⟩ := (g.ext _ _ (fun hm => (hX _ hm).2.2.2 c v hc rfl) e).2
    exact ⟨_, q, hd⟩
  exact {
    tp := R.tp.mono g.sub
    sub0 := stays_trans R.sub0 g.sub
    stay := g.stay
    ext := fun b o e => by
      have hb : b ∉ X := fun hm => by rw [(hX b hm).1] at e; cases e
      obtain ⟨h1, sl, h2⟩ := R.ext b o e
      refine ⟨fun x => (g.ext b o hb (h1 x)).1 x, ?_⟩
      obtain ⟨sl', h3⟩ := (g.ext b _ hb h2).2
      exact ⟨sl', h3⟩
    new := fun a o e => by
      rcases g.new a o e with q | q | q
      · exact R.new a o q
      · exact .inr (R.ext.none q)
      · exact .inr (hX a q).1
    frm := by
      have hl := R.frm
      have : ∀ {l : List Env}, s.heap.FunFrames P l → (∀ b ∈ X, b ∉ frs l) → s'.heap.FunFrames P' l := by
        intro l
        induction l with
        | nil => intro _ _; trivial
        | cons e r ih =>
          rintro ⟨hk, ⟨L, o, hf, hn, ho, hd⟩, hr⟩ hna
          have h1 : ∀ b ∈ X, b ∉ L :: frs r := fun b hb => by simpa [frs, List.filterMap_cons, hf] using hna b hb
          have hL : L ∉ X := fun hm => h1 L hm (.head _)
          obtain ⟨sl, q⟩ := (g.ext L o hL ho).2
          exact ⟨hk, ⟨L, _, hf, nn L o ho hL hn, q, hd⟩, ih hr fun b hb hm => h1 b hb (.tail _ hm)⟩
      exact this hl fun b hb => (hX b hb).2.2.1
    loc := let ⟨m, hn⟩ := R.loc; ⟨m, kns m hn⟩
    locP := by
      obtain ⟨m, o, es, ep, e, _⟩ := R.loc
      exact nn _ o e (fun hm => (hX _ hm).2.1 rfl) R.locP
    loc0 := R.loc0
    cel := fun x hx => by
      obtain ⟨c, v, h1, h2, h3, h4⟩ := R.cel x hx
      obtain ⟨o, e, _⟩ := id h2
      exact ⟨c, v, h1, kcl c v h2, nn c o e (fun hm => (hX _ hm).2.2.2 c v h2 rfl) h3, h4⟩
    celd := R.celd
    var := fun x sl hx => by
      obtain ⟨v, H, S⟩ := R.var x sl (hsub x sl hx)
      refine ⟨v, ?_, ?_⟩
      · rcases H with ⟨hk, m, hn, hv⟩ | ⟨hk, hx, c, hc, hv⟩
        · exact .inl ⟨hk, m, kns m hn, hv⟩
        · exact .inr ⟨hk, hx, c, hc, kcl _ _ hv⟩
      · have ha := hap x sl hx
        cases sl with
        | dat d => exact Is.mono g.sub S
        | own a ds =>
          obtain ⟨hv, ⟨vs, n, ho, hi⟩, h1, h2, h3, h4⟩ := S
          have hb : a ∉ X := fun hm => ha a hm rfl
          exact ⟨hv, ⟨vs, n, (g.ext a _ hb ho).1 h3, hi.mono g.sub⟩, nn a _ ho hb h1, h2, h3, h4⟩
        | dct a n f =>
          obtain ⟨hv, ⟨fv, ⟨o, es, ep, ho, hm⟩, hz, hi⟩, h1, h2, h3, h4⟩ := S
          have hb : a ∉ X := fun hm => ha a hm rfl
          have q := (g.ext a _ hb ho).1 h3
          exact ⟨hv, ⟨fv, ⟨o, es, ep, q, hm⟩, hz.of_same ho q, hi.mono g.sub⟩, nn a _ ho hb h1, h2, h3, h4⟩
    fn := R.fn
    glb := R.glb
    blt := R.blt
    gens := g.gens.trans R.gens
    os := g.os.trans R.os }

theorem cell_ne_lobj {a : Addr} {vs : List Value} {n : Nat} (ho : s.heap.get? a = some (lobj vs n)) : ∀ c v, s.heap.IsCell c v → c ≠ a := fun c v ⟨o, e, hd⟩ q => by
  rw [q, ho] at e; cases e; cases hd

/-- a name's list and a new one -/
theorem call_own1 {f : Str} {np xp pos : Pos} {x : Str} {e2 : Expr} {fr : FnRec} {n : Nat} {ea : Addr} {xs ys : List PyData} {r : PyData} {σ' : St} {A : Around} {E : Value → Shared → Prop} {Q : Value → Shared → Prop} (hm : fr ∈ K.T.fns) (hf : fr.name = f) (hx : σ.lookup x = some (.own ea xs)) (h2 : EvN K F σ e2 ys) (hc : K.c = true) (hF : FnU K n fr xs ys r) (hn : n ≤ K.n)
    (hsub : Sub σ' σ) (hap : ∀ y sl, σ'.lookup y = some sl → sl.adr ≠ some ea) (ok : OkA K A) (R : Rel K F M P σ s) (h : ∀ v s' P', Rel K F M P' σ' s' → Is P' v r → Q v s')
    (hk : F.env.kindOf f = some .globalImplicit := by rfl) (hd : (f == ("__debug__" : Str)) = false := by decide) (hd' : (x == ("__debug__" : Str)) = false := by decide) (he : ∀ env, starEach [.Name x xp, e2] env = [(false, eval (.Name x xp) env), (false, eval e2 env)] := by intro _; rfl) (he' : ∀ env, starEach [e2] env = [(false, eval e2 env)] := by intro _; rfl) :
    wpAny K.M A (eval (.Call (.Name f np) [.Name x xp, e2] [] pos) F.env) Q E s := by
  obtain ⟨a, o, pm, code, doc, g1, g2, g3, g4⟩ := R.tp.fn fr hm
  rw [hf] at g1
  refine wpAny_Call_NameR (load_global g1 hk hd R ?_)
  refine callWith_def (o := o) g3 ?_ (by rw [he, he'])
  obtain ⟨u, H, hu, ⟨vs, n1, ho1, hi1⟩, hP1, h01, fr1, hL1⟩ := R.var x _ hx
  subst hu
  have load : ∀ {E' : Value → Shared → Prop} {Q' : Value → Shared → Prop}, Q' (.ref ea) s → wpAny K.M A (eval (.Name x xp) F.env) Q' E' s := fun hq => by
    refine wpAny_Name ?_ hd'
    rcases H with ⟨hk, m, hn, hv⟩ | ⟨hk | hk, hcl, c, hc, hv⟩
    · exact wpAny_loadName_local R.fn hk hn hv hq
    · exact wpAny_loadName_cell R.fn hk hc hv hq
    · exact wpAny_loadName_free R.fn hk hc hv hq hcl
  refine spliced_more (load ?_) (by rw [he, he'])
  refine spliced_more (noE (h2 A M P s ok R) fun v2 s2 q => ?_) (he' _)
  obtain ⟨P2, aa, ws, n2, rfl, gr2, ho2, hi2, hn2, hP2⟩ := q
  have R2 := R.grow gr2
  refine spliced_none ⟨R2.stay _ _ (gr2.sub _ _ g2), wpAny_call ?_⟩
  have fr2 := frs_ne R hn2
  have ho1' := (gr2.ext _ _ ho1).1 fr1
  have hP1' : P2.get? ea = none := none_or fun o' q => by
    rcases gr2.new ea o' q with r | r
    · rw [hP1] at r; cases r
    · rw [ho1] at r; cases r
  have hne : ea ≠ aa := fun q => by rw [← q, ho1] at hn2; cases hn2
  refine codeAny_mono (hF K.Fs A s2 P2 a ea aa (ok.mono rfl hn fun _ => hc) R2.tp R2.stay R2.frm (hf ▸ g1) ⟨⟨vs, n1, ho1', hi1.mono gr2.sub⟩, hP1', fr1⟩ ⟨⟨ws, n2, ho2, hi2⟩, hP2, fr2⟩ hne) fun res s3 q => ?_
  obtain ⟨v, P3, rfl, gu, i3⟩ := q
  refine h v s3 P3 (R2.growU gu (fun b hb => ?_) hsub fun y sl hy b hb => ?_) i3
  · rcases List.mem_cons.mp hb with q | q
    · subst q; exact ⟨h01, hL1, fr1, cell_ne_lobj ho1'⟩
    · rw [List.mem_singleton.mp q]; exact ⟨R.ext.none hn2, loc_ne R hn2, fr2, cell_ne_lobj ho2⟩
  · rcases List.mem_cons.mp hb with q | q
    · rw [q]; exact hap y sl hy
    · rw [List.mem_singleton.mp q]; exact new_of R hn2 y sl (hsub y sl hy)

/-- y = f(x, e)[0] -/
theorem ex1_uld0 {f : Str} {np xp cp sp kp yp pos : Pos} {k : Nat} {x y : Str} {e2 : Expr} {fr : FnRec} {n : Nat} {ea : Addr} {xs ys : List PyData} {r0 : PyData} {rs : List PyData} {σ' : St} {Φ : Out → Prop} (hm : fr ∈ K.T.fns) (hf : fr.name = f) (hx : σ.lookup x = some (.own ea xs)) (h2 : EvN K F σ e2 ys) (hc : K.c = true) (hF : FnU K n fr xs ys (.tuple (r0 :: rs))) (hn : n ≤ K.n)
    (hsub : Sub σ' σ) (hap : ∀ y sl, σ'.lookup y = some sl → sl.adr ≠ some ea) (hy : Stores F y) (hΦ : Φ (.nx ((y, .dat r0) :: σ')))
    (hk : F.env.kindOf f = some .globalImplicit := by rfl) (hd : (f == ("__debug__" : Str)) = false := by decide) (hd' : (x == ("__debug__" : Str)) = false := by decide) (he : ∀ env, starEach [.Name x xp, e2] env = [(false, eval (.Name x xp) env), (false, eval e2 env)] := by intro _; rfl) (he' : ∀ env, starEach [e2] env = [(false, eval e2 env)] := by intro _; rfl)
    (hq : swapsWithSole [.Name y yp] (.Subscript (.Call (.Name f np) [.Name x xp, e2] [] cp) (.Constant (.int 0) k kp) sp) pos.line F.env = pure false := by rfl) (hw : swappedStores [.Name y yp] (.Subscript (.Call (.Name f np) [.Name x xp, e2] [] cp) (.Constant (.int 0) k kp) sp) F.env = pure none := by rfl) :
    Ex1 K F σ (.Assign [.Name y yp] (.Subscript (.Call (.Name f np) [.Name x xp, e2] [] cp) (.Constant (.int 0) k kp) sp) pos) Φ := by
  intro A M P s ok R
  have e1 : exec (.Assign [.Name y yp] (.Subscript (.Call (.Name f np) [.Name x xp, e2] [] cp) (.Constant (.int 0) k kp) sp) pos) F.env = (do
    standAt pos
    if ← swapsWithSole [.Name y yp] (.Subscript (.Call (.Name f np) [.Name x xp, e2] [] cp) (.Constant (.int 0) k kp) sp) pos.line F.env then do
      evalThenUse (.Subscript (.Call (.Name f np) [.Name x xp, e2] [] cp) (.Constant (.int 0) k kp) sp) F.env fun v => assignAll v ((assignEach [.Name y yp] F.env).map (·.2))
      pure .next
    else do
      let v ← eval (.Subscript (.Call (.Name f np) [.Name x xp, e2] [] cp) (.Constant (.int 0) k kp) sp) F.env
      assignStores F.env v (← swappedStores [.Name y yp] (.Subscript (.Call (.Name f np) [.Name x xp, e2] [] cp) (.Constant (.int 0) k kp) sp) F.env) ((assignEach [.Name y yp] F.env).map (·.2))) := rfl
  rw [e1, hq, hw]
  refine wpAny_bind (wpAny_standAt (wpAny_bind (wpAny_pure ?_)))
  show wpAny _ _ (eval (.Subscript (.Call (.Name f np) [.Name x xp, e2] [] cp) (.Constant (.int 0) k kp) sp) F.env >>= _) _ _ _
  refine wpAny_bind (Subscript_ (call_own1 hm hf hx h2 hc hF hn hsub hap ok R (fun v s1 P1 R1 i1 => ?_) hk hd hd' he he'))
  refine ev_then (σ := σ') ev_int ok R1 fun v2 s2 P2 g2 R2 i2 => ?_
  refine noE (su_tuple (K := K) (F := F) (σ := σ') (d := r0) (Int.le_refl 0) (by decide) rfl A M P2 s2 v v2 _ _ ok R2 (i1.mono g2.sub) i2 (by intro _ _; rfl)) fun v3 s3 q => ?_
  obtain ⟨P3, g3, i3⟩ := q
  refine wpAny_bind (wpAny_pure ?_)
  unfold assignStores assignAll
  dsimp only [assignEach, List.map]
  refine wpAny_bind (wpAny_assign_Name (store_slot (sl := .dat r0) (R2.grow g3) hy i3 fun s'' R'' => wpAny_pure ⟨P3, _, R'', hΦ⟩))
end
end Mine
end

section
set_option maxRecDepth 100000
set_option linter.unusedVariables false
namespace Mine
open PySem PySem.W PyProof.Rows PySem.Spec PySem.Calls

/-- a new exception; b: it has no context -/
structure NewX (h h' : Heap) (e : Addr) (cls : String) (b : Bool) : Prop where
  keeps : h.StaysIn h'
  new : h.get? e = none
  there : ∃ ob vs, h'.get? e = some ob ∧ ob.cls = .type cls ∧ ob.data = .fields vs ∧ (1 < vs.size ∧ 2 < vs.size ∧ (b = true → vs[2]? = some .none)) ∧ vs[1]? = some .none

/-- what is handled at present, if anything, has no context -/
def HdOk (A : Around) (s : Shared) : Prop := A.handled = none ∨ ∃ h o vs, A.handled = some (.ref h) ∧ s.heap.get? h = some o ∧ o.data = .fields vs ∧ vs[2]? = some .none

theorem entry_unchain : entryFor table "proto.unchain" = some Builtin.«proto.unchain» := entryFor_of_tree (by kernel_rfl)

theorem raiseWords_X {α : Type} {prog : Program} {w : World} {A : Around} {E : Value → Shared → Prop} {s : Shared} {cls msg : String} {Q : α → Shared → Prop} (hp : PlainExc cls) (hA : HdOk A s)
    (h : ∀ h' tk e b, NewX s.heap h' e cls b → (A.handled = none → b = true) → E (.ref e) { s with heap := h', toks := tk }) : wpAny (model prog w) A (raiseErrorWords cls msg : Sem α) Q E s := by
  rcases hA with hA | ⟨hd, o, vs, hA, ho, hdt, h2⟩
  · refine wpAny_raiseErrorWords hp hA fun h' tk e x => h h' tk e true ⟨x.keeps, x.new, ?_⟩ fun _ => rfl
    obtain ⟨ob, t, h1, h2, h3⟩ := x.there
    exact ⟨ob, _, h1, h2, h3, ⟨by simp, by simp, fun _ => rfl⟩, rfl⟩
  · unfold raiseErrorWords
    refine wpAny_bind (wpAny_mkText (wpAny_bind ?_))
    unfold newExc newTuple
    refine wpAny_bind (wpAny_newObj_type ?_)
    refine wpAny_bind (m := firstArgMember _ _) (wpAny_of_eq (a := Value.none) (by simp only [firstArgMember, hp.first]; rfl) ?_)
    rw [hp.own]
    refine wpAny_newObj_type ?_
    generalize hH1 : s.heap.push { cls := .type "tuple", dict := none, data := .seq [Value.str (Str.ofString msg) s.toks].toArray } = H1
    have k1 : s.heap.StaysIn H1 := hH1 ▸ push_stays _ _
    have n1 : s.heap.get? H1.objs.size = none := get?_none_ge (by rw [← hH1, Heap.size_push]; exact Nat.le_succ _)
    unfold raiseNew
    refine wpAny_bind (wpAny_handled ?_)
    rw [hA]
    have hne : hd ≠ H1.objs.size := fun q => by rw [q, n1] at ho; cases ho
    dsimp only
    rw [if_pos (by simp [hne])]
    refine wpAny_bind (wpAny_holding (wpAny_runValue (codeAny_builtin entry_unchain ?_)))
    have ho' : (H1.push { cls := Value.type cls, dict := none, data := Data.fields (#[Value.ref s.heap.objs.size, .none, .none, .none, .bool false, .none] ++ #[]) }).get? hd = some o := Heap.get?_push_of_some _ (k1 _ _ ho)
    unfold Builtin.«proto.unchain»
    refine wpAny_bind (wpAny_field ho' hdt h2 ?_)
    rw [if_pos (by decide)]
    refine wpAny_pure ?_
    have he : (H1.push { cls := Value.type cls, dict := none, data := Data.fields (#[Value.ref s.heap.objs.size, .none, .none, .none, .bool false, .none] ++ #[]) }).get? H1.objs.size = some { cls := Value.type cls, dict := none, data := Data.fields (#[Value.ref s.heap.objs.size, .none, .none, .none, .bool false, .none] ++ #[]) } := Heap.get?_push_size _ rfl
    refine wpAny_bind ?_
    unfold updateField
    refine wpAny_bind (wpAny_load he ?_)
    dsimp only
    rw [if_pos (by simp)]
    refine wpAny_update he (wpAny_throw ?_)
    refine h _ _ _ false ⟨fun b ob e => ?_, n1, ?_⟩ fun q => by rw [hA] at q; cases q
    · have hb : b ≠ H1.objs.size := fun q => by rw [q, n1] at e; cases e
      rw [Heap.get?_update_other _ _ (Ne.symm hb)]
      exact Heap.get?_push_of_some _ (k1 _ _ e)
    · exact ⟨_, _, Heap.get?_update_self _ he rfl, rfl, rfl, ⟨by simp, by simp, fun q => by cases q⟩, by simp⟩

theorem getItem_outX {prog : Program} {w : World} {A : Around} {E : Value → Shared → Prop} {s : Shared} {l : Addr} {items : Array Value} {k : Int} {t : Tok} {Q : Value → Shared → Prop} (hA : HdOk A s) (hl : s.heap.IsList l items)
    (hout : (items.size : Int) ≤ k) (hhi : k < 2 ^ 63)
    (hE : ∀ h' tk e b, NewX s.heap h' e "IndexError" b → (A.handled = none → b = true) → E (.ref e) { s with heap := h', toks := tk }) :
    wpAny (model prog w) A (getItem (.ref l) (.int k t)) Q E s := by
  obtain ⟨o, ho, hc, ne, hd⟩ := id hl
  unfold getItem
  try with_reducible refine wpAny_holding ?_
  first | refine wpAny_bind (wpAny_pure ?_) | skip
  refine wpAny_bind (wpAny_sequenceKey hl.typeIs (by decide) ?_)
  refine wpAny_bind (wpAny_callSpecial?_slot (name := Str.ofString "__getitem__") hl.typeIs slot_list_getitem
    (wpAny_call_entry slot_list_getitem hl.typeIs entry_list_getitem ?_ (args_list_getitem _ _)))
  show wpAny _ _ (Builtin.List.listSubscript? (.int k t) >>= _) _ _ s
  refine wpAny_bind (wpAny_listSubscript_int (fitsIndex_both (by omega) hhi) ?_)
  clear hhi
  cases k with
  | negSucc j => exact absurd hout (by have := Int.negSucc_lt_zero j; omega)
  | ofNat j =>
  have hx : items[j]? = none := Array.getElem?_eq_none (by have : (items.size : Int) ≤ (j : Int) := hout; omega)
  show wpAny _ _ ((seqItemAt l j >>= fun r => pure (r.map (j, ·))) >>= _) _ _ s
  refine wpAny_bind (wpAny_bind (wpAny_seqItemAt ho hd (wpAny_pure ?_)))
  rw [hx]
  first
    | exact wpAny_bind (wpAny_rule (raiseWords_X plainExc_IndexError hA hE))
    | exact wpAny_bind (wpAny_rule (wpAny_bind (raiseWords_X plainExc_IndexError hA hE)))
    | exact wpAny_bind (wpAny_bind (wpAny_rule (raiseWords_X plainExc_IndexError hA hE)))
    | exact wpAny_rule (raiseWords_X plainExc_IndexError hA hE)
end Mine
end

section
set_option maxRecDepth 100000
set_option linter.unusedVariables false
namespace Mine
open PySem PySem.W PyProof.Rows PySem.Spec PySem.Calls

/-- what is handled at present, if anything, lies in the base and has no context -/
def HdM (K : Kx) (A : Around) (M : Am) : Prop := A.handled = none ∨ ∃ h o vs, A.handled = some (.ref h) ∧ M.h₀.get? h = some o ∧ h ∉ frs K.Fs ∧ o.data = .fields vs ∧ vs[2]? = some .none

def ExH (K : Kx) (F : Fm) (σ : St) (ss : List Stmt) (Φ : Out → Prop) : Prop :=
  ∀ A M P s, OkA K A → HdM K A M → Rel K F M P σ s → wpAny K.M A (execs ss F.env) (Post K F M Φ) (PostE K F M Φ) s
def Ex1H (K : Kx) (F : Fm) (σ : St) (st : Stmt) (Φ : Out → Prop) : Prop :=
  ∀ A M P s, OkA K A → HdM K A M → Rel K F M P σ s → wpAny K.M A (exec st F.env) (Post K F M Φ) (PostE K F M Φ) s
def XEnd (K : Kx) (F : Fm) (M : Am) (P : Heap) (σ : St) : Value → Shared → Prop := fun ex s' => ∃ a f, ex = .ref a ∧ F.env.frame = some f ∧ Rel K F M P σ s' ∧ Fly M P s'.heap f a "IndexError" K.c
def EvOut (K : Kx) (F : Fm) (σ : St) (e : Expr) : Prop :=
  ∀ A M P s, OkA K A → HdM K A M → Rel K F M P σ s → wpAny K.M A (eval e F.env) (fun _ _ => False) (XEnd K F M P σ) s

section
variable {K : Kx} {F : Fm} {σ : St} {M : Am} {P : Heap} {s : Shared}

theorem HdM.ok {A : Around} (h : HdM K A M) (R : Rel K F M P σ s) : HdOk A s := by
  rcases h with h | ⟨hd, o, vs, h1, h2, h3, h4, h5⟩
  · exact .inl h
  · exact .inr ⟨hd, o, vs, h1, (R.ext _ _ h2).1 h3, h4, h5⟩
theorem Ex1.h {st : Stmt} {Φ : Out → Prop} (x : Ex1 K F σ st Φ) : Ex1H K F σ st Φ := fun A M P s ok _ R => x A M P s ok R
theorem Ex1H.ex1 {st : Stmt} {Φ : Out → Prop} (hc : K.c = true) (x : Ex1H K F σ st Φ) : Ex1 K F σ st Φ := fun A M P s ok R => x A M P s ok (.inl (ok.hd hc)) R
def seqH (K : Kx) (F : Fm) (rest : List Stmt) (Φ : Out → Prop) : Out → Prop
  | .nx σ' => ExH K F σ' rest Φ
  | o => Φ o
theorem exh_cons {st : Stmt} {rest : List Stmt} {Φ : Out → Prop} (h : Ex1H K F σ st (seqH K F rest Φ)) : ExH K F σ (st :: rest) Φ := by
  intro A M P s ok hd R
  refine wpAny_execs_cons (wpAny_mono (h A M P s ok hd R) (fun f s1 x => ?_) fun _ _ y => y.imp fun _ _ _ h => h)
  obtain ⟨P', x⟩ := x
  cases f with
  | next => obtain ⟨σ', R', h'⟩ := x; exact h' A M P' s1 ok hd R'
  | brk => exact ⟨P', x⟩
  | cont => exact ⟨P', x⟩
  | ret v => exact ⟨P', x⟩
theorem exh_nil {Φ : Out → Prop} (h : Φ (.nx σ)) : ExH K F σ [] Φ := fun A M P s ok _ R => wpAny_execs_nil ⟨P, σ, R, h⟩

theorem evout_idx {e1 e2 : Expr} {pos : Pos} {ds : List PyData} {k : Int} {f : Addr} (hf : F.env.frame = some f) (h1 : Ev K F σ e1 (.list ds)) (h2 : Ev K F σ e2 (.int k)) (hk : (ds.length : Int) ≤ k) (hk2 : k < 2 ^ 63) (hq : ∀ v1 v2 : Value, subscripted e2 false v1 v2 = operate [v1, v2] (getItem v1 v2) := by intro _ _; rfl) : EvOut K F σ (.Subscript e1 e2 pos) := by
  intro A M P s ok hd R
  refine Subscript_ (ev_then h1 ok R fun v1 s1 P1 g1 R1 i1 => ev_then h2 ok R1 fun v2 s2 P2 g2 R2 i2 => ?_)
  obtain ⟨a, o, vs, n, rfl, ho, hc, hdt, hi⟩ := (i1.mono g2.sub).list_inv
  obtain ⟨t, rfl⟩ := i2.int_inv
  have hl : s2.heap.IsList a vs := ⟨o, R2.stay _ _ ho, hc, n, hdt⟩
  have hlen := hi.length
  have g := (g1.trans g2).drop
  refine tail_any hl.typeIs slot_list_getitem.lookup (getItem_outX (hd.ok R2) hl (by simp at hlen; omega) hk2 fun h' tk e b x hb => ?_) (hq _ _)
  have gg : Grow (frs K.Fs) P s P { s2 with heap := h', toks := tk } := g.trans (Grow.of_stays g.stay x.keeps)
  obtain ⟨ob, ws, x1, x2, x3, ⟨x4, x5, x6⟩, x7⟩ := x.there
  have hn : s.heap.get? e = none := g.ext.none x.new
  refine ⟨e, f, rfl, hf, R.grow gg, none_of R.stay hn, R.ext.none hn, ob, ws, x1, x2, x3, ⟨x4, x5, fun q => x6 (hb (ok.hd q))⟩, .inl x7⟩

theorem XEnd.post {Φ : Out → Prop} {e : Value} (x : XEnd K F M P σ e s) (hΦ : Φ (.ex "IndexError" K.c σ)) : PostE K F M Φ e s := by
  obtain ⟨a, f, h1, h2, h3, h4⟩ := x
  exact ⟨P, σ, a, f, _, _, h1, h2, h3, h4, hΦ⟩

theorem ex1h_assign_out {t e : Expr} {pos : Pos} {Φ : Out → Prop} (h : EvOut K F σ e) (hΦ : Φ (.ex "IndexError" K.c σ))
    (hq : swapsWithSole [t] e pos.line F.env = pure false := by rfl) : Ex1H K F σ (.Assign [t] e pos) Φ := by
  intro A M P s ok hd R
  have e1 : exec (.Assign [t] e pos) F.env = (do
    standAt pos
    if ← swapsWithSole [t] e pos.line F.env then do
      evalThenUse e F.env fun v => assignAll v ((assignEach [t] F.env).map (·.2))
      pure .next
    else do
      let v ← eval e F.env
      assignStores F.env v (← swappedStores [t] e F.env) ((assignEach [t] F.env).map (·.2))) := rfl
  rw [e1, hq]
  refine wpAny_bind (wpAny_standAt (wpAny_bind (wpAny_pure ?_)))
  show wpAny _ _ (eval e F.env >>= _) _ _ _
  exact wpAny_bind (wpAny_mono (h A M P s ok hd R) (fun _ _ q => q.elim) fun _ _ q => q.post hΦ)

/-- the test of a while raises at once -/
theorem ex1h_while_out {e1 e2 : Expr} {op : CmpOp} {cp pos : Pos} {body orelse : List Stmt} {outer : List Env} {Φ : Out → Prop} (hF : K.Fs = F.env :: outer) (h : EvOut K F σ e1) (hΦ : Φ (.ex "IndexError" K.c σ)) (hm : behindInMarks op e2 = false := by with_unfolding_all rfl) : Ex1H K F σ (.While (.Compare e1 [op] [e2] cp) body orelse pos) Φ := by
  intro A M P s ok hd R
  refine wpAny_While (codeAny_whileLoop (fun _ s' => s' = s) ?_ 0 rfl)
  rintro n s' rfl
  refine wpAny_isTrue_Compare1 (wpAny_mono (h A M P s' ok hd R) (fun _ _ q => q.elim) fun e s2 q => ?_) hm
  exact postE_up ok hF (fun _ _ _ r => r) (fun _ r => r) (q.post (Φ := Φ) hΦ) fun _ _ _ h => h

theorem ex1_aug {x : Str} {op : Operator} {e : Expr} {np pos : Pos} {a b : Int} {Φ : Out → Prop} (hx : σ.lookup x = some (.dat (.int a))) (h : Ev K F σ e (.int b)) (hop : op = .Add) (hs : Stores F x) (hΦ : Φ (.nx ((x, .dat (.int (a + b))) :: σ))) : Ex1 K F σ (.AugAssign (.Name x np) op e pos) Φ := by
  subst hop
  intro A M P s ok R
  refine wpAny_AugAssign_Name ?_
  obtain ⟨v, H, hi⟩ := R.var x _ hx
  obtain ⟨t, rfl⟩ := hi.int_inv
  have fin : wpAny K.M A (eval e F.env) (fun v s₂ => wpAny K.M A (inplaceOp .Add (.int a t) v) (fun r s₃ => wpAny K.M A (storeName F.env x r) (fun _ => Post K F M Φ .next) (PostE K F M Φ) s₃) (PostE K F M Φ) s₂) (PostE K F M Φ) s := by
    refine ev_then h ok R fun v s1 P1 g1 R1 i1 => ?_
    obtain ⟨u, rfl⟩ := i1.int_inv
    refine PySem.P.iadd_int ?_
    have g2 : Grow (frs K.Fs) P1 s1 P1 { s1 with toks := s1.toks + 1 } := toks_grow R1.stay
    exact store_slot (sl := .dat (.int (a + b))) (R1.grow g2) hs (Is.i _ _) fun s' R' => ⟨P1, _, R', hΦ⟩
  rcases H with ⟨hk, m, hn, hv⟩ | ⟨hk | hk, hcl, c, hc, hv⟩
  · exact wpAny_loadName_local R.fn hk hn hv fin
  · exact wpAny_loadName_cell R.fn hk hc hv fin
  · exact wpAny_loadName_free R.fn hk hc hv fin hcl

def finΦ (K : Kx) (F : Fm) (fin : List Stmt) (Φ : Out → Prop) : Out → Prop
  | .nx σ' => ExH K F σ' fin (fun o => match o with | .nx σ'' => Φ (.nx σ'') | .ex c b σ'' => Φ (.ex c b σ'') | _ => False)
  | .ex cls b σ' => b = true ∧ ExH K.calm F σ' fin (fun o => match o with | .nx σ'' => Φ (.ex cls true σ'') | .ex c b σ'' => Φ (.ex c b σ'') | _ => False)
  | _ => False

/-- try .. finally .. -/
theorem ex1_finally {body fs : List Stmt} {f₀ : Stmt} {pos : Pos} {outer : List Env} {f : Addr} {Φ : Out → Prop} (hF : K.Fs = F.env :: outer) (hf : F.env.frame = some f) (hc : K.c = true) (h : Ex K F σ body (finΦ K F (f₀ :: fs) Φ)) : Ex1 K F σ (.Try body [] [] (f₀ :: fs) pos) Φ := by
  intro A M P s ok R
  refine wpAny_Try_finally (wpAny_mono (h A M P s ok R) (fun fl s1 q => ?_) fun e s1 q => ?_)
  · obtain ⟨P1, q⟩ := q
    cases fl with
    | next =>
      obtain ⟨σ1, R1, hΦ⟩ := q
      refine wpAny_execs_nil (wpAny_mono (hΦ A M P1 s1 ok (.inl (ok.hd hc)) R1) (fun g s2 q => ?_) fun e s2 q => ?_)
      · obtain ⟨P2, q⟩ := q
        cases g with
        | next => obtain ⟨σ2, R2, hΦ⟩ := q; exact ⟨P2, σ2, R2, hΦ⟩
        | brk => obtain ⟨_, _, q⟩ := q; exact q.elim
        | cont => obtain ⟨_, _, q⟩ := q; exact q.elim
        | ret v => obtain ⟨_, _, _, q⟩ := q; exact q.elim
      · exact postE_up ok hF (fun _ _ _ r => r) (fun _ r => r) q fun _ _ _ h => h
    | brk => obtain ⟨_, _, q⟩ := q; exact q.elim
    | cont => obtain ⟨_, _, q⟩ := q; exact q.elim
    | ret v => obtain ⟨_, _, _, q⟩ := q; exact q.elim
  · obtain ⟨P1, σ1, a, f', cls, b, rfl, hf', R1, y, rfl, hfin⟩ := q
    rw [hf] at hf'; cases hf'
    refine noteFrame_fly ok hF hf R1 y fun s2 R2 y2 => ⟨ref_ne_byPass _, ?_⟩
    refine noteFrame_fly ok hF hf R2 y2.fly fun s3 R3 y3 => ?_
    refine setFlight_fly (f := none) R3 y3 fun s4 R4 y4 => ?_
    have hen : a ∉ frs K.Fs := by
      obtain ⟨z1, z2, oe, vs, he, hcl, hd, hsz, T, oT, ts, z3⟩ := y4
      intro hm
      obtain ⟨_, o, ho, hn⟩ := R4.frm.mem hm
      rw [he] at ho; cases ho; exact hn vs hd
    obtain ⟨z1, z2, oe, vs, he, hcl, hd, hsz, T, oT, ts, t1, t2, t3, t4, t5, t6, t7, t8⟩ := y4
    have hTn : T ∉ frs K.Fs := fun hm => by
      obtain ⟨_, o, ho, hn⟩ := R4.frm.mem hm
      rw [t5] at ho; cases ho; exact hn ts t6
    obtain ⟨h₁, hh⟩ := base_with M.h₀ s4.heap [a, T]
    have st01 : M.h₀.StaysIn h₁ := fun b o e => by
      rw [hh]; split
      · rename_i hb
        rcases List.mem_cons.mp hb with q | q
        · rw [q, z2] at e; cases e
        · rw [List.mem_singleton.mp q, t4] at e; cases e
      · exact e
    have RB : Rel K F { M with h₀ := h₁, P₀ := P1 } P1 σ1 s4 := R4.rebase (· ∈ [a, T]) (fun b hb => by
      rcases List.mem_cons.mp hb with q | q
      · subst q; exact ⟨z1, oe, vs, he, hd⟩
      · rw [List.mem_singleton.mp q]; exact ⟨t3, oT, ts, t5, t6⟩) (fun b o e => by
      rw [hh] at e; split at e
      · exact .inr ⟨‹_›, e⟩
      · exact .inl e)
    have und : ∀ P' σ' s', Rel K F { M with h₀ := h₁, P₀ := P1 } P' σ' s' → Rel K F M P' σ' s' := fun P' σ' s' R' => R'.unbase st01 R4.sub0 R4.new rfl rfl
    have hM0 : ∀ b, h₁.get? b = none → M.h₀.get? b = none := fun b e => none_or fun o r => by have := st01 b o r; rw [e] at this; cases this
    have okm : OkA K.calm (A.mark (some (.ref a))) := ⟨ok.fr, ok.dp, ok.un, fun q => by cases q⟩
    have hha : h₁.get? a = some oe := by rw [hh, if_pos (.head _)]; exact he
    have hhT : h₁.get? T = some oT := by rw [hh, if_pos (.tail _ (.head _))]; exact t5
    refine wpAny_mono (hfin (A.mark (some (.ref a))) { M with h₀ := h₁, P₀ := P1 } P1 s4 okm (.inr ⟨a, oe, vs, rfl, hha, hen, hd, hsz.2.2 rfl⟩) RB.calm) (fun g s5 q => ?_) fun e s5 q => ?_
    · obtain ⟨P5, q⟩ := q
      cases g with
      | next =>
        obtain ⟨σ5, R5, hΦ⟩ := q
        have he5 : s5.heap.get? a = some oe := (R5.ext a oe hha).1 hen
        have hT5 : s5.heap.get? T = some oT := (R5.ext T oT hhT).1 hTn
        have pn : ∀ b o, h₁.get? b = some o → P1.get? b = none → P5.get? b = none := fun b o e e1 => none_or fun o' r => by
          rcases R5.new b o' r with q | q
          · have : P1.get? b = some o' := q
            rw [e1] at this; cases this
          · rw [show h₁.get? b = none from q] at e; cases e
        have y5 : FlyT M P5 s5.heap a cls true .none := ⟨pn a oe hha z1, z2, oe, vs, he5, hcl, hd, hsz, T, oT, ts, t1, t2, pn T oT hhT t3, t4, hT5, t6, t7, t8⟩
        show wpAny K.M A (PySem.passOn "try.finally" (.ref a) F.env) _ _ s5
        unfold PySem.passOn
        refine wpAny_bind (wpAny_field he5 hd t1 ?_)
        rw [if_neg (by simp), hf]
        refine wpAny_bind (setFlight_fly (f := some f) (und _ _ _ R5.uncalm) y5 fun s6 R6 y6 => wpAny_throw ?_)
        exact ⟨P5, σ5, a, f, cls, true, rfl, hf, R6, y6.fly, hΦ⟩
      | brk => obtain ⟨_, _, q⟩ := q; exact q.elim
      | cont => obtain ⟨_, _, q⟩ := q; exact q.elim
      | ret v => obtain ⟨_, _, _, q⟩ := q; exact q.elim
    · obtain ⟨P5, σ5, a5, f5, c5, b5, rfl, hf5, R5, y5, hΦ⟩ := q
      rw [hf] at hf5; cases hf5
      refine noteFrame_fly (K := K.calm) okm hF hf R5 y5 fun s6 R6 y6 => ?_
      refine cameBack_fly (K := K) hf R6.uncalm y6 fun s7 R7 y7 => ⟨P5, σ5, a5, f, c5, b5, rfl, hf, und _ _ _ R7, ?_, hΦ⟩
      obtain ⟨w1, w2, oe', vs', he', hc', hd', hsz', T', oT', ts', v1, v2, v3, v4, v5, v6, v7, v8⟩ := y7
      exact ⟨w1, hM0 _ w2, oe', vs', he', hc', hd', hsz', .inr ⟨T', oT', ts', v1, v2, v3, hM0 _ v4, v5, v6, v7, v8⟩⟩
end
end Mine
end

section
set_option maxRecDepth 100000
set_option linter.unusedVariables false
namespace Mine
open PySem PySem.W PyProof.Rows PySem.Spec PySem.Calls

section
variable {K : Kx} {F : Fm} {σ : St}

theorem app_obj (ws : List Value) (n : Nat) (vs : Array Value) : ∃ n2, Obj.mapSeq (fun x => x ++ vs) (lobj ws n) = lobj (ws ++ vs.toList) n2 := by
  refine ⟨if (ws.toArray ++ vs).size == ws.toArray.size then n else n + 1, ?_⟩
  have e2 : ws ++ vs.toList = (ws.toArray ++ vs).toList := by simp
  rw [e2]
  rfl

/-- x.extend(e), e a new list -/
theorem ex1_extend {x : Str} {a : Addr} {ds es : List PyData} {np apos pos pos' : Pos} {e : Expr} {Φ : Out → Prop} (hx : σ.lookup x = some (.own a ds)) (hap : Apart x a σ) (h : EvN K F σ e es) (hΦ : Φ (.nx ((x, .own a (ds ++ es)) :: σ))) (hsz : ds.length + es.length ≤ 1000000)
    (hbase : attributeBase (.Name x np) ("extend" : Str) F.env (eval (.Name x np) F.env) = eval (.Name x np) F.env := by rfl)
    (hfew : ((backTo pos (starEach [e] F.env)).all (fun x => !x.1) && (backToKw pos (keywordEach [] F.env)).all (fun x => x.1.isSome)
      && decide (([e] : List Expr).length + ([] : List Keyword).length + (if ([] : List Keyword).isEmpty then 0 else 1) < 30)) = true := by rfl)
    (hline : (apos.endLine == pos.line) = true := by rfl) (hd : (x == ("__debug__" : Str)) = false := by decide) (he : ∀ env, starEach [e] env = [(false, eval e env)] := by intro _; rfl)
    (hi : interactive F.env = false := by rfl) (hs : ∀ env, swapsWith (.Call (.Attribute (.Name x np) ("extend" : Str) apos) [e] [] pos) none pos'.line env = pure false := by intro _; rfl) :
    Ex1 K F σ (.Expr (.Call (.Attribute (.Name x np) ("extend" : Str) apos) [e] [] pos) pos') Φ := by
  intro A M P s ok R
  refine wpAny_Expr_any (wpAny_Call_method hbase hfew hline PySem.F.plainAttrs_list PySem.F.slot_list_extend PySem.F.type_list_extend ?_) hi (hs _)
  obtain ⟨v, H, hv, ⟨vs, n, ho, hiv⟩, hPa, h0a, hfa, hLa⟩ := R.var x _ hx
  subst hv
  refine wpAny_Name ?_ hd
  have fin : s.TypeIs (.ref a) "list" ∧ (∀ a', Value.ref a = .ref a' → ∃ ob, s.heap.get? a' = some ob ∧ ob.dict = none) ∧ wpAny K.M A (callWith pos (.builtin "list.extend") [.ref a] (backTo pos (starEach [e] F.env)) []) (fun _ => Post K F M Φ .next) (PostE K F M Φ) s := by
    refine ⟨⟨_, ho, rfl⟩, fun a' q => by cases q; exact ⟨_, ho, rfl⟩, ?_⟩
    refine callWith_method1 (spliced_more (noE (h A M P s ok R) fun v2 s1 q => ?_) (he _)) (he _) rfl
    obtain ⟨P1, b, ws, n2, rfl, g, ho2, hi2, hn2, hP2⟩ := q
    have R1 := R.grow g
    refine spliced_none ?_
    have ho1 := (g.ext _ _ ho).1 hfa
    have l1 := hiv.length
    have l2 := hi2.length
    refine call_meets PySem.F.slot_list_extend ⟨_, ho1, rfl⟩ PySem.F.entry_list_extend (PySem.F.args_list_extend_2 _ _) (AutoSeq1.list_extend_list_list_0 a vs.toArray n b ws.toArray n2 (extend_door (by simp only [List.size_toArray]; rw [l1, l2]; exact Nat.le_trans hsz (by decide))) (by simp only [List.size_toArray]; rw [l1]; exact Nat.le_trans (by omega) (show 1000000 ≤ sizeLine by decide)) (by simp only [List.size_toArray]; rw [l1, l2]; exact Nat.le_trans hsz (by decide))) ⟨ho1, ho2, ?_⟩
    refine ⟨P1, _, R1.turn (tk := s1.toks) hx rfl (Heap.SameBut.update ..) hap (fun v' S => ?_), hΦ⟩
    obtain ⟨e1, _, e3⟩ := S
    have hup := Heap.get?_update_self (Obj.mapSeq fun x => x ++ ws.toArray) ho1 rfl
    obtain ⟨n3, e4⟩ := app_obj vs n ws.toArray
    exact ⟨e1, ⟨vs ++ ws, n3, hup.trans (by rw [e4]), (hiv.mono g.sub).append hi2⟩, e3⟩
  rcases H with ⟨hk, m, hn, hv⟩ | ⟨hk | hk, hcl, c, hc, hv⟩
  · exact wpAny_loadName_local R.fn hk hn hv fin
  · exact wpAny_loadName_cell R.fn hk hc hv fin
  · exact wpAny_loadName_free R.fn hk hc hv fin hcl

theorem ex1_assign2 {t1 t2 e : Expr} {pos : Pos} {d : PyData} {σ1 σ2 : St} {Φ : Out → Prop} (h : Ev K F σ e d) (h1 : As K F t1 d σ σ1) (h2 : As K F t2 d σ1 σ2) (hΦ : Φ (.nx σ2))
    (he : (assignEach [t1, t2] F.env).map (·.2) = [assign t1 F.env, assign t2 F.env] := by rfl) (hw : swappedStores [t1, t2] e F.env = pure none := by rfl) : Ex1 K F σ (.Assign [t1, t2] e pos) Φ := by
  intro A M P s ok R
  refine wpAny_Assign_two (ev_then h ok R fun v s1 P1 g1 R1 i1 => noE (h1 A M P1 s1 v ok R1 i1) fun _ s2 q => ?_) he hw
  obtain ⟨P2, R2, st2⟩ := q
  refine noE (h2 A M P2 s2 v ok R2 (i1.mono st2)) fun _ s3 q => ?_
  obtain ⟨P3, R3, _⟩ := q
  exact ⟨P3, _, R3, hΦ⟩
end
end Mine
end

section
set_option maxRecDepth 100000
set_option linter.unusedVariables false
namespace Mine
open PySem PySem.W PyProof.Rows PySem.Spec PySem.Calls

def chIn (x y : Str) : Bool := !(Builtin.Str.occurrences x y 0 x.length 1).isEmpty

section
variable {K : Kx} {F : Fm} {σ : St}

theorem su_str {x : Str} {i : Int} {c : Nat} (h0 : 0 ≤ i) (h1 : i < 2 ^ 63) (hc : x.cps[i.toNat]? = some c) : Su K F σ (.str x) (.int i) (.str ⟨#[c]⟩) := fun A M P s v1 v2 value slice ok R i1 i2 hq => by
  obtain ⟨t, rfl⟩ := i1.str_inv
  obtain ⟨u, rfl⟩ := i2.int_inv
  have hlt : i.toNat < x.cps.size := (Array.getElem?_eq_some_iff.mp hc).1
  refine tail_any (typeIs_str s x t) PySem.F.slot_str_getitem.lookup (PySem.P.getItem_str (c := c) ?_ ?_ ⟨P, toks_grow R.stay, .s _ _⟩) (hq _ _)
  · simp only [Bool.or_eq_false_iff, decide_eq_false_iff_not]; omega
  · have : seqIndex? i x.length = some i.toNat := by
      unfold seqIndex?
      have h2 : ¬ i < 0 := by omega
      have h3 : i < (x.length : Int) := by show i < (x.cps.size : Int); omega
      simp [h0, h2, h3]
    rw [this]; exact hc
theorem co_str_in {x y : Str} : Co K F σ .In (.str y) (.str x) (chIn x y) := fun A M P s v1 v2 ok R i1 i2 => by
  obtain ⟨t, rfl⟩ := i1.str_inv; obtain ⟨u, rfl⟩ := i2.str_inv
  exact PySem.P.in_str ⟨rfl, .refl R.stay⟩
theorem co_str_notin {x y : Str} : Co K F σ .NotIn (.str y) (.str x) (!chIn x y) := fun A M P s v1 v2 ok R i1 i2 => by
  obtain ⟨t, rfl⟩ := i1.str_inv; obtain ⟨u, rfl⟩ := i2.str_inv
  exact PySem.P.notIn_str ⟨rfl, .refl R.stay⟩
theorem co_isnot {a b : Bool} : Co K F σ .IsNot (.bool a) (.bool b) (a != b) := fun A M P s v1 v2 ok R i1 i2 => by
  obtain rfl := i1.bool_inv; obtain rfl := i2.bool_inv
  refine wpAny_isNot_plain (by cases a <;> cases b <;> rfl) ⟨?_, .refl R.stay⟩
  cases a <;> cases b <;> rfl
/-- xs or ys, over lists -/
theorem ev_or_list {e1 e2 : Expr} {pos : Pos} {xs ys : List PyData} (h1 : Ev K F σ e1 (.list xs)) (h2 : Ev K F σ e2 (.list ys)) (hsz : xs.length < 1000000000) : Ev K F σ (.BoolOp .Or [e1, e2] pos) (.list (if xs.isEmpty then ys else xs)) := fun A M P s ok R =>
  wpAny_Or2 (ev_then h1 ok R fun v s1 P1 g1 R1 i1 => noE (tv_list (K := K) (F := F) (σ := σ) hsz A M P1 s1 v ok R1 i1) fun r s2 q => by
    obtain ⟨rfl, g2⟩ := q
    cases hx : xs.isEmpty with
    | false => exact ⟨P1, g1.trans g2, by simpa [hx] using i1⟩
    | true => 
      simp only [Bool.not_true, Bool.false_eq_true, if_false, if_true]
      exact noE (h2 A M P1 s2 ok (R1.grow g2)) fun v s' q => Pv.after (g1.trans g2) q)
theorem tr_or2 {e1 e2 : Expr} {pos : Pos} {a b : Bool} (h1 : Tr K F σ e1 a) (h2 : a = false → Tr K F σ e2 b) : Tr K F σ (.BoolOp .Or [e1, e2] pos) (a || b) := by
  intro A M P s ok R
  refine wpAny_isTrue_BoolOp (wpAny_allTrue_Or_cons (noE (h1 A M P s ok R) fun r s1 x => ?_))
  obtain ⟨rfl, g⟩ := x
  cases r with
  | true => exact ⟨rfl, g⟩
  | false =>
    refine wpAny_allTrue_Or_cons (noE (h2 rfl A M P s1 ok (R.grow g)) fun r s2 x => ?_)
    obtain ⟨rfl, g2⟩ := x
    cases r with
    | true => exact ⟨rfl, g.trans g2⟩
    | false => exact wpAny_allTrue_Or_nil ⟨rfl, g.trans g2⟩
theorem ev_len {np pos : Pos} {e : Expr} {ds : List PyData} (hb : (("len" : Str), Value.builtin "len") ∈ K.T.bl) (h : Ev K F σ e (.list ds)) (hsz : ds.length < 1000000000) (hk : F.env.kindOf ("len" : Str) = some .globalImplicit := by rfl)
    (he : ∀ env, starEach [e] env = [(false, eval e env)] := by intro _; rfl) : Ev K F σ (.Call (.Name ("len" : Str) np) [e] [] pos) (.int ds.length) := by
  intro A M P s ok R
  refine call_blt hb (evl_cons h evl_nil he) hk (by decide) he (fun _ _ => rfl) ok R fun vs s1 P1 g R1 i => ?_
  obtain ⟨v, rfl, h1⟩ := isall1 i
  obtain ⟨a, o, ws, n, rfl, ho, hcl, hd, hi⟩ := h1.list_inv
  have hlen := hi.length
  simp at hlen
  refine len_list (items := ws) ⟨o, R1.stay _ _ ho, hcl, n, hd⟩ (by omega) ?_
  rw [hlen]
  exact ⟨P1, g.trans (toks_grow R1.stay), .i _ _⟩

theorem intsAre_of {P : Heap} : ∀ {vs : List Value} {ns : List Int}, IsAll P vs (ns.map .int) → IntsAre vs ns
  | vs, [], h => by rw [h.nil_inv]; exact .nil
  | vs, n :: ns, h => by
    obtain ⟨v, r, rfl, h1, h2⟩ := h.cons_inv
    obtain ⟨t, rfl⟩ := h1.int_inv
    exact .cons _ _ (intsAre_of h2)
theorem isAll_of {P : Heap} : ∀ {vs : List Value} {ns : List Int}, IntsAre vs ns → IsAll P vs (ns.map .int)
  | _, _, .nil => .nil
  | _, _, .cons _ _ h => .cons (.i _ _) (isAll_of h)
theorem sorted_uniq {a b : List Int} (hp : a.Perm b) (ha : a.Pairwise (· ≤ ·)) (hb : b.Pairwise (· ≤ ·)) : a = b := hp.eq_of_pairwise (fun x y _ _ h1 h2 => Int.le_antisymm h1 h2) ha hb

/-- sorted(e) of ints -/
theorem evn_sorted {np pos : Pos} {e : Expr} {ns ms : List Int} (hb : (("sorted" : Str), Value.builtin "sorted") ∈ K.T.bl) (h : Ev K F σ e (.list (ns.map .int))) (h64 : ns.length < 64) (hp : ms.Perm ns) (hs : ms.Pairwise (· ≤ ·)) (hk : F.env.kindOf ("sorted" : Str) = some .globalImplicit := by rfl)
    (he : ∀ env, starEach [e] env = [(false, eval e env)] := by intro _; rfl) : EvN K F σ (.Call (.Name ("sorted" : Str) np) [e] [] pos) (ms.map .int) := by
  intro A M P s ok R
  refine call_blt hb (evl_cons h evl_nil he) hk (by decide) he (fun _ _ => rfl) ok R fun vs s1 P1 g R1 i => ?_
  obtain ⟨v, rfl, h1⟩ := isall1 i
  obtain ⟨a, o, ws, n, rfl, ho, hcl, hd, hi⟩ := h1.list_inv
  have hI := intsAre_of hi
  refine sorted_ints (vs := ws.toList) (ns := ns) ⟨o, R1.stay _ _ ho, hcl, n, by rw [hd]⟩ hI (by rw [hI.length]; exact h64) fun out ns' a1 a2 a3 => ?_
  obtain ⟨e', he'⟩ := sortedAll_at s1.heap ws.toList out
  have g2 : Grow (frs K.Fs) P1 s1 P1 { s1 with heap := sortedAll s1.heap ws.toList out } := Grow.of_stays R1.stay fun _ _ q => sortedAll_old q
  have hn : s1.heap.get? (s1.heap.objs.size + 1) = none := get?_none_ge (Nat.le_succ _)
  have e2 : ns' = ms := sorted_uniq (a2.trans hp.symm) a3 hs
  subst e2
  exact Nw.after g ⟨P1, s1.heap.objs.size + 1, out.toList, e', rfl, g2, he', isAll_of a1, hn, none_of R1.stay hn⟩
end
end Mine
end

section
set_option maxRecDepth 100000
set_option linter.unusedVariables false
namespace Mine
open PySem PySem.W PyProof.Rows PySem.Spec PySem.Calls

section
variable {K : Kx} {F : Fm} {σ : St}

theorem load_ref {x : Str} {np : Pos} {a : Addr} {sl : Slot} {A : Around} {M : Am} {P : Heap} {s : Shared} {E : Value → Shared → Prop} {Q : Value → Shared → Prop} (R : Rel K F M P σ s) (hx : σ.lookup x = some sl) (ha : sl.adr = some a) (hd : (x == ("__debug__" : Str)) = false) (h : SlotIs K F.env.locals M P s.heap sl (.ref a) → Q (.ref a) s) : wpAny K.M A (eval (.Name x np) F.env) Q E s := by
  obtain ⟨v, H, S⟩ := R.var x _ hx
  have hv : v = .ref a := by
    cases sl with
    | dat d => cases ha
    | own b ds => cases ha; exact S.1
    | dct b n f => cases ha; exact S.1
  subst hv
  refine wpAny_Name ?_ hd
  rcases H with ⟨hk, m, hn, hv⟩ | ⟨hk | hk, hcl, c, hc, hv⟩
  · exact wpAny_loadName_local R.fn hk hn hv (h S)
  · exact wpAny_loadName_cell R.fn hk hc hv (h S)
  · exact wpAny_loadName_free R.fn hk hc hv (h S) hcl

theorem tr_indict {x : Str} {a : Addr} {n : Nat} {f : Int → Option PyData} {e : Expr} {np pos : Pos} {k : Int} (hx : σ.lookup x = some (.dct a n f)) (h : Ev K F σ e (.int k)) (hd : (x == ("__debug__" : Str)) = false := by decide) : Tr K F σ (.Compare e [.In] [.Name x np] pos) (f k).isSome := by
  intro A M P s ok R
  refine wpAny_isTrue_Compare1 (ev_then h ok R fun v s1 P1 g1 R1 i1 => load_ref R1 hx rfl hd fun S => ?_) (by with_unfolding_all rfl)
  obtain ⟨t, rfl⟩ := i1.int_inv
  obtain ⟨_, ⟨fv, hm, hz, hD⟩, _⟩ := S
  refine wpAny_in_intMap hm (wpAny_truthy_bool ⟨?_, (g1.trans (toks_grow R1.stay)).drop⟩)
  rcases hD k with ⟨e1, e2⟩ | ⟨d, v, e1, e2, _⟩ <;> rw [e1, e2] <;> rfl

theorem ev_dictget {x : Str} {a : Addr} {n : Nat} {f : Int → Option PyData} {e : Expr} {np pos : Pos} {k : Int} {d : PyData} (hx : σ.lookup x = some (.dct a n f)) (h : Ev K F σ e (.int k)) (hk : f k = some d) (hd : (x == ("__debug__" : Str)) = false := by decide) (hq : ∀ v1 v2 : Value, subscripted e false v1 v2 = operate [v1, v2] (getItem v1 v2) := by intro _ _; rfl) : Ev K F σ (.Subscript (.Name x np) e pos) d := by
  intro A M P s ok R
  refine Subscript_ (load_ref R hx rfl hd fun S0 => ev_then h ok R fun v s1 P1 g1 R1 i1 => ?_)
  obtain ⟨t, rfl⟩ := i1.int_inv
  obtain ⟨u, _, S⟩ := R1.var x _ hx
  obtain ⟨_, ⟨fv, hm, hz, hD⟩, _⟩ := S
  rcases hD k with ⟨e1, e2⟩ | ⟨d', v, e1, e2, e3⟩
  · rw [hk] at e1; cases e1
  · rw [hk] at e1; cases e1
    exact tail_any hm.typeIs slot_dict_getitem.lookup (wpAny_getItem_intMap hm e2 ⟨P1, g1.trans (toks_grow R1.stay), e3⟩) (hq _ _)

theorem ex1_dict {x : Str} {np dp pos : Pos} {Φ : Out → Prop} (hx : Stores F x) (hΦ : ∀ a, New a σ → Φ (.nx ((x, .dct a 0 fun _ => none) :: σ)))
    (hq : swapsWithSole [.Name x np] (.Dict [] [] dp) pos.line F.env = pure false := by rfl) (hw : swappedStores [.Name x np] (.Dict [] [] dp) F.env = pure none := by rfl) : Ex1 K F σ (.Assign [.Name x np] (.Dict [] [] dp) pos) Φ := by
  intro A M P s ok R
  have e1 : exec (.Assign [.Name x np] (.Dict [] [] dp) pos) F.env = (do
    standAt pos
    if ← swapsWithSole [.Name x np] (.Dict [] [] dp) pos.line F.env then do
      evalThenUse (.Dict [] [] dp) F.env fun v => assignAll v ((assignEach [.Name x np] F.env).map (·.2))
      pure .next
    else do
      let v ← eval (.Dict [] [] dp) F.env
      assignStores F.env v (← swappedStores [.Name x np] (.Dict [] [] dp) F.env) ((assignEach [.Name x np] F.env).map (·.2))) := rfl
  rw [e1, hq, hw]
  refine wpAny_bind (wpAny_standAt (wpAny_bind (wpAny_pure ?_)))
  show wpAny _ _ (eval (.Dict [] [] dp) F.env >>= _) _ _ _
  refine wpAny_bind (wpAny_Dict_empty (wpAny_bind (wpAny_pure ?_)))
  unfold assignStores assignAll
  dsimp only [assignEach, List.map]
  have hn := size_none s.heap
  have g : Grow (frs K.Fs) P s P { s with heap := s.heap.push { cls := .type "dict", data := .dict #[] } } := Grow.of_stays R.stay (push_stays _ _)
  have hnew := new_of R hn
  refine wpAny_bind (wpAny_assign_Name (store_slot (sl := .dct s.heap.objs.size 0 fun _ => none) (R.grow g) hx ?_ fun s'' R'' => wpAny_pure ⟨P, _, R'', hΦ _ hnew⟩))
  refine ⟨rfl, ⟨fun _ => none, Heap.IntMap.new _, fun o es ep ho hd => ?_, fun k => .inl ⟨rfl, rfl⟩⟩, none_of R.stay hn, R.ext.none hn, frs_ne R hn, loc_ne R hn⟩
  have : ({ s with heap := s.heap.push { cls := .type "dict", data := .dict #[] } } : Shared).heap.get? s.heap.objs.size = some { cls := .type "dict", data := .dict #[] } := Heap.get?_push_size _ rfl
  rw [this] at ho; cases ho; cases hd; simp

theorem ex1_dictset {x : Str} {a : Addr} {n : Nat} {f : Int → Option PyData} {e1 e2 : Expr} {np tp pos : Pos} {k : Int} {d : PyData} {Φ : Out → Prop} (hx : σ.lookup x = some (.dct a n f)) (hap : Apart x a σ) (h1 : Ev K F σ e1 d) (h2 : Ev K F σ e2 (.int k)) (hn : n ≤ 100000) (hΦ : Φ (.nx ((x, .dct a (n + 1) fun i => if i = k then some d else f i) :: σ))) (hd : (x == ("__debug__" : Str)) = false := by decide)
    (hs : swapsWith e1 (some (.Subscript (.Name x np) e2 tp)) pos.line F.env = pure false := by rfl) : Ex1 K F σ (.Assign [.Subscript (.Name x np) e2 tp] e1 pos) Φ := by
  intro A M P s ok R
  refine wpAny_Assign_Subscript (ev_then h1 ok R fun v s1 P1 g1 R1 i1 => load_ref R1 hx rfl hd fun S0 => ev_then h2 ok R1 fun v2 s2 P2 g2 R2 i2 => ?_) hs
  obtain ⟨t, rfl⟩ := i2.int_inv
  obtain ⟨u, _, S⟩ := R2.var x _ hx
  obtain ⟨_, ⟨fv, hm, hz, hD⟩, _⟩ := S
  refine wpAny_setItem_intMap_le hm hz (Nat.le_trans hn (by decide)) fun h' hm' hz' hs' => ?_
  refine ⟨P2, _, R2.turn (tk := s2.toks + 1) hx rfl hs' hap (fun v' S => ?_), hΦ⟩
  obtain ⟨q1, _, q3⟩ := S
  refine ⟨q1, ⟨_, hm', hz', fun i => ?_⟩, q3⟩
  by_cases hi : i = k
  · exact .inr ⟨d, v, by simp [hi], by simp [hi], i1.mono g2.sub⟩
  · simp only [hi, if_false]; exact hD i
end
end Mine
end

section
set_option maxRecDepth 100000
set_option linter.unusedVariables false
namespace Mine
open PySem PySem.W PyProof.Rows PySem.Spec PySem.Calls

section
variable {prog : Program} {w : World} {A : Around} {E : Value → Shared → Prop} {s : Shared}
theorem nextOf_tuple_item {it t : Addr} {i : Nat} {items} {x : Value} {Q : Value → Shared → Prop} (hit : s.heap.IsTupleIter it t i)
    (ht : s.heap.IsTuple t items) (hx : items[i]? = some x)
    (hQ : ∀ h', h'.IsTupleIter it t (i + 1) → Heap.SameBut it s.heap h' → Q x { s with heap := h' }) :
    wpAny (model prog w) A (Builtin.SmallTypes.nextOf (.ref it)) Q E s := by
  obtain ⟨o, ho, hc, hd⟩ := id hit
  obtain ⟨ol, hol, _, nl, hdl⟩ := ht
  unfold Builtin.SmallTypes.nextOf
  refine wpAny_bind (wpAny_callSpecial?_slot (name := Str.ofString "__next__") hit.typeIs F.slot_tuple_iterator_next
    (wpAny_call_entry F.slot_tuple_iterator_next hit.typeIs F.entry_tuple_iterator_next ?_ (F.args_tuple_iterator_next_1 _)))
  show wpAny _ _ (field (.ref it) 0 >>= _) _ _ s
  refine wpAny_bind (wpAny_field ho hd (x := .ref t) rfl ?_)
  show wpAny _ _ (if (Value.ref t == Value.none) = true then _ else _) _ _ s
  rw [if_neg (show ¬ ((Value.ref t == Value.none) = true) from Bool.false_ne_true)]
  show wpAny _ _ (field (.ref it) 1 >>= _) _ _ s
  refine wpAny_bind (wpAny_field ho hd (x := .int i 0) rfl ?_)
  show wpAny _ _ (seqItems? (.ref t) >>= _) _ _ s
  refine wpAny_bind (wpAny_seqItems hol hdl ?_)
  simp only [Int.toNat_natCast, hx]
  refine wpAny_bind (wpAny_setField ho hd (by simp) (wpAny_pure ⟨x, rfl, wpAny_pure (hQ _ ?_ (Heap.SameBut.update ..))⟩))
  exact ⟨_, Heap.get?_update_self _ ho (Obj.isFreed_of_fields (Obj.data_mapFields hd _)), (Obj.cls_mapFields ..).trans hc, by
    rw [Obj.data_mapFields hd]; simp [rawInt]⟩

theorem nextOf_tuple_end {it t : Addr} {i : Nat} {items} {Q : Value → Shared → Prop} (hh : A.handled = none)
    (hit : s.heap.IsTupleIter it t i) (ht : s.heap.IsTuple t items) (hx : items[i]? = none)
    (hE : ∀ h' e, Heap.ExtBut it s.heap h' → (∃ o, h'.get? e = some o ∧ o.cls = .type "StopIteration") → E (.ref e) { s with heap := h' }) : wpAny (model prog w) A (Builtin.SmallTypes.nextOf (.ref it)) Q E s := by
  obtain ⟨o, ho, hc, hd⟩ := id hit
  obtain ⟨ol, hol, _, nl, hdl⟩ := ht
  unfold Builtin.SmallTypes.nextOf
  refine wpAny_bind (wpAny_callSpecial?_slot (name := Str.ofString "__next__") hit.typeIs F.slot_tuple_iterator_next
    (wpAny_call_entry F.slot_tuple_iterator_next hit.typeIs F.entry_tuple_iterator_next ?_ (F.args_tuple_iterator_next_1 _)))
  show wpAny _ _ (field (.ref it) 0 >>= _) _ _ s
  refine wpAny_bind (wpAny_field ho hd (x := .ref t) rfl ?_)
  show wpAny _ _ (if (Value.ref t == Value.none) = true then _ else _) _ _ s
  rw [if_neg (show ¬ ((Value.ref t == Value.none) = true) from Bool.false_ne_true)]
  show wpAny _ _ (field (.ref it) 1 >>= _) _ _ s
  refine wpAny_bind (wpAny_field ho hd (x := .int i 0) rfl ?_)
  show wpAny _ _ (seqItems? (.ref t) >>= _) _ _ s
  refine wpAny_bind (wpAny_seqItems hol hdl ?_)
  simp only [Int.toNat_natCast, hx]
  refine wpAny_bind (wpAny_rule (wpAny_bind (wpAny_setField ho hd (by simp) ?_)))
  show wpAny _ _ (newExc (.type "StopIteration") [] >>= _) _ _ _
  refine wpAny_bind ?_
  simp only [newExc, newTuple]
  refine wpAny_bind (wpAny_newObj_type ?_ (by size_fits))
  refine wpAny_bind (m := firstArgMember _ _) (wpAny_of_eq (a := Value.none) (by first | rfl | (simp only [firstArgMember]; rfl)) ?_)
  refine wpAny_newObj_type ?_ (by size_fits)
  simp only [raiseNew]
  refine wpAny_bind (wpAny_handled ?_)
  first | rw [show A.in1.handled = none from hh] | rw [hh]
  refine wpAny_bind (wpAny_pure (wpAny_throw ?_))
  exact hE _ _ (((Heap.SameBut.update ..).extBut.push _).push _) ⟨_, Heap.get?_push_size _ rfl, rfl⟩

theorem draws_tuple (hh : A.handled = none) (it l : Addr) (hne : l ≠ it) (items : Array Value) :
    Draws prog w A it [it, l] items.size (fun i v => items[i]? = some v) (fun i h => h.IsTupleIter it l i ∧ h.IsTuple l items) where
  live := fun _ _ st => let ⟨o, ho, _⟩ := st.1; ⟨o, ho⟩
  frame := fun _ _ _ st hk => ⟨st.1.at fun o e => hk it (by simp) o e, st.2.at fun o e => hk l (by simp) o e⟩
  item := fun i s Q E hi st hQ => by
    refine nextOf_tuple_item st.1 st.2 (x := items[i]) (by simp [hi]) fun h' hit' hs' => ?_
    exact hQ _ h' s.toks (by simp [hi]) ⟨hit', st.2.extBut hs'.extBut hne⟩ hs'
  done := fun s Q E st hE => nextOf_tuple_end hh st.1 st.2 (by simp) hE
end

open AutoSeq1 (wpAny_loadPart') in
theorem meets_enum_T (l : Addr) (items : Array Value) (n : Nat) (dct : Option Addr) (sl : Array (Option Value)) :
    Meets (Builtin.«enumerate.__new__» ⟨[.type "enumerate", .ref l], []⟩) (fun _ R s => s.heap.get? l = some { cls := .type "tuple", dict := dct, data := .seq items n, slots := sl } ∧
      R (.ok (.ret (.ref (s.heap.push { cls := .type "tuple_iterator", data := .fields #[.ref l, .int 0 0] }).objs.size)))
        { s with heap := (s.heap.push { cls := .type "tuple_iterator", data := .fields #[.ref l, .int 0 0] }).push { cls := .type "enumerate", data := .fields #[.none, .bool false, .ref s.heap.objs.size, rawInt 0, .none, .none] } }) :=
  .of_wp fun prog w A R s h => by
    obtain ⟨hp, g, d, tk, os⟩ := s; obtain ⟨hl, h⟩ := h
    have hsub := sub_enumerate
    have hL : Heap.IsTuple (Shared.heap ⟨hp, g, d, tk, os⟩) l items := ⟨_, hl, rfl, n, rfl⟩
    wp_walk using wpAny_loadPart' hl
    refine wpAny_stack_any fun st => wpAny_pure ?_
    split
    · rename_i c _ _ _ _ _
      cases (c == Value.type "enumerate")
      · wp_walk using wpAny_loadPart' hl, wpAny_pyIter_tuple hL
        exact ⟨_, rfl, h⟩
      · wp_walk using wpAny_loadPart' hl, wpAny_pyIter_tuple hL
        exact ⟨_, rfl, h⟩
    · wp_walk using wpAny_loadPart' hl, wpAny_pyIter_tuple hL
      exact ⟨_, rfl, h⟩

theorem call_enum_tuple {prog : Program} {w : World} {A : Around} {E : Value → Shared → Prop} {s : Shared} {l : Addr} {items : Array Value} {Q : Value → Shared → Prop} (hL : s.heap.IsTuple l items)
    (h : ∀ h', IsEnum h' (s.heap.objs.size + 1) s.heap.objs.size 0 .none → h'.IsTupleIter s.heap.objs.size l 0 → h'.objs.size = s.heap.objs.size + 2 →
      (∀ b o, s.heap.get? b = some o → h'.get? b = some o) → Q (.ref (s.heap.objs.size + 1)) { s with heap := h' }) :
    wpAny (model prog w) A (call (.type "enumerate") [.ref l]) Q E s := by
  obtain ⟨⟨c, dct, dt, sl⟩, hl, hc, n, hd⟩ := hL
  replace hc : c = .type "tuple" := hc
  replace hd : dt = .seq items n := hd
  subst hc hd
  refine callType_new F.called_enumerate (by decide) (F.typeCall_enumerate_1 _) (F.newCall_enumerate_1 _) (fun obj => F.args_object_init_2 obj _) F.entry_enumerate_new
    (meets_enum_T l items n dct sl) ⟨hl, ?_⟩
  have hz : (s.heap.push { cls := .type "tuple_iterator", data := .fields #[.ref l, .int 0 0] }).objs.size = s.heap.objs.size + 1 := Heap.size_push ..
  show _ ∧ _
  rw [hz]
  have he : IsEnum ((s.heap.push { cls := .type "tuple_iterator", data := .fields #[.ref l, .int 0 0] }).push
      { cls := .type "enumerate", data := .fields #[.none, .bool false, .ref s.heap.objs.size, rawInt 0, .none, .none] }) (s.heap.objs.size + 1) s.heap.objs.size 0 .none := by
    have := Heap.get?_push_size (s.heap.push { cls := .type "tuple_iterator", data := .fields #[.ref l, .int 0 0] })
      (o := { cls := .type "enumerate", data := .fields #[.none, .bool false, .ref s.heap.objs.size, rawInt 0, .none, .none] }) rfl
    rw [hz] at this; exact this
  refine ⟨⟨_, he, rfl⟩, h _ he ⟨_, Heap.get?_push_of_some _ (Heap.get?_push_size _ rfl), rfl, rfl⟩ (by rw [Heap.size_push, hz]) fun b o x => Heap.get?_push_of_some _ (Heap.get?_push_of_some _ x)⟩
end Mine
end

section
set_option maxRecDepth 100000
set_option linter.unusedVariables false
namespace Mine
open PySem PySem.W PyProof.Rows PySem.Spec PySem.Calls

section
variable {K : Kx} {F : Fm} {σ : St} {M : Am} {P : Heap} {s : Shared}

/-- a turn's body under the larger base, for any kind of iterator -/
theorem mid_bodyG {A : Around} {I : Addr} {fp wr : List Addr} {ds : List PyData} {Pw : Nat → Value → Prop} {St : Nat → Heap → Prop} {Pi : Heap} {i : Nat}
    (hfr : ∀ h h', St i h → (∀ b ∈ fp, ∀ o, h.get? b = some o → h'.get? b = some o) → St i h') (hex : ∀ h, St i h → ∀ b ∈ wr, ∃ o vs, h.get? b = some o ∧ o.data = .fields vs) (hfp : ∀ b ∈ fp, b ∈ wr ∨ ∃ o, Pi.get? b = some o) (m : Mid K F A M I fp wr ds Pw St Pi P σ i s) :
    ∃ M' : Am, Rel K F M' P σ s ∧ (∀ P' σ' s', Rel K F M' P' σ' s' → Rel K F M P' σ' s') ∧
      (∀ P' σ' s', Rel K F M' P' σ' s' → Mid K F A M I fp wr ds Pw St Pi P' σ' i s') ∧ (∀ b, M'.h₀.get? b = none → M.h₀.get? b = none) := by
  obtain ⟨h₁, hh⟩ := base_with M.h₀ s.heap wr
  have st01 : M.h₀.StaysIn h₁ := fun b o e => by
    rw [hh]; split
    · rename_i hb; rw [(m.wr0 b hb).1] at e; cases e
    · exact e
  have und : ∀ P' σ' s', Rel K F { M with h₀ := h₁, P₀ := P } P' σ' s' → Rel K F M P' σ' s' := fun P' σ' s' R' => R'.unbase st01 m.R.sub0 m.R.new rfl rfl
  refine ⟨{ M with h₀ := h₁, P₀ := P }, m.R.rebase (· ∈ wr) (fun b hb => ⟨(m.wr0 b hb).2, hex _ m.st b hb⟩) (fun b o e => ?_), und, fun P' σ' s' R' => ⟨und _ _ _ R', ?_, stays_trans m.sub R'.sub0, fun b hb => ⟨(m.wr0 b hb).1, ?_⟩⟩, fun b e => ?_⟩
  · rw [hh] at e; split at e
    · exact .inr ⟨‹_›, e⟩
    · exact .inl e
  · refine hfr _ _ m.st fun b hb o e => ?_
    rcases hfp b hb with q | ⟨o', q⟩
    · have : h₁.get? b = some o := by rw [hh, if_pos q]; exact e
      refine (R'.ext b o this).1 fun x => ?_
      have := (m.R.frm.mem x).2
      obtain ⟨o2, e2, hn⟩ := this
      obtain ⟨o3, vs, e3, hd⟩ := hex _ m.st b q
      rw [e3] at e2; cases e2; exact hn vs hd
    · have h1 := m.R.stay b o' (m.sub b o' q)
      rw [e] at h1; cases h1
      exact R'.stay b o (R'.sub0 b o (m.sub b o q))
  · cases r : P'.get? b with
    | none => rfl
    | some o =>
      rcases R'.new b o r with q | q
      · have : P.get? b = some o := q
        rw [(m.wr0 b hb).2] at this; cases this
      · obtain ⟨o3, vs, e3, hd⟩ := hex _ m.st b hb
        have : h₁.get? b = some o3 := by rw [hh, if_pos hb]; exact e3
        rw [show h₁.get? b = none from q] at this; cases this
  · cases r : M.h₀.get? b with
    | none => rfl
    | some o => have := st01 b o r; rw [show h₁.get? b = none from e] at this; cases this

/-- the iterator's own objects turn, and a new tuple is there -/
theorem mid_new {A : Around} {I : Addr} {fp wr : List Addr} {ds : List PyData} {Pw : Nat → Value → Prop} {St : Nat → Heap → Prop} {Pi : Heap} {i j : Nat} {T : Addr} {o : Obj} {h' : Heap} {tk : Nat}
    (hex : ∀ h, St i h → ∀ b ∈ wr, ∃ o vs, h.get? b = some o ∧ o.data = .fields vs) (m : Mid K F A M I fp wr ds Pw St Pi P σ i s)
    (hT : s.heap.get? T = none) (hTw : T ∉ wr) (ho : h'.get? T = some o) (hst : St j h') (hk : ∀ b o, b ∉ wr → s.heap.get? b = some o → h'.get? b = some o) :
    ∃ P', P.StaysIn P' ∧ P'.get? T = some o ∧ Mid K F A M I fp wr ds Pw St Pi P' σ j { s with heap := h', toks := tk } := by
  obtain ⟨hm, hh⟩ := base_with s.heap h' wr
  have R1 := m.R.step' (h' := hm) (tk := tk) (· ∈ wr) (fun b hb => ⟨(m.wr0 b hb).2, (m.wr0 b hb).1, fun o e => by
    obtain ⟨o', vs, e', hd'⟩ := hex _ m.st b hb
    rw [e] at e'; cases e'; exact ⟨vs, hd'⟩⟩) (fun b o hb e => by rw [hh, if_neg hb]; exact e)
  have g1 : Grow (frs K.Fs) P { s with heap := hm, toks := tk } P { s with heap := h', toks := tk } := Grow.of_stays R1.stay fun b o e => by
    have e' : hm.get? b = some o := e
    rw [hh] at e'; split at e'
    · exact e'
    · exact hk b o ‹_› e'
  obtain ⟨P', g, h1, h2⟩ := g1.freeze (a := T) ho (by show hm.get? T = none; rw [hh, if_neg hTw]; exact hT)
  refine ⟨P', h1, h2, R1.grow g, hst, stays_trans m.sub h1, fun b hb => ⟨(m.wr0 b hb).1, ?_⟩⟩
  cases r : P'.get? b with
  | none => rfl
  | some o =>
    rcases g.new b o r with q | q
    · rw [(m.wr0 b hb).2] at q; cases q
    · have q' : hm.get? b = none := q
      rw [hh, if_pos hb] at q'
      have := R1.grow g |>.stay b o r
      have this' : h'.get? b = some o := this
      rw [q'] at this'; cases this'

theorem ex1_forE {elts : List Expr} {k : Nat} {tp np cp : Pos} {e : Expr} {body orelse : List Stmt} {pos : Pos} {ds : List PyData} {outer : List Env} {Φ : Out → Prop} (J : Nat → Mine.St → Prop) (hF : K.Fs = F.env :: outer) (hc : K.c = true)
    (hb : (("enumerate" : Str), Value.type "enumerate") ∈ K.T.bl) (hi : Ev K F σ e (.tuple ds)) (h0 : J 0 σ)
    (turn : ∀ i d σi, ds[i]? = some d → J i σi → ∃ σi', As K F (.Tuple elts k tp) (.tuple [.int i, d]) σi σi' ∧ Ex K F σi' body (turnΦ (J (i + 1)) Φ))
    (fin : ∀ σn, J ds.length σn → Ex K F σn orelse Φ) (hk : F.env.kindOf ("enumerate" : Str) = some .globalImplicit := by rfl)
    (he : ∀ env, starEach [e] env = [(false, eval e env)] := by intro _; rfl)
    (hs : ∀ x, foldedSetIterable (.Call (.Name ("enumerate" : Str) np) [e] [] cp) F.env x = pure x := by intro _; rfl) : Ex1 K F σ (.For (.Tuple elts k tp) (.Call (.Name ("enumerate" : Str) np) [e] [] cp) body orelse pos) Φ := by
  intro A M P s ok R
  refine wpAny_For ?_ hs
  refine call_typ hb (evl_cons hi evl_nil he) hk (by decide) he (fun _ _ => rfl) ok R fun vs s1 P1 g R1 i => ?_
  obtain ⟨v, rfl, h1⟩ := isall1 i
  obtain ⟨l, o, ws, n, rfl, ho, hcl, hd, hw⟩ := h1.tuple_inv
  have hl : s1.heap.IsTuple l ws := ⟨o, R1.stay _ _ ho, hcl, n, hd⟩
  refine call_enum_tuple hl fun h' hE hIt hsz hkeep => ?_
  have hlen : ws.size = ds.length := by have := hw.length; simpa using this
  have hlt : l < s1.heap.objs.size := Heap.lt_size (R1.stay _ _ ho)
  have hne : l ≠ s1.heap.objs.size := Nat.ne_of_lt hlt
  have hei : s1.heap.objs.size + 1 ≠ s1.heap.objs.size := Nat.succ_ne_self _
  have hel : s1.heap.objs.size + 1 ≠ l := Nat.ne_of_gt (Nat.lt_succ_of_lt hlt)
  have W := WalksT.enumerateD (prog := K.prog) (w := K.w) (A := A) (draws_tuple (A := A.in1) (ok.hd hc) s1.heap.objs.size l hne ws) (s1.heap.objs.size + 1) hei (by simp [hei, hel]) (by simp)
  generalize he' : s1.heap.objs.size + 1 = en at *
  generalize hit' : s1.heap.objs.size = it at *
  have hL' : h'.IsTuple l ws := hl.at fun o e => hkeep _ o e
  refine wpAny_pyIter_enum hE ?_
  have g2 : Grow (frs K.Fs) P1 s1 P1 { s1 with heap := h' } := Grow.of_stays R1.stay hkeep
  have st0 : (∃ old, IsEnum h' en it ((0 : Nat) : Int) old) ∧ h'.IsTupleIter it l 0 ∧ h'.IsTuple l ws := ⟨⟨_, hE⟩, hIt, hL'⟩
  have nw : ∀ b ∈ [en, it], s1.heap.get? b = none := fun b hb => get?_none_ge (by
    rcases List.mem_cons.mp hb with q | q
    · rw [q, ← he', hit']; exact Nat.le_succ _
    · rw [List.mem_singleton.mp q, hit']; exact Nat.le_refl _)
  have hex : ∀ j h, ((∃ old, IsEnum h en it ((j : Nat) : Int) old) ∧ h.IsTupleIter it l j ∧ h.IsTuple l ws) → ∀ b ∈ [en, it], ∃ o vs, h.get? b = some o ∧ o.data = .fields vs := fun j h st b hb => by
    obtain ⟨⟨old, e1⟩, ⟨o2, e2, _, e3⟩, _⟩ := st
    rcases List.mem_cons.mp hb with q | q
    · rw [q]; exact ⟨_, _, e1, rfl⟩
    · rw [List.mem_singleton.mp q]; exact ⟨_, _, e2, e3⟩
  have hfp : ∀ b ∈ en :: [it, l], b ∈ [en, it] ∨ ∃ o, P1.get? b = some o := fun b hb => by
    rcases List.mem_cons.mp hb with q | q
    · exact .inl (by simp [q])
    · rcases List.mem_cons.mp q with q | q
      · exact .inl (by simp [q])
      · rw [List.mem_singleton.mp q]; exact .inr ⟨o, ho⟩
  refine codeAny_forLoop_any (fun n s' => ∃ i P'' σi, n = ds.length + 1 - i ∧ i ≤ ds.length ∧ J i σi ∧ Mid K F A M en (en :: [it, l]) [en, it] ds (fun _ _ => True) (fun i h => (∃ old, IsEnum h en it ((i : Nat) : Int) old) ∧ h.IsTupleIter it l i ∧ h.IsTuple l ws) P1 P'' σi i s') ?_ (ds.length + 1)
    ⟨0, P1, σ, by omega, by omega, h0, R1.grow g2, st0, stays_refl _, fun b hb => ⟨R1.ext.none (nw b hb), none_of R1.stay (nw b hb)⟩⟩
  rintro n s' ⟨i, P'', σi, rfl, hle, hJ, m⟩
  by_cases hlt : i < ds.length
  · refine W.item i s' _ _ (by rw [hlen]; exact hlt) m.st fun T vals h2 tk hP hT hTt hMd hk2 => ?_
    refine W.go elts k tp i T _ _ _ hMd fun h3 hst3 hk3 => ?_
    obtain ⟨t, x, hx, rfl⟩ := hP
    have hTw := W.apart _ _ _ hMd
    obtain ⟨oT, hoT, hcT, nT, hdT⟩ := hTt
    obtain ⟨P3, st3, hT3, m3⟩ := mid_new (tk := tk) (fun h => hex i h) m (get?_none_ge hT) hTw (hk3 T oT hTw hoT) hst3 (fun b o hb e => hk3 b o hb (hk2 b o hb e))
    obtain ⟨d, hd, hxd⟩ := hw.getv (by simpa using hx)
    have hv : Is P3 (.ref T) (.tuple [.int i, d]) := Is.tuple hT3 hcT hdT (by
      simpa using IsAll.cons (.i _ _) (.cons (hxd.mono (stays_trans m.sub st3)) .nil))
    obtain ⟨σi', ha, hb⟩ := turn i d σi hd hJ
    obtain ⟨M', R', hback, hmid, hM0⟩ := mid_bodyG (fun h h' => W.frame (i + 1) h h') (fun h => hex (i + 1) h) hfp m3
    refine noE (ha A M' P3 _ _ ok R' hv) fun _ s4 x => ?_
    obtain ⟨P4, R4, _⟩ := x
    refine wpAny_mono (hb A M' P4 s4 ok R4) (fun fl s5 x => ?_) fun e s5 x => postE_up ok hF hback hM0 x fun _ _ _ h => h
    obtain ⟨P5, x⟩ := x
    cases fl with
    | next => obtain ⟨σ5, R5, h5⟩ := x; exact ⟨ds.length + 1 - (i + 1), by omega, i + 1, P5, σ5, rfl, hlt, h5, hmid _ _ _ R5⟩
    | cont => obtain ⟨σ5, R5, h5⟩ := x; exact ⟨ds.length + 1 - (i + 1), by omega, i + 1, P5, σ5, rfl, hlt, h5, hmid _ _ _ R5⟩
    | brk => obtain ⟨σ5, R5, h5⟩ := x; exact ⟨P5, σ5, hback _ _ _ R5, h5⟩
    | ret v => obtain ⟨d5, R5, i5, h5⟩ := x; exact ⟨P5, d5, hback _ _ _ R5, i5, h5⟩
  · have e : i = ds.length := by omega
    subst e
    refine W.done s' _ _ (by rw [hlen]; exact m.st) fun h2 tk hk2 => ?_
    have R3 := m.R.step' (h' := h2) (tk := tk) (· ∈ [en, it]) (fun b hb => ⟨(m.wr0 b hb).2, (m.wr0 b hb).1, fun o e => by
      obtain ⟨o', vs, e', hd'⟩ := hex _ _ m.st b hb
      rw [e] at e'; cases e'; exact ⟨vs, hd'⟩⟩) (fun b o hb e => hk2 b o hb e)
    exact wpAny_mono (fin σi hJ A M P'' _ ok R3) (fun fl s5 x => x) fun e s5 x => postE_up ok hF (fun _ _ _ r => r) (fun _ r => r) x fun _ _ _ h => h
end
end Mine
end

section
set_option maxRecDepth 100000
set_option linter.unusedVariables false
namespace Mine
open PySem PySem.W PyProof.Rows PySem.Spec PySem.Calls

section
variable {K : Kx} {F : Fm} {σ : St}

theorem strsAre_of {P : Heap} : ∀ {vs : List Value} {ns : List Str}, IsAll P vs (ns.map .str) → StrsAre vs ns
  | vs, [], h => by rw [h.nil_inv]; exact .nil
  | vs, n :: ns, h => by
    obtain ⟨v, r, rfl, h1, h2⟩ := h.cons_inv
    obtain ⟨t, rfl⟩ := h1.str_inv
    exact .cons _ _ (strsAre_of h2)

theorem ev_join {x : Str} {k : Nat} {cp apos pos : Pos} {e : Expr} {ys : List Str} (h : Ev K F σ e (.list (ys.map .str))) (hok : (ys.map (·.length)).sum + ys.length * x.length ≤ 16777216)
    (hfew : ((backTo pos (starEach [e] F.env)).all (fun x => !x.1) && (backToKw pos (keywordEach [] F.env)).all (fun x => x.1.isSome)
      && decide (([e] : List Expr).length + ([] : List Keyword).length + (if ([] : List Keyword).isEmpty then 0 else 1) < 30)) = true := by rfl)
    (hline : (apos.endLine == pos.line) = true := by rfl) (he : ∀ env, starEach [e] env = [(false, eval e env)] := by intro _; rfl) :
    Ev K F σ (.Call (.Attribute (.Constant (.str x) k cp) ("join" : Str) apos) [e] [] pos) (.str (Txt.join x ys)) := by
  intro A M P s ok R
  refine wpAny_Call_method rfl hfew hline PySem.F.plainAttrs_str PySem.F.slot_str_join PySem.F.type_str_join ?_
  refine wpAny_Constant_str ⟨typeIs_str _ _ _, (fun _ q => by cases q), ?_⟩
  have g0 : Grow (frs K.Fs) P s P { s with toks := s.toks + 1 } := toks_grow R.stay
  refine callWith_method1 (noE (evl_cons h evl_nil he A M P _ pos ok (R.grow g0)) fun vs s1 y => ?_) (he _) rfl
  obtain ⟨P1, g, i⟩ := y
  obtain ⟨v, rfl, h1⟩ := isall1 i
  obtain ⟨l, o, ws, n, rfl, ho, hcl, hd, hw⟩ := h1.list_inv
  refine join_list ⟨o, g.stay _ _ ho, hcl, n, hd⟩ (strsAre_of hw) hok fun t' k => ?_
  exact ⟨P1, (g0.trans g).trans (toks_grow g.stay), .s _ _⟩
end
end Mine
end

section
set_option maxRecDepth 100000
set_option linter.unusedVariables false
namespace Mine
open PySem PySem.W PyProof.Rows PySem.Spec PySem.Calls

theorem outsTo_list {α : Type} (xs : List α) (f : α → Option PyData) : outsTo (fun i => xs[i]?.bind f) xs.length = xs.filterMap f := by
  unfold outsTo
  induction xs with
  | nil => rfl
  | cons x xs ih =>
    rw [List.length_cons, List.range_succ_eq_map, List.filterMap_cons, List.filterMap_map, List.filterMap_cons]
    have : (List.range xs.length).filterMap ((fun i => (x :: xs)[i]?.bind f) ∘ Nat.succ) = xs.filterMap f := by
      rw [← ih]; rfl
    rw [this]; rfl

section
variable {K : Kx} {F : Fm} {σ : St}
/-- a comprehension over a list of things, one clause -/
theorem evn_compX {α : Type} (xs : List α) (g : α → PyData) (f : α → Option PyData) {elt target iter : Expr} {ifs : List Expr} {scope : Scope} {pos : Pos} {cl : List (Str × Addr)} {W' : List Str} {σc : St}
    (hi : EvI K F σ iter (xs.map g)) (hl : xs.length ≤ 500000) (hsc : CScope F scope cl W') (hcap : Cap F scope cl σ cl σc) (turn : ∀ C x, x ∈ xs → Turn K ⟨cEnv scope cl C F.env, W'⟩ σc elt target ifs (g x) (f x))
    (hs : ∀ x, foldedSetIterable iter F.env x = pure x := by intro _; rfl) : EvN K F σ (.ListComp elt [⟨target, iter, ifs, 0⟩] scope pos) (xs.filterMap f) := by
  have h := evn_comp (pos := pos) (fun i => xs[i]?.bind f) hi (by rw [List.length_map]; exact hl) hsc hcap (fun C i d hd => by
    rw [List.getElem?_map] at hd
    obtain ⟨x, hx, rfl⟩ := Option.map_eq_some_iff.mp hd
    rw [hx]; exact turn C x (List.mem_of_getElem? hx)) hs
  rw [List.length_map, outsTo_list] at h
  exact h
theorem ex1_compX {α : Type} (xs : List α) (g : α → PyData) (f : α → Option PyData) {x : Str} {np spos : Pos} {elt target iter : Expr} {ifs : List Expr} {scope : Scope} {pos : Pos} {cl : List (Str × Addr)} {W' : List Str} {σc : St} {Φ : Out → Prop}
    (hi : EvI K F σ iter (xs.map g)) (hl : xs.length ≤ 500000) (hsc : CScope F scope cl W') (hcap : Cap F scope cl σ cl σc) (turn : ∀ C x, x ∈ xs → Turn K ⟨cEnv scope cl C F.env, W'⟩ σc elt target ifs (g x) (f x)) (hΦ : ∀ a, New a σ → Φ (.nx ((x, .own a (xs.filterMap f)) :: σ)))
    (hx : F.env.kindOf x = some .local := by rfl) (hq : swapsWithSole [.Name x np] (.ListComp elt [⟨target, iter, ifs, 0⟩] scope pos) spos.line F.env = pure true := by rfl)
    (hs : ∀ x, foldedSetIterable iter F.env x = pure x := by intro _; rfl) : Ex1 K F σ (.Assign [.Name x np] (.ListComp elt [⟨target, iter, ifs, 0⟩] scope pos) spos) Φ := by
  refine ex1_comp (fun i => xs[i]?.bind f) hi (by rw [List.length_map]; exact hl) hsc hcap (fun C i d hd => by
    rw [List.getElem?_map] at hd
    obtain ⟨x, hx, rfl⟩ := Option.map_eq_some_iff.mp hd
    rw [hx]; exact turn C x (List.mem_of_getElem? hx)) (fun a ha => ?_) hx hq hs
  rw [List.length_map, outsTo_list]
  exact hΦ a ha
end

theorem filterMap_if {α β : Type} (xs : List α) (p : α → Bool) (h : α → β) : xs.filterMap (fun x => if p x = true then some (h x) else none) = (xs.filter p).map h := by
  induction xs with
  | nil => rfl
  | cons x xs ih =>
    rw [List.filterMap_cons, List.filter_cons]
    cases hp : p x <;> simp [ih]
theorem filterMap_all {α β : Type} (xs : List α) (h : α → β) : xs.filterMap (fun x => some (h x)) = xs.map h := by
  induction xs with
  | nil => rfl
  | cons x xs ih => simp [ih]
end Mine
end

section
set_option maxRecDepth 100000
set_option linter.unusedVariables false
namespace Mine
open PySem PySem.W PyProof.Rows PySem.Spec PySem.Calls

def deepTree (target iter : Expr) (ifs : List Expr) (iter2 : Expr) (e : Expr) (k : Nat) (it acc : Value) (env : Env) : Sem Fin := do
  standAt iter.pos
  match ← pyNext it with
  | none => pure (.done .next)
  | some v =>
    letOwnedTupleGo target it v
    assign target env v
    let mut ok := true
    for c in ifs do
      if ok then ok ← isTrue c env (eval c env)
    if ok then
      let x ← eval iter2 env
      standAt iter2.pos
      let x ← foldedSetIterable iter2 env x
      let _ ← runOwn (.compStart e (k + 1) (← holding [x] (pyIter x)) acc env) env
    again (.compLoop e k it acc env)

def catTo (res : Nat → List PyData) (n : Nat) : List PyData := (List.range n).flatMap res
theorem catTo_succ (res : Nat → List PyData) (n : Nat) : catTo res (n + 1) = catTo res n ++ res n := by simp [catTo, List.range_succ, List.flatMap_append]

section
variable {K : Kx} {F : Fm} {σ : St} {M : Am} {P : Heap} {s : Shared}

theorem mid_bodyE {A : Around} {I : Addr} {fp wr : List Addr} {ds : List PyData} {Pw : Nat → Value → Prop} {St : Nat → Heap → Prop} {Pi : Heap} {i : Nat} 
    (it : ItOk K A Pi I fp wr ds Pw St) (m : Mid K F A M I fp wr ds Pw St Pi P σ i s) :
    ∃ M' : Am, Rel K F M' P σ s ∧ (∀ P' σ' s', Rel K F M' P' σ' s' → Mid K F A M I fp wr ds Pw St Pi P' σ' i s') ∧ (∀ b, b ∉ wr → M.h₀.get? b = none → M'.h₀.get? b = none) := by
  obtain ⟨h₁, hh⟩ := base_with M.h₀ s.heap wr
  have st01 : M.h₀.StaysIn h₁ := fun b o e => by
    rw [hh]; split
    · rename_i hb; rw [(m.wr0 b hb).1] at e; cases e
    · exact e
  have und : ∀ P' σ' s', Rel K F { M with h₀ := h₁, P₀ := P } P' σ' s' → Rel K F M P' σ' s' := fun P' σ' s' R' => R'.unbase st01 m.R.sub0 m.R.new rfl rfl
  refine ⟨{ M with h₀ := h₁, P₀ := P }, m.R.rebase (· ∈ wr) (fun b hb => ⟨(m.wr0 b hb).2, it.ex i _ m.st b hb⟩) (fun b o e => ?_), fun P' σ' s' R' => ⟨und _ _ _ R', ?_, stays_trans m.sub R'.sub0, fun b hb => ⟨(m.wr0 b hb).1, ?_⟩⟩, fun b hb e => ?_⟩
  · rw [hh] at e; split at e
    · exact .inr ⟨‹_›, e⟩
    · exact .inl e
  · refine it.W.frame _ _ _ m.st fun b hb o e => ?_
    rcases it.fpP b hb with q | ⟨o', q⟩
    · have : h₁.get? b = some o := by rw [hh, if_pos q]; exact e
      refine (R'.ext b o this).1 fun x => ?_
      have := (m.R.frm.mem x).2
      obtain ⟨o2, e2, hn⟩ := this
      obtain ⟨o3, vs, e3, hd⟩ := it.ex i _ m.st b q
      rw [e3] at e2; cases e2; exact hn vs hd
    · have h1 := m.R.stay b o' (m.sub b o' q)
      rw [e] at h1; cases h1
      exact R'.stay b o (R'.sub0 b o (m.sub b o q))
  · cases r : P'.get? b with
    | none => rfl
    | some o =>
      rcases R'.new b o r with q | q
      · have : P.get? b = some o := q
        rw [(m.wr0 b hb).2] at this; cases this
      · obtain ⟨o3, vs, e3, hd⟩ := it.ex i _ m.st b hb
        have : h₁.get? b = some o3 := by rw [hh, if_pos hb]; exact e3
        rw [show h₁.get? b = none from q] at this; cases this
  · show h₁.get? b = none
    rw [hh, if_neg hb]; exact e

theorem dok_grow {L : Addr} {D : Addr} {outs : List PyData} {P' : Heap} {s' : Shared} (hD : DOk K L M P D outs s) (g : Grow (frs K.Fs) P s P' s') : DOk K L M P' D outs s' := by
  obtain ⟨⟨vs, n, ho, hi⟩, d1, d2, d3, d4⟩ := hD
  refine ⟨⟨vs, n, (g.ext D _ ho).1 d3, hi.mono g.sub⟩, none_or fun o r => ?_, d2, d3, d4⟩
  rcases g.new D o r with q | q
  · rw [d1] at q; cases q
  · rw [ho] at q; cases q

theorem start_deep {A : Around} {R : Result → Shared → Prop} {e g : Expr} {k : Nat} {it acc : Value} {env : Env} {t : Expr} {fs : List Expr} (he : (clausesOf e)[k]? = some ⟨t, g, fs, 0⟩)
    (hden : K.M.den (.compStart e k it acc env) = ((compStart e k it acc env).onRaise (fun x => do noteFrame x env; standAt theWindowsPlace))) (hund : A.under (.compStart e k it acc env) = A)
    (h0 : codeAny K.M A (.compLoop e k it acc env) R s) (h : wpAny K.M A (pyIter it) (fun it' s' => codeAny K.M A (.compLoop e k it' acc env) R s') (notedBy K.M A env fun x s' => R (.error x) s') s) (hq : ∀ it', (Code.compLoop e k it' acc env).quiet = true) :
    codeAny K.M A (.compStart e k it acc env) R s := by
  refine codeAny_of_tree ?_
  rw [hund, hden]
  refine wpAny_notedAt ?_
  unfold compStart
  rw [he]
  show wpAny _ _ (ask >>= _) _ _ s
  refine wpAny_bind (wpAny_askSetting (wpAny_ite ?_))
  split
  · first
      | exact wpAny_bind (wpAny_pure (wpAny_pure (And.intro (hq _) h0)))
      | exact wpAny_pure (And.intro (hq _) h0)
  · first
      | exact wpAny_bind (wpAny_rule (wpAny_bind (wpAny_standAt (wpAny_bind (wpAny_mono h (fun it' s' h' => wpAny_pure (And.intro (hq _) h')) fun _ _ x => x)))))
      | (refine wpAny_bind (wpAny_rule ?_); show wpAny _ _ (standAt _ >>= _) _ _ s; exact wpAny_bind (wpAny_standAt (wpAny_bind (wpAny_mono h (fun it' s' h' => wpAny_pure (And.intro (hq _) h')) fun _ _ x => x))))

/-- a turn of a clause that holds another -/
def Turn2 (K : Kx) (F : Fm) (σ : St) (target : Expr) (ifs : List Expr) (iter2 : Expr) (e : Expr) (k : Nat) (d : PyData) (r : List PyData) : Prop :=
  ∃ σ1, As K F target d σ σ1 ∧ Sub σ σ1 ∧ plainSt σ1 ∧ ∃ b, Trs K F σ1 ifs b ∧ (b = false → r = []) ∧ (b = true → ∃ ds', EvI K F σ1 iter2 ds' ∧ CLoop K F σ1 e k ds' r)

theorem cloop_deep {elt target iter t2 iter2 : Expr} {ifs ifs2 : List Expr} {gens : List Comprehension} {scope : Scope} {pos : Pos} {k : Nat} {ds : List PyData} (res : Nat → List PyData)
    (hl : (catTo res ds.length).length ≤ 400000) (turn : ∀ i d, ds[i]? = some d → Turn2 K F σ target ifs iter2 (.ListComp elt gens scope pos) (k + 1) d (res i))
    (heq : ∀ it acc, compTurn (.ListComp elt gens scope pos) k it acc F.env = deepTree target iter ifs iter2 (.ListComp elt gens scope pos) k it acc F.env) (hfs : ∀ x, foldedSetIterable iter2 F.env x = pure x)
    (hg : gens[k + 1]? = some ⟨t2, iter2, ifs2, 0⟩) :
    CLoop K F σ (.ListComp elt gens scope pos) k ds (catTo res ds.length) 100000 := by
  intro A M P s I fp wr Pw Stt Pi D outs R ok it m hD hσ hsz fin
  have hmono : ∀ i j, i ≤ j → (catTo res i).length ≤ (catTo res j).length := fun i j h => by
    induction h with
    | refl => exact Nat.le_refl _
    | step _ ih => rw [catTo_succ, List.length_append]; omega
  refine codeAny_loop rfl (fun n s' => ∃ i P', n = ds.length + 1 - i ∧ i ≤ ds.length ∧ P.StaysIn P' ∧ Mid K F A M I fp wr ds Pw Stt Pi P' σ i s' ∧ DOk K F.env.locals M P' D (outs ++ catTo res i) s')
    ?_ (ds.length + 1) ⟨0, P, by omega, by omega, stays_refl _, m, by rw [show catTo res 0 = [] from rfl, List.append_nil]; exact hD⟩
  rintro n s1 ⟨i, P1, rfl, hle, hPP, m1, hD1⟩
  show wpAny _ A ((compTurn (.ListComp elt gens scope pos) k (.ref I) (.ref D) F.env).onRaise (fun x => do noteFrame x F.env; theTreesLotGoes x)) _ _ s1
  refine wpAny_noted ?_
  rw [heq]
  unfold deepTree
  have hDw : D ∉ wr := by
    obtain ⟨⟨vs, n, ho, _⟩, _⟩ := hD1
    exact wr_ne it m1.st ho fun _ q => by cases q
  refine wpAny_bind (wpAny_standAt (wpAny_bind ?_))
  by_cases hlt : i < ds.length
  · refine mid_turn' it m1 hlt fun v s2 d hd hv m2 hk2 => ?_
    have hD2 : DOk K F.env.locals M P1 D (outs ++ catTo res i) s2 := by
      obtain ⟨⟨vs, n, ho, hi⟩, r⟩ := hD1
      exact ⟨⟨vs, n, hk2 _ _ hDw ho, hi⟩, r⟩
    refine wpAny_bind (it.lt target (i + 1) s2 v _ _ m2.st ?_)
    obtain ⟨σ1, ha, hsub, hσ1, b, ht, hb0, hb1⟩ := turn i d hd
    obtain ⟨M', R', hM', hmid⟩ := mid_bodyD it m2 hD2 hσ
    refine wpAny_bind (noE (ha A M' P1 s2 v ok R' hv) fun _ s3 x => ?_)
    obtain ⟨P3, R3, h13⟩ := x
    refine wpAny_bind (noE (ht A M' P3 s3 ok R3) fun r s4 x => ?_)
    obtain ⟨rfl, g4⟩ := x
    have R4 := R3.grow g4
    obtain ⟨m4, hD4⟩ := hmid _ _ _ R4
    cases r with
    | false =>
      refine wpAny_pure ⟨rfl, ds.length + 1 - (i + 1), by omega, i + 1, P3, rfl, hlt, stays_trans hPP h13, ⟨m4.R.sub hsub, m4.st, m4.sub, m4.wr0⟩, ?_⟩
      rw [catTo_succ, hb0 rfl, List.append_nil]; exact hD4
    | true =>
      obtain ⟨ds2, hev, hloop⟩ := hb1 rfl
      obtain ⟨M2, R2, hmid2, hM2⟩ := mid_bodyE it m4
      refine wpAny_bind (noE (hev A M2 P3 s4 ok R2) fun x s5 h5 => wpAny_bind (wpAny_standAt (wpAny_bind (wpAny_of_eq (hfs x) (wpAny_bind (wpAny_holding (noE h5 fun it2 s6 h6 => ?_)))))))
      obtain ⟨P6, I2, fp2, wr2, Pw2, St2, rfl, g6, io2, st2, hwr2⟩ := h6
      have R6 := R2.grow g6
      have hD6 := dok_grow hD4 g6
      have hD6' : DOk K F.env.locals M2 P6 D (outs ++ catTo res i) s6 := ⟨hD6.1, hD6.2.1, hM2 D hDw hD6.2.2.1, hD6.2.2.2⟩
      have mid2 : Mid K F A M2 I2 fp2 wr2 ds2 Pw2 St2 P6 P6 σ1 0 s6 := ⟨R6, st2, stays_refl _, fun b hb => ⟨R2.ext.none (hwr2 b hb).1, (hwr2 b hb).2⟩⟩
      have hlen : (outs ++ catTo res i).length ≤ 500000 := by
        have := hmono i ds.length hle
        rw [List.length_append]; omega
      have key : ∀ (R7 : Result → Shared → Prop), (∀ P' s', Rel K F M2 P' σ1 s' → P6.StaysIn P' → DOk K F.env.locals M2 P' D (outs ++ catTo res i ++ res i) s' → R7 (.ok .next) s') → codeAny K.M A (.compStart (.ListComp elt gens scope pos) (k + 1) (.ref I2) (.ref D) F.env) R7 s6 := fun R7 hf => by
        have loop := hloop A M2 P6 s6 I2 fp2 wr2 Pw2 St2 P6 D (outs ++ catTo res i) R7 ok io2 mid2 hD6' hσ1 hlen hf
        exact start_deep (by exact hg) rfl rfl loop (io2.W.self 0 _ _ _ mid2.st loop) (fun _ => rfl)
      refine wpAny_bind (wpAny_runOwn (key _ fun P7 s7 R7 hP7 hD7 => ?_))
      have m7 := hmid2 _ _ _ R7
      refine (wpAny_pure ⟨rfl, ds.length + 1 - (i + 1), by omega, i + 1, P7, rfl, hlt, stays_trans hPP (stays_trans h13 (stays_trans g6.sub hP7)), ⟨m7.R.sub hsub, m7.st, m7.sub, m7.wr0⟩, ?_⟩)
      rw [catTo_succ, ← List.append_assoc]
      exact ⟨hD7.1, hD7.2.1, hD6.2.2.1, hD7.2.2.2⟩
  · have e : i = ds.length := by omega
    subst e
    refine mid_done' it m1 fun s2 R2 hk2 => ?_
    refine wpAny_pure (fin P1 s2 R2 hPP ?_)
    obtain ⟨⟨vs, n, ho, hi⟩, r⟩ := hD1
    exact ⟨⟨vs, n, hk2 _ _ hDw ho, hi⟩, r⟩
end
end Mine
end

section
set_option maxRecDepth 100000
set_option linter.unusedVariables false
namespace Mine
open PySem PySem.W PyProof.Rows PySem.Spec PySem.Calls

theorem catTo_list {α : Type} (xs : List α) (f : α → List PyData) : catTo (fun i => xs[i]?.elim [] f) xs.length = xs.flatMap f := by
  unfold catTo
  induction xs with
  | nil => rfl
  | cons x xs ih =>
    rw [List.length_cons, List.range_succ_eq_map, List.flatMap_cons, List.flatMap_map, List.flatMap_cons]
    have : (List.range xs.length).flatMap (fun i => (x :: xs)[i.succ]?.elim [] f) = xs.flatMap f := by
      rw [← ih]; rfl
    rw [this]; rfl

section
variable {K : Kx} {F : Fm} {σ : St}
theorem cloop_two {elt t1 i1 t2 i2 : Expr} {f2 : List Expr} {scope : Scope} {pos : Pos} {ds : List PyData} (res : Nat → List PyData)
    (hl : (catTo res ds.length).length ≤ 400000) (turn : ∀ i d, ds[i]? = some d → Turn2 K F σ t1 [] i2 (.ListComp elt [⟨t1, i1, [], 0⟩, ⟨t2, i2, f2, 0⟩] scope pos) 1 d (res i)) (hfs : ∀ x, foldedSetIterable i2 F.env x = pure x) :
    CLoop K F σ (.ListComp elt [⟨t1, i1, [], 0⟩, ⟨t2, i2, f2, 0⟩] scope pos) 0 ds (catTo res ds.length) 100000 :=
  cloop_deep (iter := i1) res hl turn (fun _ _ => rfl) hfs rfl

/-- two clauses, the first one without a test -/
theorem evn_comp2 {α β : Type} (xs : List α) (g : α → PyData) (ys : α → List β) (h : α → β → PyData) (f : α → β → Option PyData) {elt t1 i1 t2 i2 : Expr} {f2 : List Expr} {scope : Scope} {pos : Pos} {cl : List (Str × Addr)} {W' : List Str} {σc : St}
    (hi : EvI K F σ i1 (xs.map g)) (hl : (xs.flatMap fun x => (ys x).filterMap (f x)).length ≤ 400000) (hy : ∀ x ∈ xs, (ys x).length ≤ 400000) (hsc : CScope F scope cl W') (hcap : Cap F scope cl σ cl σc)
    (turn : ∀ C x, x ∈ xs → ∃ σ1, As K ⟨cEnv scope cl C F.env, W'⟩ t1 (g x) σc σ1 ∧ Sub σc σ1 ∧ plainSt σ1 ∧ EvI K ⟨cEnv scope cl C F.env, W'⟩ σ1 i2 ((ys x).map (h x)) ∧ ∀ y ∈ ys x, Turn K ⟨cEnv scope cl C F.env, W'⟩ σ1 elt t2 f2 (h x y) (f x y))
    (hs : ∀ x, foldedSetIterable i1 F.env x = pure x := by intro _; rfl) (hs2 : ∀ C x, foldedSetIterable i2 (cEnv scope cl C F.env) x = pure x := by intro _ _; rfl) :
    EvN K F σ (.ListComp elt [⟨t1, i1, [], 0⟩, ⟨t2, i2, f2, 0⟩] scope pos) (xs.flatMap fun x => (ys x).filterMap (f x)) := by
  have e := catTo_list xs fun x => (ys x).filterMap (f x)
  rw [← List.length_map g] at e
  rw [← e] at hl ⊢
  refine evn_compG (g := ⟨t1, i1, [], 0⟩) hi hsc hcap (fun C => CLoop.le (B := 100000) (cloop_two (F := ⟨cEnv scope cl C F.env, W'⟩) _ hl (fun i d hd => ?_) (hs2 C)) (Nat.zero_le _)) rfl hs
  rw [List.getElem?_map] at hd
  obtain ⟨x, hx, rfl⟩ := Option.map_eq_some_iff.mp hd
  have hm := List.mem_of_getElem? hx
  obtain ⟨σ1, h1, h2, h3, h4, h5⟩ := turn C x hm
  refine ⟨σ1, h1, h2, h3, true, trs_nil, fun q => (by cases q), fun _ => ⟨_, h4, ?_⟩⟩
  rw [hx]
  show CLoop _ _ _ _ _ _ ((ys x).filterMap (f x))
  rw [← outsTo_list, ← List.length_map (f := h x)]
  refine cloop_last (fun i => (ys x)[i]?.bind (f x)) (by rw [List.length_map]; have := hy x hm; omega) (fun j d hd => ?_) (fun _ _ => rfl)
  rw [List.getElem?_map] at hd
  obtain ⟨y, hy', rfl⟩ := Option.map_eq_some_iff.mp hd
  rw [hy']
  exact h5 y (List.mem_of_getElem? hy')
end
end Mine
end

section
set_option maxRecDepth 100000
set_option linter.unusedVariables false
set_option linter.unusedSimpArgs false
namespace Mine
open PySem PySem.W PyProof.Rows PySem.Spec PySem.Calls

abbrev qq : Program := PySem.Challenge.pw_oc0092_01

/-! ### _deduplicate_unhashable -/
def dedup {α : Type} [DecidableEq α] (xs : List α) : List α := xs.foldl (fun acc x => if x ∈ acc then acc else acc ++ [x]) []
theorem dedup_snoc {α : Type} [DecidableEq α] (xs : List α) (x : α) : dedup (xs ++ [x]) = if x ∈ dedup xs then dedup xs else dedup xs ++ [x] := by
  unfold dedup; rw [List.foldl_append]; rfl
theorem dedup_le {α : Type} [DecidableEq α] (xs : List α) : (dedup xs).length ≤ xs.length := by
  have : ∀ (xs acc : List α), (xs.foldl (fun acc x => if x ∈ acc then acc else acc ++ [x]) acc).length ≤ acc.length + xs.length := by
    intro xs
    induction xs with
    | nil => intro acc; simp
    | cons x xs ih =>
      intro acc
      rw [List.foldl_cons]
      refine Nat.le_trans (ih _) ?_
      split <;> simp <;> omega
  have h := this xs []
  rw [List.length_nil, Nat.zero_add] at h
  exact h

/-- a type that stands for data -/
structure Emb (α : Type) [DecidableEq α] (emb : α → PyData) (n : Nat) : Prop where
  ok : ∀ y, okn n (emb y) = true
  eq : ∀ y z, PyData.eqv (emb y) (emb z) = decide (y = z)
  le : n ≤ 50
theorem Emb.any {α : Type} [DecidableEq α] {emb : α → PyData} {n : Nat} (E : Emb α emb n) (xs : List α) (y : α) : ((xs.map emb).any fun x => PyData.eqv x (emb y)) = decide (y ∈ xs) := by
  induction xs with
  | nil => simp
  | cons x xs ih => simp only [List.map_cons, List.any_cons, ih, E.eq, List.mem_cons, Bool.decide_or]; congr 1; exact decide_eq_decide.mpr eq_comm
abbrev f_dedup : FnRec := fnAt qq 1
abbrev f_cmp : FnRec := fnAt qq 2

theorem fn_dedup {K : Kx} {α : Type} [DecidableEq α] {emb : α → PyData} {n : Nat} (E : Emb α emb n) (hm : f_dedup ∈ K.T.fns) (xs : List α) (hl : xs.length ≤ 100000) : Fn K 3 f_dedup [.list (xs.map emb)] (.list ((dedup xs).map emb)) := by
  refine fn_intro ["unhashable_params"] [] hm (bind1 _ _ _ rfl fun _ _ _ _ => rfl) rfl rfl rfl (by decide) (by decide) (by simp) fun Fs L a code => ?_
  refine ex_cons (ex1_own (evn_list evl_nil) (.inl rfl) fun na hna => ?_)
  refine ex_cons (ex1_forS (fun i => [("unhashable_params", .dat (.list (xs.map emb))), ("new_unhashable", .own na ((dedup (xs.take i)).map emb))]) rfl (evi_list rfl (ev_name rfl)) ⟨rfl, rfl, trivial⟩ (fun i d hd => ⟨_, as_name (.inl rfl), ?_⟩) ?_)
  · have hd' : ∃ x, xs[i]? = some x ∧ d = emb x := by
      rw [List.getElem?_map] at hd
      obtain ⟨x, e1, rfl⟩ := Option.map_eq_some_iff.mp hd
      exact ⟨x, e1, rfl⟩
    obtain ⟨x, hx, rfl⟩ := hd'
    have htk : xs.take (i + 1) = xs.take i ++ [x] := by rw [List.take_add_one, hx]; rfl
    have hln : (dedup (xs.take i)).length ≤ 1000000 := by
      have := dedup_le (xs.take i)
      have := List.length_take (i := i) (l := xs)
      omega
    have hap : ∀ (dd : PyData), Apart ("new_unhashable" : Str) na [("t", .dat dd), ("unhashable_params", .dat (.list (xs.map emb))), ("new_unhashable", .own na ((dedup (xs.take i)).map emb))] := fun dd => apart_of (by simp [Slot.adr])
    refine ex_cons (ex1_if (tr_borrow (x := "new_unhashable") rfl (hap _) (tr_cmp (ev_name rfl) (ev_name rfl) (co_notin (n := n) (E.ok x) (by simp [E.ok]) (Nat.le_trans E.le (by decide))))) (fun hc => ?_) (fun hc => ?_))
    · refine ex_cons (ex1_append (x := "new_unhashable") rfl (hap _) (ev_name rfl) ?_ (by simpa using hln))
      refine ex_nil (ex_nil ?_)
      rw [E.any] at hc
      refine ⟨rfl, ?_, trivial⟩
      rw [htk, dedup_snoc]
      simp at hc
      simp [hc]
    · refine ex_nil (ex_nil ?_)
      rw [E.any] at hc
      refine ⟨rfl, ?_, trivial⟩
      rw [htk, dedup_snoc]
      simp at hc
      simp [hc]
      rfl
  · refine ex_nil ?_
    rw [List.length_map, List.take_length]
    refine ex_freeze (x := "new_unhashable") rfl (apart_of (by simp [Slot.adr])) (ex_cons (ex1_return (ev_name rfl) rfl))

/-! ### _compare_args_orderless -/
def remAll {α : Type} [DecidableEq α] : List α → List α → Option (List α)
  | t, [] => some t
  | t, e :: es => if e ∈ t then remAll (t.erase e) es else none
def cmpArgs {α : Type} [DecidableEq α] (xs ys : List α) : Bool := match remAll (dedup ys) (dedup xs) with
  | some t => t.isEmpty
  | none => false
theorem remAll_append {α : Type} [DecidableEq α] : ∀ (es fs t : List α), remAll t (es ++ fs) = (remAll t es).bind fun t' => remAll t' fs
  | [], fs, t => rfl
  | e :: es, fs, t => by
    simp only [List.cons_append, remAll]
    split
    · exact remAll_append es fs _
    · rfl
theorem remAll_le {α : Type} [DecidableEq α] : ∀ (es t r : List α), remAll t es = some r → r.length ≤ t.length
  | [], t, r, h => by cases h; exact Nat.le_refl _
  | e :: es, t, r, h => by
    simp only [remAll] at h
    split at h
    · exact Nat.le_trans (remAll_le es _ r h) List.length_erase_le
    · cases h

theorem fn_cmp {K : Kx} {α : Type} [DecidableEq α] {emb : α → PyData} {n : Nat} (E : Emb α emb n) (hm : f_cmp ∈ K.T.fns) (hm1 : f_dedup ∈ K.T.fns) (hb1 : (("list" : Str), Value.type "list") ∈ K.T.bl) (hb2 : (("ValueError" : Str), Value.type "ValueError") ∈ K.T.bl) (xs ys : List α) (hl : xs.length ≤ 100000) (hl' : ys.length ≤ 100000) :
    Fn K 5 f_cmp [.list (xs.map emb), .list (ys.map emb)] (.bool (cmpArgs xs ys)) := by
  refine fn_intro ["first_args", "second_args"] [] hm (bind2 _ _ _ _ rfl fun _ _ _ _ _ => rfl) rfl rfl rfl (by decide) (by decide) (by simp) fun Fs L a code => ?_
  refine ex_cons (ex1_assign (ev_call hm1 rfl (evl_cons (ev_name rfl) evl_nil) rfl (fn_dedup E hm1 xs hl) (show 3 ≤ 4 by decide)) (as_name (.inl rfl)) ?_)
  refine ex_cons (ex1_assign (ev_call hm1 rfl (evl_cons (ev_name rfl) evl_nil) rfl (fn_dedup E hm1 ys hl') (show 3 ≤ 4 by decide)) (as_name (.inl rfl)) ?_)
  have dl := dedup_le ys
  have dl' := dedup_le xs
  refine ex_cons (ex1_own (evn_listcall hb1 (ev_name rfl) (by simp; omega)) (.inl rfl) fun na hna => ?_)
  refine ex_cons (ex1_try (T := "ValueError") (f := L) rfl rfl hb2 ?_ ?_)
  · intro cls b σ' h; cases h
  refine ex_cons (ex1_for (fun i σ' => ∃ t, remAll (dedup ys) ((dedup xs).take i) = some t ∧ Sub [("first_unhashable", .dat (.list ((dedup xs).map emb))), ("t", .own na (t.map emb))] σ') rfl (evi_list rfl (ev_name rfl)) ⟨dedup ys, rfl, SubL.sub ⟨rfl, rfl, trivial⟩⟩ ?_ ?_)
  · rintro i d σi hd ⟨t, ht, hs⟩
    have hd' : ∃ x, (dedup xs)[i]? = some x ∧ d = emb x := by
      rw [List.getElem?_map] at hd
      obtain ⟨x, e1, rfl⟩ := Option.map_eq_some_iff.mp hd
      exact ⟨x, e1, rfl⟩
    obtain ⟨x, hx, rfl⟩ := hd'
    have htk : (dedup xs).take (i + 1) = (dedup xs).take i ++ [x] := by rw [List.take_add_one, hx]; rfl
    have hr : remAll (dedup ys) ((dedup xs).take (i + 1)) = if x ∈ t then some (t.erase x) else none := by
      rw [htk, remAll_append, ht]; rfl
    have hle := remAll_le _ _ _ ht
    refine ⟨_, As.pre (as_name (.inl rfl)) hs, ?_⟩
    refine ex_cons (ex1_remove emb n E.ok E.eq (x := "t") (f := L) (y := x) (ts := t) rfl rfl rfl (apart_of (by simp [Slot.adr])) (ev_name rfl) (Nat.le_trans E.le (by decide)) (by omega) (fun hy => ?_) (fun hy => ?_))
    · refine ex_nil ⟨t.erase x, by rw [hr, if_pos hy], SubL.sub ⟨rfl, rfl, trivial⟩⟩
    · refine ⟨rfl, ex_cons (ex1_return ev_bool ?_)⟩
      have : remAll (dedup ys) (dedup xs) = none := by
        rw [← List.take_append_drop (i + 1) (dedup xs), remAll_append, hr, if_neg hy]; rfl
      show Out.rt _ = Out.rt _
      rw [cmpArgs, this]
  · rintro σn ⟨t, ht, hs⟩
    rw [List.length_map, List.take_length] at ht
    refine ex_nil (ex_nil ?_)
    refine Ex.sub ?_ hs
    refine ex_cons (ex1_return (ev_borrow (x := "t") rfl (apart_of (by simp [Slot.adr])) (ev_not (ev_name rfl) (tv_list (by have := remAll_le _ _ _ ht; simp; omega)))) ?_)
    · show Out.rt _ = Out.rt _
      rw [cmpArgs, ht]; simp

/-! ### unorderable_list_difference -/
abbrev f_uld : FnRec := fnAt qq 28
def uldR {α : Type} [DecidableEq α] : List α → List α → List α → List α × List α
  | [], m, a => (m, a)
  | e :: es, m, a => if e ∈ a then uldR es m (a.erase e) else uldR es (m ++ [e]) a
def uld {α : Type} [DecidableEq α] (xs ys : List α) : List α × List α := uldR xs.reverse [] ys

theorem fn_uld {K : Kx} {α : Type} [DecidableEq α] {emb : α → PyData} {n : Nat} (E : Emb α emb n) (hm : f_uld ∈ K.T.fns) (hb2 : (("ValueError" : Str), Value.type "ValueError") ∈ K.T.bl) (xs ys : List α) (hl : xs.length ≤ 10000) (hl' : ys.length ≤ 10000) :
    FnU K 5 f_uld (xs.map emb) (ys.map emb) (.tuple [.list ((uld xs ys).1.map emb), .list ((uld xs ys).2.map emb)]) := by
  refine fn_introU "expected" "actual" hm (fun _ _ _ _ _ => rfl) rfl rfl rfl (by decide) (by decide) (by decide) fun Fs L a code ea aa hne => ?_
  refine ex_cons (ex1_own (evn_list evl_nil) (.inl rfl) fun ma hma => ?_)
  have n1 : ma ≠ ea := fun q => hma "expected" _ rfl (by rw [q]; rfl)
  have n2 : ma ≠ aa := fun q => hma "actual" _ rfl (by rw [q]; rfl)
  refine ex_cons (ex1_while (fun n σ' => ∃ xs' m act : List α, n = xs'.length ∧ uldR xs'.reverse m act = uld xs ys ∧ xs'.length ≤ 10000 ∧ act.length ≤ 10000 ∧ m.length + xs'.length ≤ 10000 ∧ Sub [("expected", .own ea (xs'.map emb)), ("actual", .own aa (act.map emb)), ("missing", .own ma (m.map emb))] σ') xs.length rfl ⟨xs, [], ys, rfl, rfl, hl, hl', by simpa using hl, SubL.sub ⟨rfl, rfl, rfl, trivial⟩⟩ ?_)
  rintro n σi ⟨xs', m, act, rfl, hu, l1, l2, l3, hs⟩
  refine ⟨!(xs'.map emb).isEmpty, fun A M P s ok R => (tr_borrow (x := "expected") rfl (apart_of (by simp [Slot.adr, n1, n2, hne, hne.symm])) (tr_val (ev_name rfl) (tv_list (by simp; omega)))) A M P s ok (R.sub hs), fun hb => Ex.sub ?_ hs, fun hb => Ex.sub ?_ hs⟩
  · have hne' : xs' ≠ [] := fun q => by subst q; simp at hb
    obtain ⟨x₀, x, rfl⟩ : ∃ x₀ x, xs' = x₀ ++ [x] := ⟨xs'.dropLast, xs'.getLast hne', (List.dropLast_concat_getLast hne').symm⟩
    have l4 : x₀.length + 1 ≤ 10000 := by simpa using l1
    have l5 : m.length + (x₀.length + 1) ≤ 10000 := by simpa using l3
    refine ex_cons (ex1_pop (x := "expected") (ds := x₀.map emb) (d := emb x) (a := ea) (by simp [List.lookup]) (apart_of (by simp [Slot.adr, n1, n2, hne, hne.symm])) (.inl rfl) (by simp; omega) ?_)
    have hstep : uldR (x :: x₀.reverse) m act = uld xs ys := by rw [← hu]; simp
    refine ex_cons (ex1_try (T := "ValueError") (f := L) rfl rfl hb2 ?_ ?_)
    · intro cls b σ' h; cases h
    · refine ex_cons (ex1_remove emb _ E.ok E.eq (x := "actual") (f := L) (y := x) (ts := act) rfl rfl rfl (apart_of (by simp [Slot.adr, n1, n2, hne, hne.symm])) (ev_name rfl) (Nat.le_trans E.le (by decide)) (by omega) (fun hy => ?_) (fun hy => ?_))
      · refine ex_nil (ex_nil ⟨x₀.length, by simp, x₀, m, act.erase x, rfl, ?_, by omega, Nat.le_trans List.length_erase_le l2, by omega, SubL.sub ⟨rfl, rfl, rfl, trivial⟩⟩)
        rw [← hstep, uldR, if_pos hy]
      · refine ⟨rfl, ex_cons (ex1_append (x := "missing") rfl (apart_of (by simp [Slot.adr, n1, n2, n1.symm, n2.symm, hne, hne.symm])) (ev_name rfl) ?_ (by simp; omega))⟩
        refine ex_nil (ex_nil ⟨x₀.length, by simp, x₀, m ++ [x], act, rfl, ?_, by omega, l2, by simp; omega, SubL.sub ⟨rfl, rfl, ?_, trivial⟩⟩)
        · rw [← hstep, uldR, if_neg hy]
        · rw [List.map_append]; rfl
  · have hnil : xs' = [] := by cases xs' with
      | nil => rfl
      | cons _ _ => simp at hb
    subst hnil
    have hu' : uld xs ys = (m, act) := by rw [← hu]; rfl
    refine ex_nil ?_
    refine ex_freeze (x := "missing") rfl (apart_of (by simp [Slot.adr, n1, n2, n1.symm, n2.symm, hne, hne.symm])) ?_
    refine ex_freeze (x := "actual") rfl (apart_of (by simp [Slot.adr, n1, n2, n1.symm, n2.symm, hne, hne.symm])) ?_
    refine ex_cons (ex1_return (ev_tuple (evl_cons (ev_name rfl) (evl_cons (ev_name rfl) evl_nil)) (by simp)) ?_)
    show Out.rt _ = Out.rt _
    rw [hu']
end Mine
end

section
set_option maxRecDepth 100000
set_option linter.unusedVariables false
set_option linter.unusedSimpArgs false
namespace Mine
open PySem PySem.W PyProof.Rows PySem.Spec PySem.Calls

abbrev qs : Program := PySem.Challenge.pw_oc0092_01
abbrev f_sld : FnRec := fnAt qs 27
def sldSuite : List Stmt := match f_sld.body with
  | [_, _, _, .While _ [.Try _ [.ExceptHandler _ _ suite _] _ _ _] _ _, _] => suite
  | _ => []

def sldRet : List Stmt := f_sld.body.drop 4

def sld : List Int → List Int → List Int × List Int
  | [], ys => ([], ys)
  | x :: xs, [] => (x :: xs, [])
  | x :: xs, y :: ys =>
    if x < y then ((x :: (sld xs (y :: ys)).1), (sld xs (y :: ys)).2)
    else if y < x then ((sld (x :: xs) ys).1, y :: (sld (x :: xs) ys).2)
    else sld xs ys
termination_by xs ys => xs.length + ys.length

def sldSt (xs ys : List Int) (ma ua : Addr) (i j : Nat) (m u : List Int) : St :=
  [("i", .dat (.int i)), ("j", .dat (.int j)), ("expected", .dat (dI xs)), ("actual", .dat (dI ys)), ("missing", .own ma (m.map .int)), ("unexpected", .own ua (u.map .int))]

theorem ex1_while_skip {K : Kx} {F : Fm} {σ : St} {test : Expr} {body : List Stmt} {pos : Pos} {outer : List Env} {Φ : Out → Prop} (hF : K.Fs = F.env :: outer) (ht : Tr K F σ test false) (hΦ : Φ (.nx σ)) : Ex1 K F σ (.While test body [] pos) Φ :=
  ex1_while (fun _ σ' => σ' = σ) 0 hF rfl (fun n σi h => by subst h; exact ⟨false, ht, (fun q => by cases q), (fun _ => ex_nil hΦ)⟩)
theorem b_of {K : Kx} {F : Fm} {σ : St} {e : Expr} {b c : Bool} (h : b = c) (t : Tr K F σ e b) : Tr K F σ e c := h ▸ t
theorem nat_succ_int (i : Nat) : ((i : Int) + 1) = ((i + 1 : Nat) : Int) := by omega

theorem fn_sld {K : Kx} (hm : f_sld ∈ K.T.fns) (hb : (("IndexError" : Str), Value.type "IndexError") ∈ K.T.bl) (xs ys : List Int) (hx : xs.Pairwise (· < ·)) (hy : ys.Pairwise (· < ·)) (lx : xs.length ≤ 1000) (ly : ys.length ≤ 1000) :
    Fn K 5 f_sld [dI xs, dI ys] (.tuple [dI (sld xs ys).1, dI (sld xs ys).2]) := by
  refine fn_intro ["expected", "actual"] [] hm (bind2 _ _ _ _ rfl fun _ _ _ _ _ => rfl) rfl rfl rfl (by decide) (by decide) (by simp) fun Fs L a code => ?_
  refine ex_cons (ex1_assign2 ev_int (as_name (.inl rfl)) (as_name (.inl rfl)) ?_)
  refine ex_cons (ex1_own (evn_list evl_nil) (.inl rfl) fun ma hma => ?_)
  refine ex_cons (ex1_own (evn_list evl_nil) (.inl rfl) fun ua hua => ?_)
  have hne : ua ≠ ma := fun q => hua "missing" _ rfl (by rw [q]; rfl)
  have hlen : ∀ zs : List Int, zs.length ≤ 1000 → (zs.map PyData.int).length ≤ 1000000 := fun zs h => by simp; omega
  have hsuite : ∀ (Φ : Out → Prop) (i j : Nat) (m u : List Int), m.length ≤ 1000 → u.length ≤ 1000 → (∀ σ'', Sub [("missing", .own ma ((m ++ xs.drop i).map .int)), ("unexpected", .own ua ((u ++ ys.drop j).map .int))] σ'' → Φ (.br σ'')) →
      Ex (Kx.calm { K with n := 4, c := true, Fs := fenv f_sld L a code :: Fs }) ⟨fenv f_sld L a code, []⟩ (sldSt xs ys ma ua i j m u) sldSuite Φ := by
    intro Φ i j m u lm lu hΦ
    refine ex_cons (ex1_extend (x := "missing") (a := ma) (ds := m.map .int) rfl (apart_of (by simp [sldSt, Slot.adr, hne, hne.symm])) (evn_from (ev_name (d := dI xs) rfl) (ev_name (d := .int i) rfl) (hlen xs lx)) ?_ (by simp; omega))
    refine ex_cons (ex1_extend (x := "unexpected") (a := ua) (ds := u.map .int) rfl (apart_of (by simp [sldSt, Slot.adr, hne, hne.symm])) (evn_from (ev_name (d := dI ys) rfl) (ev_name (d := .int j) rfl) (hlen ys ly)) ?_ (by simp; omega))
    refine ex_cons (ex1_break (hΦ _ (SubL.sub ⟨?_, ?_, trivial⟩)))
    · simp [List.lookup, List.map_append, List.map_drop]
      rfl
    · simp [List.lookup, List.map_append, List.map_drop]
  have hret : ∀ (m u : List Int) (σ'' : St), sld xs ys = (m, u) → Sub [("missing", .own ma (m.map .int)), ("unexpected", .own ua (u.map .int))] σ'' →
      Ex { K with n := 4, c := true, Fs := fenv f_sld L a code :: Fs } ⟨fenv f_sld L a code, []⟩ σ'' sldRet (fun o => o = .rt (.tuple [dI (sld xs ys).1, dI (sld xs ys).2])) := by
    intro m u σ'' hr hs
    refine Ex.sub ?_ hs
    refine ex_freeze (x := "missing") rfl (apart_of (by simp [Slot.adr, hne, hne.symm])) ?_
    refine ex_freeze (x := "unexpected") rfl (apart_of (by simp [Slot.adr, hne, hne.symm])) ?_
    refine ex_cons (ex1_return (ev_tuple (evl_cons (ev_name rfl) (evl_cons (ev_name rfl) evl_nil)) (by simp)) ?_)
    show Out.rt _ = Out.rt _
    rw [hr]; rfl
  refine ex_cons (ex1_while (fun n σ' => ∃ (i j : Nat) (m u : List Int), n = (xs.length - i) + (ys.length - j) ∧ i ≤ xs.length ∧ j ≤ ys.length ∧ m.length ≤ i ∧ u.length ≤ j ∧ sld xs ys = (m ++ (sld (xs.drop i) (ys.drop j)).1, u ++ (sld (xs.drop i) (ys.drop j)).2) ∧ Sub (sldSt xs ys ma ua i j m u) σ')
    (xs.length + ys.length) rfl ⟨0, 0, [], [], by omega, by omega, by omega, by simp, by simp, by simp, SubL.sub ⟨rfl, rfl, rfl, rfl, rfl, rfl, trivial⟩⟩ ?_)
  rintro n σi ⟨i, j, m, u, rfl, hi, hj, lm, lu, hr, hs⟩
  refine ⟨true, tr_val ev_bool tv_bool, fun _ => Ex.sub ?_ hs, fun h => by cases h⟩
  refine ex_cons (ex1_try (T := "IndexError") (f := L) rfl rfl hb (by intro cls b σ' h; cases h) ?_)
  have e30 : ((1000 : Nat) : Int) < 2 ^ 63 := by decide
  by_cases hi' : i < xs.length
  · have ex : xs[i]? = some xs[i] := List.getElem?_eq_getElem hi'
    have dx : xs.drop i = xs[i] :: xs.drop (i + 1) := List.drop_eq_getElem_cons hi'
    have exd : (xs.map PyData.int)[(i : Int).toNat]? = some (.int xs[i]) := by simp [hi']
    refine ex_cons (ex1_assign (ev_sub (ev_name (d := dI xs) rfl) (ev_name (d := .int i) rfl) (su_list (by omega) (by omega) exd)) (as_name (.inl rfl)) ?_)
    by_cases hj' : j < ys.length
    · have ey : ys[j]? = some ys[j] := List.getElem?_eq_getElem hj'
      have dy : ys.drop j = ys[j] :: ys.drop (j + 1) := List.drop_eq_getElem_cons hj'
      have eyd : (ys.map PyData.int)[(j : Int).toNat]? = some (.int ys[j]) := by simp [hj']
      have nx : ∀ h : i + 1 < xs.length, (xs[i + 1] == xs[i]) = false := fun h => by
        have := List.pairwise_iff_getElem.mp hx i (i + 1) hi' h (by omega)
        simp; omega
      have ny : ∀ h : j + 1 < ys.length, (ys[j + 1] == ys[j]) = false := fun h => by
        have := List.pairwise_iff_getElem.mp hy j (j + 1) hj' h (by omega)
        simp; omega
      have exd' : ∀ h : i + 1 < xs.length, (xs.map PyData.int)[((i : Int) + 1).toNat]? = some (.int xs[i + 1]) := fun h => by
        rw [nat_succ_int, Int.toNat_natCast]; simp [h]
      have eyd' : ∀ h : j + 1 < ys.length, (ys.map PyData.int)[((j : Int) + 1).toNat]? = some (.int ys[j + 1]) := fun h => by
        rw [nat_succ_int, Int.toNat_natCast]; simp [h]
      refine ex_cons (ex1_assign (ev_sub (ev_name (d := dI ys) rfl) (ev_name (d := .int j) rfl) (su_list (by omega) (by omega) eyd)) (as_name (.inl rfl)) ?_)
      refine ex_cons (ex1_if (tr_cmp (ev_name rfl) (ev_name rfl) co_int_lt) (fun hlt => ?_) fun hnlt => ?_)
      · have hlt' : xs[i] < ys[j] := of_decide_eq_true hlt
        have hr' : sld xs ys = ((m ++ [xs[i]]) ++ (sld (xs.drop (i + 1)) (ys.drop j)).1, u ++ (sld (xs.drop (i + 1)) (ys.drop j)).2) := by
          rw [hr, dx, dy, sld, if_pos hlt']; simp
        refine ex_cons (ex1_append (x := "missing") (a := ma) (ds := m.map .int) rfl (apart_of (by simp [sldSt, Slot.adr, hne, hne.symm])) (ev_name rfl) ?_ (by simp; omega))
        refine ex_cons (ex1_aug (x := "i") (a := i) rfl ev_int rfl (.inl rfl) ?_)
        by_cases hi2 : i + 1 < xs.length
        · refine ex_cons (ex1_while_skip rfl (b_of (nx hi2) (tr_cmp (ev_sub (ev_name (d := dI xs) rfl) (ev_name rfl) (su_list (by omega) (by omega) (exd' hi2))) (ev_name rfl) co_int_eq)) ?_)
          refine ex_nil (ex_nil (ex_nil ⟨(xs.length - (i + 1)) + (ys.length - j), by omega, i + 1, j, m ++ [xs[i]], u, rfl, by omega, hj, by simp; omega, lu, hr', SubL.sub ⟨rfl, rfl, rfl, rfl, ?_, rfl, trivial⟩⟩))
          rw [List.map_append]; rfl
        · refine ex_cons (Ex1H.ex1 rfl (ex1h_while_out rfl (evout_idx (f := L) rfl (ev_name (d := dI xs) rfl) (ev_name rfl) (by simp; omega) (by omega)) ?_))
          refine ⟨rfl, (hsuite _ (i + 1) j (m ++ [xs[i]]) u (by simp; omega) (by omega) fun σ'' h2 => ?_).sub (SubL.sub ⟨rfl, rfl, rfl, rfl, ?_, rfl, trivial⟩)⟩
          · refine hret _ _ σ'' ?_ h2
            rw [hr', List.drop_eq_nil_of_le (by omega : xs.length ≤ i + 1), sld]
          · rw [List.map_append]; rfl
      · have hnlt' : ¬ xs[i] < ys[j] := of_decide_eq_false hnlt
        refine ex_cons (ex1_if (tr_cmp (ev_name rfl) (ev_name rfl) co_int_gt) (fun hgt => ?_) fun hngt => ?_)
        · have hgt' : ys[j] < xs[i] := of_decide_eq_true hgt
          have hr' : sld xs ys = (m ++ (sld (xs.drop i) (ys.drop (j + 1))).1, (u ++ [ys[j]]) ++ (sld (xs.drop i) (ys.drop (j + 1))).2) := by
            rw [hr, dx, dy, sld, if_neg hnlt', if_pos hgt']; simp
          refine ex_cons (ex1_append (x := "unexpected") (a := ua) (ds := u.map .int) rfl (apart_of (by simp [sldSt, Slot.adr, hne, hne.symm])) (ev_name rfl) ?_ (by simp; omega))
          refine ex_cons (ex1_aug (x := "j") (a := j) rfl ev_int rfl (.inl rfl) ?_)
          by_cases hj2 : j + 1 < ys.length
          · refine ex_cons (ex1_while_skip rfl (b_of (ny hj2) (tr_cmp (ev_sub (ev_name (d := dI ys) rfl) (ev_name rfl) (su_list (by omega) (by omega) (eyd' hj2))) (ev_name rfl) co_int_eq)) ?_)
            refine ex_nil (ex_nil (ex_nil (ex_nil ⟨(xs.length - i) + (ys.length - (j + 1)), by omega, i, j + 1, m, u ++ [ys[j]], rfl, hi, by omega, lm, by simp; omega, hr', SubL.sub ⟨rfl, rfl, rfl, rfl, rfl, ?_, trivial⟩⟩)))
            rw [List.map_append]; rfl
          · refine ex_cons (Ex1H.ex1 rfl (ex1h_while_out rfl (evout_idx (f := L) rfl (ev_name (d := dI ys) rfl) (ev_name rfl) (by simp; omega) (by omega)) ?_))
            refine ⟨rfl, (hsuite _ i (j + 1) m (u ++ [ys[j]]) (by omega) (by simp; omega) fun σ'' h2 => ?_).sub (SubL.sub ⟨rfl, rfl, rfl, rfl, rfl, ?_, trivial⟩)⟩
            · refine hret _ _ σ'' ?_ h2
              rw [hr', List.drop_eq_nil_of_le (by omega : ys.length ≤ j + 1), dx, sld]
            · rw [List.map_append]; rfl
        · have hngt' : ¬ ys[j] < xs[i] := of_decide_eq_false hngt
          have hr' : sld xs ys = (m ++ (sld (xs.drop (i + 1)) (ys.drop (j + 1))).1, u ++ (sld (xs.drop (i + 1)) (ys.drop (j + 1))).2) := by
            rw [hr, dx, dy, sld, if_neg hnlt', if_neg hngt']
          refine ex_cons (ex1_aug (x := "i") (a := i) rfl ev_int rfl (.inl rfl) ?_)
          refine ex_cons (ex1_finally (f := L) rfl rfl rfl ?_)
          have hend : sld xs ys = (m ++ xs.drop (i + 1), u ++ ys.drop (j + 1)) ∨ (i + 1 < xs.length ∧ j + 1 < ys.length) := by
            by_cases h1 : i + 1 < xs.length
            · by_cases h2 : j + 1 < ys.length
              · exact .inr ⟨h1, h2⟩
              · refine .inl ?_
                rw [hr', List.drop_eq_nil_of_le (by omega : ys.length ≤ j + 1), List.drop_eq_getElem_cons h1, sld]
            · refine .inl ?_
              rw [hr', List.drop_eq_nil_of_le (by omega : xs.length ≤ i + 1), sld]
          by_cases hi2 : i + 1 < xs.length
          · refine ex_cons (ex1_while_skip rfl (b_of (nx hi2) (tr_cmp (ev_sub (ev_name (d := dI xs) rfl) (ev_name rfl) (su_list (by omega) (by omega) (exd' hi2))) (ev_name rfl) co_int_eq)) ?_)
            refine ex_nil (exh_cons (Ex1.h (ex1_aug (x := "j") (a := j) rfl ev_int rfl (.inl rfl) (exh_cons ?_))))
            by_cases hj2 : j + 1 < ys.length
            · refine Ex1.h (ex1_while_skip rfl (b_of (ny hj2) (tr_cmp (ev_sub (ev_name (d := dI ys) rfl) (ev_name rfl) (su_list (by omega) (by omega) (eyd' hj2))) (ev_name rfl) co_int_eq)) (exh_nil ?_))
              exact ex_nil (ex_nil (ex_nil (ex_nil ⟨(xs.length - (i + 1)) + (ys.length - (j + 1)), by omega, i + 1, j + 1, m, u, rfl, by omega, by omega, by omega, by omega, hr', SubL.sub ⟨rfl, rfl, rfl, rfl, rfl, rfl, trivial⟩⟩)))
            · refine ex1h_while_out rfl (evout_idx (f := L) rfl (ev_name (d := dI ys) rfl) (ev_name rfl) (by simp; omega) (by omega)) ?_
              exact ⟨rfl, (hsuite _ (i + 1) (j + 1) m u (by omega) (by omega) fun σ'' h2 => hret _ _ σ'' (hend.resolve_right fun q => hj2 q.2) h2).sub (SubL.sub ⟨rfl, rfl, rfl, rfl, rfl, rfl, trivial⟩)⟩
          · refine ex_cons (Ex1H.ex1 rfl (ex1h_while_out rfl (evout_idx (f := L) rfl (ev_name (d := dI xs) rfl) (ev_name rfl) (by simp; omega) (by omega)) ⟨rfl, ?_⟩))
            refine exh_cons (Ex1.h (ex1_aug (x := "j") (a := j) rfl ev_int rfl (.inl rfl) (exh_cons ?_)))
            by_cases hj2 : j + 1 < ys.length
            · refine Ex1.h (ex1_while_skip rfl (b_of (ny hj2) (tr_cmp (ev_sub (ev_name (d := dI ys) rfl) (ev_name rfl) (su_list (by omega) (by omega) (eyd' hj2))) (ev_name rfl) co_int_eq)) (exh_nil ?_))
              exact ⟨rfl, (hsuite _ (i + 1) (j + 1) m u (by omega) (by omega) fun σ'' h2 => hret _ _ σ'' (hend.resolve_right fun q => hi2 q.1) h2).sub (SubL.sub ⟨rfl, rfl, rfl, rfl, rfl, rfl, trivial⟩)⟩
            · refine ex1h_while_out rfl (evout_idx (f := L) rfl (ev_name (d := dI ys) rfl) (ev_name rfl) (by simp; omega) (by omega)) ?_
              exact ⟨rfl, (hsuite _ (i + 1) (j + 1) m u (by omega) (by omega) fun σ'' h2 => hret _ _ σ'' (hend.resolve_right fun q => hi2 q.1) h2).sub (SubL.sub ⟨rfl, rfl, rfl, rfl, rfl, rfl, trivial⟩)⟩
    · have hjj : j = ys.length := by omega
      refine ex_cons (Ex1H.ex1 rfl (ex1h_assign_out (evout_idx (f := L) rfl (ev_name (d := dI ys) rfl) (ev_name (d := .int j) rfl) (by simp; omega) (by omega)) ?_))
      refine ⟨rfl, (hsuite _ i j m u (by omega) (by omega) fun σ'' h2 => ?_).sub (SubL.sub ⟨rfl, rfl, rfl, rfl, rfl, rfl, trivial⟩)⟩
      refine hret _ _ σ'' ?_ h2
      rw [hr, hjj, List.drop_length, dx, sld]
  · have hii : i = xs.length := by omega
    refine ex_cons (Ex1H.ex1 rfl (ex1h_assign_out (evout_idx (f := L) rfl (ev_name (d := dI xs) rfl) (ev_name (d := .int i) rfl) (by simp; omega) (by omega)) ?_))
    refine ⟨rfl, (hsuite _ i j m u (by omega) (by omega) fun σ'' h2 => ?_).sub (Sub.refl _)⟩
    refine hret _ _ σ'' ?_ h2
    rw [hr, hii, List.drop_length, sld]
end Mine
end

section
set_option maxRecDepth 100000
set_option linter.unusedVariables false
set_option linter.unusedSimpArgs false
namespace Mine
open PySem PySem.W PyProof.Rows PySem.Spec PySem.Calls

abbrev f_ifmt : FnRec := fnAt qq 4
abbrev f_filemode : FnRec := fnAt qq 25

def ftab : List (List (Int × Str)) := [[(40960, "l"), (49152, "s"), (32768, "-"), (24576, "b"), (16384, "d"), (8192, "c"), (4096, "p")], [(256, "r")], [(128, "w")], [(2112, "s"), (2048, "S"), (64, "x")],
  [(32, "r")], [(16, "w")], [(1032, "s"), (1024, "S"), (8, "x")], [(4, "r")], [(2, "w")], [(513, "t"), (512, "T"), (1, "x")]]
def frowD (r : List (Int × Str)) : PyData := .tuple (r.map fun p => .tuple [.int p.1, .str p.2])
def ftabD : PyData := .tuple (ftab.map frowD)

def hitF (i : Nat) (mode bit : Int) : Bool := if i = 0 then Builtin.bitAnd mode 61440 == bit else Builtin.bitAnd mode bit == bit
def signOf (mode : Int) (i : Nat) (r : List (Int × Str)) : Str := match r.find? fun p => hitF i mode p.1 with
  | some p => p.2
  | none => if i = 0 then "?" else "-"
def signs (mode : Int) : List Str := (List.range 10).map fun i => signOf mode i (ftab[i]?.getD [])

theorem fn_ifmt {K : Kx} (hm : f_ifmt ∈ K.T.fns) (mode : Int) : Fn K 3 f_ifmt [.int mode] (.int (Builtin.bitAnd mode 61440)) := by
  refine fn_intro ["mode"] [] hm (bind1 _ _ _ rfl fun _ _ _ _ => rfl) rfl rfl rfl (by decide) (by decide) (by simp) fun Fs L a code => ?_
  exact ex_cons (ex1_return (ev_bin (ev_name rfl) ev_int bo_and) rfl)

theorem signOf_len (mode : Int) (i : Nat) (hi : i < 10) : (signOf mode i (ftab[i]?.getD [])).length = 1 := by
  unfold signOf
  split
  · rename_i p hp
    have hm := List.mem_of_find?_eq_some hp
    have : ∀ i < 10, ∀ p ∈ (ftab[i]?.getD []), (p.2 : Str).length = 1 := by decide
    exact this i hi p hm
  · split <;> rfl

theorem sum_ones (l : List Str) (h : ∀ x ∈ l, x.length = 1) : (l.map (·.length)).sum = l.length := by
  induction l with
  | nil => rfl
  | cons a r ih =>
    simp only [List.map_cons, List.sum_cons, List.length_cons]
    rw [h a (by simp), ih fun x hx => h x (by simp [hx])]; omega

theorem fn_filemode {K : Kx} (hm : f_filemode ∈ K.T.fns) (hm2 : f_ifmt ∈ K.T.fns) (hen : (("enumerate" : Str), Value.type "enumerate") ∈ K.T.bl) (hdat : (("_filemode_table" : Str), ftabD) ∈ K.T.dat) (mode : Int) : Fn K 5 f_filemode [.int mode] (.str (Txt.join "" (signs mode))) := by
  refine fn_intro ["mode"] [] hm (bind1 _ _ _ rfl fun _ _ _ _ => rfl) rfl rfl rfl (by decide) (by decide) (by simp) fun Fs L a code => ?_
  refine ex_cons (ex1_own (evn_list evl_nil) (.inl rfl) fun na hna => ?_)
  refine ex_cons (ex1_forE (ds := ftab.map frowD) (fun i σ' => Sub [("mode", .dat (.int mode)), ("perm", .own na (((signs mode).take i).map .str))] σ') rfl rfl hen (ev_gdata hdat) (SubL.sub ⟨rfl, rfl, trivial⟩) (fun i d σi hd hJ => ?_) ?_)
  · rw [List.getElem?_map] at hd
    obtain ⟨r, hr, rfl⟩ := Option.map_eq_some_iff.mp hd
    have hi : i < 10 := (List.getElem?_eq_some_iff.mp hr).1
    have hsg : (signs mode)[i]? = some (signOf mode i r) := by
      simp [signs, hi, hr]
    have htk : (signs mode).take (i + 1) = (signs mode).take i ++ [signOf mode i r] := by rw [List.take_add_one, hsg]; rfl
    have hln : ((signs mode).take i).length ≤ 1000000 := by
      rw [List.length_take]; simp [signs]; omega
    refine ⟨_, (as_tuple2 rfl (as_name (.inl rfl)) (as_name (.inl rfl))).pre hJ, ?_⟩
    have key : ∀ (c : Str) (σ2 : St), Sub [("table", .dat (frowD r)), ("index", .dat (.int i)), ("mode", .dat (.int mode)), ("perm", .own na ((signs mode).take i |>.map .str))] σ2 → True := fun _ _ _ => trivial
    refine ex_cons (ex1_for (ds := r.map fun p => .tuple [.int p.1, .str p.2]) (fun j σ' => Sub [("index", .dat (.int i)), ("mode", .dat (.int mode)), ("perm", .own na (((signs mode).take i).map .str))] σ' ∧ ∀ p ∈ r.take j, hitF i mode p.1 = false) rfl (evi_tuple rfl (ev_name rfl)) ⟨SubL.sub ⟨rfl, rfl, rfl, trivial⟩, by simp⟩ (fun j d σj hd hJ2 => ?_) ?_)
    · rw [List.getElem?_map] at hd
      obtain ⟨p, hp, rfl⟩ := Option.map_eq_some_iff.mp hd
      obtain ⟨hs2, hno⟩ := hJ2
      have hjk : r.take (j + 1) = r.take j ++ [p] := by rw [List.take_add_one, hp]; rfl
      refine ⟨_, (as_tuple2 rfl (as_name (.inl rfl)) (as_name (.inl rfl))).pre hs2, ?_⟩
      have hap : Apart ("perm" : Str) na [("char", .dat (.str p.2)), ("bit", .dat (.int p.1)), ("index", .dat (.int i)), ("mode", .dat (.int mode)), ("perm", .own na (((signs mode).take i).map .str))] := apart_of (by simp [Slot.adr])
      have found : hitF i mode p.1 = true → signOf mode i r = p.2 := fun hh => by
        have : r.find? (fun p => hitF i mode p.1) = some p := by
          rw [List.find?_eq_some_iff_getElem]
          obtain ⟨hj, hpj⟩ := List.getElem?_eq_some_iff.mp hp
          refine ⟨hh, j, hj, hpj, fun k hk => ?_⟩
          have := hno r[k] (by rw [List.mem_take_iff_getElem]; exact ⟨k, by omega, rfl⟩)
          simp [this]
        unfold signOf; rw [this]
      have miss : hitF i mode p.1 = false → ∀ q ∈ r.take (j + 1), hitF i mode q.1 = false := fun hh q hq => by
        rw [hjk] at hq
        rcases List.mem_append.mp hq with x | x
        · exact hno q x
        · rw [List.mem_singleton.mp x]; exact hh
      refine ex_cons (ex1_if (tr_cmp (ev_name rfl) ev_int co_int_eq) (fun hc => ?_) (fun hc => ?_))
      · have h0 : i = 0 := by simpa using hc
        refine ex_cons (ex1_if (tr_cmp (ev_call hm2 rfl (evl_cons (ev_name rfl) evl_nil) rfl (fn_ifmt hm2 mode) (show 3 ≤ 4 by decide)) (ev_name rfl) co_int_eq) (fun hc2 => ?_) (fun hc2 => ?_))
        · refine ex_cons (ex1_append (x := "perm") rfl hap (ev_name rfl) ?_ (by simpa using hln))
          refine ex_cons (ex1_break ?_)
          refine ex_nil (SubL.sub ⟨rfl, ?_, trivial⟩)
          rw [htk, found (by simpa [hitF, h0] using hc2), List.map_append]; rfl
        · refine ex_nil (ex_nil (ex_nil ⟨SubL.sub ⟨rfl, rfl, rfl, trivial⟩, miss (by simpa [hitF, h0] using hc2)⟩))
      · have h0 : i ≠ 0 := by simpa using hc
        refine ex_cons (ex1_if (tr_cmp (ev_bin (ev_name rfl) (ev_name rfl) bo_and) (ev_name rfl) co_int_eq) (fun hc2 => ?_) (fun hc2 => ?_))
        · refine ex_cons (ex1_append (x := "perm") rfl hap (ev_name rfl) ?_ (by simpa using hln))
          refine ex_cons (ex1_break ?_)
          refine ex_nil (SubL.sub ⟨rfl, ?_, trivial⟩)
          rw [htk, found (by simpa [hitF, h0] using hc2), List.map_append]; rfl
        · refine ex_nil (ex_nil (ex_nil ⟨SubL.sub ⟨rfl, rfl, rfl, trivial⟩, miss (by simpa [hitF, h0] using hc2)⟩))
    · rintro σn ⟨hs, hno⟩
      have hno' : r.find? (fun p => hitF i mode p.1) = none := by
        rw [List.find?_eq_none]
        rw [List.length_map, List.take_length] at hno
        intro p hp; simp [hno p hp]
      have hap : Apart ("perm" : Str) na [("index", .dat (.int i)), ("mode", .dat (.int mode)), ("perm", .own na (((signs mode).take i).map .str))] := apart_of (by simp [Slot.adr])
      refine Ex.sub ?_ hs
      refine ex_cons (ex1_if (tr_cmp (ev_name rfl) ev_int co_int_eq) (fun hc => ?_) (fun hc => ?_))
      · have h0 : i = 0 := by simpa using hc
        refine ex_cons (ex1_append (x := "perm") rfl hap ev_str ?_ (by simpa using hln))
        refine ex_nil (ex_nil (ex_nil (SubL.sub ⟨rfl, ?_, trivial⟩)))
        rw [htk, List.map_append]; unfold signOf; rw [hno', if_pos h0]; rfl
      · have h0 : i ≠ 0 := by simpa using hc
        refine ex_cons (ex1_append (x := "perm") rfl hap ev_str ?_ (by simpa using hln))
        refine ex_nil (ex_nil (ex_nil (SubL.sub ⟨rfl, ?_, trivial⟩)))
        rw [htk, List.map_append]; unfold signOf; rw [hno', if_neg h0]; rfl
  · intro σn hs
    refine ex_nil ?_
    refine Ex.sub ?_ hs
    have hall : (signs mode).take (ftab.map frowD).length = signs mode := by
      rw [List.take_of_length_le]; simp [signs, ftab]
    rw [hall]
    refine ex_freeze (x := "perm") rfl (apart_of (by simp [Slot.adr])) (ex_cons (ex1_return (ev_join (ev_name rfl) ?_) rfl))
    rw [sum_ones _ (fun x hx => by
      obtain ⟨i, hi, rfl⟩ := List.mem_map.mp hx
      exact signOf_len mode i (List.mem_range.mp hi))]
    have hl : (signs mode).length = 10 := by simp [signs]
    rw [hl]; decide
end Mine
end

section
set_option maxRecDepth 100000
set_option linter.unusedVariables false
set_option linter.unusedSimpArgs false
namespace Mine
open PySem PySem.W PyProof.Rows PySem.Spec PySem.Calls

/-- a list of naturals as data -/
def iN (l : List Nat) : List PyData := l.map fun (k : Nat) => .int (k : Int)
theorem iN_length (l : List Nat) : (iN l).length = l.length := by simp [iN]
theorem iN_get (l : List Nat) (i : Nat) : (iN l)[i]? = l[i]?.map fun (k : Nat) => PyData.int (k : Int) := by simp [iN]
theorem getD_get (l : List Nat) (i : Nat) (h : i < l.length) : l.getD i 0 = l[i] := by simp [List.getD, h]

abbrev f_rights : FnRec := fnAt qq 30
abbrev f_mode : FnRec := fnAt qq 31
abbrev f_shown : FnRec := fnAt qq 32
abbrev f_row : FnRec := fnAt qq 33
abbrev f_set : FnRec := fnAt qq 34
abbrev f_lowered : FnRec := fnAt qq 35
abbrev f_cleared : FnRec := fnAt qq 36
abbrev f_law : FnRec := fnAt qq 37

/-! ### _law_rights -/
def rgo (n : Nat) : Nat → List Nat × Nat × List Nat
  | 0 => (List.range 12, n, [])
  | i + 1 => ((rgo n i).1.take ((rgo n i).2.1 % (12 - i)) ++ (rgo n i).1.drop ((rgo n i).2.1 % (12 - i) + 1), (rgo n i).2.1 / (12 - i), (rgo n i).2.2 ++ [(rgo n i).1.getD ((rgo n i).2.1 % (12 - i)) 0])
def rights (n : Nat) : List Nat := (rgo n 4).2.2

theorem rgo_inv (n : Nat) : ∀ i, i ≤ 4 → (rgo n i).1.length = 12 - i ∧ (rgo n i).2.2.length = i ∧ ((rgo n i).2.2 ++ (rgo n i).1).Perm (List.range 12)
  | 0, _ => ⟨rfl, rfl, .refl _⟩
  | i + 1, h => by
    obtain ⟨h1, h2, h3⟩ := rgo_inv n i (by omega)
    have hp : (rgo n i).2.1 % (12 - i) < (rgo n i).1.length := by rw [h1]; exact Nat.mod_lt _ (by omega)
    refine ⟨?_, ?_, ?_⟩
    · show (List.take _ _ ++ List.drop _ _).length = _
      rw [List.length_append, List.length_take, List.length_drop]; omega
    · show (_ ++ [_]).length = _
      rw [List.length_append, h2]; rfl
    · refine .trans ?_ h3
      show ((_ ++ [_]) ++ (_ ++ _)).Perm _
      rw [List.append_assoc]
      refine List.Perm.append_left _ ?_
      have : (rgo n i).1 = (rgo n i).1.take ((rgo n i).2.1 % (12 - i)) ++ (rgo n i).1.getD ((rgo n i).2.1 % (12 - i)) 0 :: (rgo n i).1.drop ((rgo n i).2.1 % (12 - i) + 1) := by
        rw [getD_get _ _ hp, List.getElem_cons_drop, List.take_append_drop]
      conv => rhs; rw [this]
      exact (List.perm_middle (l₁ := (rgo n i).1.take ((rgo n i).2.1 % (12 - i)))).symm
theorem rights_length (n : Nat) : (rights n).length = 4 := (rgo_inv n 4 (by omega)).2.1
theorem rights_nodup (n : Nat) : (rights n).Nodup := by
  have h := (rgo_inv n 4 (by omega)).2.2
  have := h.nodup_iff.mpr List.nodup_range
  exact (List.nodup_append.mp this).1
theorem rights_lt (n : Nat) : ∀ r ∈ rights n, r < 12 := fun r hr => by
  have h := (rgo_inv n 4 (by omega)).2.2
  have := h.mem_iff.mp (List.mem_append_left _ hr)
  exact List.mem_range.mp this

theorem fn_rights {K : Kx} (hm : f_rights ∈ K.T.fns) (hr : (("range" : Str), Value.type "range") ∈ K.T.bl) (hl : (("list" : Str), Value.type "list") ∈ K.T.bl) (n : Nat) : Fn K 3 f_rights [.int n] (.list (iN (rights n))) := by
  refine fn_intro ["n"] [] hm (bind1 _ _ _ rfl fun _ _ _ _ => rfl) rfl rfl rfl (by decide) (by decide) (by simp) fun Fs L a code => ?_
  refine ex_cons (ex1_assign (EvN.ev (evn_listrange rfl hl (evr1 hr ev_int) (by decide +kernel) (n := 12) (by decide +kernel) (by decide))) (as_name (.inl rfl)) ?_)
  refine ex_cons (ex1_own (evn_list evl_nil) (.inl rfl) fun na hna => ?_)
  refine ex_cons (ex1_forS (ds := rng 12 (-1) 4) (fun i => [("n", .dat (.int (rgo n i).2.1)), ("pool", .dat (.list (iN (rgo n i).1))), ("rights", .own na (iN (rgo n i).2.2))]) rfl (evi_range rfl (evr3 hr ev_int ev_int (ev_neg ev_int) (by decide) (by decide +kernel)) (by decide +kernel) (by decide +kernel)) ⟨rfl, rfl, rfl, trivial⟩ (fun i d hd => ⟨_, as_name (.inl rfl), ?_⟩) ?_)
  · have hi : i < 4 := by
      have := (List.getElem?_eq_some_iff.mp hd).1
      rwa [rng_length] at this
    rw [rng_get hi] at hd
    cases hd
    obtain ⟨h1, h2, h3⟩ := rgo_inv n i (by omega)
    have hsz : (12 + (i : Int) * -1) = ((12 - i : Nat) : Int) := by omega
    rw [hsz]
    have hpos : 0 < 12 - i := by omega
    have hmod : ((rgo n i).2.1 : Int).fmod ((12 - i : Nat) : Int) = (((rgo n i).2.1 % (12 - i) : Nat) : Int) := by
      rw [Int.fmod_eq_emod_of_nonneg _ (by omega)]; rfl
    have hdiv : ((rgo n i).2.1 : Int).fdiv ((12 - i : Nat) : Int) = (((rgo n i).2.1 / (12 - i) : Nat) : Int) := by
      rw [Int.fdiv_eq_ediv_of_nonneg _ (by omega)]; rfl
    have hp : (rgo n i).2.1 % (12 - i) < (rgo n i).1.length := by rw [h1]; exact Nat.mod_lt _ (by omega)
    refine ex_cons (ex1_assign (ev_bin (ev_name rfl) (ev_name rfl) (bo_mod (by omega))) (as_name (.inl rfl)) ?_)
    rw [hmod]
    refine ex_cons (ex1_append (x := "rights") rfl (apart_of (by simp [Slot.adr])) (ev_sub (d := .int ((rgo n i).1.getD ((rgo n i).2.1 % (12 - i)) 0 : Nat)) (ev_name rfl) (ev_name rfl) (su_list (by omega) (by omega) ?_)) ?_ (by rw [iN_length, h2]; omega))
    · rw [iN_get, Int.toNat_natCast, getD_get _ _ hp, List.getElem?_eq_getElem hp]; rfl
    refine ex_cons (ex1_assign (EvN.ev (evn_cat (EvN.ev (evn_upto (ev_name rfl) (ev_name rfl) ?_)) (EvN.ev (evn_from (l := (rgo n i).2.1 % (12 - i) + 1) (ev_name rfl) (ev_bin (ev_name rfl) ev_int bo_add) ?_)) ?_)) (as_name (.inl rfl)) ?_)
    · rw [iN_length, h1]; omega
    · rw [iN_length, h1]; omega
    · rw [List.length_take, List.length_drop, iN_length, h1]; omega
    refine ex_cons (ex1_assign (ev_bin (ev_name rfl) (ev_name rfl) (bo_div (by omega) (by omega))) (as_name (.inl rfl)) ?_)
    rw [hdiv]
    refine ex_nil ⟨rfl, ?_, ?_, trivial⟩
    · show _ = some (Slot.dat (.list (iN (_ ++ _))))
      simp only [iN, List.map_append, List.map_take, List.map_drop]; rfl
    · show _ = some (Slot.own na (iN (_ ++ [_])))
      simp only [iN, List.map_append]; rfl
  · refine ex_nil ?_
    rw [rng_length]
    exact ex_freeze (x := "rights") rfl (apart_of (by simp [Slot.adr])) (ex_cons (ex1_return (ev_name rfl) rfl))
end Mine
end

section
set_option maxRecDepth 100000
set_option linter.unusedVariables false
set_option linter.unusedSimpArgs false
namespace Mine
open PySem PySem.W PyProof.Rows PySem.Spec PySem.Calls

/-! ### _law_mode -/
def mgo (x : Nat) (rs : List Nat) : Nat → Nat
  | 0 => x / 16
  | i + 1 => mgo x rs i - (mgo x rs i / 2 ^ rs.getD i 0 % 2) * 2 ^ rs.getD i 0 + (x / 2 ^ i % 2) * 2 ^ rs.getD i 0

theorem bit_le (m r : Nat) : (m / 2 ^ r % 2) * 2 ^ r ≤ m := by
  have h1 : m / 2 ^ r % 2 ≤ m / 2 ^ r := Nat.mod_le _ _
  exact Nat.le_trans (Nat.mul_le_mul_right _ h1) (Nat.div_mul_le_self _ _)

theorem pow_cast (r : Nat) : ((2 : Int) ^ ((r : Int)).toNat) = ((2 ^ r : Nat) : Int) := by
  rw [Int.toNat_natCast]; exact (Int.natCast_pow 2 r).symm
theorem fdiv_cast (m n : Nat) : (m : Int).fdiv (n : Int) = ((m / n : Nat) : Int) := by
  rw [Int.fdiv_eq_ediv_of_nonneg _ (by omega)]; rfl
theorem fmod_cast (m n : Nat) : (m : Int).fmod (n : Int) = ((m % n : Nat) : Int) := by
  rw [Int.fmod_eq_emod_of_nonneg _ (by omega)]; rfl
theorem pow_lt (r : Nat) (h : r < 12) : 2 ^ r < 4096 := Nat.pow_lt_pow_right (by decide) h

theorem bits_small (n : Nat) (h : n < 2 ^ 60) : Builtin.Int.intBits (n : Int) ≤ 64 := by
  unfold Builtin.Int.intBits
  split
  · omega
  · rename_i h0
    have hn : n ≠ 0 := fun q => h0 (by rw [q]; rfl)
    have : n.log2 < 60 := (Nat.log2_lt hn).mpr h
    show n.log2 + 1 ≤ 64
    omega
theorem fn_mode {K : Kx} (hm : f_mode ∈ K.T.fns) (hr : (("range" : Str), Value.type "range") ∈ K.T.bl) (x : Nat) (rs : List Nat) (h4 : rs.length = 4) (h12 : ∀ r ∈ rs, r < 12) : Fn K 3 f_mode [.int x, .list (iN rs)] (.int (mgo x rs 4 : Nat)) := by
  refine fn_intro ["x", "rights"] [] hm (bind2 _ _ _ _ rfl fun _ _ _ _ _ => rfl) rfl rfl rfl (by decide) (by decide) (by simp) fun Fs L a code => ?_
  refine ex_cons (ex1_assign (ev_bin (ev_name rfl) ev_int (bo_div (by decide) (by decide))) (as_name (.inl rfl)) ?_)
  rw [show (x : Int).fdiv 16 = ((x / 16 : Nat) : Int) from fdiv_cast x 16]
  refine ex_cons (ex1_forS (ds := rng 0 1 4) (fun i => [("x", .dat (.int x)), ("rights", .dat (.list (iN rs))), ("mode", .dat (.int (mgo x rs i : Nat)))]) rfl (evi_range rfl (evr1 hr ev_int) (by decide +kernel) (by decide +kernel)) ⟨rfl, rfl, rfl, trivial⟩ (fun i d hd => ⟨_, as_name (.inl rfl), ?_⟩) ?_)
  · have hi : i < 4 := by
      have := (List.getElem?_eq_some_iff.mp hd).1
      rwa [rng_length] at this
    rw [rng_get hi] at hd
    cases hd
    rw [show (0 + (i : Int) * 1) = (i : Int) by omega]
    have hil : i < rs.length := by omega
    have hri : rs.getD i 0 < 12 := by rw [getD_get _ _ hil]; exact h12 _ (List.getElem_mem hil)
    have hp := pow_lt _ hri
    have hp0 : 0 < 2 ^ rs.getD i 0 := Nat.pow_pos (by decide)
    have hq := pow_lt i (by omega)
    have hq0 : 0 < 2 ^ i := Nat.pow_pos (by decide)
    refine ex_cons (ex1_assign (ev_bin ev_int (ev_sub (d := .int (rs.getD i 0 : Nat)) (ev_name rfl) (ev_name rfl) (su_list (by omega) (by omega) ?_)) (bo_pow (by omega) (by omega) (by decide))) (as_name (.inl rfl)) ?_)
    · rw [iN_get, Int.toNat_natCast, getD_get _ _ hil, List.getElem?_eq_getElem hil]; rfl
    rw [pow_cast]
    refine ex_cons (ex1_assign (ev_bin (ev_name rfl) (ev_bin (ev_bin (ev_bin (ev_bin (ev_name rfl) (ev_bin ev_int (ev_name rfl) (bo_pow (by omega) (by omega) (by decide))) (bo_div ?_ ?_)) ev_int (bo_mod (by decide))) (ev_bin (ev_bin (ev_name rfl) (ev_name rfl) (bo_div (by omega) (by omega))) ev_int (bo_mod (by decide))) bo_sub) (ev_name rfl) (bo_mul ?_)) bo_add) (as_name (.inl rfl)) ?_)
    · rw [pow_cast]; omega
    · rw [pow_cast]; omega
    · exact .of_right (bits_small _ (by omega))
    · refine ex_nil ⟨rfl, rfl, ?_, trivial⟩
      rw [pow_cast, fdiv_cast, fdiv_cast, show ((x / 2 ^ i : Nat) : Int).fmod 2 = ((x / 2 ^ i % 2 : Nat) : Int) from fmod_cast _ 2, show ((mgo x rs i / 2 ^ rs.getD i 0 : Nat) : Int).fmod 2 = ((mgo x rs i / 2 ^ rs.getD i 0 % 2 : Nat) : Int) from fmod_cast _ 2]
      have e : ((mgo x rs (i + 1) : Nat) : Int) = (mgo x rs i : Int) + (((x / 2 ^ i % 2 : Nat) : Int) - ((mgo x rs i / 2 ^ rs.getD i 0 % 2 : Nat) : Int)) * ((2 ^ rs.getD i 0 : Nat) : Int) := by
        have hle := bit_le (mgo x rs i) (rs.getD i 0)
        show ((mgo x rs i - (mgo x rs i / 2 ^ rs.getD i 0 % 2) * 2 ^ rs.getD i 0 + (x / 2 ^ i % 2) * 2 ^ rs.getD i 0 : Nat) : Int) = _
        rw [Int.natCast_add, Int.ofNat_sub hle, Int.natCast_mul, Int.natCast_mul, Int.sub_mul]
        omega
      rw [e]; rfl
  · refine ex_nil ?_
    rw [rng_length]
    exact ex_cons (ex1_return (ev_name rfl) rfl)
end Mine
end

section
set_option maxRecDepth 100000
set_option linter.unusedVariables false
set_option linter.unusedSimpArgs false
namespace Mine
open PySem PySem.W PyProof.Rows PySem.Spec PySem.Calls

/-! ### _law_shown -/
def charAt (text : Str) (i : Nat) : Str := ⟨#[text.cps.getD i 0]⟩
def shown (text : Str) (r : Nat) : Bool := if 8 < r then chIn "sStT" (charAt text (36 - 3 * r)) else !chIn "-ST" (charAt text (9 - r))

theorem fn_shown {K : Kx} (hm : f_shown ∈ K.T.fns) (text : Str) (r : Nat) (hl : text.length = 10) (h12 : r < 12) : Fn K 3 f_shown [.str text, .int r] (.bool (shown text r)) := by
  have hget : ∀ i, i < 10 → text.cps[i]? = some (text.cps.getD i 0) := fun i hi => by
    have : i < text.cps.size := by rw [show text.cps.size = 10 from hl]; exact hi
    simp [Array.getD, this]
  refine fn_intro ["text", "right"] [] hm (bind2 _ _ _ _ rfl fun _ _ _ _ _ => rfl) rfl rfl rfl (by decide) (by decide) (by simp) fun Fs L a code => ?_
  unfold shown
  refine ex_cons (ex1_if (tr_cmp (ev_name rfl) ev_int co_int_gt) (fun hc => ?_) (fun hc => ?_))
  · have h8 : 8 < r := by have := of_decide_eq_true hc; omega
    rw [if_pos h8]
    refine ex_cons (ex1_return (ev_cmp (ev_sub (d := .str (charAt text (36 - 3 * r))) (ev_name rfl) (ev_bin ev_int (ev_bin ev_int (ev_name rfl) (bo_mul (.of_left (by decide)))) bo_sub) (su_str (by omega) (by omega) ?_)) ev_str co_str_in) rfl)
    rw [show ((36 : Int) - 3 * (r : Int)).toNat = 36 - 3 * r by omega]
    exact hget _ (by omega)
  · have h8 : ¬ 8 < r := by have := of_decide_eq_false hc; omega
    rw [if_neg h8]
    refine ex_nil ?_
    refine ex_cons (ex1_return (ev_cmp (ev_sub (d := .str (charAt text (9 - r))) (ev_name rfl) (ev_bin ev_int (ev_name rfl) bo_sub) (su_str (by omega) (by omega) ?_)) ev_str co_str_notin) rfl)
    rw [show ((9 : Int) - (r : Int)).toNat = 9 - r by omega]
    exact hget _ (by omega)

/-! ### _law_row -/
def textOf (mode : Nat) : Str := Txt.join "" (signs mode)
def rowOut (mode : Nat) (rs : List Nat) (i : Nat) : Option PyData := if shown (textOf mode) (rs.getD i 0) = true then some (.int (i : Int)) else none

theorem textOf_len (mode : Nat) : (textOf mode).length = 10 := by
  have := KT.join_ones (signs mode) (fun x hx => by
      obtain ⟨i, hi, rfl⟩ := List.mem_map.mp hx
      exact signOf_len mode i (List.mem_range.mp hi))
  rw [show (signs (mode : Int)).length = 10 by simp [signs]] at this
  exact this

theorem fn_row {K : Kx} (hm : f_row ∈ K.T.fns) (hm1 : f_filemode ∈ K.T.fns) (hm2 : f_ifmt ∈ K.T.fns) (hm3 : f_shown ∈ K.T.fns) (hen : (("enumerate" : Str), Value.type "enumerate") ∈ K.T.bl) (hdat : (("_filemode_table" : Str), ftabD) ∈ K.T.dat) (hr : (("range" : Str), Value.type "range") ∈ K.T.bl)
    (mode : Nat) (rs : List Nat) (h4 : rs.length = 4) (h12 : ∀ r ∈ rs, r < 12) : Fn K 7 f_row [.int mode, .list (iN rs)] (.list (outsTo (rowOut mode rs) 4)) := by
  refine fn_intro ["mode", "rights"] ["rights", "text"] hm (bind2 _ _ _ _ rfl fun _ _ _ _ _ => rfl) rfl rfl rfl (by decide) (by decide) (by decide) fun Fs L a code => ?_
  refine ex_cons (ex1_assign (ev_call hm1 rfl (evl_cons (ev_name rfl) evl_nil) rfl (fn_filemode hm1 hm2 hen hdat mode) (show 5 ≤ 6 by decide)) (as_name (.inr ⟨rfl, by simp, by decide⟩)) ?_)
  refine ex_cons (ex1_return (EvN.ev (evn_comp (cl := [("text", L + 2), ("rights", L + 1)]) (W' := []) (σc := [("text", .dat (.str (textOf mode))), ("rights", .dat (.list (iN rs)))]) (ds := rng 0 1 4) (rowOut mode rs) (evi_range rfl (evr1 hr ev_int) (by decide +kernel) (by decide +kernel)) (by decide) ⟨rfl, rfl, by decide, by decide⟩ ?_ ?_)) rfl)
  · exact ⟨rfl, rfl, .inl rfl, rfl, .inl rfl, by decide, fun C => rfl, rfl, rfl, .inl rfl, rfl, .inl rfl, by decide, fun C => rfl, trivial⟩
  · intro C i d hd
    have hi : i < 4 := by
      have := (List.getElem?_eq_some_iff.mp hd).1
      rwa [rng_length] at this
    rw [rng_get hi] at hd
    cases hd
    rw [show (0 + (i : Int) * 1) = (i : Int) by omega]
    have hil : i < rs.length := by omega
    have hri : rs.getD i 0 < 12 := by rw [getD_get _ _ hil]; exact h12 _ (List.getElem_mem hil)
    refine turn_if (.inl rfl) ⟨rfl, rfl, trivial⟩ (by simp [Slot.adr]) (tr_val (ev_call hm3 rfl (evl_cons (ev_name rfl) (evl_cons (ev_sub (d := .int (rs.getD i 0 : Nat)) (ev_name rfl) (ev_name rfl) (su_list (by omega) (by omega) ?_)) evl_nil)) rfl (fn_shown hm3 _ _ (textOf_len mode) hri) (show 3 ≤ 6 by decide)) tv_bool) (fun _ => ev_name rfl)
    rw [iN_get, Int.toNat_natCast, getD_get _ _ hil, List.getElem?_eq_getElem hil]; rfl

/-! ### _law_set -/
def setOut (number : Nat) (i : Nat) : Option PyData := if (number / 2 ^ i % 2 == 1) = true then some (.int (i : Int)) else none

theorem fn_set {K : Kx} (hm : f_set ∈ K.T.fns) (hr : (("range" : Str), Value.type "range") ∈ K.T.bl) (number : Nat) : Fn K 3 f_set [.int number] (.list (outsTo (setOut number) 4)) := by
  refine fn_intro ["number"] ["number"] hm (bind1 _ _ _ rfl fun _ _ _ _ => rfl) rfl rfl rfl (by decide) (by decide) (by decide) fun Fs L a code => ?_
  refine ex_cons (ex1_return (EvN.ev (evn_comp (cl := [("number", L + 1)]) (W' := []) (σc := [("number", .dat (.int number))]) (ds := rng 0 1 4) (setOut number) (evi_range rfl (evr1 hr ev_int) (by decide +kernel) (by decide +kernel)) (by decide) ⟨rfl, rfl, by decide, by decide⟩ ?_ ?_)) rfl)
  · exact ⟨rfl, rfl, .inl rfl, rfl, .inl rfl, by decide, fun C => rfl, trivial⟩
  · intro C i d hd
    have hi : i < 4 := by
      have := (List.getElem?_eq_some_iff.mp hd).1
      rwa [rng_length] at this
    rw [rng_get hi] at hd
    cases hd
    rw [show (0 + (i : Int) * 1) = (i : Int) by omega]
    have hq := pow_lt i (by omega)
    have hq0 : 0 < 2 ^ i := Nat.pow_pos (by decide)
    have e : ((number : Int).fdiv (2 ^ ((i : Int)).toNat)).fmod 2 = ((number / 2 ^ i % 2 : Nat) : Int) := by
      rw [pow_cast, fdiv_cast]; exact fmod_cast _ 2
    have e2 : (((number : Int).fdiv (2 ^ ((i : Int)).toNat)).fmod 2 == 1) = (number / 2 ^ i % 2 == 1) := by
      rw [e]; rw [Bool.eq_iff_iff, beq_iff_eq, beq_iff_eq]; omega
    unfold setOut
    rw [← e2]
    refine turn_if (.inl rfl) ⟨rfl, trivial⟩ (by simp [Slot.adr]) (tr_cmp (ev_bin (ev_bin (ev_name rfl) (ev_bin ev_int (ev_name rfl) (bo_pow (by omega) (by omega) (by decide))) (bo_div ?_ ?_)) ev_int (bo_mod (by decide))) ev_int co_int_eq) (fun _ => ev_name rfl)
    · rw [pow_cast]; omega
    · rw [pow_cast]; omega
end Mine
end

section
set_option maxRecDepth 100000
set_option linter.unusedVariables false
set_option linter.unusedSimpArgs false
namespace Mine
open PySem PySem.W PyProof.Rows PySem.Spec PySem.Calls

/-! ### lists of naturals, lists of such lists -/
def dN (l : List Nat) : PyData := .list (iN l)
theorem dN_dI (l : List Nat) : dN l = dI (l.map fun (k : Nat) => (k : Int)) := by simp [dN, dI, iN]
theorem emb_dN : Emb (List Nat) dN 1 := ⟨fun y => by rw [dN_dI]; exact ok_dI _, fun y z => by
  rw [dN_dI, dN_dI, eqv_dI]
  refine decide_eq_decide.mpr ⟨fun h => ?_, fun h => by rw [h]⟩
  exact List.map_inj_right (fun a b h => by omega) |>.mp h, by decide⟩
def dNN (l : List (List Nat)) : PyData := .list (l.map dN)
theorem any_nat (l : List Nat) (k : Nat) : ((iN l).any fun y => PyData.eqv y (.int (k : Int))) = decide (k ∈ l) := by
  have := any_int (l.map fun (k : Nat) => (k : Int)) (k : Int)
  rw [List.map_map] at this
  refine Eq.trans ?_ (this.trans (decide_eq_decide.mpr ?_))
  · rfl
  · constructor
    · intro h; obtain ⟨a, ha, e⟩ := List.mem_map.mp h
      have : a = k := by omega
      rw [← this]; exact ha
    · intro h; exact List.mem_map.mpr ⟨k, h, rfl⟩
theorem all_ok_iN (l : List Nat) : (iN l).all (okn 0) = true := by
  rw [List.all_eq_true]; intro x hx
  obtain ⟨k, _, rfl⟩ := List.mem_map.mp hx
  rfl
theorem all_ok_dN (l : List (List Nat)) : (l.map dN).all (okn 1) = true := by
  rw [List.all_eq_true]; intro x hx
  obtain ⟨k, _, rfl⟩ := List.mem_map.mp hx
  exact emb_dN.ok k

/-! ### _law_lowered -/
def less (row : List Nat) (r : Nat) : List Nat := row.filter fun k => decide (k ≠ r)
def bare (rows : List (List Nat)) (r : Nat) : List (List Nat) := (rows.filter fun row => decide (r ∈ row)).map fun row => less row r
def lowered (rows : List (List Nat)) (r : Nat) : List (List Nat) := rows.filter (fun row => decide (less row r ∉ (uld (bare rows r) rows).1)) ++ (uld (bare rows r) rows).1

theorem ne_beq (k r : Nat) : ((k : Int) != (r : Int)) = decide (k ≠ r) := by
  rw [Bool.eq_iff_iff, bne_iff_ne, decide_eq_true_iff]; omega
theorem iN_less (row : List Nat) (r : Nat) : row.filterMap (fun (k : Nat) => if ((k : Int) != (r : Int)) = true then some (PyData.int (k : Int)) else none) = iN (less row r) := by
  simp only [ne_beq]
  exact filterMap_if row (fun k => decide (k ≠ r)) fun (k : Nat) => PyData.int (k : Int)
theorem uldR_len {α : Type} [DecidableEq α] : ∀ (es m a : List α), (uldR es m a).1.length ≤ m.length + es.length
  | [], m, a => by simp [uldR]
  | e :: es, m, a => by
    unfold uldR
    split
    · have := uldR_len es m (a.erase e); simp; omega
    · have := uldR_len es (m ++ [e]) a; simp at this ⊢; omega
theorem uld_len {α : Type} [DecidableEq α] (xs ys : List α) : (uld xs ys).1.length ≤ xs.length := by
  have := uldR_len xs.reverse [] ys
  simpa [uld] using this
theorem bare_len (rows : List (List Nat)) (r : Nat) : (bare rows r).length ≤ rows.length := by
  unfold bare; rw [List.length_map]; exact List.length_filter_le _ _
theorem slot_none {σ : St} (h : ∀ p ∈ σ, p.2.adr = none) {y : Str} {sl : Slot} {a : Addr} (hy : σ.lookup y = some sl) : sl.adr ≠ some a := by
  have := h _ (mem_of_lookup' hy)
  intro q; rw [q] at this; cases this
theorem fn_lowered {K : Kx} (hm : f_lowered ∈ K.T.fns) (hm1 : f_uld ∈ K.T.fns) (hl : (("list" : Str), Value.type "list") ∈ K.T.bl) (hb2 : (("ValueError" : Str), Value.type "ValueError") ∈ K.T.bl) (rows : List (List Nat)) (r : Nat) (hsz : rows.length ≤ 1000) (hrow : ∀ row ∈ rows, row.length ≤ 1000) :
    Fn K 7 f_lowered [dNN rows, .int r] (dNN (lowered rows r)) := by
  have hb1 := bare_len rows r
  have hb3 := uld_len (bare rows r) rows
  refine fn_intro ["rows", "right"] ["right", "missing"] hm (bind2 _ _ _ _ rfl fun _ _ _ _ _ => rfl) rfl rfl rfl (by decide) (by decide) (by decide) fun Fs L a code => ?_
  refine ex_cons (ex1_compX rows dN (fun row => if decide (r ∈ row) = true then some (dN (less row r)) else none) (cl := [("right", L + 1)]) (W' := []) (σc := [("right", .dat (.int r))]) (evi_list rfl (ev_name rfl)) (by omega) ⟨rfl, rfl, by decide, by decide⟩ ⟨rfl, rfl, .inl rfl, rfl, .inl rfl, by decide, fun C => rfl, trivial⟩ (fun C row hr => ?_) (fun ba hba => ?_))
  · rw [← any_nat]
    refine turn_if (.inl rfl) ⟨rfl, trivial⟩ (by simp [Slot.adr]) (tr_cmp (ev_name rfl) (ev_name rfl) (co_in (n := 0) rfl (all_ok_iN row))) (fun _ => ?_)
    unfold dN
    rw [← iN_less]
    refine EvN.ev (evn_compX row (fun (k : Nat) => PyData.int (k : Int)) _ (cl := [("right", L + 1)]) (W' := []) (σc := [("right", .dat (.int r))]) (evi_list rfl (ev_name rfl)) (Nat.le_trans (hrow row hr) (by decide)) ⟨rfl, rfl, by decide, by decide⟩ ⟨rfl, rfl, .inl rfl, rfl, .inl rfl, by decide, fun C => rfl, trivial⟩ (fun C' k hk => ?_))
    exact turn_if (.inl rfl) ⟨rfl, trivial⟩ (by simp [Slot.adr]) (tr_cmp (ev_name rfl) (ev_name rfl) co_int_ne) (fun _ => ev_name rfl)
  · rw [filterMap_if rows (fun row => decide (r ∈ row)) fun row => dN (less row r)]
    have e : (rows.filter fun row => decide (r ∈ row)).map (fun row => dN (less row r)) = (bare rows r).map dN := by unfold bare; rw [List.map_map]; rfl
    rw [e]
    refine ex_cons (ex1_uld0 (σ' := [("rows", .dat (dNN rows)), ("right", .dat (.int r))]) hm1 rfl rfl (evn_listcall hl (ev_name rfl) (by simp; omega)) rfl (fn_uld emb_dN hm1 hb2 (bare rows r) rows (by omega) (by omega)) (show 5 ≤ 6 by decide) (SubL.sub ⟨rfl, rfl, trivial⟩) (fun y sl hy => ?_) (.inr ⟨rfl, by simp, by decide⟩) ?_)
    · exact slot_none (σ := [("rows", .dat (dNN rows)), ("right", .dat (.int r))]) (by simp [Slot.adr]) hy
    refine ex_cons (ex1_return (EvN.ev (evn_cat (EvN.ev (evn_compX rows dN (fun row => if decide (less row r ∉ (uld (bare rows r) rows).1) = true then some (dN row) else none) (cl := [("right", L + 1), ("missing", L + 2)]) (W' := []) (σc := [("right", .dat (.int r)), ("missing", .dat (dNN (uld (bare rows r) rows).1))]) (evi_list rfl (ev_name rfl)) (by omega) ⟨rfl, rfl, by decide, by decide⟩ ⟨rfl, rfl, .inl rfl, rfl, .inl rfl, by decide, fun C => rfl, rfl, rfl, .inl rfl, rfl, .inl rfl, by decide, fun C => rfl, trivial⟩ (fun C row hr => ?_))) (ev_name rfl) ?_)) ?_)
    · have e1 : decide (less row r ∉ (uld (bare rows r) rows).1) = !(((uld (bare rows r) rows).1.map dN).any fun y => PyData.eqv y (dN (less row r))) := by
        rw [emb_dN.any]; simp
      rw [e1]
      refine turn_if (.inl rfl) ⟨rfl, rfl, trivial⟩ (by simp [Slot.adr]) (tr_cmp ?_ (ev_name rfl) (co_notin (n := 1) (emb_dN.ok _) (all_ok_dN _))) (fun _ => ev_name rfl)
      unfold dN
      rw [← iN_less]
      refine EvN.ev (evn_compX row (fun (k : Nat) => PyData.int (k : Int)) _ (cl := [("right", L + 1)]) (W' := []) (σc := [("right", .dat (.int r))]) (evi_list rfl (ev_name rfl)) (Nat.le_trans (hrow row hr) (by decide)) ⟨rfl, rfl, by decide, by decide⟩ ⟨rfl, rfl, .inl rfl, rfl, .inl rfl, by decide, fun C => rfl, trivial⟩ (fun C' k hk => ?_))
      exact turn_if (.inl rfl) ⟨rfl, trivial⟩ (by simp [Slot.adr]) (tr_cmp (ev_name rfl) (ev_name rfl) co_int_ne) (fun _ => ev_name rfl)
    · have h3 := List.length_filterMap_le (fun row => if decide (less row r ∉ (uld (bare rows r) rows).1) = true then some (dN row) else none) rows
      rw [List.length_map]; omega
    · rw [filterMap_if rows (fun row => decide (less row r ∉ (uld (bare rows r) rows).1)) dN]
      show Out.rt (.list (_ ++ _)) = _
      unfold dNN lowered; rw [List.map_append]
end Mine
end

section
set_option linter.unusedVariables false
set_option linter.unusedSimpArgs false
namespace Mine

/-! ### symmetric differences of sorted lists -/
def symd : List Nat → List Nat → List Nat
  | [], ys => ys
  | x :: xs, [] => x :: xs
  | x :: xs, y :: ys =>
    if x < y then x :: symd xs (y :: ys)
    else if y < x then y :: symd (x :: xs) ys
    else symd xs ys
termination_by xs ys => xs.length + ys.length

theorem symd_nil_left (ys : List Nat) : symd [] ys = ys := by rw [symd]
theorem symd_nil_right (xs : List Nat) : symd xs [] = xs := by cases xs <;> rw [symd]

theorem symd_filter (l : List Nat) (hl : l.Pairwise (· < ·)) (p q : Nat → Bool) : symd (l.filter p) (l.filter q) = l.filter fun j => xor (p j) (q j) := by
  induction l with
  | nil => rw [List.filter_nil, List.filter_nil, symd_nil_left]; rfl
  | cons a l ih =>
    have h1 := List.pairwise_cons.mp hl
    have ih := ih h1.2
    simp only [List.filter_cons]
    cases hp : p a <;> cases hq : q a <;> simp only [Bool.false_eq_true, if_false, if_true, Bool.xor_self, Bool.xor_false, Bool.xor_true, Bool.not_false, Bool.not_true]
    · exact ih
    · rw [← ih]
      cases hf : l.filter p with
      | nil => rw [symd_nil_left, symd_nil_left]
      | cons b r =>
        have hb : a < b := h1.1 b (List.mem_filter.mp (show b ∈ l.filter p by rw [hf]; exact .head _)).1
        rw [symd, if_neg (by omega), if_pos hb]
    · rw [← ih]
      cases hf : l.filter q with
      | nil => rw [symd_nil_right, symd_nil_right]
      | cons b r =>
        have hb : a < b := h1.1 b (List.mem_filter.mp (show b ∈ l.filter q by rw [hf]; exact .head _)).1
        rw [symd, if_pos hb]
    · rw [symd, if_neg (by omega), if_neg (by omega)]; exact ih

theorem symd_sld : ∀ (xs ys : List Nat), ((symd xs ys).map fun (k : Nat) => (k : Int)).Perm ((sld (xs.map fun (k : Nat) => (k : Int)) (ys.map fun (k : Nat) => (k : Int))).1 ++ (sld (xs.map fun (k : Nat) => (k : Int)) (ys.map fun (k : Nat) => (k : Int))).2)
  | [], ys => by rw [symd_nil_left, List.map_nil, sld]; exact .refl _
  | x :: xs, [] => by rw [symd_nil_right, List.map_cons, List.map_nil, sld, List.append_nil]
  | x :: xs, y :: ys => by
    rw [symd, List.map_cons, List.map_cons, sld]
    by_cases h : x < y
    · have hz : (x : Int) < (y : Int) := by omega
      rw [if_pos h, if_pos hz]
      have := symd_sld xs (y :: ys)
      rw [List.map_cons] at this
      exact .cons _ this
    · have hz : ¬ (x : Int) < (y : Int) := by omega
      rw [if_neg h, if_neg hz]
      by_cases h2 : y < x
      · have hz2 : (y : Int) < (x : Int) := by omega
        rw [if_pos h2, if_pos hz2]
        have := symd_sld (x :: xs) ys
        rw [List.map_cons] at this
        exact (List.Perm.cons _ this).trans List.perm_middle.symm
      · have hz2 : ¬ (y : Int) < (x : Int) := by omega
        rw [if_neg h2, if_neg hz2]
        exact symd_sld xs ys
termination_by xs ys => xs.length + ys.length

/-! ### polynomials over the field of two, in the rights -/
def mono (m y : Nat) : Bool := m &&& y == m
def pe (c : Nat → Bool) : Nat → Nat → Bool
  | 0, _ => false
  | m + 1, y => xor (pe c m y) (c m && mono m y)
theorem pe_xor (c d : Nat → Bool) (m y : Nat) : pe (fun i => xor (c i) (d i)) m y = xor (pe c m y) (pe d m y) := by
  induction m with
  | zero => rfl
  | succ m ih =>
    simp only [pe, ih]
    cases pe c m y <;> cases pe d m y <;> cases c m <;> cases d m <;> cases mono m y <;> rfl
theorem pe_congr (c d : Nat → Bool) (m y : Nat) (h : ∀ i, i < m → c i = d i) : pe c m y = pe d m y := by
  induction m with
  | zero => rfl
  | succ m ih => simp only [pe]; rw [ih fun i hi => h i (by omega), h m (by omega)]
theorem pe_zero (m y : Nat) : pe (fun _ => false) m y = false := by
  induction m with
  | zero => rfl
  | succ m ih => simp [pe, ih]

def told (nibs : List Nat) (m : Nat) : Prop := ∃ c, ∀ y ∈ nibs, mono m y = pe c m y

section
variable (nibs : List Nat)
/-- the files of a function of the rights -/
def Vf (g : Nat → Bool) : List Nat := (List.range nibs.length).filter fun j => g (nibs.getD j 0)
theorem range_lt (n : Nat) : (List.range n).Pairwise (· < ·) := List.pairwise_lt_range
theorem Vf_xor (g h : Nat → Bool) : symd (Vf nibs g) (Vf nibs h) = Vf nibs fun y => xor (g y) (h y) := symd_filter _ (range_lt _) _ _
theorem Vf_sorted (g : Nat → Bool) : (Vf nibs g).Pairwise (· < ·) := (range_lt _).sublist List.filter_sublist
theorem Vf_length (g : Nat → Bool) : (Vf nibs g).length ≤ nibs.length := by
  have := List.length_filter_le (fun j => g (nibs.getD j 0)) (List.range nibs.length)
  rwa [List.length_range] at this
theorem Vf_mem (g : Nat → Bool) (j : Nat) : j ∈ Vf nibs g ↔ j < nibs.length ∧ g (nibs.getD j 0) = true := by
  rw [Vf, List.mem_filter, List.mem_range]
theorem Vf_nil (g : Nat → Bool) : Vf nibs g = [] ↔ ∀ y ∈ nibs, g y = false := by
  rw [List.eq_nil_iff_forall_not_mem]
  constructor
  · intro h y hy
    obtain ⟨j, hj, e⟩ := List.getElem_of_mem hy
    have := h j
    rw [Vf_mem] at this
    rw [← e, ← getD_get nibs j hj]
    cases q : g (nibs.getD j 0)
    · rfl
    · exact absurd ⟨hj, q⟩ this
  · intro h j hj
    rw [Vf_mem] at hj
    rw [getD_get nibs j hj.1, h _ (List.getElem_mem hj.1)] at hj
    cases hj.2
theorem Vf_congr (g h : Nat → Bool) (e : ∀ y ∈ nibs, g y = h y) : Vf nibs g = Vf nibs h := by
  unfold Vf
  refine List.filter_congr fun j hj => ?_
  rw [List.mem_range] at hj
  rw [getD_get nibs j hj]; exact e _ (List.getElem_mem hj)

/-- what is known of the cleared lists -/
structure Inv (m : Nat) (cl : Nat → Option (List Nat)) (leads : List Nat) : Prop where
  el : ∀ a f, cl a = some f → ∃ c, f = Vf nibs (pe c m) ∧ f.head? = some a
  full : ∀ c, Vf nibs (pe c m) = [] ∨ ∃ a, (Vf nibs (pe c m)).head? = some a ∧ (cl a).isSome = true
  nd : leads.Nodup
  keys : ∀ a, a ∈ leads ↔ (cl a).isSome = true
end
end Mine
end

section
set_option linter.unusedVariables false
set_option linter.unusedSimpArgs false
namespace Mine

section
variable (nibs : List Nat)
theorem inv_zero : Inv nibs 0 (fun _ => none) [] where
  el := fun a f h => by cases h
  full := fun c => .inl ((Vf_nil nibs _).mpr fun y _ => rfl)
  nd := .nil
  keys := fun a => by simp

variable {nibs}
/-- the head of a difference of lists that begin at the same place lies further on -/
theorem head_up {g h : Nat → Bool} {a b : Nat} (hg : (Vf nibs g).head? = some a) (hh : (Vf nibs h).head? = some a) (hx : (Vf nibs fun y => xor (g y) (h y)).head? = some b) : a < b := by
  have mem : ∀ {k : Nat → Bool} {c : Nat}, (Vf nibs k).head? = some c → c ∈ Vf nibs k ∧ ∀ j ∈ Vf nibs k, c ≤ j := fun {k c} e => by
    have hs := Vf_sorted nibs k
    cases hv : Vf nibs k with
    | nil => rw [hv] at e; cases e
    | cons x r =>
      rw [hv] at e hs; cases e
      refine ⟨.head _, fun j hj => ?_⟩
      rcases List.mem_cons.mp hj with q | q
      · omega
      · exact Nat.le_of_lt ((List.pairwise_cons.mp hs).1 j q)
  obtain ⟨g1, g2⟩ := mem hg
  obtain ⟨h1, h2⟩ := mem hh
  obtain ⟨x1, x2⟩ := mem hx
  rw [Vf_mem] at g1 h1 x1
  have hb : b ∈ Vf nibs g ∨ b ∈ Vf nibs h := by
    rw [Vf_mem, Vf_mem]
    cases q : g (nibs.getD b 0)
    · right; have := x1.2; rw [q] at this; simpa [x1.1] using this
    · left; exact ⟨x1.1, rfl⟩
  have hab : a ≤ b := hb.elim (g2 b) (h2 b)
  rcases Nat.lt_or_ge a b with q | q
  · exact q
  · have : a = b := by omega
    subst this
    have := x1.2; rw [g1.2, h1.2] at this; cases this

/-- where the list cleared at m is empty -/
theorem inv_told {m : Nat} {cl : Nat → Option (List Nat)} {leads : List Nat} (I : Inv nibs m cl leads) {c : Nat → Bool} (h : Vf nibs (fun y => xor (mono m y) (pe c m y)) = []) : Inv nibs (m + 1) cl leads ∧ told nibs m := by
  have hm : ∀ y ∈ nibs, mono m y = pe c m y := fun y hy => by
    have := (Vf_nil nibs _).mp h y hy
    revert this; cases mono m y <;> cases pe c m y <;> simp
  have cut : ∀ (d : Nat → Bool), ∃ d', Vf nibs (pe d' (m + 1)) = Vf nibs (pe d m) := fun d => ⟨fun i => if i < m then d i else false, Vf_congr nibs _ _ fun y hy => by
    simp only [pe]
    rw [pe_congr _ d m y fun i hi => by simp [hi]]; simp⟩
  refine ⟨⟨fun a f e => ?_, fun d => ?_, I.nd, I.keys⟩, c, hm⟩
  · obtain ⟨d, rfl, h2⟩ := I.el a f e
    obtain ⟨d', e'⟩ := cut d
    exact ⟨d', e'.symm, h2⟩
  · have : ∃ d', Vf nibs (pe d (m + 1)) = Vf nibs (pe d' m) := by
      cases hd : d m with
      | false => exact ⟨d, Vf_congr nibs _ _ fun y hy => by simp [pe, hd]⟩
      | true => exact ⟨fun i => xor (d i) (c i), Vf_congr nibs _ _ fun y hy => by rw [pe_xor]; simp [pe, hd, hm y hy]⟩
    obtain ⟨d', e⟩ := this
    rw [e]; exact I.full d'

theorem vf_min {k : Nat → Bool} {c : Nat} (e : (Vf nibs k).head? = some c) : c ∈ Vf nibs k ∧ ∀ j ∈ Vf nibs k, c ≤ j := by
  have hs := Vf_sorted nibs k
  cases hv : Vf nibs k with
  | nil => rw [hv] at e; cases e
  | cons x r =>
    rw [hv] at e hs; cases e
    refine ⟨.head _, fun j hj => ?_⟩
    rcases List.mem_cons.mp hj with q | q
    · omega
    · exact Nat.le_of_lt ((List.pairwise_cons.mp hs).1 j q)
theorem head_of_min {k : Nat → Bool} {c : Nat} (h1 : c ∈ Vf nibs k) (h2 : ∀ j ∈ Vf nibs k, c ≤ j) : (Vf nibs k).head? = some c := by
  have hs := Vf_sorted nibs k
  cases hv : Vf nibs k with
  | nil => rw [hv] at h1; cases h1
  | cons x r =>
    rw [hv] at h1 h2 hs
    have := h2 x (.head _)
    rcases List.mem_cons.mp h1 with q | q
    · rw [q]; rfl
    · have := (List.pairwise_cons.mp hs).1 c q; omega

/-- where the list cleared at m begins at a new place -/
theorem inv_new {m : Nat} {cl : Nat → Option (List Nat)} {leads : List Nat} (I : Inv nibs m cl leads) {c : Nat → Bool} {a : Nat} (h : (Vf nibs (fun y => xor (mono m y) (pe c m y))).head? = some a) (hn : (cl a).isSome = false) :
    Inv nibs (m + 1) (fun i => if i = a then some (Vf nibs (fun y => xor (mono m y) (pe c m y))) else cl i) (leads ++ [a]) ∧ ¬ told nibs m := by
  have cut : ∀ (d : Nat → Bool), ∃ d', Vf nibs (pe d' (m + 1)) = Vf nibs (pe d m) := fun d => ⟨fun i => if i < m then d i else false, Vf_congr nibs _ _ fun y hy => by
    simp only [pe]
    rw [pe_congr _ d m y fun i hi => by simp [hi]]; simp⟩
  refine ⟨⟨fun b f e => ?_, fun d => ?_, ?_, fun b => ?_⟩, ?_⟩
  · split at e
    · cases e
      rename_i hb
      refine ⟨fun i => if i < m then c i else true, Vf_congr nibs _ _ fun y hy => ?_, by rw [hb]; exact h⟩
      simp only [pe]
      rw [pe_congr (fun i => if i < m then c i else true) c m y fun i hi => by simp [hi]]; simp [Bool.xor_comm]
    · obtain ⟨d, rfl, h2⟩ := I.el b f e
      obtain ⟨d', e'⟩ := cut d
      exact ⟨d', e'.symm, h2⟩
  · cases hd : d m with
    | false =>
      have e : Vf nibs (pe d (m + 1)) = Vf nibs (pe d m) := Vf_congr nibs _ _ fun y hy => by simp [pe, hd]
      rw [e]
      rcases I.full d with q | ⟨b, q1, q2⟩
      · exact .inl q
      · refine .inr ⟨b, q1, ?_⟩
        split
        · rfl
        · exact q2
    | true =>
      -- pe d (m+1) = (mono m xor pe c m) xor pe (d xor c) m
      have e : Vf nibs (pe d (m + 1)) = Vf nibs (fun y => xor (xor (mono m y) (pe c m y)) (pe (fun i => xor (d i) (c i)) m y)) := Vf_congr nibs _ _ fun y hy => by
        rw [pe_xor]; simp only [pe, hd]
        cases mono m y <;> cases pe c m y <;> cases pe d m y <;> rfl
      rw [e]
      obtain ⟨a1, a2⟩ := vf_min h
      rcases I.full (fun i => xor (d i) (c i)) with q | ⟨b, q1, q2⟩
      · have z := (Vf_nil nibs _).mp q
        refine .inr ⟨a, ?_, by simp⟩
        rw [← h]; congr 1
        exact Vf_congr nibs _ _ fun y hy => by rw [z y hy]; simp
      · have hab : b ≠ a := fun q => by rw [q, hn] at q2; cases q2
        obtain ⟨b1, b2⟩ := vf_min q1
        rcases Nat.lt_or_gt_of_ne hab with lt | gt
        · refine .inr ⟨b, head_of_min ?_ fun j hj => ?_, ?_⟩
          · rw [Vf_mem] at b1 ⊢
            refine ⟨b1.1, ?_⟩
            have : ¬ b ∈ Vf nibs (fun y => xor (mono m y) (pe c m y)) := fun q => by have := a2 b q; omega
            rw [Vf_mem] at this
            have hz : xor (mono m (nibs.getD b 0)) (pe c m (nibs.getD b 0)) = false := by
              cases q : xor (mono m (nibs.getD b 0)) (pe c m (nibs.getD b 0))
              · rfl
              · exact absurd ⟨b1.1, q⟩ this
            rw [hz, b1.2]; rfl
          · rw [Vf_mem] at hj
            rcases Nat.lt_or_ge j b with q | q
            · exfalso
              have n1 : ¬ j ∈ Vf nibs (fun y => xor (mono m y) (pe c m y)) := fun q => by have := a2 j q; omega
              have n2 : ¬ j ∈ Vf nibs (pe (fun i => xor (d i) (c i)) m) := fun q => by have := b2 j q; omega
              rw [Vf_mem] at n1 n2
              have hj2 := hj.2
              cases q1 : xor (mono m (nibs.getD j 0)) (pe c m (nibs.getD j 0))
              · cases q2 : pe (fun i => xor (d i) (c i)) m (nibs.getD j 0)
                · rw [q1, q2] at hj2; cases hj2
                · exact n2 ⟨hj.1, q2⟩
              · exact n1 ⟨hj.1, q1⟩
            · exact q
          · split
            · rfl
            · exact q2
        · refine .inr ⟨a, head_of_min ?_ fun j hj => ?_, by simp⟩
          · rw [Vf_mem] at a1 ⊢
            refine ⟨a1.1, ?_⟩
            have : ¬ a ∈ Vf nibs (pe (fun i => xor (d i) (c i)) m) := fun q => by have := b2 a q; omega
            rw [Vf_mem] at this
            have hz : pe (fun i => xor (d i) (c i)) m (nibs.getD a 0) = false := by
              cases q : pe (fun i => xor (d i) (c i)) m (nibs.getD a 0)
              · rfl
              · exact absurd ⟨a1.1, q⟩ this
            rw [hz, a1.2]; rfl
          · rw [Vf_mem] at hj
            rcases Nat.lt_or_ge j a with q | q
            · exfalso
              have n1 : ¬ j ∈ Vf nibs (fun y => xor (mono m y) (pe c m y)) := fun q => by have := a2 j q; omega
              have n2 : ¬ j ∈ Vf nibs (pe (fun i => xor (d i) (c i)) m) := fun q => by have := b2 j q; omega
              rw [Vf_mem] at n1 n2
              have hj2 := hj.2
              cases q1 : xor (mono m (nibs.getD j 0)) (pe c m (nibs.getD j 0))
              · cases q2 : pe (fun i => xor (d i) (c i)) m (nibs.getD j 0)
                · rw [q1, q2] at hj2; cases hj2
                · exact n2 ⟨hj.1, q2⟩
              · exact n1 ⟨hj.1, q1⟩
            · exact q
  · rw [List.nodup_append]
    refine ⟨I.nd, by simp, fun x hx y hy e => ?_⟩
    rw [List.mem_singleton.mp hy] at e
    have := (I.keys x).mp hx
    rw [e, hn] at this; cases this
  · rw [List.mem_append, List.mem_singleton, I.keys]
    constructor
    · rintro (q | q)
      · split
        · rfl
        · exact q
      · simp [q]
    · intro q
      by_cases hb : b = a
      · exact .inr hb
      · rw [if_neg hb] at q; exact .inl q
  · rintro ⟨c', hc'⟩
    have e : Vf nibs (fun y => xor (mono m y) (pe c m y)) = Vf nibs (pe (fun i => xor (c' i) (c i)) m) := Vf_congr nibs _ _ fun y hy => by rw [pe_xor, hc' y hy]
    rw [e] at h
    rcases I.full (fun i => xor (c' i) (c i)) with q | ⟨b, q1, q2⟩
    · rw [q] at h; cases h
    · rw [h] at q1; cases q1; rw [hn] at q2; cases q2
end
end Mine
end

section
set_option maxRecDepth 100000
set_option linter.unusedVariables false
set_option linter.unusedSimpArgs false
namespace Mine
open PySem PySem.W PyProof.Rows PySem.Spec PySem.Calls

def setL (m : Nat) : List Nat := (List.range 4).filter fun i => m / 2 ^ i % 2 == 1
theorem setOut_L (m : Nat) : outsTo (setOut m) 4 = iN (setL m) := by
  unfold outsTo setOut iN setL
  exact filterMap_if (List.range 4) (fun i => m / 2 ^ i % 2 == 1) fun (i : Nat) => PyData.int (i : Int)
theorem setL_len (m : Nat) : (setL m).length ≤ 4 := List.length_filter_le _ _
theorem setL_mono : ∀ m < 16, ∀ y < 16, (setL m).all (fun k => decide (k ∈ setL y)) = mono m y := by decide +kernel

open Classical in
noncomputable def unt (nibs : List Nat) (i : Nat) : List Nat := (List.range i).filter fun m => decide (¬ told nibs m)
theorem unt_told {nibs : List Nat} {i : Nat} (h : told nibs i) : unt nibs (i + 1) = unt nibs i := by
  unfold unt; rw [List.range_succ, List.filter_append]; simp [h]
theorem unt_new {nibs : List Nat} {i : Nat} (h : ¬ told nibs i) : unt nibs (i + 1) = unt nibs i ++ [i] := by
  unfold unt; rw [List.range_succ, List.filter_append]; simp [h]

def fD (cl : Nat → Option (List Nat)) (k : Int) : Option PyData := if k < 0 then none else (cl k.toNat).map dN
theorem fD_nat (cl : Nat → Option (List Nat)) (k : Nat) : fD cl (k : Int) = (cl k).map dN := by
  unfold fD; rw [if_neg (by omega), Int.toNat_natCast]
theorem fD_set (cl : Nat → Option (List Nat)) (a : Nat) (f : List Nat) : (fun i : Int => if i = (a : Int) then some (dN f) else fD cl i) = fD fun i => if i = a then some f else cl i := by
  funext i
  by_cases h : i = (a : Int)
  · subst h
    show (if (a : Int) = (a : Int) then some (dN f) else fD cl a) = _
    rw [if_pos rfl, fD_nat, if_pos rfl]; rfl
  · rw [if_neg h]; unfold fD
    by_cases h2 : i < 0
    · rw [if_pos h2, if_pos h2]
    · rw [if_neg h2, if_neg h2]
      have h3 : ¬ i.toNat = a := by omega
      simp [h3]
theorem fD_none : fD (fun _ => none) = fun _ => none := by funext i; unfold fD; split <;> rfl

theorem range_small : ∀ n : Nat, n < 9 → Builtin.Range.small 0 (n : Int) 1 = true ∧ Builtin.Range.rangeSize 0 (n : Int) 1 = n := by decide +kernel
theorem tr_pre {K : Kx} {F : Fm} {σ σ' : St} {e : Expr} {b : Bool} (h : Tr K F σ e b) (hs : Sub σ σ') : Tr K F σ' e b := fun A M P s ok R => h A M P s ok (R.sub hs)
def lead0 (nibs : List Nat) (g : Nat → Bool) : Nat := match Vf nibs g with
  | [] => 0
  | a :: _ => nibs.length - a
theorem fn_cleared {K : Kx} (hm : f_cleared ∈ K.T.fns) (hms : f_set ∈ K.T.fns) (hmd : f_sld ∈ K.T.fns) (hr : (("range" : Str), Value.type "range") ∈ K.T.bl) (hlen : (("len" : Str), Value.builtin "len") ∈ K.T.bl) (hso : (("sorted" : Str), Value.builtin "sorted") ∈ K.T.bl) (hie : (("IndexError" : Str), Value.type "IndexError") ∈ K.T.bl)
    (nibs : List Nat) (hn : nibs.length ≤ 8) (h16 : ∀ y ∈ nibs, y < 16) (firsts : List Nat) (hfs : firsts.Pairwise (· < ·)) (hfm : ∀ cl leads, Inv nibs 16 cl leads → ∀ a, a ∈ firsts ↔ a ∈ leads) :
    Fn K 7 f_cleared [dNN (nibs.map setL)] (.tuple [dN firsts, dNN ((unt nibs 16).map setL)]) := by
  refine fn_intro ["sets"] ["sets", "wanted"] hm (bind1 _ _ _ rfl fun _ _ _ _ => rfl) rfl rfl rfl (by decide) (by decide) (by decide) fun Fs L a code => ?_
  refine ex_cons (ex1_dict (.inl rfl) fun ca hca => ?_)
  refine ex_cons (ex1_own (evn_list evl_nil) (.inl rfl) fun la hla => ?_)
  refine ex_cons (ex1_own (evn_list evl_nil) (.inl rfl) fun ua hua => ?_)
  have n1 : la ≠ ca := fun q => hla "cleared" _ rfl (by rw [q]; rfl)
  have n2 : ua ≠ ca := fun q => hua "cleared" _ rfl (by rw [q]; rfl)
  have n3 : ua ≠ la := fun q => hua "leads" _ rfl (by rw [q]; rfl)
  refine ex_cons (ex1_for (ds := rng 0 1 16) (fun i σ' => ∃ cl leads k, Inv nibs i cl leads ∧ k ≤ i ∧ leads.length ≤ i ∧ Sub [("sets", .dat (dNN (nibs.map setL))), ("cleared", .dct ca k (fD cl)), ("leads", .own la (iN leads)), ("untold", .own ua (((unt nibs i).map setL).map dN))] σ') rfl (evi_range rfl (evr1 hr ev_int) (by decide +kernel) (by decide +kernel)) ⟨_, [], 0, inv_zero nibs, Nat.le_refl _, Nat.le_refl _, SubL.sub ⟨rfl, by rw [fD_none]; rfl, rfl, rfl, trivial⟩⟩ (fun i d σi hd hJ => ?_) ?_)
  · have hi : i < 16 := by
      have := (List.getElem?_eq_some_iff.mp hd).1
      rwa [rng_length] at this
    rw [rng_get hi] at hd
    cases hd
    rw [show (0 + (i : Int) * 1) = (i : Int) by omega]
    obtain ⟨cl, leads, k, I, hk, hle, hsub⟩ := hJ
    refine ⟨_, (as_name (.inl rfl)).pre hsub, ?_⟩
    refine ex_cons (ex1_assign (ev_call hms rfl (evl_cons (ev_name rfl) evl_nil) rfl (fn_set hms hr i) (show 3 ≤ 6 by decide)) (as_name (.inr ⟨rfl, by simp, by decide⟩)) ?_)
    rw [setOut_L]
    have hrg := range_small nibs.length (by omega)
    have hmap : (List.range nibs.length).map (fun (j : Nat) => PyData.int (j : Int)) = rng 0 1 nibs.length := by
      unfold rng; congr 1; funext j; rw [show (0 + (j : Int) * 1) = (j : Int) by omega]
    refine ex_cons (ex1_compX (List.range nibs.length) (fun (j : Nat) => PyData.int (j : Int)) (fun (j : Nat) => if mono i (nibs.getD j 0) = true then some (PyData.int (j : Int)) else none) (cl := [("wanted", L + 2), ("sets", L + 1)]) (W' := ["j"]) (σc := [("wanted", .dat (dN (setL i))), ("sets", .dat (dNN (nibs.map setL)))])
      (by rw [hmap]; exact evi_range rfl (evr1 hr (ev_len hlen (ev_name rfl) (by simp; omega))) (by simpa using hrg.1) (by simpa using hrg.2)) (by simp; omega) ⟨rfl, rfl, by decide, by decide⟩ ⟨rfl, rfl, .inl rfl, rfl, .inl rfl, by decide, fun C => rfl, rfl, rfl, .inl rfl, rfl, .inl rfl, by decide, fun C => rfl, trivial⟩ (fun C j hj => ?_) (fun fa hfa => ?_))
    · rw [List.mem_range] at hj
      have hy : nibs.getD j 0 < 16 := by rw [getD_get _ _ hj]; exact h16 _ (List.getElem_mem hj)
      have hcond : mono i (nibs.getD j 0) = PyData.eqv (dN ((setL i).filter fun k => !decide (k ∈ setL (nibs.getD j 0)))) (dN []) := by
        rw [emb_dN.eq, ← setL_mono i hi _ hy, Bool.eq_iff_iff, decide_eq_true_iff, List.filter_eq_nil_iff, List.all_eq_true]
        simp
      rw [hcond]
      refine turn_if (.inr ⟨rfl, by simp, by decide⟩) ⟨rfl, rfl, trivial⟩ (by simp [Slot.adr]) (tr_cmp (d2 := dN []) (EvN.ev ?_) (EvN.ev (evn_list evl_nil)) (co_eq ?_ ?_)) (fun _ => ev_name rfl)
      · have e : iN ((setL i).filter fun k => !decide (k ∈ setL (nibs.getD j 0))) = (setL i).filterMap fun (k : Nat) => if (!((iN (setL (nibs.getD j 0))).any fun y => PyData.eqv y (.int (k : Int)))) = true then some (PyData.int (k : Int)) else none := by
          simp only [any_nat]
          exact (filterMap_if (setL i) (fun k => !decide (k ∈ setL (nibs.getD j 0))) fun (k : Nat) => PyData.int (k : Int)).symm
        rw [e]
        refine evn_compX (setL i) (fun (k : Nat) => PyData.int (k : Int)) _ (cl := [("sets", L + 1), ("j", C + 1)]) (W' := []) (σc := [("sets", .dat (dNN (nibs.map setL))), ("j", .dat (.int (j : Int)))]) (evi_list rfl (ev_name rfl)) (Nat.le_trans (setL_len i) (by decide)) ⟨rfl, rfl, by decide, by decide⟩ ⟨rfl, rfl, .inl rfl, rfl, .inl rfl, by decide, fun C => rfl, rfl, rfl, .inl rfl, rfl, .inl rfl, by decide, fun C => rfl, trivial⟩ (fun C' k hk => ?_)
        refine turn_if (.inl rfl) ⟨rfl, rfl, trivial⟩ (by simp [Slot.adr]) (tr_cmp (ev_name rfl) (ev_sub (d := dN (setL (nibs.getD j 0))) (ev_name rfl) (ev_name rfl) (su_list (by omega) (by omega) ?_)) (co_notin (n := 0) rfl (all_ok_iN _))) (fun _ => ev_name rfl)
        rw [Int.toNat_natCast, List.getElem?_map, List.getElem?_map, List.getElem?_eq_getElem hj, getD_get _ _ hj]; rfl
      · exact okn_shaped (emb_dN.ok _)
      · rfl
    rw [filterMap_if (List.range nibs.length) (fun j => mono i (nibs.getD j 0)) fun (j : Nat) => PyData.int (j : Int)]
    have m1 : fa ≠ ca := fun q => hfa "cleared" _ rfl (by rw [q]; rfl)
    have m2 : fa ≠ la := fun q => hfa "leads" _ rfl (by rw [q]; rfl)
    have m3 : fa ≠ ua := fun q => hfa "untold" _ rfl (by rw [q]; rfl)
    refine ex_freeze (x := "files") rfl (apart_of (by simp [Slot.adr, m1.symm, m2.symm, m3.symm])) ?_
    refine ex_cons (ex1_while (fun n σ' => ∃ c, n = lead0 nibs (fun y => xor (mono i y) (pe c i y)) ∧ Sub [("sets", .dat (dNN (nibs.map setL))), ("cleared", .dct ca k (fD cl)), ("leads", .own la (iN leads)), ("untold", .own ua (((unt nibs i).map setL).map dN)), ("wanted", .dat (dN (setL i))), ("files", .dat (dN (Vf nibs (fun y => xor (mono i y) (pe c i y)))))] σ') _ rfl ⟨fun _ => false, rfl, SubL.sub ⟨rfl, rfl, rfl, rfl, rfl, ?_, trivial⟩⟩ ?_)
    · have e : Vf nibs (fun y => xor (mono i y) (pe (fun _ => false) i y)) = Vf nibs (mono i) := Vf_congr nibs _ _ fun y _ => by rw [pe_zero]; simp
      rw [e]; rfl
    rintro n σ2 ⟨c, rfl, hs2⟩
    generalize hV : Vf nibs (fun y => xor (mono i y) (pe c i y)) = V at hs2
    have hVs : V.Pairwise (· < ·) := hV ▸ Vf_sorted nibs _
    have hVl : V.length ≤ nibs.length := hV ▸ Vf_length nibs _
    have hne : ∀ {σ : St} {K' : Kx} {F' : Fm} {e1 : Expr} {p1 p2 : Pos}, Ev K' F' σ e1 (dN V) → Tr K' F' σ (.Compare e1 [.NotEq] [.List [] p1] p2) (!decide (V = [])) := fun h => by
      rw [← emb_dN.eq V []]
      exact tr_cmp (d2 := dN []) h (EvN.ev (evn_list evl_nil)) (co_ne (okn_shaped (emb_dN.ok _)) rfl)
    cases V with
    | nil =>
      refine ⟨false, tr_pre ?_ hs2, (fun q => by cases q), fun _ => ?_⟩
      · exact tr_and2 (b := false) (hne (ev_name rfl)) (fun q => by simp at q)
      · refine ex_nil (Ex.sub ?_ hs2)
        refine ex_cons (ex1_if (hne (ev_name rfl)) (fun q => by simp at q) (fun _ => ?_))
        obtain ⟨I', ht⟩ := inv_told I hV
        refine ex_nil (ex_nil ⟨cl, leads, k, I', by omega, by omega, SubL.sub ⟨rfl, rfl, rfl, ?_, trivial⟩⟩)
        rw [unt_told ht]; rfl
    | cons h0 r =>
      have hhead : (Vf nibs (fun y => xor (mono i y) (pe c i y))).head? = some h0 := by rw [hV]; rfl
      have hlt : h0 < nibs.length := ((Vf_mem nibs _ _).mp (vf_min hhead).1).1
      have hf0 : ∀ {σ : St} {K' : Kx} {F' : Fm} {e1 : Expr} {k1 : Nat} {p1 p2 : Pos}, Ev K' F' σ e1 (dN (h0 :: r)) → Ev K' F' σ (.Subscript e1 (.Constant (.int 0) k1 p1) p2) (.int (h0 : Int)) := fun h =>
        ev_sub h ev_int (su_list (by decide) (by decide) rfl)
      refine ⟨(cl h0).isSome, tr_pre ?_ hs2, fun hb => ?_, fun hb => ?_⟩
      · have e : (cl h0).isSome = (!decide (h0 :: r = []) && (fD cl (h0 : Int)).isSome) := by rw [fD_nat]; simp
        rw [e]
        exact tr_and2 (hne (ev_name rfl)) (fun _ => tr_indict (x := "cleared") rfl (hf0 (ev_name rfl)))
      · obtain ⟨f, hf⟩ := Option.isSome_iff_exists.mp hb
        obtain ⟨d, rfl, hfh⟩ := I.el h0 f hf
        refine Ex.sub ?_ hs2
        have hs1 : ((h0 :: r).map fun (k : Nat) => (k : Int)).Pairwise (· < ·) := by rw [List.pairwise_map]; exact hVs.imp fun h => by omega
        have hs3 : ((Vf nibs (pe d i)).map fun (k : Nat) => (k : Int)).Pairwise (· < ·) := by rw [List.pairwise_map]; exact (Vf_sorted nibs _).imp fun h => by omega
        have hl3 := Vf_length nibs (pe d i)
        refine ex_cons (ex1_assign (ev_call hmd rfl (evl_cons (ev_name rfl) (evl_cons (ev_dictget (x := "cleared") rfl (hf0 (ev_name rfl)) (by rw [fD_nat, hf]; rfl)) evl_nil)) rfl (by
          rw [dN_dI, dN_dI]
          exact fn_sld hmd hie _ _ hs1 hs3 (by rw [List.length_map]; omega) (by rw [List.length_map]; omega)) (show 5 ≤ 6 by decide)) (as_tuple2 rfl (as_name (.inl rfl)) (as_name (.inl rfl))) ?_)
        have hp := symd_sld (h0 :: r) (Vf nibs (pe d i))
        have hx : symd (h0 :: r) (Vf nibs (pe d i)) = Vf nibs (fun y => xor (mono i y) (pe (fun j => xor (c j) (d j)) i y)) := by
          rw [← hV, Vf_xor]; exact Vf_congr nibs _ _ fun y _ => by rw [pe_xor, Bool.xor_assoc]
        rw [hx] at hp
        generalize hS : sld ((h0 :: r).map fun (k : Nat) => (k : Int)) ((Vf nibs (pe d i)).map fun (k : Nat) => (k : Int)) = S at hp
        have hl4 := Vf_length nibs (fun y => xor (mono i y) (pe (fun j => xor (c j) (d j)) i y))
        have hl5 := hp.length_eq
        rw [List.length_map, List.length_append] at hl5
        refine ex_cons (ex1_assign (EvN.ev (evn_sorted (ns := S.1 ++ S.2) (ms := (Vf nibs (fun y => xor (mono i y) (pe (fun j => xor (c j) (d j)) i y))).map fun (k : Nat) => (k : Int)) hso (by
          rw [List.map_append]
          exact EvN.ev (evn_cat (ev_name rfl) (ev_name rfl) (by rw [List.length_map, List.length_map]; omega))) (by rw [List.length_append]; omega) hp (by rw [List.pairwise_map]; exact (Vf_sorted nibs _).imp fun h => by omega))) (as_name (.inl rfl)) ?_)
        refine ex_nil ⟨lead0 nibs (fun y => xor (mono i y) (pe (fun j => xor (c j) (d j)) i y)), ?_, fun j => xor (c j) (d j), rfl, SubL.sub ⟨rfl, rfl, rfl, rfl, rfl, ?_, trivial⟩⟩
        · unfold lead0
          rw [hV]
          cases hW : Vf nibs (fun y => xor (mono i y) (pe (fun j => xor (c j) (d j)) i y)) with
          | nil => simp; omega
          | cons b q =>
            have e : Vf nibs (fun y => xor (mono i y) (pe (fun j => xor (c j) (d j)) i y)) = Vf nibs (fun y => xor (xor (mono i y) (pe c i y)) (pe d i y)) := Vf_congr nibs _ _ fun y _ => by rw [pe_xor, Bool.xor_assoc]
            have := head_up hhead hfh (b := b) (by rw [← e, hW]; rfl)
            have hb : b < nibs.length := ((Vf_mem nibs _ _).mp (show b ∈ Vf nibs _ by rw [hW]; exact .head _)).1
            simp only; omega
        · rw [dN_dI]; rfl
      · refine ex_nil (Ex.sub ?_ hs2)
        obtain ⟨I', ht⟩ := inv_new I hhead hb
        refine ex_cons (ex1_if (hne (ev_name rfl)) (fun _ => ?_) (fun q => by simp at q))
        have ap1 : Apart ("cleared" : Str) ca [("sets", .dat (dNN (nibs.map setL))), ("cleared", .dct ca k (fD cl)), ("leads", .own la (iN leads)), ("untold", .own ua (((unt nibs i).map setL).map dN)), ("wanted", .dat (dN (setL i))), ("files", .dat (dN (h0 :: r)))] := apart_of (by simp [Slot.adr, n1, n2])
        refine ex_cons (ex1_dictset (x := "cleared") rfl ap1 (ev_name rfl) (hf0 (ev_name rfl)) (by omega) ?_)
        refine ex_cons (ex1_append (x := "leads") rfl (apart_of (by simp [Slot.adr, n1.symm, n3, n1, n2])) (hf0 (ev_name rfl)) ?_ (by rw [iN_length]; omega))
        refine ex_cons (ex1_append (x := "untold") rfl (apart_of (by simp [Slot.adr, n1.symm, n3.symm, n2.symm, n1, n2, n3])) (ev_name rfl) ?_ ?_)
        · refine ex_nil (ex_nil ⟨_, _, k + 1, I', by omega, by simp; omega, SubL.sub ⟨rfl, ?_, ?_, ?_, trivial⟩⟩)
          · rw [← fD_set, hV]; rfl
          · show _ = some (Slot.own la (iN (_ ++ [_])))
            simp only [iN, List.map_append]; rfl
          · rw [unt_new ht, List.map_append, List.map_append]; rfl
        · have : (unt nibs i).length ≤ i := by
            unfold unt
            refine Nat.le_trans (List.length_filter_le _ _) (by simp)
          rw [List.length_map, List.length_map]; omega
  · rintro σn ⟨cl, leads, k, I, hk, hle, hs⟩
    rw [rng_length] at I hk hle hs
    refine ex_nil (Ex.sub ?_ hs)
    refine ex_freeze (x := "leads") rfl (apart_of (by simp [Slot.adr, n1.symm, n3, n1, n2])) ?_
    refine ex_freeze (x := "untold") rfl (apart_of (by simp [Slot.adr, n1.symm, n3.symm, n2.symm, n1, n2, n3])) ?_
    have hfn : firsts.Nodup := hfs.imp fun h => by omega
    have hp : (firsts.map fun (k : Nat) => (k : Int)).Perm (leads.map fun (k : Nat) => (k : Int)) := ((List.perm_ext_iff_of_nodup hfn I.nd).mpr fun a => hfm cl leads I a).map _
    have e : (leads.map fun (k : Nat) => (k : Int)).map PyData.int = iN leads := by simp [iN]
    refine ex_cons (ex1_return (ev_tuple (evl_cons (EvN.ev (evn_sorted hso (by
      rw [e]; exact ev_name rfl) (by rw [List.length_map]; omega) hp (by rw [List.pairwise_map]; exact hfs.imp fun h => by omega))) (evl_cons (ev_name rfl) evl_nil)) (by simp)) ?_)
    rw [dN_dI]; rfl
end Mine
end

section
set_option autoImplicit false
namespace Mine
/-! ### shifting down, told sets, closed families, shattered sets -/
def sh (k : Nat) (F : Nat → Bool) (y : Nat) : Bool := if y.testBit k then F y && F (y - 2 ^ k) else F y || F (y + 2 ^ k)
def DD : Nat → (Nat → Bool) → Nat → Bool
  | 0, F, y => F y
  | k + 1, F, y => if y < 2 ^ k then DD k (fun z => F z || F (z + 2 ^ k)) y else DD k (fun z => F (z + 2 ^ k) && F z) (y - 2 ^ k)

theorem DD_sh (F : Nat → Bool) (y : Nat) (hy : y < 16) : sh 0 (sh 1 (sh 2 (sh 3 F))) y = DD 4 F y := by
  match y, hy with
  | 0, _ => rfl
  | 1, _ => rfl
  | 2, _ => rfl
  | 3, _ => rfl
  | 4, _ => rfl
  | 5, _ => rfl
  | 6, _ => rfl
  | 7, _ => rfl
  | 8, _ => rfl
  | 9, _ => rfl
  | 10, _ => rfl
  | 11, _ => rfl
  | 12, _ => rfl
  | 13, _ => rfl
  | 14, _ => rfl
  | 15, _ => rfl
  | n + 16, h => omega

theorem DD_mono : ∀ (k : Nat) (F G : Nat → Bool), (∀ y, y < 2 ^ k → F y = true → G y = true) → ∀ y, y < 2 ^ k → DD k F y = true → DD k G y = true
  | 0, F, G, h, y, hy, e => h y hy e
  | k + 1, F, G, h, y, hy, e => by
    rw [Nat.pow_succ] at hy h
    unfold DD at e ⊢
    split
    · rename_i hl
      rw [if_pos hl] at e
      refine DD_mono k _ _ (fun z hz q => ?_) y hl e
      rw [Bool.or_eq_true] at q ⊢
      exact q.imp (h z (by omega)) (h _ (by omega))
    · rename_i hl
      rw [if_neg hl] at e
      refine DD_mono k _ _ (fun z hz q => ?_) _ (by omega) e
      rw [Bool.and_eq_true] at q ⊢
      exact ⟨h _ (by omega) q.1, h _ (by omega) q.2⟩
theorem DD_congr (k : Nat) (F G : Nat → Bool) (h : ∀ y, y < 2 ^ k → F y = G y) (y : Nat) (hy : y < 2 ^ k) : DD k F y = DD k G y := by
  rw [Bool.eq_iff_iff]
  exact ⟨DD_mono k F G (fun z hz e => by rw [← h z hz]; exact e) y hy, DD_mono k G F (fun z hz e => by rw [h z hz]; exact e) y hy⟩

theorem bit_low : ∀ k < 5, ∀ y < 2 ^ k, y.testBit k = false := by decide +kernel
theorem bit_add : ∀ k < 4, ∀ j < k, ∀ y < 2 ^ k, (y + 2 ^ k).testBit j = y.testBit j := by decide +kernel
theorem bit_ge : ∀ j < 4, ∀ y < 16, y.testBit j = true → 2 ^ j ≤ y := by decide +kernel
theorem bit_top : ∀ k < 4, ∀ y < 2 ^ k, (y + 2 ^ k).testBit k = true := by decide +kernel
theorem pow_le16 {k : Nat} (hk : k ≤ 4) : 2 ^ k ≤ 16 := by
  have := Nat.pow_le_pow_right (show 0 < 2 by decide) hk
  simpa using this

theorem DD_closed : ∀ (k : Nat), k ≤ 4 → ∀ (F : Nat → Bool) (j y : Nat), j < k → y < 2 ^ k → y.testBit j = true → DD k F y = true → DD k F (y - 2 ^ j) = true
  | 0, _, F, j, y, hj, hy, hb, e => by omega
  | k + 1, hk, F, j, y, hj, hy, hb, e => by
    have hp := pow_le16 (show k ≤ 4 by omega)
    have hp' := pow_le16 hk
    rw [Nat.pow_succ] at hy hp'
    unfold DD at e ⊢
    by_cases hl : y < 2 ^ k
    · rw [if_pos hl] at e
      rw [if_pos (Nat.lt_of_le_of_lt (Nat.sub_le _ _) hl)]
      refine DD_closed k (by omega) _ j y ?_ hl hb e
      have : j ≠ k := fun q => by subst q; rw [bit_low j (by omega) y hl] at hb; cases hb
      omega
    · rw [if_neg hl] at e
      by_cases hjk : j = k
      · subst hjk
        rw [if_pos (by omega)]
        refine DD_mono j _ _ (fun z hz q => ?_) _ (by omega) e
        rw [Bool.and_eq_true] at q
        rw [q.2]; rfl
      · have hz : (y - 2 ^ k).testBit j = true := by
          rw [← bit_add k (by omega) j (by omega) (y - 2 ^ k) (by omega), Nat.sub_add_cancel (by omega)]; exact hb
        have hge := bit_ge j (by omega) (y - 2 ^ k) (by omega) hz
        rw [if_neg (by omega), show y - 2 ^ j - 2 ^ k = y - 2 ^ k - 2 ^ j by omega]
        exact DD_closed k (by omega) _ j (y - 2 ^ k) (by omega) (by omega) hz e

theorem DD_fixed : ∀ (k : Nat), k ≤ 4 → ∀ (F : Nat → Bool), (∀ j y, j < k → y < 2 ^ k → y.testBit j = true → F y = true → F (y - 2 ^ j) = true) → ∀ y, y < 2 ^ k → DD k F y = F y
  | 0, _, F, h, y, hy => rfl
  | k + 1, hk, F, h, y, hy => by
    have hp := pow_le16 (show k ≤ 4 by omega)
    have hp' := pow_le16 hk
    rw [Nat.pow_succ] at hy hp' h
    have hin : ∀ z, z < 2 ^ k → F (z + 2 ^ k) = true → F z = true := fun z hz e => by
      have := h k (z + 2 ^ k) (by omega) (by omega) (bit_top k (by omega) z hz) e
      rwa [Nat.add_sub_cancel] at this
    unfold DD
    by_cases hl : y < 2 ^ k
    · rw [if_pos hl, DD_congr k _ F (fun z hz => ?_) y hl]
      · exact DD_fixed k (by omega) F (fun j y hj hy => h j y (by omega) (by omega)) y hl
      · have := hin z hz
        revert this; cases F z <;> cases F (z + 2 ^ k) <;> simp
    · rw [if_neg hl, DD_congr k _ (fun z => F (z + 2 ^ k)) (fun z hz => ?_) _ (by omega)]
      · rw [DD_fixed k (by omega) (fun z => F (z + 2 ^ k)) (fun j z hj hz hb e => ?_) _ (by omega)]
        · show F (y - 2 ^ k + 2 ^ k) = _
          rw [Nat.sub_add_cancel (by omega)]
        · have hge := bit_ge j (by omega) z (by omega) hb
          have := h j (z + 2 ^ k) (by omega) (by omega) (by rw [bit_add k (by omega) j hj z hz]; exact hb) e
          rwa [show z + 2 ^ k - 2 ^ j = z - 2 ^ j + 2 ^ k by omega] at this
      · have := hin z hz
        revert this; cases F z <;> cases F (z + 2 ^ k) <;> simp

theorem and_up : ∀ k < 4, ∀ m < 2 ^ k, ∀ z < 2 ^ k, (z + 2 ^ k) &&& m = z &&& m := by decide +kernel
theorem and_up' : ∀ k < 4, ∀ m < 2 ^ k, ∀ z < 2 ^ k, z &&& (m + 2 ^ k) = z &&& m := by decide +kernel
theorem and_both : ∀ k < 4, ∀ m < 2 ^ k, ∀ z < 2 ^ k, (z + 2 ^ k) &&& (m + 2 ^ k) = (z &&& m) + 2 ^ k := by decide +kernel
theorem and_le : ∀ k < 5, ∀ m < 2 ^ k, ∀ z < 16, z &&& m < 2 ^ k := by decide +kernel

theorem DD_shatter : ∀ (k : Nat), k ≤ 4 → ∀ (F : Nat → Bool) (m p : Nat), m < 2 ^ k → p < 2 ^ k → p &&& m = p → DD k F m = true → ∃ y, y < 2 ^ k ∧ F y = true ∧ y &&& m = p
  | 0, _, F, m, p, hm, hp, hs, e => ⟨0, by decide, by
      have : m = 0 := by simpa using hm
      subst this; exact e, by
      have : p = 0 := by simpa using hp
      subst this; simp⟩
  | k + 1, hk, F, m, p, hm, hp, hs, e => by
    have hpp := Nat.pow_succ 2 k
    unfold DD at e
    by_cases hl : m < 2 ^ k
    · rw [if_pos hl] at e
      have hpl : p < 2 ^ k := by
        have := and_le k (by omega) m hl p (by have := pow_le16 hk; omega)
        omega
      obtain ⟨y, hy, hF, hy2⟩ := DD_shatter k (by omega) _ m p hl hpl hs e
      rw [Bool.or_eq_true] at hF
      rcases hF with hF | hF
      · exact ⟨y, by omega, hF, hy2⟩
      · exact ⟨y + 2 ^ k, by omega, hF, by rw [and_up k (by omega) m hl y hy]; exact hy2⟩
    · rw [if_neg hl] at e
      obtain ⟨m', rfl⟩ : ∃ m', m = m' + 2 ^ k := ⟨m - 2 ^ k, by omega⟩
      rw [Nat.add_sub_cancel] at e
      by_cases hpl : p < 2 ^ k
      · rw [and_up' k (by omega) m' (by omega) p hpl] at hs
        obtain ⟨y, hy, hF, hy2⟩ := DD_shatter k (by omega) _ m' p (by omega) hpl hs e
        rw [Bool.and_eq_true] at hF
        exact ⟨y, by omega, hF.2, by rw [and_up' k (by omega) m' (by omega) y hy]; exact hy2⟩
      · obtain ⟨p', rfl⟩ : ∃ p', p = p' + 2 ^ k := ⟨p - 2 ^ k, by omega⟩
        rw [and_both k (by omega) m' (by omega) p' (by omega)] at hs
        obtain ⟨y, hy, hF, hy2⟩ := DD_shatter k (by omega) _ m' p' (by omega) (by omega) (by omega) e
        rw [Bool.and_eq_true] at hF
        exact ⟨y + 2 ^ k, by omega, hF.1, by rw [and_both k (by omega) m' (by omega) y hy, hy2]⟩

theorem DD_full : ∀ (k : Nat) (F : Nat → Bool), (∀ y, y < 2 ^ k → F y = true) → ∀ y, y < 2 ^ k → DD k F y = true
  | 0, F, h, y, hy => h y hy
  | k + 1, F, h, y, hy => by
    rw [Nat.pow_succ] at hy h
    unfold DD
    split
    · rename_i hl
      exact DD_full k _ (fun z hz => by rw [h z (by omega)]; rfl) y hl
    · exact DD_full k _ (fun z hz => by rw [h z (by omega), h (z + 2 ^ k) (by omega)]; rfl) _ (by omega)
theorem DD_proj (s : Nat) : ∀ (d : Nat) (F : Nat → Bool), (∀ z, z < 2 ^ s → ∃ y, y < 2 ^ (s + d) ∧ F y = true ∧ y % 2 ^ s = z) → DD (s + d) F (2 ^ s - 1) = true
  | 0, F, h => DD_full s F (fun y hy => by
      obtain ⟨z, hz, hF, e⟩ := h y hy
      rw [Nat.mod_eq_of_lt (show z < 2 ^ s from hz)] at e
      exact e ▸ hF) _ (by have := Nat.two_pow_pos s; omega)
  | d + 1, F, h => by
    have hle : 2 ^ s ≤ 2 ^ (s + d) := Nat.pow_le_pow_right (by decide) (by omega)
    have hpos := Nat.two_pow_pos s
    show DD (s + d + 1) F _ = true
    unfold DD
    rw [if_pos (by omega)]
    refine DD_proj s d _ fun z hz => ?_
    obtain ⟨y, hy, hF, e⟩ := h z hz
    rw [show 2 ^ (s + (d + 1)) = 2 ^ (s + d) * 2 from Nat.pow_succ ..] at hy
    by_cases hl : y < 2 ^ (s + d)
    · exact ⟨y, hl, by rw [hF]; rfl, e⟩
    · refine ⟨y - 2 ^ (s + d), by omega, by rw [Nat.sub_add_cancel (by omega), hF, Bool.or_true], ?_⟩
      rw [← e]
      have : y = y - 2 ^ (s + d) + 2 ^ s * 2 ^ d := by rw [← Nat.pow_add]; omega
      conv => rhs; rw [this, Nat.add_mul_mod_self_left]

/-! ### every function is an odd count of sets -/
theorem mono_hi : ∀ k < 4, ∀ m < 2 ^ k, ∀ y < 16, mono (m + 2 ^ k) y = (y.testBit k && mono m y) := by decide +kernel
theorem mono_up : ∀ k < 4, ∀ m < 2 ^ k, ∀ z < 2 ^ k, mono m (z + 2 ^ k) = mono m z := by decide +kernel
theorem pe_hi (k : Nat) (hk : k < 4) (c : Nat → Bool) (y : Nat) (hy : y < 16) : ∀ (m : Nat), m ≤ 2 ^ k → pe c (m + 2 ^ k) y = xor (pe c (2 ^ k) y) (y.testBit k && pe (fun i => c (i + 2 ^ k)) m y)
  | 0, _ => by simp [pe]
  | m + 1, hm => by
    rw [show m + 1 + 2 ^ k = (m + 2 ^ k) + 1 by omega, pe, pe_hi k hk c y hy m (by omega), pe, mono_hi k hk m (by omega) y hy]
    cases y.testBit k <;> simp
theorem pe_up (k : Nat) (hk : k < 4) (c : Nat → Bool) (z : Nat) (hz : z < 2 ^ k) : ∀ (m : Nat), m ≤ 2 ^ k → pe c m (z + 2 ^ k) = pe c m z
  | 0, _ => rfl
  | m + 1, hm => by rw [pe, pe, pe_up k hk c z hz m (by omega), mono_up k hk m (by omega) z hz]

theorem pe_all : ∀ (k : Nat), k ≤ 4 → ∀ (g : Nat → Bool), ∃ c, ∀ z, z < 2 ^ k → pe c (2 ^ k) z = g z
  | 0, _, g => ⟨fun _ => g 0, fun z hz => by
      have : z = 0 := by simpa using hz
      subst this; simp [pe, mono]⟩
  | k + 1, hk, g => by
    have hp' := pow_le16 hk
    have hpp := Nat.pow_succ 2 k
    obtain ⟨c0, h0⟩ := pe_all k (by omega) g
    obtain ⟨c1, h1⟩ := pe_all k (by omega) fun z => xor (g z) (g (z + 2 ^ k))
    refine ⟨fun i => if i < 2 ^ k then c0 i else c1 (i - 2 ^ k), fun z hz => ?_⟩
    rw [show 2 ^ (k + 1) = 2 ^ k + 2 ^ k by omega, pe_hi k (by omega) _ z (by omega) (2 ^ k) (Nat.le_refl _), pe_congr (fun i => if i < 2 ^ k then c0 i else c1 (i - 2 ^ k)) c0 (2 ^ k) z (fun i hi => if_pos hi), pe_congr (fun i => if i + 2 ^ k < 2 ^ k then c0 (i + 2 ^ k) else c1 (i + 2 ^ k - 2 ^ k)) c1 (2 ^ k) z (fun i hi => by
      show (if i + 2 ^ k < 2 ^ k then _ else _) = _
      rw [if_neg (by omega), Nat.add_sub_cancel])]
    by_cases hl : z < 2 ^ k
    · rw [h0 z hl, bit_low k (by omega) z hl]; simp
    · obtain ⟨y, rfl⟩ : ∃ y, z = y + 2 ^ k := ⟨z - 2 ^ k, by omega⟩
      have hy : y < 2 ^ k := by omega
      rw [pe_up k (by omega) c0 y hy _ (Nat.le_refl _), pe_up k (by omega) c1 y hy _ (Nat.le_refl _), h0 y hy, h1 y hy, bit_top k (by omega) y hy]
      cases g y <;> simp

theorem DD_told : ∀ (k : Nat), k ≤ 4 → ∀ (F : Nat → Bool) (m : Nat), m < 2 ^ k → (DD k F m = true ↔ ¬ ∃ c, ∀ y, y < 2 ^ k → F y = true → mono m y = pe c m y)
  | 0, _, F, m, hm => by
    have : m = 0 := by simpa using hm
    subst this
    show F 0 = true ↔ _
    constructor
    · rintro h ⟨c, hc⟩
      have := hc 0 (by decide) h
      simp [pe, mono] at this
    · intro h
      cases hF : F 0 with
      | true => rfl
      | false => exact absurd ⟨fun _ => false, fun y hy e => by
          have : y = 0 := by simpa using hy
          subst this; rw [hF] at e; cases e⟩ h
  | k + 1, hk, F, m, hm => by
    have hp' := pow_le16 hk
    have hpp := Nat.pow_succ 2 k
    unfold DD
    by_cases hl : m < 2 ^ k
    · rw [if_pos hl, DD_told k (by omega) _ m hl]
      refine not_congr ⟨fun ⟨c, hc⟩ => ⟨c, fun y hy e => ?_⟩, fun ⟨c, hc⟩ => ⟨c, fun y hy e => ?_⟩⟩
      · by_cases hy2 : y < 2 ^ k
        · exact hc y hy2 (by rw [e]; rfl)
        · obtain ⟨z, rfl⟩ : ∃ z, y = z + 2 ^ k := ⟨y - 2 ^ k, by omega⟩
          rw [mono_up k (by omega) m hl z (by omega), pe_up k (by omega) c z (by omega) m (by omega)]
          exact hc z (by omega) (by rw [e, Bool.or_true])
      · rw [Bool.or_eq_true] at e
        rcases e with e | e
        · exact hc y (by omega) e
        · have := hc (y + 2 ^ k) (by omega) e
          rwa [mono_up k (by omega) m hl y hy, pe_up k (by omega) c y hy m (by omega)] at this
    · obtain ⟨m', rfl⟩ : ∃ m', m = m' + 2 ^ k := ⟨m - 2 ^ k, by omega⟩
      have hm' : m' < 2 ^ k := by omega
      rw [if_neg hl, Nat.add_sub_cancel, DD_told k (by omega) _ m' hm']
      refine not_congr ⟨fun ⟨c, hc⟩ => ?_, fun ⟨c, hc⟩ => ⟨fun i => c (i + 2 ^ k), fun y hy e => ?_⟩⟩
      · obtain ⟨c0, h0⟩ := pe_all k (by omega) fun z => F (z + 2 ^ k) && xor (mono m' z) (pe c m' z)
        refine ⟨fun i => if i < 2 ^ k then c0 i else c (i - 2 ^ k), fun y hy e => ?_⟩
        rw [mono_hi k (by omega) m' hm' y (by omega), pe_hi k (by omega) _ y (by omega) m' (by omega), pe_congr (fun i => if i < 2 ^ k then c0 i else c (i - 2 ^ k)) c0 (2 ^ k) y (fun i hi => if_pos hi), pe_congr (fun i => if i + 2 ^ k < 2 ^ k then c0 (i + 2 ^ k) else c (i + 2 ^ k - 2 ^ k)) c m' y (fun i hi => by
          show (if i + 2 ^ k < 2 ^ k then _ else _) = _
          rw [if_neg (by omega), Nat.add_sub_cancel])]
        by_cases hy2 : y < 2 ^ k
        · rw [bit_low k (by omega) y hy2, h0 y hy2]
          have := hc y hy2
          rw [e, Bool.and_true] at this
          cases hF : F (y + 2 ^ k) with
          | false => simp
          | true => rw [this hF]; simp
        · obtain ⟨z, rfl⟩ : ∃ z, y = z + 2 ^ k := ⟨y - 2 ^ k, by omega⟩
          have hz : z < 2 ^ k := by omega
          rw [bit_top k (by omega) z hz, mono_up k (by omega) m' hm' z hz, pe_up k (by omega) c0 z hz _ (Nat.le_refl _), pe_up k (by omega) c z hz _ (by omega), h0 z hz, e]
          cases mono m' z <;> cases pe c m' z <;> rfl
      · rw [Bool.and_eq_true] at e
        have h1 := hc y (by omega) e.2
        have h2 := hc (y + 2 ^ k) (by omega) e.1
        rw [mono_hi k (by omega) m' hm' _ (by omega), pe_hi k (by omega) _ _ (by omega) m' (by omega)] at h1 h2
        rw [bit_low k (by omega) y hy] at h1
        rw [bit_top k (by omega) y hy, mono_up k (by omega) m' hm' y hy, pe_up k (by omega) c y hy _ (Nat.le_refl _), pe_up k (by omega) _ y hy _ (by omega)] at h2
        simp only [Bool.false_and, Bool.xor_false, Bool.true_and] at h1 h2
        rw [← h1] at h2
        simpa using h2
end Mine
end

section
set_option autoImplicit false
namespace Mine
/-! ### lists without doubles -/
theorem snocRec {α : Type} {P : List α → Prop} (nil : P []) (snoc : ∀ xs x, P xs → P (xs ++ [x])) (xs : List α) : P xs := by
  have : ∀ ys : List α, P ys.reverse := fun ys => by
    induction ys with
    | nil => exact nil
    | cons y ys ih => rw [List.reverse_cons]; exact snoc _ _ ih
  have := this xs.reverse
  rwa [List.reverse_reverse] at this
section
variable {α β : Type} [DecidableEq α] [DecidableEq β]
theorem dedup_mem (xs : List α) (a : α) : a ∈ dedup xs ↔ a ∈ xs := by
  induction xs using snocRec with
  | nil => simp [dedup]
  | snoc xs x ih =>
    rw [dedup_snoc]
    split
    · rename_i h
      rw [List.mem_append, List.mem_singleton, ih]
      constructor
      · exact .inl
      · rintro (h' | rfl)
        · exact h'
        · exact ih.mp h
    · simp [ih]
theorem dedup_nodup (xs : List α) : (dedup xs).Nodup := by
  induction xs using snocRec with
  | nil => exact .nil
  | snoc xs x ih =>
    rw [dedup_snoc]
    split
    · exact ih
    · rename_i h
      rw [List.nodup_append]
      exact ⟨ih, by simp, fun a ha b hb e => by
        rw [List.mem_singleton] at hb; subst hb; subst e; exact h ha⟩
theorem dedup_map (f : α → β) (xs : List α) (hf : ∀ a ∈ xs, ∀ b ∈ xs, f a = f b → a = b) : dedup (xs.map f) = (dedup xs).map f := by
  induction xs using snocRec with
  | nil => rfl
  | snoc xs x ih =>
    have ih' := ih fun a ha b hb => hf a (by simp [ha]) b (by simp [hb])
    rw [List.map_append, List.map_singleton, dedup_snoc, dedup_snoc, ih']
    have : f x ∈ (dedup xs).map f ↔ x ∈ dedup xs := by
      rw [List.mem_map]
      constructor
      · rintro ⟨a, ha, e⟩
        have := hf a (by simp [(dedup_mem xs a).mp ha]) x (by simp) e
        exact this ▸ ha
      · exact fun h => ⟨x, h, rfl⟩
    by_cases h : x ∈ dedup xs
    · rw [if_pos h, if_pos (this.mpr h)]
    · rw [if_neg h, if_neg fun q => h (this.mp q), List.map_append]; rfl

theorem remAll_iff : ∀ (es t : List α), es.Nodup → t.Nodup → ((match remAll t es with | some t => t.isEmpty | none => false) = true ↔ ∀ a, a ∈ es ↔ a ∈ t)
  | [], t, _, ht => by
    simp only [remAll, List.isEmpty_iff, List.not_mem_nil, false_iff]
    exact List.eq_nil_iff_forall_not_mem
  | e :: es, t, he, ht => by
    rw [List.nodup_cons] at he
    simp only [remAll]
    by_cases h : e ∈ t
    · rw [if_pos h, remAll_iff es (t.erase e) he.2 (ht.erase e)]
      constructor
      · intro q a
        rw [List.mem_cons, q a]
        by_cases ha : a = e
        · subst ha; simp [h]
        · rw [List.mem_erase_of_ne ha]; simp [ha]
      · intro q a
        by_cases ha : a = e
        · subst ha
          simp only [he.1, false_iff]
          exact fun hm => (List.Nodup.mem_erase_iff ht).mp hm |>.1 rfl
        · rw [List.mem_erase_of_ne ha, ← q a]; simp [ha]
    · rw [if_neg h]
      simp only [Bool.false_eq_true, false_iff]
      exact fun q => h ((q e).mp (.head _))
theorem cmpArgs_iff (xs ys : List α) : cmpArgs xs ys = true ↔ ∀ a, a ∈ xs ↔ a ∈ ys := by
  refine Iff.trans (remAll_iff _ _ (dedup_nodup xs) (dedup_nodup ys)) ?_
  simp only [dedup_mem]

theorem uldR_fst : ∀ (es m a : List α), es.Nodup → (uldR es m a).1 = m ++ es.filter fun e => decide (e ∉ a)
  | [], m, a, _ => by simp [uldR]
  | e :: es, m, a, h => by
    rw [List.nodup_cons] at h
    unfold uldR
    by_cases he : e ∈ a
    · rw [if_pos he, uldR_fst es m _ h.2, List.filter_cons_of_neg (by simpa using he)]
      congr 1
      refine List.filter_congr fun x hx => ?_
      exact decide_eq_decide.mpr (not_congr (List.mem_erase_of_ne (show x ≠ e from fun q => h.1 (q ▸ hx))))
    · rw [if_neg he, uldR_fst es _ a h.2, List.filter_cons_of_pos (by simpa using he)]; simp
theorem uld_fst (es a : List α) (h : es.Nodup) : (uld es a).1 = es.reverse.filter fun e => decide (e ∉ a) := by
  unfold uld; rw [uldR_fst _ _ _ (List.pairwise_reverse.mpr (h.imp Ne.symm))]; rfl
end

/-! ### sets of rights and numbers below 16 -/
def clr (r m : Nat) : Nat := if m.testBit r then m - 2 ^ r else m
theorem setL_inj : ∀ a < 16, ∀ b < 16, setL a = setL b → a = b := by decide +kernel
theorem setL_less : ∀ r < 4, ∀ m < 16, less (setL m) r = setL (clr r m) := by decide +kernel
theorem setL_mem : ∀ r < 4, ∀ m < 16, decide (r ∈ setL m) = m.testBit r := by decide +kernel
theorem setL_lt (m : Nat) : ∀ r ∈ setL m, r < 4 := fun r h => by
  unfold setL at h; rw [List.mem_filter, List.mem_range] at h; exact h.1
theorem setL_cap : ∀ m < 16, ∀ y < 16, (setL y).filter (fun k => decide (k ∈ setL m)) = setL (y &&& m) := by decide +kernel
theorem setL_low : ∀ s < 4, List.range s = setL (2 ^ s - 1) := by decide +kernel
theorem clr_lt : ∀ r < 4, ∀ m < 16, clr r m < 16 := by decide +kernel
theorem clr_bit : ∀ r < 4, ∀ m < 16, m.testBit r = true → 2 ^ r ≤ m ∧ (m - 2 ^ r).testBit r = false := by decide +kernel
theorem set_bit : ∀ r < 4, ∀ m < 16, m.testBit r = false → m + 2 ^ r < 16 ∧ (m + 2 ^ r).testBit r = true := by decide +kernel
theorem setL_mem_map {xs : List Nat} (hx : ∀ x ∈ xs, x < 16) {a : Nat} (ha : a < 16) : setL a ∈ xs.map setL ↔ a ∈ xs := by
  rw [List.mem_map]
  exact ⟨fun ⟨b, hb, e⟩ => setL_inj b (hx b hb) a ha e ▸ hb, fun h => ⟨a, h, rfl⟩⟩
theorem nodup_setL {xs : List Nat} (hx : ∀ x ∈ xs, x < 16) (h : xs.Nodup) : (xs.map setL).Nodup := by
  refine List.pairwise_map.mpr (List.Pairwise.imp_of_mem (fun {a b} ha hb hne e => hne (setL_inj a (hx a ha) b (hx b hb) e)) h)
end Mine
end

section
set_option autoImplicit false
set_option linter.unusedSectionVars false
namespace Mine
theorem subs_len : ∀ m < 16, ((List.range 16).filter fun p => p &&& m == p).length = 2 ^ (setL m).length := by decide +kernel
theorem and_and : ∀ m < 16, ∀ y < 16, (y &&& m) < 16 ∧ ((y &&& m) &&& m) = y &&& m := by decide +kernel
theorem and_mod : ∀ s < 4, ∀ y < 16, y &&& (2 ^ s - 1) = y % 2 ^ s := by decide +kernel
theorem low_sub : ∀ s < 4, ∀ p < 2 ^ s, p < 16 ∧ p &&& (2 ^ s - 1) = p := by decide +kernel

theorem nd_len {α : Type} [DecidableEq α] : ∀ (l s : List α), l.Nodup → (∀ a ∈ l, a ∈ s) → l.length ≤ s.length
  | [], s, _, _ => Nat.zero_le _
  | a :: l, s, h, hs => by
    rw [List.nodup_cons] at h
    have ha := hs a (.head _)
    have := nd_len l (s.erase a) h.2 fun b hb => (List.mem_erase_of_ne (show b ≠ a from fun q => h.1 (q ▸ hb))).mpr (hs b (.tail _ hb))
    rw [List.length_erase_of_mem ha] at this
    have := List.length_pos_of_mem ha
    simp only [List.length_cons]; omega
/-- a list without doubles within a list without doubles is as long exactly if it holds all -/
theorem len_all {α : Type} [DecidableEq α] {l s : List α} (hl : l.Nodup) (hs : s.Nodup) (hsub : ∀ a ∈ l, a ∈ s) : l.length = s.length ↔ ∀ a ∈ s, a ∈ l := by
  constructor
  · intro h a ha
    refine Classical.byContradiction fun q => ?_
    have := nd_len l (s.erase a) hl fun b hb => (List.mem_erase_of_ne (show b ≠ a from fun e => q (e ▸ hb))).mpr (hsub b hb)
    rw [List.length_erase_of_mem ha] at this
    have := List.length_pos_of_mem ha
    omega
  · intro h
    exact Nat.le_antisymm (nd_len l s hl hsub) (nd_len s l hs h)
/-! ### one pass -/
theorem lowered_nat (xs : List Nat) (hx : ∀ x ∈ xs, x < 16) (hn : xs.Nodup) (r : Nat) (hr : r < 4) :
    ∃ ys : List Nat, (∀ y ∈ ys, y < 16) ∧ ys.Nodup ∧ lowered (xs.map setL) r = ys.map setL ∧ ∀ y, y < 16 → (decide (y ∈ ys) = sh r (fun z => decide (z ∈ xs)) y) := by
  have hB : bare (xs.map setL) r = ((xs.filter fun m => m.testBit r).map fun m => m - 2 ^ r).map setL := by
    unfold bare
    rw [List.filter_map, List.map_map, List.map_map]
    have e : xs.filter ((fun row => decide (r ∈ row)) ∘ setL) = xs.filter fun m => m.testBit r := List.filter_congr fun m hm => setL_mem r hr m (hx m hm)
    rw [e]
    refine List.map_congr_left fun m hm => ?_
    rw [List.mem_filter] at hm
    show less (setL m) r = setL (m - 2 ^ r)
    rw [setL_less r hr m (hx m hm.1), clr, if_pos hm.2]
  have hBx : ∀ m ∈ (xs.filter fun m => m.testBit r).map fun m => m - 2 ^ r, m < 16 := fun m hm => by
    obtain ⟨k, hk, rfl⟩ := List.mem_map.mp hm
    have := hx k (List.mem_filter.mp hk).1
    exact Nat.lt_of_le_of_lt (Nat.sub_le _ _) this
  have hBn : ((xs.filter fun m => m.testBit r).map fun m => m - 2 ^ r).Nodup := by
    refine List.pairwise_map.mpr (List.Pairwise.imp_of_mem (fun {a b} ha hb hne e => hne ?_) (hn.sublist List.filter_sublist))
    rw [List.mem_filter] at ha hb
    have h1 := (clr_bit r hr a (hx a ha.1) ha.2).1
    have h2 := (clr_bit r hr b (hx b hb.1) hb.2).1
    omega
  generalize hBB : ((xs.filter fun m => m.testBit r).map fun m => m - 2 ^ r) = B at hB hBx hBn
  have hmis : (uld (bare (xs.map setL) r) (xs.map setL)).1 = (B.reverse.filter fun m => decide (m ∉ xs)).map setL := by
    rw [hB, uld_fst _ _ (nodup_setL hBx hBn), ← List.map_reverse, List.filter_map]
    congr 1
    refine List.filter_congr fun m hm => ?_
    exact decide_eq_decide.mpr (not_congr (setL_mem_map hx (hBx m (List.mem_reverse.mp hm))))
  have hBm : ∀ y, y < 16 → (y ∈ B ↔ y.testBit r = false ∧ y + 2 ^ r ∈ xs) := fun y hy => by
    rw [← hBB, List.mem_map]
    constructor
    · rintro ⟨m, hm, rfl⟩
      rw [List.mem_filter] at hm
      have h1 := clr_bit r hr m (hx m hm.1) hm.2
      refine ⟨h1.2, ?_⟩
      rw [Nat.sub_add_cancel h1.1]; exact hm.1
    · rintro ⟨h1, h2⟩
      exact ⟨y + 2 ^ r, List.mem_filter.mpr ⟨h2, (set_bit r hr y hy h1).2⟩, Nat.add_sub_cancel ..⟩
  generalize hM : (B.reverse.filter fun m => decide (m ∉ xs)) = M at hmis
  have hMm : ∀ y, y ∈ M ↔ y ∈ B ∧ y ∉ xs := fun y => by rw [← hM, List.mem_filter, List.mem_reverse, decide_eq_true_iff]
  have hMx : ∀ y ∈ M, y < 16 := fun y hy => hBx y ((hMm y).mp hy).1
  have hMn : M.Nodup := by
    rw [← hM]
    exact List.Pairwise.sublist List.filter_sublist (List.pairwise_reverse.mpr (hBn.imp Ne.symm))
  refine ⟨(xs.filter fun m => decide (clr r m ∉ M)) ++ M, ?_, ?_, ?_, ?_⟩
  · intro y hy
    rw [List.mem_append] at hy
    rcases hy with hy | hy
    · exact hx y (List.mem_filter.mp hy).1
    · exact hMx y hy
  · rw [List.nodup_append]
    refine ⟨hn.sublist List.filter_sublist, hMn, fun a ha b hb e => ?_⟩
    subst e
    exact ((hMm a).mp hb).2 (List.mem_filter.mp ha).1
  · unfold lowered
    rw [hmis, List.map_append, List.filter_map]
    congr 2
    refine List.filter_congr fun m hm => ?_
    show decide (less (setL m) r ∉ _) = _
    rw [setL_less r hr m (hx m hm)]
    exact decide_eq_decide.mpr (not_congr (setL_mem_map hMx (clr_lt r hr m (hx m hm))))
  · intro y hy
    have hmem : y ∈ (xs.filter fun m => decide (clr r m ∉ M)) ++ M ↔ (y ∈ xs ∧ clr r y ∉ M) ∨ y ∈ M := by
      rw [List.mem_append, List.mem_filter, decide_eq_true_iff]
    rw [Bool.eq_iff_iff, decide_eq_true_iff, hmem]
    unfold sh
    cases hb : y.testBit r with
    | true =>
      have h1 := clr_bit r hr y hy hb
      have hc : clr r y = y - 2 ^ r := by rw [clr, if_pos hb]
      rw [if_pos rfl, Bool.and_eq_true, decide_eq_true_iff, decide_eq_true_iff, hc, hMm, hMm, hBm y hy, hBm _ (Nat.lt_of_le_of_lt (Nat.sub_le _ _) hy), Nat.sub_add_cancel h1.1, hb, h1.2]
      constructor
      · rintro (⟨a, b⟩ | ⟨⟨a, _⟩, _⟩)
        · refine ⟨a, Classical.byContradiction fun q => b ⟨⟨rfl, a⟩, q⟩⟩
        · cases a
      · rintro ⟨a, b⟩
        exact .inl ⟨a, fun q => q.2 b⟩
    | false =>
      have hc : clr r y = y := by rw [clr, hb]; rfl
      rw [if_neg (by decide), Bool.or_eq_true, decide_eq_true_iff, decide_eq_true_iff, hc, hMm, hBm y hy, hb]
      constructor
      · rintro (⟨a, _⟩ | ⟨⟨_, a⟩, _⟩)
        · exact .inl a
        · exact .inr a
      · intro q
        by_cases a : y ∈ xs
        · exact .inl ⟨a, fun q => q.2 a⟩
        · exact .inr ⟨⟨rfl, q.resolve_left a⟩, a⟩

theorem sh_congr (r : Nat) (hr : r < 4) (F G : Nat → Bool) (h : ∀ y, y < 16 → F y = G y) (y : Nat) (hy : y < 16) : sh r F y = sh r G y := by
  unfold sh
  split
  · rw [h y hy, h (y - 2 ^ r) (Nat.lt_of_le_of_lt (Nat.sub_le _ _) hy)]
  · rename_i hb
    rw [h y hy, h _ (set_bit r hr y hy (by simpa using hb)).1]

def leftOf (nibs : List Nat) : List (List Nat) := lowered (lowered (lowered (lowered (dedup (nibs.map setL)) 3) 2) 1) 0
def has (nibs : List Nat) (y : Nat) : Bool := decide (y ∈ nibs)
theorem left_nat (nibs : List Nat) (h16 : ∀ y ∈ nibs, y < 16) : ∃ L : List Nat, (∀ y ∈ L, y < 16) ∧ L.Nodup ∧ leftOf nibs = L.map setL ∧ ∀ y, y < 16 → (y ∈ L ↔ DD 4 (has nibs) y = true) := by
  have h0 : dedup (nibs.map setL) = (dedup nibs).map setL := dedup_map setL nibs fun a ha b hb e => setL_inj a (h16 a ha) b (h16 b hb) e
  have hx0 : ∀ y ∈ dedup nibs, y < 16 := fun y hy => h16 y ((dedup_mem nibs y).mp hy)
  obtain ⟨l3, x3, n3, e3, m3⟩ := lowered_nat (dedup nibs) hx0 (dedup_nodup nibs) 3 (by decide)
  obtain ⟨l2, x2, n2, e2, m2⟩ := lowered_nat l3 x3 n3 2 (by decide)
  obtain ⟨l1, x1, n1, e1, m1⟩ := lowered_nat l2 x2 n2 1 (by decide)
  obtain ⟨l0, x0, n0, e0, m0⟩ := lowered_nat l1 x1 n1 0 (by decide)
  refine ⟨l0, x0, n0, ?_, fun y hy => ?_⟩
  · unfold leftOf; rw [h0, e3, e2, e1, e0]
  · rw [← decide_eq_true_iff (p := y ∈ l0), m0 y hy, sh_congr 0 (by decide) _ _ m1 y hy, ← DD_sh _ y hy]
    rw [sh_congr 0 (by decide) _ _ (sh_congr 1 (by decide) _ _ m2) y hy, sh_congr 0 (by decide) _ _ (sh_congr 1 (by decide) _ _ (sh_congr 2 (by decide) _ _ m3)) y hy]
    rw [sh_congr 0 (by decide) _ _ (sh_congr 1 (by decide) _ _ (sh_congr 2 (by decide) _ _ (sh_congr 3 (by decide) (fun z => decide (z ∈ dedup nibs)) (has nibs) fun z _ => decide_eq_decide.mpr (dedup_mem nibs z)))) y hy]

theorem told_DD (nibs : List Nat) (h16 : ∀ y ∈ nibs, y < 16) (m : Nat) (hm : m < 16) : ¬ told nibs m ↔ DD 4 (has nibs) m = true := by
  rw [DD_told 4 (by decide) (has nibs) m hm]
  refine not_congr ⟨fun ⟨c, hc⟩ => ⟨c, fun y _ e => hc y (of_decide_eq_true e)⟩, fun ⟨c, hc⟩ => ⟨c, fun y hy => hc y (h16 y hy) (decide_eq_true hy)⟩⟩

open Classical in
theorem unt_mem (nibs : List Nat) (m : Nat) : m ∈ unt nibs 16 ↔ m < 16 ∧ ¬ told nibs m := by
  unfold unt; rw [List.mem_filter, List.mem_range, decide_eq_true_iff]
theorem unt_nodup (nibs : List Nat) : (unt nibs 16).Nodup := by
  unfold unt; exact List.nodup_range.sublist List.filter_sublist

section
variable (nibs : List Nat) (h16 : ∀ y ∈ nibs, y < 16) (hne : nibs ≠ [])
include h16
theorem left_unt (a : List Nat) : a ∈ leftOf nibs ↔ a ∈ (unt nibs 16).map setL := by
  obtain ⟨L, hx, hn, e, hm⟩ := left_nat nibs h16
  rw [e, List.mem_map, List.mem_map]
  refine ⟨fun ⟨y, hy, q⟩ => ⟨y, (unt_mem nibs y).mpr ⟨hx y hy, (told_DD nibs h16 y (hx y hy)).mpr ((hm y (hx y hy)).mp hy)⟩, q⟩, fun ⟨y, hy, q⟩ => ⟨y, ?_, q⟩⟩
  have := (unt_mem nibs y).mp hy
  exact (hm y this.1).mpr ((told_DD nibs h16 y this.1).mp this.2)
theorem law_left : cmpArgs (leftOf nibs) ((unt nibs 16).map setL) = true := (cmpArgs_iff _ _).mpr (left_unt nibs h16)
theorem left_nodup : (leftOf nibs).Nodup := by
  obtain ⟨L, hx, hn, e, hm⟩ := left_nat nibs h16
  rw [e]; exact nodup_setL hx hn
theorem untL_nodup : ((unt nibs 16).map setL).Nodup := nodup_setL (fun y hy => ((unt_mem nibs y).mp hy).1) (unt_nodup nibs)
include hne
theorem empty_left : [] ∈ (unt nibs 16).map setL := by
  refine List.mem_map.mpr ⟨0, (unt_mem nibs 0).mpr ⟨by decide, ?_⟩, rfl⟩
  rintro ⟨c, hc⟩
  obtain ⟨y, hy⟩ := List.exists_mem_of_ne_nil nibs hne
  have := hc y hy
  simp [mono, pe] at this
theorem law_left1 : cmpArgs ((leftOf nibs).drop 1) ((unt nibs 16).map setL) = false := by
  have h1 := left_unt nibs h16
  have h2 := left_nodup nibs h16
  have h3 := empty_left nibs h16 hne
  cases hL : leftOf nibs with
  | nil => rw [hL] at h1; exact absurd ((h1 []).mpr h3) (by simp)
  | cons a l =>
    rw [hL] at h1 h2
    rw [Bool.eq_false_iff]
    intro q
    rw [cmpArgs_iff] at q
    exact (List.nodup_cons.mp h2).1 ((q a).mpr ((h1 a).mp (.head _)))
theorem law_left2 : cmpArgs (leftOf nibs) (((unt nibs 16).map setL).drop 1) = false := by
  have h1 := left_unt nibs h16
  have h2 := untL_nodup nibs h16
  have h3 := empty_left nibs h16 hne
  cases hL : (unt nibs 16).map setL with
  | nil => rw [hL] at h3; exact absurd h3 (by simp)
  | cons a l =>
    rw [hL] at h1 h2
    rw [Bool.eq_false_iff]
    intro q
    rw [cmpArgs_iff] at q
    exact (List.nodup_cons.mp h2).1 ((q a).mp ((h1 a).mpr (.head _)))
omit hne

theorem left_mem {m : Nat} (hm : m < 16) : setL m ∈ leftOf nibs ↔ DD 4 (has nibs) m = true := by
  obtain ⟨L, hx, hn, e, h⟩ := left_nat nibs h16
  rw [e, setL_mem_map hx hm, h m hm]

/-- left as it was, exactly if closed -/
theorem law_closed : cmpArgs (leftOf nibs) (nibs.map setL) = decide (∀ row ∈ nibs.map setL, ∀ gone ∈ row, less row gone ∈ nibs.map setL) := by
  rw [Bool.eq_iff_iff, cmpArgs_iff, decide_eq_true_iff]
  have hcl : (∀ row ∈ nibs.map setL, ∀ gone ∈ row, less row gone ∈ nibs.map setL) ↔ ∀ j y, j < 4 → y < 16 → y.testBit j = true → has nibs y = true → has nibs (y - 2 ^ j) = true := by
    constructor
    · intro h j y hj hy hb e
      have hy' := of_decide_eq_true e
      have := h (setL y) (List.mem_map_of_mem hy') j (of_decide_eq_true ((setL_mem j hj y hy).trans hb))
      rw [setL_less j hj y hy, setL_mem_map h16 (clr_lt j hj y hy), clr, if_pos hb] at this
      exact decide_eq_true this
    · intro h row hrow gone hg
      obtain ⟨y, hy, rfl⟩ := List.mem_map.mp hrow
      have hj := setL_lt y gone hg
      have hy16 := h16 y hy
      have hb : y.testBit gone = true := by rw [← setL_mem gone hj y hy16]; exact decide_eq_true hg
      rw [setL_less gone hj y hy16, setL_mem_map h16 (clr_lt gone hj y hy16), clr, if_pos hb]
      exact of_decide_eq_true (h gone y hj hy16 hb (decide_eq_true hy))
  rw [hcl]
  constructor
  · intro h
    have e : ∀ y, y < 16 → DD 4 (has nibs) y = has nibs y := fun y hy => by
      rw [Bool.eq_iff_iff, ← left_mem nibs h16 hy, h, setL_mem_map h16 hy, has, decide_eq_true_iff]
    intro j y hj hy hb q
    rw [← e y hy] at q
    rw [← e _ (Nat.lt_of_le_of_lt (Nat.sub_le _ _) hy)]
    exact DD_closed 4 (by decide) _ j y hj hy hb q
  · intro h a
    have e := DD_fixed 4 (by decide) (has nibs) h
    obtain ⟨L, hx, hn, e', hm⟩ := left_nat nibs h16
    rw [e']
    constructor
    · intro ha
      obtain ⟨y, hy, rfl⟩ := List.mem_map.mp ha
      have := (hm y (hx y hy)).mp hy
      rw [e y (hx y hy)] at this
      exact List.mem_map_of_mem (of_decide_eq_true this)
    · intro ha
      obtain ⟨y, hy, rfl⟩ := List.mem_map.mp ha
      exact List.mem_map_of_mem ((hm y (h16 y hy)).mpr (by rw [e y (h16 y hy)]; exact decide_eq_true hy))

def partsOf (one : List Nat) : List (List Nat) := dedup ((nibs.map setL).map fun row => row.filter fun k => decide (k ∈ one))
theorem parts_shatter {m : Nat} (hm : m < 16) : (partsOf nibs (setL m)).length = 2 ^ (setL m).length ↔ ∀ p, p < 16 → p &&& m = p → ∃ y, y < 16 ∧ has nibs y = true ∧ y &&& m = p := by
  have e : partsOf nibs (setL m) = (dedup (nibs.map fun y => y &&& m)).map setL := by
    unfold partsOf
    rw [List.map_map, ← dedup_map setL]
    · rw [List.map_map]
      congr 1
      exact List.map_congr_left fun y hy => setL_cap m hm y (h16 y hy)
    · intro a ha b hb q
      obtain ⟨x, hx, rfl⟩ := List.mem_map.mp ha
      obtain ⟨y, hy, rfl⟩ := List.mem_map.mp hb
      exact setL_inj _ (and_and m hm x (h16 x hx)).1 _ (and_and m hm y (h16 y hy)).1 q
  rw [e, List.length_map, ← subs_len m hm, len_all (dedup_nodup _) (List.nodup_range.sublist List.filter_sublist) (fun a ha => ?_)]
  · constructor
    · intro h p hp hpm
      have := h p (List.mem_filter.mpr ⟨List.mem_range.mpr hp, by simpa using hpm⟩)
      rw [dedup_mem, List.mem_map] at this
      obtain ⟨y, hy, q⟩ := this
      exact ⟨y, h16 y hy, decide_eq_true hy, q⟩
    · intro h p hp
      rw [List.mem_filter, List.mem_range] at hp
      obtain ⟨y, hy, hF, q⟩ := h p hp.1 (by simpa using hp.2)
      rw [dedup_mem, List.mem_map]
      exact ⟨y, of_decide_eq_true hF, q⟩
  · rw [dedup_mem, List.mem_map] at ha
    obtain ⟨y, hy, rfl⟩ := ha
    have := and_and m hm y (h16 y hy)
    exact List.mem_filter.mpr ⟨List.mem_range.mpr this.1, by simpa using this.2⟩

theorem law_parts (one : List Nat) (h : one ∈ leftOf nibs ++ (List.range 4).map List.range) : (partsOf nibs one).length = 2 ^ one.length ↔ one ∈ leftOf nibs := by
  have hleft : ∀ m, m < 16 → setL m ∈ leftOf nibs → (partsOf nibs (setL m)).length = 2 ^ (setL m).length := fun m hm hl => by
    rw [parts_shatter nibs h16 hm]
    intro p hp hpm
    exact DD_shatter 4 (by decide) (has nibs) m p hm hp hpm ((left_mem nibs h16 hm).mp hl)
  rw [List.mem_append] at h
  rcases h with h | h
  · obtain ⟨L, hx, hn, e, hm⟩ := left_nat nibs h16
    have h' := h
    rw [e] at h'
    obtain ⟨m, hmL, rfl⟩ := List.mem_map.mp h'
    exact ⟨fun _ => h, fun _ => hleft m (hx m hmL) h⟩
  · obtain ⟨s, hs, rfl⟩ := List.mem_map.mp h
    rw [List.mem_range] at hs
    have hlt : 2 ^ s - 1 < 16 := by
      have := Nat.pow_le_pow_right (show 0 < 2 by decide) (show s ≤ 4 by omega)
      omega
    rw [setL_low s hs]
    refine ⟨fun q => ?_, hleft _ hlt⟩
    rw [parts_shatter nibs h16 hlt] at q
    rw [left_mem nibs h16 hlt]
    have := DD_proj s (4 - s) (has nibs)
    rw [show s + (4 - s) = 4 by omega] at this
    refine this fun z hz => ?_
    obtain ⟨y, hy, hF, e⟩ := q z (low_sub s hs z hz).1 (low_sub s hs z hz).2
    exact ⟨y, hy, hF, by rw [← and_mod s hs y hy]; exact e⟩
end
end Mine
end

section
set_option autoImplicit false
namespace Mine
open PyProof PySem
/-! ### the first of each -/
def firstsOf {α : Type} [DecidableEq α] (d : α) (xs : List α) : List Nat := (List.range xs.length).filter fun j => decide (xs.getD j d ∉ xs.take j)
theorem firsts_sorted {α : Type} [DecidableEq α] (d : α) (xs : List α) : (firstsOf d xs).Pairwise (· < ·) := (range_lt _).sublist List.filter_sublist
theorem firsts_dedup {α : Type} [DecidableEq α] (d : α) (xs : List α) : (firstsOf d xs).map (fun j => xs.getD j d) = dedup xs := by
  induction xs using snocRec with
  | nil => rfl
  | snoc xs x ih =>
    have e : firstsOf d (xs ++ [x]) = firstsOf d xs ++ (if x ∈ xs then [] else [xs.length]) := by
      unfold firstsOf
      rw [List.length_append, List.length_singleton, List.range_succ, List.filter_append]
      congr 1
      · refine List.filter_congr fun j hj => ?_
        rw [List.mem_range] at hj
        have e1 : (xs ++ [x]).getD j d = xs.getD j d := by simp [List.getD, List.getElem?_append_left hj]
        have e2 : (xs ++ [x]).take j = xs.take j := List.take_append_of_le_length (by omega)
        rw [e1, e2]
      · have e1 : (xs ++ [x]).getD xs.length d = x := by simp [List.getD]
        have e2 : (xs ++ [x]).take xs.length = xs := by simp
        by_cases h : x ∈ xs
        · rw [if_pos h, List.filter_cons_of_neg (by rw [e1, e2]; simpa using h)]; rfl
        · rw [if_neg h, List.filter_cons_of_pos (by rw [e1, e2]; simpa using h)]; rfl
    rw [e, List.map_append, dedup_snoc]
    have e2 : (firstsOf d xs).map (fun j => (xs ++ [x]).getD j d) = dedup xs := by
      rw [← ih]
      refine List.map_congr_left fun j hj => ?_
      unfold firstsOf at hj
      rw [List.mem_filter, List.mem_range] at hj
      simp [List.getD, List.getElem?_append_left hj.1]
    rw [e2]
    by_cases h : x ∈ xs
    · rw [if_pos h, if_pos ((dedup_mem xs x).mpr h)]; simp
    · rw [if_neg h, if_neg fun q => h ((dedup_mem xs x).mp q)]; simp

theorem firsts_inv (nibs : List Nat) (h16 : ∀ y ∈ nibs, y < 16) (cl : Nat → Option (List Nat)) (leads : List Nat) (I : Inv nibs 16 cl leads) (a : Nat) : a ∈ firstsOf 0 nibs ↔ a ∈ leads := by
  have hget : ∀ j, j < nibs.length → nibs.getD j 0 ∈ nibs := fun j hj => by rw [getD_get nibs j hj]; exact List.getElem_mem hj
  unfold firstsOf
  rw [List.mem_filter, List.mem_range, decide_eq_true_iff, I.keys]
  constructor
  · rintro ⟨ha, hn⟩
    obtain ⟨c, hc⟩ := pe_all 4 (by decide) fun y => y == nibs.getD a 0
    have e : Vf nibs (pe c 16) = Vf nibs fun y => y == nibs.getD a 0 := Vf_congr nibs _ _ fun y hy => hc y (h16 y hy)
    have hh : (Vf nibs fun y => y == nibs.getD a 0).head? = some a := by
      refine head_of_min ((Vf_mem nibs _ a).mpr ⟨ha, by simp⟩) fun j hj => ?_
      have := (Vf_mem nibs _ j).mp hj
      refine Nat.le_of_not_lt fun hlt => hn ?_
      have e : nibs.getD j 0 = nibs.getD a 0 := by simpa using this.2
      rw [← e, getD_get nibs j this.1]
      exact List.mem_take_iff_getElem.mpr ⟨j, by omega, rfl⟩
    rcases I.full c with h | ⟨b, hb, hs⟩
    · rw [e] at h; rw [h] at hh; cases hh
    · rw [e, hh] at hb; cases hb; exact hs
  · intro h
    obtain ⟨f, hf⟩ := Option.isSome_iff_exists.mp h
    obtain ⟨c, rfl, hh⟩ := I.el a f hf
    obtain ⟨h1, h2⟩ := vf_min hh
    have h1' := (Vf_mem nibs _ a).mp h1
    refine ⟨h1'.1, fun hm => ?_⟩
    obtain ⟨j, hj, e⟩ := List.mem_take_iff_getElem.mp hm
    have hj' : j < nibs.length := by omega
    have := h2 j ((Vf_mem nibs _ j).mpr ⟨hj', by rw [getD_get nibs j hj', e]; exact h1'.2⟩)
    omega

/-! ### signs -/
theorem bitAnd_nat (a b : Nat) : Builtin.bitAnd (a : Int) (b : Int) = ((a &&& b : Nat) : Int) := by
  unfold Builtin.bitAnd
  rw [decide_eq_true (show (0 : Int) ≤ a by omega), decide_eq_true (show (0 : Int) ≤ b by omega)]
  rfl
theorem and_bit (m a : Nat) : m &&& 2 ^ a = if m.testBit a then 2 ^ a else 0 := by
  apply Nat.eq_of_testBit_eq
  intro j
  rw [Nat.testBit_and, Nat.testBit_two_pow]
  by_cases h : a = j
  · subst h; cases hb : m.testBit a <;> simp [Nat.testBit_two_pow]
  · cases hb : m.testBit a <;> simp [Nat.testBit_two_pow, h]
theorem hit_nat (i m b : Nat) : hitF (i + 1) (m : Int) (b : Int) = (m &&& b == b) := by
  unfold hitF
  rw [if_neg (by omega), bitAnd_nat, Bool.eq_iff_iff, beq_iff_eq, beq_iff_eq]; omega
theorem hit_one (i m a : Nat) : hitF (i + 1) (m : Int) ((2 ^ a : Nat) : Int) = m.testBit a := by
  rw [hit_nat, and_bit]
  have := Nat.two_pow_pos a
  cases m.testBit a with
  | true => simp
  | false =>
    rw [if_neg (by decide), beq_eq_false_iff_ne]; omega
theorem hit_two (i m a b : Nat) (h1 : ((0 : Nat) ||| 2 ^ b == 2 ^ a ||| 2 ^ b) = false) (h2 : (2 ^ a ||| 0 == 2 ^ a ||| 2 ^ b) = false) (h3 : ((0 : Nat) ||| 0 == 2 ^ a ||| 2 ^ b) = false) : hitF (i + 1) (m : Int) ((2 ^ a ||| 2 ^ b : Nat) : Int) = (m.testBit a && m.testBit b) := by
  rw [hit_nat, Nat.and_or_distrib_left, and_bit, and_bit]
  cases m.testBit a <;> cases m.testBit b
  · exact h3
  · exact h1
  · exact h2
  · simp
theorem sign_one (i m a : Nat) (c : Str) : signOf (m : Int) (i + 1) [(((2 ^ a : Nat) : Int), c)] = if m.testBit a then c else "-" := by
  unfold signOf
  rw [List.find?_cons]
  simp only [hit_one]
  cases m.testBit a <;> rfl
theorem sign_three (i m a b : Nat) (c1 c2 c3 : Str) (h1 : ((0 : Nat) ||| 2 ^ b == 2 ^ a ||| 2 ^ b) = false) (h2 : (2 ^ a ||| 0 == 2 ^ a ||| 2 ^ b) = false) (h3 : ((0 : Nat) ||| 0 == 2 ^ a ||| 2 ^ b) = false) :
    signOf (m : Int) (i + 1) [(((2 ^ a ||| 2 ^ b : Nat) : Int), c1), (((2 ^ b : Nat) : Int), c2), (((2 ^ a : Nat) : Int), c3)] = if m.testBit a && m.testBit b then c1 else if m.testBit b then c2 else if m.testBit a then c3 else "-" := by
  unfold signOf
  rw [List.find?_cons, List.find?_cons, List.find?_cons]
  simp only [hit_one, hit_two i m a b h1 h2 h3]
  cases m.testBit a <;> cases m.testBit b <;> rfl

theorem signOf_mk (mode : Int) (i : Nat) (hi : i < 10) : signOf mode i (ftab[i]?.getD []) = ⟨#[(signOf mode i (ftab[i]?.getD [])).cps.getD 0 0]⟩ := by
  have := signOf_len mode i hi
  generalize signOf mode i (ftab[i]?.getD []) = x at this
  obtain ⟨x⟩ := x
  have h : x.size = 1 := this
  congr 1
  apply Array.ext
  · simp [h]
  · intro j h1 h2
    have : j = 0 := by omega
    subst this
    simp [Array.getD, h]
theorem textOf_cps (mode : Nat) : textOf mode = ⟨((List.range 10).map fun i => (signOf mode i (ftab[i]?.getD [])).cps.getD 0 0).toArray⟩ := by
  unfold textOf
  show Builtin.Str.glued (PySem.Str.ofString "") (signs mode) = _
  rw [StrLaws.glued_eq_join]
  have e : signs (mode : Int) = ((List.range 10).map fun i => (signOf mode i (ftab[i]?.getD [])).cps.getD 0 0).map fun k => (⟨#[k]⟩ : Str) := by
    unfold signs
    rw [List.map_map]
    exact List.map_congr_left fun i hi => signOf_mk mode i (List.mem_range.mp hi)
  rw [e]
  exact PyProof.Rows.join_ones _
theorem charAt_text (mode i : Nat) (hi : i < 10) : charAt (textOf mode) i = signOf mode i (ftab[i]?.getD []) := by
  rw [signOf_mk mode i hi, charAt, textOf_cps]
  simp [Array.getD, hi]
end Mine
end

section
set_option autoImplicit false
namespace Mine
open PyProof PySem
theorem shown_bit (m : Nat) : ∀ r, r < 12 → shown (textOf m) r = m.testBit r
  | 0, _ => by
    unfold shown; rw [if_neg (by decide), charAt_text m 9 (by decide)]
    rw [show signOf (m : Int) 9 (ftab[9]?.getD []) = _ from sign_three 8 m 0 9 "t" "T" "x" (by decide) (by decide) (by decide)]
    cases m.testBit 0 <;> cases m.testBit 9 <;> decide +kernel
  | 1, _ => by
    unfold shown; rw [if_neg (by decide), charAt_text m 8 (by decide)]
    rw [show signOf (m : Int) 8 (ftab[8]?.getD []) = _ from sign_one 7 m 1 "w"]
    cases m.testBit 1 <;> decide +kernel
  | 2, _ => by
    unfold shown; rw [if_neg (by decide), charAt_text m 7 (by decide)]
    rw [show signOf (m : Int) 7 (ftab[7]?.getD []) = _ from sign_one 6 m 2 "r"]
    cases m.testBit 2 <;> decide +kernel
  | 3, _ => by
    unfold shown; rw [if_neg (by decide), charAt_text m 6 (by decide)]
    rw [show signOf (m : Int) 6 (ftab[6]?.getD []) = _ from sign_three 5 m 3 10 "s" "S" "x" (by decide) (by decide) (by decide)]
    cases m.testBit 3 <;> cases m.testBit 10 <;> decide +kernel
  | 4, _ => by
    unfold shown; rw [if_neg (by decide), charAt_text m 5 (by decide)]
    rw [show signOf (m : Int) 5 (ftab[5]?.getD []) = _ from sign_one 4 m 4 "w"]
    cases m.testBit 4 <;> decide +kernel
  | 5, _ => by
    unfold shown; rw [if_neg (by decide), charAt_text m 4 (by decide)]
    rw [show signOf (m : Int) 4 (ftab[4]?.getD []) = _ from sign_one 3 m 5 "r"]
    cases m.testBit 5 <;> decide +kernel
  | 6, _ => by
    unfold shown; rw [if_neg (by decide), charAt_text m 3 (by decide)]
    rw [show signOf (m : Int) 3 (ftab[3]?.getD []) = _ from sign_three 2 m 6 11 "s" "S" "x" (by decide) (by decide) (by decide)]
    cases m.testBit 6 <;> cases m.testBit 11 <;> decide +kernel
  | 7, _ => by
    unfold shown; rw [if_neg (by decide), charAt_text m 2 (by decide)]
    rw [show signOf (m : Int) 2 (ftab[2]?.getD []) = _ from sign_one 1 m 7 "w"]
    cases m.testBit 7 <;> decide +kernel
  | 8, _ => by
    unfold shown; rw [if_neg (by decide), charAt_text m 1 (by decide)]
    rw [show signOf (m : Int) 1 (ftab[1]?.getD []) = _ from sign_one 0 m 8 "r"]
    cases m.testBit 8 <;> decide +kernel
  | 9, _ => by
    unfold shown; rw [if_pos (by decide), charAt_text m 9 (by decide)]
    rw [show signOf (m : Int) 9 (ftab[9]?.getD []) = _ from sign_three 8 m 0 9 "t" "T" "x" (by decide) (by decide) (by decide)]
    cases m.testBit 0 <;> cases m.testBit 9 <;> decide +kernel
  | 10, _ => by
    unfold shown; rw [if_pos (by decide), charAt_text m 6 (by decide)]
    rw [show signOf (m : Int) 6 (ftab[6]?.getD []) = _ from sign_three 5 m 3 10 "s" "S" "x" (by decide) (by decide) (by decide)]
    cases m.testBit 3 <;> cases m.testBit 10 <;> decide +kernel
  | 11, _ => by
    unfold shown; rw [if_pos (by decide), charAt_text m 3 (by decide)]
    rw [show signOf (m : Int) 3 (ftab[3]?.getD []) = _ from sign_three 2 m 6 11 "s" "S" "x" (by decide) (by decide) (by decide)]
    cases m.testBit 6 <;> cases m.testBit 11 <;> decide +kernel
  | r + 12, h => by omega

theorem setb_bit (m r b : Nat) (hb : b < 2) (j : Nat) : (m - (m / 2 ^ r % 2) * 2 ^ r + b * 2 ^ r).testBit j = if j = r then decide (b = 1) else m.testBit j := by
  have hp := Nat.two_pow_pos r
  have hl : m % 2 ^ r < 2 ^ r := Nat.mod_lt _ hp
  have e1 : m = 2 ^ r * (2 * (m / 2 ^ r / 2) + m / 2 ^ r % 2) + m % 2 ^ r := by
    rw [Nat.div_add_mod (m / 2 ^ r) 2]; exact (Nat.div_add_mod m (2 ^ r)).symm
  have e2 : m - (m / 2 ^ r % 2) * 2 ^ r + b * 2 ^ r = 2 ^ r * (2 * (m / 2 ^ r / 2) + b) + m % 2 ^ r := by
    generalize m / 2 ^ r / 2 = q at e1
    generalize m / 2 ^ r % 2 = t at e1
    generalize m % 2 ^ r = l at e1 
    rw [e1, Nat.mul_add, Nat.mul_add, Nat.mul_comm t, Nat.mul_comm b]
    omega
  rw [e2]
  conv => rhs; rw [e1]
  rw [Nat.testBit_two_pow_mul_add _ hl, Nat.testBit_two_pow_mul_add _ hl]
  by_cases h : j = r
  · subst h
    rw [if_neg (by omega), if_pos rfl, Nat.sub_self, Nat.testBit_zero]
    refine decide_eq_decide.mpr ?_
    omega
  · rw [if_neg h]
    split
    · rfl
    · obtain ⟨k, hk⟩ : ∃ k, j - r = k + 1 := ⟨j - r - 1, by omega⟩
      rw [hk, Nat.testBit_succ, Nat.testBit_succ]
      congr 1
      omega

theorem mgo_bit (x : Nat) (rs : List Nat) (h4 : rs.length = 4) (hn : rs.Nodup) : ∀ i, i ≤ 4 → ∀ k, k < i → (mgo x rs i).testBit (rs.getD k 0) = decide (x / 2 ^ k % 2 = 1)
  | 0, _, k, hk => by omega
  | i + 1, hi, k, hk => by
    rw [mgo, setb_bit _ _ _ (Nat.mod_lt _ (by decide))]
    by_cases h : k = i
    · subst h; rw [if_pos rfl]
    · rw [if_neg, mgo_bit x rs h4 hn i (by omega) k (by omega)]
      intro q
      rw [getD_get rs k (by omega), getD_get rs i (by omega)] at q
      rcases Nat.lt_or_gt_of_ne h with hlt | hlt
      · exact List.pairwise_iff_getElem.mp hn k i _ _ hlt q
      · exact List.pairwise_iff_getElem.mp hn i k _ _ hlt q.symm

theorem nib_bit : ∀ i, i < 4 → ∀ x : Nat, x % 16 / 2 ^ i % 2 = x / 2 ^ i % 2
  | 0, _, x => by simp
  | 1, _, x => by simp; omega
  | 2, _, x => by simp; omega
  | 3, _, x => by simp; omega
  | i + 4, h, x => by omega
theorem setL_mod (x : Nat) : setL (x % 16) = setL x := by
  unfold setL
  refine List.filter_congr fun i hi => ?_
  rw [nib_bit i (List.mem_range.mp hi)]
theorem row_set (x : Nat) (rs : List Nat) (h4 : rs.length = 4) (h12 : ∀ r ∈ rs, r < 12) (hn : rs.Nodup) : outsTo (rowOut (mgo x rs 4) rs) 4 = iN (setL (x % 16)) := by
  have e : outsTo (rowOut (mgo x rs 4) rs) 4 = outsTo (setOut x) 4 := by
    unfold outsTo
    have : ∀ l : List Nat, (∀ i ∈ l, i < 4) → l.filterMap (rowOut (mgo x rs 4) rs) = l.filterMap (setOut x) := fun l hl => by
      induction l with
      | nil => rfl
      | cons i l ih =>
        have hi := hl i (.head _)
        have e1 : rowOut (mgo x rs 4) rs i = setOut x i := by
          unfold rowOut setOut
          rw [shown_bit _ _ (by rw [getD_get rs i (by omega)]; exact h12 _ (List.getElem_mem _)), mgo_bit x rs h4 hn 4 (by omega) i hi]
          rfl
        rw [List.filterMap_cons, List.filterMap_cons, e1, ih fun k hk => hl k (.tail _ hk)]
    exact this _ fun i hi => List.mem_range.mp hi
  rw [e, setOut_L, setL_mod]
end Mine
end

section
set_option maxRecDepth 100000
set_option linter.unusedVariables false
namespace Mine
open PySem PySem.W PyProof.Rows PySem.Spec PySem.Calls

section
variable {K : Kx} {F : Fm} {σ : St}
theorem evn_mid {e lo hi : Expr} {sp pos : Pos} {xs : List PyData} {a b : Nat} (h : Ev K F σ e (.list xs)) (hlo : Ev K F σ lo (.int a)) (hhi : Ev K F σ hi (.int b)) (hsz : xs.length ≤ 1000000) :
    EvN K F σ (.Subscript e (.Slice (some lo) (some hi) none sp) pos) ((xs.drop (min a xs.length)).take (min b xs.length - min a xs.length)) :=
  evn_sliceG h (evp_some hlo) (evp_some hhi) hsz fun P vs hi' => by
    rw [slicePick_plain]
    simp only [Option.elim, clipAt_nat, List.size_toArray, hi'.length]
    exact (hi'.drop _).take _
theorem EvN.evE {e : Expr} {xs ys : List PyData} (h : EvN K F σ e xs) (he : xs = ys) : Ev K F σ e (.list ys) := he ▸ h.ev
theorem Tr.eq {e : Expr} {b c : Bool} (h : Tr K F σ e b) (hb : b = c) : Tr K F σ e c := hb ▸ h
theorem bo_powE {a n r : Int} (hr : a ^ n.toNat = r) (hn : 0 ≤ n) (hn2 : n ≤ 1000000) (ha : a.natAbs < 2 ^ 64) : Bo K F σ .Pow (.int a) (.int n) (.int r) := hr ▸ bo_pow hn hn2 ha
end

theorem dec_iff {p : Prop} {d : Decidable p} : @decide p d = true ↔ p := @decide_eq_true_iff p d
def slOf (script : List Int) : List Int := (script.drop (min 1 script.length)).take (min 9 script.length - min 1 script.length)
def xsOf (script : List Int) : List Int := if (slOf script).isEmpty then [6, 9, 13, 70, 3] else slOf script
def drawnOf (script : List Int) : List Nat := (xsOf script).map fun x => (x.fmod 16777216).toNat
def nibsOf (script : List Int) : List Nat := (drawnOf script).map (· % 16)
def seedOf (script : List Int) : Nat := match script with
  | [] => 7797
  | x :: _ => (x.fmod 11880).toNat
theorem drawn_len (script : List Int) : (drawnOf script).length ≤ 8 ∧ drawnOf script ≠ [] := by
  have : (xsOf script).length ≤ 8 ∧ xsOf script ≠ [] := by
    unfold xsOf
    split
    · exact ⟨by decide, by decide⟩
    · rename_i h
      refine ⟨?_, fun q => h (by rw [q]; rfl)⟩
      unfold slOf
      rw [List.length_take]; omega
  unfold drawnOf
  exact ⟨by rw [List.length_map]; exact this.1, fun q => this.2 (List.map_eq_nil_iff.mp q)⟩
theorem fmod_nat (x : Int) (m : Nat) (hm : 0 < m) : x.fmod (m : Int) = (((x.fmod (m : Int)).toNat : Nat) : Int) := by
  rw [Int.toNat_of_nonneg]
  rw [Int.fmod_eq_emod_of_nonneg _ (by omega)]
  exact Int.emod_nonneg _ (by omega)
theorem nibs_lt (script : List Int) : ∀ y ∈ nibsOf script, y < 16 := fun y hy => by
  obtain ⟨x, _, rfl⟩ := List.mem_map.mp hy
  exact Nat.mod_lt _ (by decide)

structure TopL (K : Kx) : Prop where
  dedup : f_dedup ∈ K.T.fns
  cmp : f_cmp ∈ K.T.fns
  ifmt : f_ifmt ∈ K.T.fns
  filemode : f_filemode ∈ K.T.fns
  sld : f_sld ∈ K.T.fns
  uld : f_uld ∈ K.T.fns
  rights : f_rights ∈ K.T.fns
  mode : f_mode ∈ K.T.fns
  shown : f_shown ∈ K.T.fns
  row : f_row ∈ K.T.fns
  set : f_set ∈ K.T.fns
  lowered : f_lowered ∈ K.T.fns
  cleared : f_cleared ∈ K.T.fns
  law : f_law ∈ K.T.fns
  tab : (("_filemode_table" : Str), ftabD) ∈ K.T.dat
  range : (("range" : Str), Value.type "range") ∈ K.T.bl
  list : (("list" : Str), Value.type "list") ∈ K.T.bl
  enumerate : (("enumerate" : Str), Value.type "enumerate") ∈ K.T.bl
  len : (("len" : Str), Value.builtin "len") ∈ K.T.bl
  sorted : (("sorted" : Str), Value.builtin "sorted") ∈ K.T.bl
  ve : (("ValueError" : Str), Value.type "ValueError") ∈ K.T.bl
  ie : (("IndexError" : Str), Value.type "IndexError") ∈ K.T.bl


theorem eqvAll_emb {α : Type} [DecidableEq α] {emb : α → PyData} {n : Nat} (E : Emb α emb n) : ∀ xs ys : List α, PyData.eqvAll (xs.map emb) (ys.map emb) = decide (xs = ys)
  | [], [] => rfl
  | [], _ :: _ => rfl
  | _ :: _, [] => rfl
  | x :: xs, y :: ys => by
    simp only [List.map_cons, PyData.eqvAll, eqvAll_emb E xs ys, E.eq, List.cons.injEq, Bool.decide_and]
theorem eqv_dNN (xs ys : List (List Nat)) : PyData.eqv (dNN xs) (dNN ys) = decide (xs = ys) := eqvAll_emb emb_dN xs ys
theorem ok_dNN (xs : List (List Nat)) : okn 2 (dNN xs) = true := by
  unfold dNN okn; exact all_ok_dN xs
theorem sh_dNN (xs : List (List Nat)) : SeqAt.shaped (dNN xs) = true := okn_shaped (ok_dNN xs)

theorem xs_data (script : List Int) : (xsOf script).map PyData.int = if (((script.map PyData.int).drop (min 1 (script.map PyData.int).length)).take (min 9 (script.map PyData.int).length - min 1 (script.map PyData.int).length)).isEmpty then [.int 6, .int 9, .int 13, .int 70, .int 3] else ((script.map PyData.int).drop (min 1 (script.map PyData.int).length)).take (min 9 (script.map PyData.int).length - min 1 (script.map PyData.int).length) := by
  rw [List.length_map, ← List.map_drop, ← List.map_take, List.isEmpty_map]
  unfold xsOf
  show List.map PyData.int (if (slOf script).isEmpty then _ else _) = if (slOf script).isEmpty then _ else _
  split <;> rfl
theorem iN_drawn (script : List Int) : (xsOf script).map (fun x => PyData.int ((x.fmod 16777216).toNat : Nat)) = iN (drawnOf script) := by
  simp [iN, drawnOf]
theorem rows_data (script : List Int) : (drawnOf script).map (fun x => dN (setL (x % 16))) = ((nibsOf script).map setL).map dN := by
  simp [nibsOf]

def capOf (rows : List (List Nat)) (one : List Nat) : List (List Nat) := rows.map fun row => row.filter fun k => decide (k ∈ one)
theorem capOf_len (rows : List (List Nat)) (one : List Nat) : (capOf rows one).length = rows.length := by unfold capOf; rw [List.length_map]
def lowI (nibs : List Nat) : Nat → List (List Nat)
  | 0 => dedup (nibs.map setL)
  | i + 1 => lowered (lowI nibs i) (3 - i)
theorem lowI_nat (nibs : List Nat) (h16 : ∀ y ∈ nibs, y < 16) : ∀ i, i ≤ 4 → ∃ ys : List Nat, (∀ y ∈ ys, y < 16) ∧ ys.Nodup ∧ lowI nibs i = ys.map setL
  | 0, _ => ⟨dedup nibs, fun y hy => h16 y ((dedup_mem nibs y).mp hy), dedup_nodup nibs, dedup_map setL nibs fun a ha b hb e => setL_inj a (h16 a ha) b (h16 b hb) e⟩
  | i + 1, h => by
    obtain ⟨ys, h1, h2, h3⟩ := lowI_nat nibs h16 i (by omega)
    obtain ⟨zs, g1, g2, g3, _⟩ := lowered_nat ys h1 h2 (3 - i) (by omega)
    exact ⟨zs, g1, g2, by rw [lowI, h3, g3]⟩
theorem lowI_size (nibs : List Nat) (h16 : ∀ y ∈ nibs, y < 16) (i : Nat) (hi : i ≤ 4) : (lowI nibs i).length ≤ 16 ∧ ∀ row ∈ lowI nibs i, row.length ≤ 4 := by
  obtain ⟨ys, h1, h2, h3⟩ := lowI_nat nibs h16 i hi
  rw [h3]
  refine ⟨?_, fun row hr => ?_⟩
  · rw [List.length_map]
    have := nd_len ys (List.range 16) h2 fun y hy => List.mem_range.mpr (h1 y hy)
    rwa [List.length_range] at this
  · obtain ⟨y, _, rfl⟩ := List.mem_map.mp hr
    exact setL_len y
theorem unt_len (nibs : List Nat) : (unt nibs 16).length ≤ 16 := by
  unfold unt
  refine Nat.le_trans (List.length_filter_le _ _) (by simp)
def openRows (rows : List (List Nat)) : List (List Nat) := rows.flatMap fun row => row.filterMap fun gone => if decide (less row gone ∉ rows) = true then some row else none
theorem openRows_nil (rows : List (List Nat)) : decide (openRows rows = []) = decide (∀ row ∈ rows, ∀ gone ∈ row, less row gone ∈ rows) := by
  refine decide_eq_decide.mpr ?_
  unfold openRows
  rw [List.flatMap_eq_nil_iff]
  refine forall_congr' fun row => imp_congr Iff.rfl ?_
  rw [List.filterMap_eq_nil_iff]
  refine forall_congr' fun gone => imp_congr Iff.rfl ?_
  by_cases h : less row gone ∈ rows <;> simp [h]

theorem fn_law {K : Kx} (T : TopL K) (script : List Int) (hlen : script.length ≤ 1000) : Fn K 9 f_law [dI script] (.bool true) := by
  obtain ⟨hdl, hdn⟩ := drawn_len script
  have h16 := nibs_lt script
  have hnl : (nibsOf script).length ≤ 8 := by unfold nibsOf; rw [List.length_map]; exact hdl
  have hnn : nibsOf script ≠ [] := fun q => hdn (List.map_eq_nil_iff.mp q)
  have h4 := rights_length (seedOf script)
  have h12 := rights_lt (seedOf script)
  have hnd := rights_nodup (seedOf script)
  refine fn_intro ["script"] ["rights", "rows", "one"] T.law (bind1 _ _ _ rfl fun _ _ _ _ => rfl) rfl rfl rfl (by decide) (by decide) (by decide) fun Fs L a code => ?_
  -- rights
  refine ex_cons (ex1_assign (ev_call T.rights rfl (evl_cons (d := .int (seedOf script : Nat)) (ev_ifexp (c := !decide (script = [])) (by
    rw [show decide (script = []) = PyData.eqv (dI script) (dI []) from (eqv_dI script []).symm]
    exact tr_cmp (ev_name rfl) (EvN.ev (evn_list evl_nil)) (co_ne (okn_shaped (ok_dI script)) (okn_shaped (ok_dI [])))) (fun hc => ?_) (fun hc => ?_)) evl_nil) rfl (fn_rights T.rights T.range T.list (seedOf script)) (show 3 ≤ 8 by decide)) (as_name (.inr ⟨rfl, by simp, by decide⟩)) ?_)
  · cases script with
    | nil => simp at hc
    | cons x r =>
      show Ev _ _ _ _ (.int ((x.fmod ((11880 : Nat) : Int)).toNat : Nat))
      rw [← fmod_nat x 11880 (by decide)]
      exact ev_bin (ev_sub (ev_name rfl) ev_int (su_list (by decide) (by decide) rfl)) ev_int (bo_mod (by decide))
  · cases script with
    | nil => exact ev_int
    | cons x r => simp at hc
  -- drawn
  refine ex_cons (ex1_compX (xsOf script) PyData.int (fun x => some (.int ((x.fmod 16777216).toNat : Nat))) (cl := []) (W' := []) (σc := []) (evi_list rfl (by
    rw [xs_data]
    exact ev_or_list (EvN.ev (evn_mid (a := 1) (b := 9) (ev_name rfl) ev_int ev_int (by rw [List.length_map]; omega))) (EvN.ev (evn_list (evl_cons ev_int (evl_cons ev_int (evl_cons ev_int (evl_cons ev_int (evl_cons ev_int evl_nil))))))) (by rw [List.length_take, List.length_drop, List.length_map]; omega))) (by
      have : (xsOf script).length = (drawnOf script).length := by unfold drawnOf; rw [List.length_map]
      omega) ⟨rfl, rfl, by decide, by decide⟩ trivial (fun C x hx => ?_) (fun da hda => ?_))
  · refine turn_all (.inl rfl) trivial (by simp) ?_
    rw [show (((x.fmod 16777216).toNat : Nat) : Int) = x.fmod ((16777216 : Nat) : Int) from (fmod_nat x 16777216 (by decide)).symm]
    exact ev_bin (ev_name rfl) (ev_bin ev_int ev_int (bo_powE (r := ((16777216 : Nat) : Int)) (by decide) (by decide) (by decide) (by decide))) (bo_mod (by decide))
  rw [filterMap_all, iN_drawn]
  refine ex_freeze (x := "drawn") rfl hda.apart ?_
  -- rows
  refine ex_cons (ex1_assign (EvN.ev (evn_compX (drawnOf script) (fun (k : Nat) => PyData.int (k : Int)) (fun x => some (dN (setL (x % 16)))) (cl := [("rights", L + 1)]) (W' := []) (σc := [("rights", .dat (.list (iN (rights (seedOf script)))))]) (evi_list rfl (ev_name rfl)) (by omega) ⟨rfl, rfl, by decide, by decide⟩ ⟨rfl, rfl, .inl rfl, rfl, .inl rfl, by decide, fun C => rfl, trivial⟩ (fun C x hx => ?_))) (as_name (.inr ⟨rfl, by simp, by decide⟩)) ?_)
  · refine turn_all (.inl rfl) ⟨rfl, trivial⟩ (by simp [Slot.adr]) ?_
    unfold dN
    rw [← row_set x _ h4 h12 hnd]
    exact ev_call T.row rfl (evl_cons (ev_call T.mode rfl (evl_cons (ev_name rfl) (evl_cons (ev_name rfl) evl_nil)) rfl (fn_mode T.mode T.range x _ h4 h12) (show 3 ≤ 8 by decide)) (evl_cons (ev_name rfl) evl_nil)) rfl (fn_row T.row T.filemode T.ifmt T.shown T.enumerate T.tab T.range _ _ h4 h12) (show 7 ≤ 8 by decide)
  rw [filterMap_all, rows_data]
  have hrl : ((nibsOf script).map setL).length ≤ 8 := by rw [List.length_map]; exact hnl
  have hrs : ∀ row ∈ (nibsOf script).map setL, row.length ≤ 4 := fun row hr => by
    obtain ⟨y, _, rfl⟩ := List.mem_map.mp hr
    exact setL_len y
  -- family
  refine ex_cons (ex1_assign (ev_call T.dedup rfl (evl_cons (ev_name rfl) evl_nil) rfl (fn_dedup emb_dN T.dedup ((nibsOf script).map setL) (by omega)) (show 3 ≤ 8 by decide)) (as_name (.inl rfl)) ?_)
  -- leads, untold
  refine ex_cons (ex1_assign (ev_call T.cleared rfl (evl_cons (d := dNN ((nibsOf script).map setL)) (by
      refine EvN.evE (evn_compX (drawnOf script) (fun (k : Nat) => PyData.int (k : Int)) (fun x => some (dN (setL (x % 16)))) (cl := []) (W' := []) (σc := []) (evi_list rfl (ev_name rfl)) (by omega) ⟨rfl, rfl, by decide, by decide⟩ trivial (fun C x hx => ?_)) (by rw [filterMap_all, rows_data])
      refine turn_all (.inl rfl) trivial (by simp) ?_
      unfold dN
      rw [setL_mod, ← setOut_L]
      exact ev_call T.set rfl (evl_cons (ev_name rfl) evl_nil) rfl (fn_set T.set T.range x) (show 3 ≤ 8 by decide)) evl_nil) rfl (fn_cleared T.cleared T.set T.sld T.range T.len T.sorted T.ie (nibsOf script) hnl h16 (firstsOf 0 (nibsOf script)) (firsts_sorted 0 _) (firsts_inv _ h16)) (show 7 ≤ 8 by decide)) (as_tuple2 rfl (as_name (.inl rfl)) (as_name (.inl rfl))) ?_)
  generalize hN : nibsOf script = nibs at *
  -- family != [rows[j] for j in leads]
  have hfam : ((firstsOf 0 nibs).map fun j => dN (setL (nibs.getD j 0))) = (dedup (nibs.map setL)).map dN := by
    rw [dedup_map setL nibs fun a ha b hb e => setL_inj a (h16 a ha) b (h16 b hb) e, ← firsts_dedup 0 nibs, List.map_map, List.map_map]; rfl
  have hfl : (firstsOf 0 nibs).length ≤ 8 := by
    unfold firstsOf
    refine Nat.le_trans (List.length_filter_le _ _) (by simpa using hnl)
  refine ex_cons (ex1_if (c := false) (by
    refine Tr.eq (tr_cmp (d2 := dNN (dedup (nibs.map setL))) (ev_name rfl) ?_ (co_ne (sh_dNN (dedup (nibs.map setL))) (sh_dNN _))) (by rw [show PyData.eqv (.list ((dedup (nibs.map setL)).map dN)) (dNN (dedup (nibs.map setL))) = _ from eqv_dNN _ _]; simp)
    refine EvN.evE (evn_compX (firstsOf 0 nibs) (fun (k : Nat) => PyData.int (k : Int)) (fun j => some (dN (setL (nibs.getD j 0)))) (cl := [("rows", L + 2)]) (W' := []) (σc := [("rows", .dat (dNN (nibs.map setL)))]) (evi_list rfl (ev_name rfl)) (by omega) ⟨rfl, rfl, by decide, by decide⟩ ⟨rfl, rfl, .inl rfl, rfl, .inl rfl, by decide, fun C => rfl, trivial⟩ (fun C j hj => ?_)) (by rw [filterMap_all, hfam])
    have hjn : j < nibs.length := by
      unfold firstsOf at hj
      rw [List.mem_filter, List.mem_range] at hj; exact hj.1
    refine turn_all (.inl rfl) ⟨rfl, trivial⟩ (by simp [Slot.adr]) (ev_sub (ev_name rfl) (ev_name rfl) (su_list (by omega) (by omega) ?_))
    rw [Int.toNat_natCast, List.getElem?_map, List.getElem?_map, List.getElem?_eq_getElem hjn, getD_get nibs j hjn]; rfl) (fun q => by cases q) (fun _ => ex_nil ?_))
  -- left
  refine ex_cons (ex1_assign (ev_name rfl) (as_name (.inl rfl)) ?_)
  refine ex_cons (ex1_forS (fun i => [("rows", .dat (dNN (nibs.map setL))), ("untold", .dat (dNN ((unt nibs 16).map setL))), ("left", .dat (dNN (lowI nibs i)))]) rfl (evi_range (n := 4) rfl (evr3 T.range ev_int (ev_neg ev_int) (ev_neg ev_int) (by decide) (by decide +kernel)) (by decide +kernel) (by decide +kernel)) ⟨rfl, rfl, rfl, trivial⟩ (fun i d hd => ⟨_, as_name (.inl rfl), ?_⟩) ?_)
  · have hi : i < 4 := by
      have := (List.getElem?_eq_some_iff.mp hd).1
      rwa [rng_length] at this
    rw [rng_get hi] at hd
    cases hd
    rw [show (3 + (i : Int) * -1) = ((3 - i : Nat) : Int) by omega]
    have hs := lowI_size nibs h16 i (by omega)
    exact ex_cons (ex1_assign (ev_call T.lowered rfl (evl_cons (ev_name rfl) (evl_cons (ev_name rfl) evl_nil)) rfl (fn_lowered T.lowered T.uld T.list T.ve (lowI nibs i) (3 - i) (by omega) (fun row hr => Nat.le_trans (hs.2 row hr) (by decide))) (show 7 ≤ 8 by decide)) (as_name (.inl rfl)) (ex_nil ⟨rfl, rfl, rfl, trivial⟩))
  rw [rng_length]
  have hls := lowI_size nibs h16 4 (by omega)
  rw [show lowI nibs 4 = leftOf nibs from rfl] at hls ⊢
  have hul : ((unt nibs 16).map setL).length ≤ 16 := by rw [List.length_map]; exact unt_len nibs
  refine ex_nil ?_
  -- the three comparisons
  refine ex_cons (ex1_if (c := false) (by
    exact Tr.eq (tr_cmp (ev_call T.cmp rfl (evl_cons (ev_name rfl) (evl_cons (ev_name rfl) evl_nil)) rfl (fn_cmp emb_dN T.cmp T.dedup T.list T.ve (leftOf nibs) ((unt nibs 16).map setL) (by omega) (by omega)) (show 5 ≤ 8 by decide)) ev_bool co_isnot) (by rw [law_left nibs h16]; rfl)) (fun q => by cases q) (fun _ => ex_nil ?_))
  refine ex_cons (ex1_if (c := false) (by
    refine Tr.eq (b := cmpArgs ((leftOf nibs).drop 1) ((unt nibs 16).map setL) || cmpArgs (leftOf nibs) (((unt nibs 16).map setL).drop 1)) ?_ (by rw [law_left1 nibs h16 hnn, law_left2 nibs h16 hnn]; rfl)
    refine tr_or2 (tr_val (ev_call T.cmp rfl (evl_cons (d := dNN ((leftOf nibs).drop 1)) ?_ (evl_cons (ev_name rfl) evl_nil)) rfl (fn_cmp emb_dN T.cmp T.dedup T.list T.ve _ _ (by rw [List.length_drop]; omega) (by omega)) (show 5 ≤ 8 by decide)) tv_bool) (fun _ => tr_val (ev_call T.cmp rfl (evl_cons (ev_name rfl) (evl_cons (d := dNN (((unt nibs 16).map setL).drop 1)) ?_ evl_nil)) rfl (fn_cmp emb_dN T.cmp T.dedup T.list T.ve _ _ (by omega) (by rw [List.length_drop]; omega)) (show 5 ≤ 8 by decide)) tv_bool)
    · unfold dNN; rw [List.map_drop]
      exact EvN.ev (evn_from (l := 1) (ev_name rfl) ev_int (by rw [List.length_map]; omega))
    · unfold dNN; rw [List.map_drop]
      exact EvN.ev (evn_from (l := 1) (ev_name rfl) ev_int (by rw [List.length_map]; omega))) (fun q => by cases q) (fun _ => ex_nil ?_))
  -- closed
  generalize hR : nibs.map setL = rows at *
  have hcl : (rows.flatMap fun row => row.filterMap fun (gone : Nat) => if decide (less row gone ∉ rows) = true then some (dN row) else none) = (openRows rows).map dN := by
    unfold openRows
    rw [List.map_flatMap]
    refine congrArg (fun f => rows.flatMap f) (funext fun row => ?_)
    rw [List.map_filterMap]
    refine congrArg (fun f => row.filterMap f) (funext fun gone => ?_)
    by_cases h : less row gone ∈ rows <;> simp [h]
  have hol : (openRows rows).length ≤ 400000 := by
    unfold openRows
    have : ∀ l : List (List Nat), (∀ row ∈ l, row.length ≤ 4) → (l.flatMap fun row => row.filterMap fun (gone : Nat) => if decide (less row gone ∉ rows) = true then some row else none).length ≤ 4 * l.length := fun l => by
      induction l with
      | nil => intro _; simp
      | cons x l ih =>
        intro hl
        have h1 := ih fun r hr => hl r (.tail _ hr)
        have h2 := List.length_filterMap_le (fun (gone : Nat) => if decide (less x gone ∉ rows) = true then some x else none) x
        have h3 := hl x (.head _)
        rw [List.flatMap_cons, List.length_append, List.length_cons]; omega
    have := this rows hrs
    omega
  refine ex_cons (ex1_assign (ev_cmp (d1 := dNN (openRows rows)) (EvN.evE (evn_comp2 rows dN (fun row => row) (fun _ (k : Nat) => PyData.int (k : Int)) (fun row (gone : Nat) => if decide (less row gone ∉ rows) = true then some (dN row) else none) (cl := [("rows", L + 2)]) (W' := ["gone"]) (σc := [("rows", .dat (dNN rows))]) (evi_list rfl (ev_name rfl)) (by rw [hcl, List.length_map]; exact hol) (fun row hr => Nat.le_trans (hrs row hr) (by decide)) ⟨rfl, rfl, by decide, by decide⟩ ⟨rfl, rfl, .inl rfl, rfl, .inl rfl, by decide, fun C => rfl, trivial⟩ (fun C row hr => ⟨_, as_name (.inl rfl), SubL.sub ⟨rfl, trivial⟩, plain_of (by simp [Slot.adr]), evi_list rfl (ev_name rfl), fun gone hg => ?_⟩)) hcl) (EvN.ev (evn_list evl_nil)) (co_eq (sh_dNN _) (sh_dNN []))) (as_name (.inl rfl)) ?_)
  · have e1 : decide (less row gone ∉ rows) = !((rows.map dN).any fun y => PyData.eqv y (dN (less row gone))) := by
      rw [emb_dN.any]; simp
    rw [e1]
    refine turn_if (.inr ⟨rfl, by simp, by decide⟩) ⟨rfl, rfl, trivial⟩ (by simp [Slot.adr]) (tr_cmp (d1 := dN (less row gone)) ?_ (ev_name rfl) (co_notin (n := 1) (emb_dN.ok _) (all_ok_dN _))) (fun _ => ev_name rfl)
    refine EvN.evE (evn_compX row (fun (k : Nat) => PyData.int (k : Int)) _ (cl := [("gone", C + 1)]) (W' := []) (σc := [("gone", .dat (.int gone))]) (evi_list rfl (ev_name rfl)) (by have := hrs row hr; omega) ⟨rfl, rfl, by decide, by decide⟩ ⟨rfl, rfl, .inl rfl, rfl, .inl rfl, by decide, fun C => rfl, trivial⟩ (fun C' k hk => ?_)) (iN_less row gone)
    exact turn_if (.inl rfl) ⟨rfl, trivial⟩ (by simp [Slot.adr]) (tr_cmp (ev_name rfl) (ev_name rfl) co_int_ne) (fun _ => ev_name rfl)
  rw [show PyData.eqv (dNN (openRows rows)) (.list []) = _ from eqv_dNN (openRows rows) [], openRows_nil]
  have hlc := law_closed nibs h16
  rw [hR] at hlc
  refine ex_cons (ex1_if (c := false) (by
    exact Tr.eq (tr_cmp (ev_call T.cmp rfl (evl_cons (ev_name rfl) (evl_cons (ev_name rfl) evl_nil)) rfl (fn_cmp emb_dN T.cmp T.dedup T.list T.ve (leftOf nibs) rows (by omega) (by omega)) (show 5 ≤ 8 by decide)) (ev_name rfl) co_isnot) (by rw [hlc]; simp)) (fun q => by cases q) (fun _ => ex_nil ?_))
  -- the last loop
  have hones : (leftOf nibs).map dN ++ (List.range 4).map (fun s => dN (List.range s)) = (leftOf nibs ++ (List.range 4).map List.range).map dN := by
    rw [List.map_append, List.map_map]; rfl
  have h4r : (List.range 4).map (fun (j : Nat) => PyData.int (j : Int)) = rng 0 1 4 := by
    unfold rng; congr 1; funext j; rw [show (0 + (j : Int) * 1) = (j : Int) by omega]
  refine ex_cons (ex1_forS (ds := (leftOf nibs ++ (List.range 4).map List.range).map dN) (fun _ => [("rows", .dat (dNN rows)), ("left", .dat (dNN (leftOf nibs)))]) rfl (evi_list rfl (EvN.evE (evn_cat (ev_name rfl) (EvN.ev (evn_compX (List.range 4) (fun (k : Nat) => PyData.int (k : Int)) (fun s => some (dN (List.range s))) (cl := []) (W' := []) (σc := []) (by
      rw [h4r]; exact evi_range rfl (evr1 T.range ev_int) (by decide +kernel) (by decide +kernel)) (by decide) ⟨rfl, rfl, by decide, by decide⟩ trivial (fun C s hs => ?_))) (by rw [filterMap_all, List.length_map, List.length_map, List.length_range]; omega)) (by rw [filterMap_all, hones]))) ⟨rfl, rfl, trivial⟩ (fun i d hd => ⟨_, as_name (.inr ⟨rfl, by simp, by decide⟩), ?_⟩) ?_)
  · rw [List.mem_range] at hs
    have hrg := range_small s (by omega)
    have hsr : rng 0 1 s = iN (List.range s) := by
      unfold rng iN; congr 1; funext j; rw [show (0 + (j : Int) * 1) = (j : Int) by omega]
    refine turn_all (.inl rfl) trivial (by simp) (EvN.evE (evn_listrange rfl T.list (evr1 T.range (ev_name rfl)) hrg.1 hrg.2 (by omega)) hsr)
  · rw [List.getElem?_map] at hd
    obtain ⟨one, hone, rfl⟩ := Option.map_eq_some_iff.mp hd
    have hmem := List.mem_of_getElem? hone
    have hol : one.length ≤ 4 := by
      rw [List.mem_append] at hmem
      rcases hmem with q | q
      · exact hls.2 one q
      · obtain ⟨s, hs, rfl⟩ := List.mem_map.mp q
        rw [List.mem_range] at hs
        rw [List.length_range]; omega
    have hlp := law_parts nibs h16 one hmem
    rw [show partsOf nibs one = dedup (capOf (nibs.map setL) one) from rfl, hR] at hlp
    refine ex_cons (ex1_assign (ev_call T.dedup rfl (evl_cons (d := dNN (capOf rows one)) (by
      refine EvN.evE (evn_compX rows dN (fun row => some (dN (row.filter fun k => decide (k ∈ one)))) (cl := [("one", L + 3)]) (W' := []) (σc := [("one", .dat (dN one))]) (evi_list rfl (ev_name rfl)) (by omega) ⟨rfl, rfl, by decide, by decide⟩ ⟨rfl, rfl, .inl rfl, rfl, .inl rfl, by decide, fun C => rfl, trivial⟩ (fun C row hr => ?_)) (by rw [filterMap_all]; unfold capOf; rw [List.map_map]; rfl)
      refine turn_all (.inl rfl) ⟨rfl, trivial⟩ (by simp [Slot.adr]) ?_
      refine EvN.evE (evn_compX row (fun (k : Nat) => PyData.int (k : Int)) (fun (k : Nat) => if decide (k ∈ one) = true then some (PyData.int (k : Int)) else none) (cl := [("one", L + 3)]) (W' := []) (σc := [("one", .dat (dN one))]) (evi_list rfl (ev_name rfl)) (by have := hrs row hr; omega) ⟨rfl, rfl, by decide, by decide⟩ ⟨rfl, rfl, .inl rfl, rfl, .inl rfl, by decide, fun C => rfl, trivial⟩ (fun C' k hk => ?_)) (filterMap_if row (fun k => decide (k ∈ one)) fun (k : Nat) => PyData.int (k : Int))
      rw [← any_nat]
      exact turn_if (.inl rfl) ⟨rfl, trivial⟩ (by simp [Slot.adr]) (tr_cmp (ev_name rfl) (ev_name rfl) (co_in (n := 0) rfl (all_ok_iN one))) (fun _ => ev_name rfl)) evl_nil) rfl (fn_dedup emb_dN T.dedup (capOf rows one) (by rw [capOf_len]; omega)) (show 3 ≤ 8 by decide)) (as_name (.inl rfl)) ?_)
    have hdl := dedup_le (capOf rows one)
    rw [capOf_len] at hdl
    refine ex_cons (ex1_if (c := false) (by
      refine Tr.eq (tr_cmp (ev_cmp (ev_len T.len (ev_name rfl) (by rw [List.length_map]; omega)) (ev_bin ev_int (ev_len T.len (ev_name rfl) (by rw [iN_length]; omega)) (bo_pow (by omega) (by rw [iN_length]; omega) (by decide))) co_int_eq) (ev_cmp (ev_name rfl) (ev_name rfl) (co_in (n := 1) (emb_dN.ok one) (all_ok_dN _))) co_isnot) ?_
      rw [emb_dN.any, List.length_map, iN_length, Int.toNat_natCast, bne_eq_false_iff_eq, Bool.eq_iff_iff, beq_iff_eq]
      refine Iff.trans ?_ (Iff.trans hlp (Iff.symm dec_iff))
      rw [show ((2 : Int) ^ one.length) = ((2 ^ one.length : Nat) : Int) from (Int.natCast_pow 2 _).symm]
      omega) (fun q => by cases q) (fun _ => ex_nil (ex_nil ⟨rfl, rfl, trivial⟩)))
  · exact ex_nil (ex_cons (ex1_return ev_bool rfl))
end Mine
end

section
set_option maxRecDepth 100000
set_option linter.unusedVariables false
namespace Mine
open PySem PySem.W PyProof.Rows PySem.Spec PySem.Calls

def toRec (d : DefRec) : FnRec := ⟨d.name, d.params, d.body, d.scope⟩
theorem tp_of_top {p : Program} {loose : List Str} {mean : ExcName → Option Value} {mg mb : Str → Option Value} {h : Heap} (T : Top p loose mean mg mb h) {dat : List (Str × PyData)} {bl : List (Str × Value)}
    (hd : ∀ q ∈ dat, ∃ v, mg q.1 = some v ∧ Is h v q.2) (hb : ∀ q ∈ bl, mg q.1 = none ∧ mb q.1 = some q.2) : Tp ⟨mg, mb, (recsOf p).map toRec, dat, bl⟩ h where
  g := T.g
  b := T.b
  nolimit := T.nolimit
  fn := fun f hf => by
    obtain ⟨d, hd, rfl⟩ := List.mem_map.mp hf
    exact T.fn d hd
  dt := hd
  bl := hb
theorem bl_of {p : Program} {loose : List Str} {mean : ExcName → Option Value} {mg mb : Str → Option Value} {h : Heap} (T : Top p loose mean mg mb h) (x : Str) (v : Value)
    (hv : bootBuiltins x = some v) (hn : x ≠ "__name__") (h1 : x ∉ startupNames) (h2 : x ∉ loose) (h3 : x ∉ (recsOf p).map (·.name)) (h4 : x ∉ (litsOf p).map (·.1)) (h5 : x ∉ (clssOf p loose).map (·.name)) : mg x = none ∧ mb x = some v :=
  ⟨T.free x h1 h2 h3 h4 h5, (T.builtins x hn).trans hv⟩
theorem rec_mem {p : Program} {f : FnRec} (i : Nat) (h : ((recsOf p).map toRec)[i]? = some f) : f ∈ (recsOf p).map toRec := List.mem_of_getElem? h

theorem good_of {c : ClaimW} {cl : Str → Option Addr} {mean : ExcName → Option Value} {prog : Program} {w : World} {TT : TI} {n : Nat} {f : FnRec} {fa la : Addr} {xs : List Int} {as : List Addr} {s₁ : Shared}
    (hF : Fn ⟨prog, w, TT, 0, true, []⟩ n f [dI xs] (.bool true)) (hn9 : n ≤ 9) (hT : Tp TT s₁.heap) (hmg : TT.mg f.name = some (.ref fa)) (hr : Reads s₁.heap (.ref la) (.list (xs.map .int)) as) (hg : s₁.gens = #[])
    (hn : ∀ cls, c.raises [ofPy (.list (xs.map .int))] cls = false) (hp : c.post [ofPy (.list (xs.map .int))] (.bool true) [ofPy (.list (xs.map .int))] = true) :
    wpAny (model prog w) callerA (call (.ref fa) [.ref la]) (fun v s' => GoodWG c cl mean [ofPy (.list (xs.map .int))] s₁ (.ok (.ret v)) s') (fun e s' => GoodWG c cl mean [ofPy (.list (xs.map .int))] s₁ (.error e) s') s₁ := by
  refine wpAny_call ?_
  have hok : OkA { prog := prog, w := w, T := TT, n := n, c := true, Fs := [] } callerA := ⟨rfl, by
    have : callerA.depth + 9 < recursionLimit := by decide +kernel
    show callerA.depth + n < _
    omega, by
    have : callerA.units + 16 * 9 + 200 < cLine := by decide +kernel
    show callerA.units + 16 * n + 200 < _
    omega, fun _ => rfl⟩
  refine codeAny_mono (hF [] callerA s₁ s₁.heap [.ref la] fa hok hT (stays_refl _) trivial hmg ⟨_, .cons hr .nil⟩) fun r s' x => ?_
  obtain ⟨v, P', rfl, g, i⟩ := x
  cases i.bool_inv
  refine GoodW.toG ⟨.inl ⟨.bool true, .bool true, [], rfl, hn, .bool true, hp, fun _ => ⟨.nil, fun a ha => nomatch ha⟩⟩, fun b o e => (g.ext b o e).1 (by simp [frs]), g.os, g.gens.trans hg⟩
end Mine
end

open PySem PySem.W PyProof.Rows
set_option maxRecDepth 100000
theorem Mine.raises_none (xs : List Int) : ∀ cls, PySem.Challenge.rw_oc0092_01.row.claim.raises [ofPy (.list (xs.map .int))] cls = false := fun _ => rfl
theorem Mine.post_true (xs : List Int) : PySem.Challenge.rw_oc0092_01.row.claim.post [ofPy (.list (xs.map .int))] (.bool true) [ofPy (.list (xs.map .int))] = true :=
  postW_of (X := true) (by decide +kernel) (by simp [OpenLaw.row, WTm.value, PySem.Challenge.rw_oc0092_01]; exact same_self _) rfl
set_option maxRecDepth 100000 in
set_option maxHeartbeats 8000000 in
theorem PySem.Challenge.cw_oc0092_01_holds : PySem.Challenge.rw_oc0092_01.Holds := by
  w_on
  o_law
  o_head Hook.none
  case hw => w_witness2
  intro w s₀ s₁ mg mb G Y fa o pm cd doc dV kV ho hd hcd hD hmg hg args vals as hpre hlay hrd hwl hlo
  have V := (Ground.X G).2
  refine Ground.open G ?_
  intro T B D TE TW
  clear G Y hd hcd hD B D TE TW ho
  wrow_args hpre hlay hrd hwl hlo
  rename_i xs _ _ _ _ _ as0 _ la _ _ _ _ _ hr0 _ _ h63 _
  have h1 : ∀ q ∈ [(("_filemode_table" : Str), Mine.ftabD)], ∃ v, mg q.1 = some v ∧ Mine.Is s₁.heap v q.2 := by
    intro q hq
    rw [List.mem_singleton] at hq
    subst hq
    obtain ⟨v, h1, h2⟩ := V.val _ (.head _)
    exact ⟨v, h1, _, reads_of_readsW Mine.ftabD h2⟩
  have h2 : ∀ q ∈ ([("range", .type "range"), ("list", .type "list"), ("enumerate", .type "enumerate"), ("len", .builtin "len"), ("sorted", .builtin "sorted"), ("ValueError", .type "ValueError"), ("IndexError", .type "IndexError")] : List (Str × Value)), mg q.1 = none ∧ mb q.1 = some q.2 := by
    intro q hq
    simp only [List.mem_cons, List.not_mem_nil, or_false] at hq
    rcases hq with rfl | rfl | rfl | rfl | rfl | rfl | rfl
    all_goals refine Mine.bl_of T _ _ ?_ ?_ ?_ ?_ ?_ ?_ ?_
    all_goals decide +kernel
  have hT := Mine.tp_of_top T h1 h2
  clear h1 h2 T V
  have hm : mg Mine.f_law.name = some (.ref fa) := hmg
  clear hmg
  refine Mine.good_of (n := 9) (f := Mine.f_law) ?_ (by decide) hT hm hr0 hg (Mine.raises_none xs) (Mine.post_true xs)
  refine Mine.fn_law ⟨Mine.rec_mem 0 (by kernel_rfl), Mine.rec_mem 1 (by kernel_rfl), Mine.rec_mem 2 (by kernel_rfl), Mine.rec_mem 3 (by kernel_rfl), Mine.rec_mem 4 (by kernel_rfl), Mine.rec_mem 5 (by kernel_rfl), Mine.rec_mem 6 (by kernel_rfl), Mine.rec_mem 7 (by kernel_rfl), Mine.rec_mem 8 (by kernel_rfl), Mine.rec_mem 9 (by kernel_rfl), Mine.rec_mem 10 (by kernel_rfl), Mine.rec_mem 11 (by kernel_rfl), Mine.rec_mem 12 (by kernel_rfl), Mine.rec_mem 13 (by kernel_rfl), ?_, ?_, ?_, ?_, ?_, ?_, ?_, ?_⟩ xs (by omega)
  · exact .head _
  · exact .head _
  · exact .tail _ (.head _)
  · exact .tail _ (.tail _ (.head _))
  · exact .tail _ (.tail _ (.tail _ (.head _)))
  · exact .tail _ (.tail _ (.tail _ (.tail _ (.head _))))
  · exact .tail _ (.tail _ (.tail _ (.tail _ (.tail _ (.head _)))))
  · exact .tail _ (.tail _ (.tail _ (.tail _ (.tail _ (.tail _ (.head _))))))
