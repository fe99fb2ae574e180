import PyProof.Rows.All
import Wide.All
import OpenK.AllK
import Wide.FinOn
import PySem.Challenge.RW_pd0098_01
section
open PySem PySem.W PyProof.Rows PySem.Calls PySem.Spec
set_option Elab.async false
namespace Mine

/-! ## data and how a heap reads -/
mutual
def noD : PyData → Bool
  | .none | .bool _ | .int _ | .str _ => true
  | .list xs | .tuple xs => noDs xs
  | .dict _ => false
def noDs : List PyData → Bool
  | [] => true
  | x :: xs => noD x && noDs xs
end

def Rd (h : Heap) (v : Value) (d : PyData) : Prop := noD d = true ∧ ∃ as, Reads h v d as
def RdL (h : Heap) (vs : List Value) (ds : List PyData) : Prop := noDs ds = true ∧ ∃ as, ReadsAll h vs ds as

theorem noDs_cons {d : PyData} {ds : List PyData} : noDs (d :: ds) = true ↔ noD d = true ∧ noDs ds = true := by
  rw [noDs]; exact Bool.and_eq_true_iff

def SeqKeep (h h' : Heap) : Prop := ∀ b o vs n, h.get? b = some o → o.data = .seq vs n → ∃ sl, h'.get? b = some { o with slots := sl }

mutual
theorem reads_seq {h h' : Heap} (k : SeqKeep h h') : ∀ {v : Value} {d : PyData} {as : List Addr}, noD d = true → Reads h v d as → Reads h' v d as
  | _, _, _, _, .none => .none
  | _, _, _, _, .bool b => .bool b
  | _, _, _, _, .int i t => .int i t
  | _, _, _, _, .str x t => .str x t
  | _, _, _, e, .list h1 h2 h3 h4 => by
    obtain ⟨sl, q⟩ := k _ _ _ _ h1 h3
    exact .list q h2 h3 (readsAll_seq k (by simpa only [noD] using e) h4)
  | _, _, _, e, .tuple h1 h2 h3 h4 => by
    obtain ⟨sl, q⟩ := k _ _ _ _ h1 h3
    exact .tuple q h2 h3 (readsAll_seq k (by simpa only [noD] using e) h4)
  | _, _, _, e, .dict _ _ _ _ _ => by simp only [noD] at e; cases e
theorem readsAll_seq {h h' : Heap} (k : SeqKeep h h') : ∀ {vs : List Value} {ds : List PyData} {as : List Addr}, noDs ds = true → ReadsAll h vs ds as → ReadsAll h' vs ds as
  | _, _, _, _, .nil => .nil
  | _, _, _, e, .cons h1 h2 => .cons (reads_seq k (noDs_cons.mp e).1 h1) (readsAll_seq k (noDs_cons.mp e).2 h2)
end

theorem Rd.of {h h' : Heap} {v : Value} {d : PyData} (k : SeqKeep h h') (x : Rd h v d) : Rd h' v d := let ⟨e, as, r⟩ := x; ⟨e, as, reads_seq k e r⟩
theorem RdL.of {h h' : Heap} {v : List Value} {d : List PyData} (k : SeqKeep h h') (x : RdL h v d) : RdL h' v d := let ⟨e, as, r⟩ := x; ⟨e, as, readsAll_seq k e r⟩
theorem SeqKeep.ofUp {h h' : Heap} (k : h.UpToSlots h') : SeqKeep h h' := fun b o vs n e d => k b o e fun ws q => by rw [d] at q; cases q
theorem SeqKeep.ofStays {h h' : Heap} (k : h.StaysIn h') : SeqKeep h h' := fun b o _ _ e _ => ⟨o.slots, k b o e⟩
theorem Rd.none {h : Heap} : Rd h .none .none := ⟨by simp only [noD], _, .none⟩
theorem Rd.bool {h : Heap} (b : Bool) : Rd h (.bool b) (.bool b) := ⟨by simp only [noD], _, .bool b⟩
theorem Rd.int {h : Heap} (i : Int) (t : Tok) : Rd h (.int i t) (.int i) := ⟨by simp only [noD], _, .int i t⟩
theorem Rd.str {h : Heap} (x : Str) (t : Tok) : Rd h (.str x t) (.str x) := ⟨by simp only [noD], _, .str x t⟩
theorem Rd.str_inv {h : Heap} {v : Value} {x : Str} (r : Rd h v (.str x)) : ∃ t, v = .str x t := by obtain ⟨_, _, r⟩ := r; cases r; exact ⟨_, rfl⟩
theorem Rd.int_inv {h : Heap} {v : Value} {x : Int} (r : Rd h v (.int x)) : ∃ t, v = .int x t := by obtain ⟨_, _, r⟩ := r; cases r; exact ⟨_, rfl⟩
theorem Rd.bool_inv {h : Heap} {v : Value} {x : Bool} (r : Rd h v (.bool x)) : v = .bool x := by obtain ⟨_, _, r⟩ := r; cases r; rfl
theorem Rd.none_inv {h : Heap} {v : Value} (r : Rd h v .none) : v = .none := by obtain ⟨_, _, r⟩ := r; cases r; rfl
theorem Rd.list_inv' {h : Heap} {v : Value} {xs : List PyData} (r : Rd h v (.list xs)) : ∃ a vs, v = .ref a ∧ h.IsList a vs ∧ RdL h vs.toList xs := by
  obtain ⟨e, _, r⟩ := r; cases r with | list h1 h2 h3 h4 => exact ⟨_, _, rfl, ⟨_, h1, h2, _, h3⟩, by simpa only [noD] using e, _, h4⟩
theorem Rd.tuple_inv' {h : Heap} {v : Value} {xs : List PyData} (r : Rd h v (.tuple xs)) : ∃ a vs, v = .ref a ∧ h.IsTuple a vs ∧ RdL h vs.toList xs := by
  obtain ⟨e, _, r⟩ := r; cases r with | tuple h1 h2 h3 h4 => exact ⟨_, _, rfl, ⟨_, h1, h2, _, h3⟩, by simpa only [noD] using e, _, h4⟩
theorem Rd.list' {h : Heap} {a : Addr} {vs : Array Value} {xs : List PyData} (hl : h.IsList a vs) (r : RdL h vs.toList xs) : Rd h (.ref a) (.list xs) := by
  obtain ⟨o, h1, h2, n, h3⟩ := hl; obtain ⟨e, as, r⟩ := r; exact ⟨by simpa only [noD] using e, _, .list h1 h2 h3 r⟩
theorem Rd.tuple' {h : Heap} {a : Addr} {vs : Array Value} {xs : List PyData} (hl : h.IsTuple a vs) (r : RdL h vs.toList xs) : Rd h (.ref a) (.tuple xs) := by
  obtain ⟨o, h1, h2, n, h3⟩ := hl; obtain ⟨e, as, r⟩ := r; exact ⟨by simpa only [noD] using e, _, .tuple h1 h2 h3 r⟩
theorem RdL.nil {h : Heap} : RdL h [] [] := ⟨by simp only [noDs], _, .nil⟩
theorem RdL.cons {h : Heap} {v : Value} {vs : List Value} {d : PyData} {ds : List PyData} (x : Rd h v d) (y : RdL h vs ds) : RdL h (v :: vs) (d :: ds) := by
  obtain ⟨e, as, r⟩ := x; obtain ⟨e', as', r'⟩ := y; exact ⟨noDs_cons.mpr ⟨e, e'⟩, _, .cons r r'⟩
theorem RdL.cons_inv {h : Heap} {vs : List Value} {d : PyData} {ds : List PyData} (x : RdL h vs (d :: ds)) : ∃ v ws, vs = v :: ws ∧ Rd h v d ∧ RdL h ws ds := by
  obtain ⟨e, as, r⟩ := x; cases r with | cons r1 r2 => exact ⟨_, _, rfl, ⟨(noDs_cons.mp e).1, _, r1⟩, (noDs_cons.mp e).2, _, r2⟩
theorem RdL.cons_inv' {h : Heap} {v : Value} {vs : List Value} {ds : List PyData} (x : RdL h (v :: vs) ds) : ∃ d ds', ds = d :: ds' ∧ Rd h v d ∧ RdL h vs ds' := by
  obtain ⟨e, as, r⟩ := x; cases r with | cons r1 r2 => exact ⟨_, _, rfl, ⟨(noDs_cons.mp e).1, _, r1⟩, (noDs_cons.mp e).2, _, r2⟩
theorem RdL.nil_inv {h : Heap} {vs : List Value} (x : RdL h vs []) : vs = [] := by obtain ⟨_, as, r⟩ := x; cases r; rfl
theorem RdL.nil_inv' {h : Heap} {ds : List PyData} (x : RdL h [] ds) : ds = [] := by obtain ⟨_, as, r⟩ := x; cases r; rfl
theorem RdL.length {h : Heap} : ∀ {vs : List Value} {ds : List PyData}, RdL h vs ds → vs.length = ds.length
  | [], _, x => by rw [x.nil_inv']; rfl
  | v :: vs, _, x => by obtain ⟨d, ds', rfl, _, y⟩ := x.cons_inv'; rw [List.length_cons, List.length_cons, RdL.length y]
theorem RdL.get {h : Heap} : ∀ {vs : List Value} {ds : List PyData} {i : Nat} {d : PyData}, RdL h vs ds → ds[i]? = some d → ∃ v, vs[i]? = some v ∧ Rd h v d
  | [], _, _, _, x, e => by rw [x.nil_inv'] at e; simp at e
  | v :: vs, _, i, _, x, e => by
    obtain ⟨d, ds', rfl, r, y⟩ := x.cons_inv'
    cases i with
    | zero => simp at e; subst e; exact ⟨v, by simp, r⟩
    | succ i => simp at e; simpa using RdL.get y e
theorem RdL.get' {h : Heap} : ∀ {vs : List Value} {ds : List PyData} {i : Nat} {v : Value}, RdL h vs ds → vs[i]? = some v → ∃ d, ds[i]? = some d ∧ Rd h v d
  | [], _, _, _, x, e => by simp at e
  | v :: vs, _, i, _, x, e => by
    obtain ⟨d, ds', rfl, r, y⟩ := x.cons_inv'
    cases i with
    | zero => simp at e; subst e; exact ⟨d, by simp, r⟩
    | succ i => simp at e; simpa using RdL.get' y e
theorem RdL.append {h : Heap} : ∀ {vs ws : List Value} {ds es : List PyData}, RdL h vs ds → RdL h ws es → RdL h (vs ++ ws) (ds ++ es)
  | [], _, _, _, x, y => by rw [x.nil_inv']; exact y
  | v :: vs, _, _, _, x, y => by obtain ⟨d, ds', rfl, r, z⟩ := x.cons_inv'; exact .cons r (RdL.append z y)
theorem RdL.take {h : Heap} : ∀ {vs : List Value} {ds : List PyData} (n : Nat), RdL h vs ds → RdL h (vs.take n) (ds.take n)
  | [], _, n, x => by rw [x.nil_inv']; simpa using RdL.nil
  | v :: vs, _, n, x => by
    obtain ⟨d, ds', rfl, r, z⟩ := x.cons_inv'
    cases n with
    | zero => simpa using RdL.nil
    | succ n => simpa using RdL.cons r (RdL.take n z)
theorem RdL.drop {h : Heap} : ∀ {vs : List Value} {ds : List PyData} (n : Nat), RdL h vs ds → RdL h (vs.drop n) (ds.drop n)
  | [], _, n, x => by rw [x.nil_inv']; simpa using RdL.nil
  | v :: vs, _, n, x => by
    obtain ⟨d, ds', rfl, r, z⟩ := x.cons_inv'
    cases n with
    | zero => simpa using RdL.cons r z
    | succ n => simpa using RdL.drop n z
theorem RdL.strs {h : Heap} : ∀ {vs : List Value} {xs : List Str}, RdL h vs (xs.map .str) → ∀ v ∈ vs, ∃ x t, v = .str x t
  | [], _, _ => by simp
  | v :: vs, [], x => by have := x.nil_inv; cases this
  | v :: vs, y :: ys, x => by
    obtain ⟨d, ds', e, r, z⟩ := x.cons_inv'
    simp only [List.map_cons, List.cons.injEq] at e
    obtain ⟨rfl, rfl⟩ := e
    intro u hu
    rcases List.mem_cons.mp hu with rfl | hu
    · obtain ⟨t, rfl⟩ := r.str_inv; exact ⟨_, _, rfl⟩
    · exact RdL.strs z u hu

/-! ## a heap less some addresses -/
abbrev vw (X : List Addr) (h : Heap) : Heap := hideAll h X
theorem vw_stays (X : List Addr) (h : Heap) : (vw X h).StaysIn h := fun _ _ e => of_hideAll X e
theorem SeqKeep.vw {X : List Addr} {h h' : Heap} (k : ∀ b o vs n, h.get? b = some o → b ∉ X → o.data = .seq vs n → ∃ sl, h'.get? b = some { o with slots := sl }) : SeqKeep (vw X h) (vw X h') := fun b o vs n e d => by
  have nb : b ∉ X := fun m => by rw [hideAll_none X m] at e; cases e
  obtain ⟨sl, q⟩ := k b o vs n (of_hideAll X e) nb d
  exact ⟨sl, hideAll_get X q nb⟩
theorem SeqKeep.less {X : List Addr} {x : Addr} {h : Heap} : SeqKeep (Mine.vw (x :: X) h) (Mine.vw X h) := fun b o vs n e d => by
  have nb : b ∉ x :: X := fun m => by rw [hideAll_none _ m] at e; cases e
  exact ⟨o.slots, hideAll_get X (of_hideAll _ e) fun m => nb (List.mem_cons_of_mem _ m)⟩
theorem Rd.out {X : List Addr} {h : Heap} {v : Value} {d : PyData} (r : Rd (vw X h) v d) : Rd h v d := r.of (.ofStays (vw_stays X h))
theorem RdL.out {X : List Addr} {h : Heap} {v : List Value} {d : List PyData} (r : RdL (vw X h) v d) : RdL h v d := r.of (.ofStays (vw_stays X h))
theorem Rd.list_inv {X : List Addr} {h : Heap} {v : Value} {xs : List PyData} (r : Rd (vw X h) v (.list xs)) : ∃ a vs, v = .ref a ∧ h.IsList a vs ∧ a ∉ X ∧ RdL (vw X h) vs.toList xs := by
  obtain ⟨a, vs, e, ⟨o, ho, hc, n, hd⟩, rl⟩ := r.list_inv'
  exact ⟨a, vs, e, ⟨o, of_hideAll X ho, hc, n, hd⟩, (fun m => by rw [hideAll_none X m] at ho; cases ho), rl⟩
theorem Rd.tuple_inv {X : List Addr} {h : Heap} {v : Value} {xs : List PyData} (r : Rd (vw X h) v (.tuple xs)) : ∃ a vs, v = .ref a ∧ h.IsTuple a vs ∧ a ∉ X ∧ RdL (vw X h) vs.toList xs := by
  obtain ⟨a, vs, e, ⟨o, ho, hc, n, hd⟩, rl⟩ := r.tuple_inv'
  exact ⟨a, vs, e, ⟨o, of_hideAll X ho, hc, n, hd⟩, (fun m => by rw [hideAll_none X m] at ho; cases ho), rl⟩
theorem Rd.list {X : List Addr} {h : Heap} {a : Addr} {vs : Array Value} {xs : List PyData} (hl : h.IsList a vs) (hx : a ∉ X) (r : RdL (vw X h) vs.toList xs) : Rd (vw X h) (.ref a) (.list xs) := by
  obtain ⟨o, ho, hc, n, hd⟩ := hl; exact Rd.list' ⟨o, hideAll_get X ho hx, hc, n, hd⟩ r
theorem Rd.tuple {X : List Addr} {h : Heap} {a : Addr} {vs : Array Value} {xs : List PyData} (hl : h.IsTuple a vs) (hx : a ∉ X) (r : RdL (vw X h) vs.toList xs) : Rd (vw X h) (.ref a) (.tuple xs) := by
  obtain ⟨o, ho, hc, n, hd⟩ := hl; exact Rd.tuple' ⟨o, hideAll_get X ho hx, hc, n, hd⟩ r

/-! ## what a step keeps -/
/-- all that stood stands, a frame's own dict up to its slots -/
def Keep (fs : List Addr) (h h' : Heap) : Prop := ∀ b o, h.get? b = some o → (b ∉ fs → h'.get? b = some o) ∧ (b ∈ fs → (∀ vs, o.data ≠ .fields vs) → ∃ sl, h'.get? b = some { o with slots := sl })
theorem Keep.refl {fs : List Addr} (h : Heap) : Keep fs h h := fun _ o e => ⟨fun _ => e, fun _ _ => ⟨o.slots, e⟩⟩
theorem Keep.trans {fs : List Addr} {h₁ h₂ h₃ : Heap} (x : Keep fs h₁ h₂) (y : Keep fs h₂ h₃) : Keep fs h₁ h₃ := fun b o e => by
  refine ⟨fun n => (y b o ((x b o e).1 n)).1 n, fun m nf => ?_⟩
  obtain ⟨sl, q⟩ := (x b o e).2 m nf
  obtain ⟨sl', q'⟩ := (y b _ q).2 m nf
  exact ⟨sl', q'⟩
theorem Keep.up {fs : List Addr} {h h' : Heap} (x : Keep fs h h') : h.UpToSlots h' := fun b o e nf => by
  by_cases m : b ∈ fs
  · exact (x b o e).2 m nf
  · exact ⟨o.slots, (x b o e).1 m⟩
theorem Keep.ofStays {fs : List Addr} {h h' : Heap} (x : h.StaysIn h') : Keep fs h h' := fun b o e => ⟨fun _ => x b o e, fun _ _ => ⟨o.slots, x b o e⟩⟩
theorem Keep.seq {fs : List Addr} {h h' : Heap} (x : Keep fs h h') : SeqKeep h h' := .ofUp x.up
theorem Keep.seqv {fs X : List Addr} {h h' : Heap} (x : Keep fs h h') : SeqKeep (vw X h) (vw X h') := .vw fun b o vs n e _ d => x.seq b o vs n e d
theorem Keep.push {fs : List Addr} (h : Heap) (o : Obj) : Keep fs h (h.push o) := .ofStays fun _ _ e => Heap.get?_push_of_some o e

abbrev frAddrs (l : List Env) : List Addr := l.filterMap (·.frame)

theorem Keep.frames {H h h' : Heap} {fs : List Addr} {l : List Env} (x : Keep fs h h') (f : h.FunFrames H l) : h'.FunFrames H l :=
  f.of_keeps fun b o e nf => by obtain ⟨sl, q⟩ := x.up b o e nf; exact ⟨_, q, rfl⟩
theorem Keep.base {H h h' : Heap} {l : List Env} (x : Keep (frAddrs l) h h') (f : h.FunFrames H l) (b : H.StaysIn h) : H.StaysIn h' := fun a o e =>
  (x a o (b a o e)).1 fun m => by rw [(f.mem m).1] at e; cases e

/-- the frames on the stack stand, each by its dict -/
structure FrOk (H h : Heap) (l : List Env) : Prop where
  ff : h.FunFrames H l
  dd : ∀ b ∈ frAddrs l, ∃ o es n, h.get? b = some o ∧ o.data = .dict es n
theorem FrOk.keep {H h h' : Heap} {fs : List Addr} {l : List Env} (f : FrOk H h l) (x : Keep fs h h') : FrOk H h' l :=
  ⟨x.frames f.ff, fun b hb => by
    obtain ⟨o, es, n, e, d⟩ := f.dd b hb
    obtain ⟨sl, q⟩ := x.up b o e fun vs z => by rw [d] at z; cases z
    exact ⟨_, es, n, q, d⟩⟩
/-- what is no dict is kept to the sign -/
theorem Keep.exact {H h h' : Heap} {l : List Env} (x : Keep (frAddrs l) h h') (f : FrOk H h l) {b : Addr} {o : Obj} (e : h.get? b = some o) (nd : ∀ es n, o.data ≠ .dict es n) : h'.get? b = some o :=
  (x b o e).1 fun m => by
    obtain ⟨o', es, n, e', d⟩ := f.dd b m
    rw [e] at e'; cases e'; exact nd es n d

/-- one state to another: the heap kept, generators and the world outside untouched -/
structure Kp (fs : List Addr) (s s' : Shared) : Prop where
  heap : Keep fs s.heap s'.heap
  gens : s'.gens = s.gens
  os : s'.os = s.os
theorem Kp.refl {fs : List Addr} (s : Shared) : Kp fs s s := ⟨.refl _, rfl, rfl⟩
theorem Kp.trans {fs : List Addr} {s₁ s₂ s₃ : Shared} (x : Kp fs s₁ s₂) (y : Kp fs s₂ s₃) : Kp fs s₁ s₃ := ⟨x.heap.trans y.heap, y.gens.trans x.gens, y.os.trans x.os⟩
theorem Kp.tok {fs : List Addr} {s s' : Shared} (x : Kp fs s s') (t : Tok) : Kp fs s { s' with toks := t } := ⟨x.heap, x.gens, x.os⟩

/-! ## the surroundings -/
structure Amb where
  prog : Program
  w : World
  H : Heap
  K : Frag
  p : Program
  loose : List Str
  mg : Str → Option Value
  mb : Str → Option Value
  hK : K.In H
  hT : TopRead p loose mg mb H
  seer : H.NoSeer
  tree : prog.given.tree = none

abbrev Amb.M (a : Amb) : Model := model a.prog a.w

/-- an exception that is being handled, one with no other behind it -/
def HeldAt (e : Addr) (h : Heap) : Prop := ∃ o vs, h.get? e = some o ∧ o.data = .fields vs ∧ vs[2]? = some .none
theorem HeldAt.keep {e : Addr} {H h h' : Heap} {l : List Env} (x : HeldAt e h) (k : Keep (frAddrs l) h h') (f : FrOk H h l) : HeldAt e h' := by
  obtain ⟨o, vs, e1, e2, e3⟩ := x
  exact ⟨o, vs, k.exact f e1 fun es n z => (by rw [e2] at z; cases z), e2, e3⟩
theorem HeldAt.but {e L : Addr} {o : Obj} {h h' : Heap} (x : HeldAt e h) (k : ∀ b o, b ≠ L → h.get? b = some o → h'.get? b = some o) (ho : h.get? L = some o) (hd : ∀ vs, o.data ≠ .fields vs) : HeldAt e h' := by
  obtain ⟨o', vs, e1, e2, e3⟩ := x
  exact ⟨o', vs, k e o' (fun z => by rw [z, ho] at e1; cases e1; exact hd vs e2) e1, e2, e3⟩

structure Cx (sc : Scope) where
  A : Around
  env : Env
  fe : Env
  fo : List Env
  n : Nat
  X : List Addr
  hfr : A.frames = some (fe :: fo)
  hgen : fe.scope.isGenerator = false
  hco : fe.scope.isCoroutine = false
  hfb : fe.builtins = builtinsNs
  hfg : fe.globals = mainGlobals
  hff : env.frame = fe.frame
  hq : Option Addr
  hh : A.handled = hq.map Value.ref
  hd : A.depth + n ≤ 800
  hu : A.units + 100 * n ≤ 9000
  hsc : env.scope = sc
  hk : sc.kind = .function
  hinj : ∀ x y ad, env.cells.lookup x = some ad → env.cells.lookup y = some ad → y = x
  hg : env.globals = mainGlobals
  hb : env.builtins = builtinsNs

abbrev Cx.frs {sc : Scope} (c : Cx sc) : List Env := c.fe :: c.fo
abbrev Cx.fs {sc : Scope} (c : Cx sc) : List Addr := frAddrs c.frs
theorem Cx.kind {sc : Scope} (c : Cx sc) : c.env.scope.kind = .function := by rw [c.hsc]; exact c.hk
theorem Cx.kindOf {sc : Scope} (c : Cx sc) (x : Str) : c.env.kindOf x = sc.names.lookup x := by unfold Env.kindOf; rw [c.hsc]
theorem Cx.depth_lt {sc : Scope} (c : Cx sc) : c.A.depth < recursionLimit := by have := c.hd; unfold recursionLimit; omega
theorem Cx.units_lt {sc : Scope} (c : Cx sc) : c.A.units + 500 < cLine := by have := c.hu; unfold cLine; omega
abbrev Vars := List (Str × PyData)

structure Ok (a : Amb) (frs : List Env) (X : List Addr) (h : Heap) : Prop where
  base : a.H.StaysIn h
  fr : FrOk a.H h frs
  xs : ∀ x ∈ X, ∃ o, h.get? x = some o
theorem Ok.keep {a : Amb} {frs : List Env} {X : List Addr} {h h' : Heap} (x : Ok a frs X h) (k : Keep (frAddrs frs) h h') : Ok a frs X h' :=
  ⟨k.base x.fr.ff x.base, x.fr.keep k, fun y hy => by
    obtain ⟨o, e⟩ := x.xs y hy
    by_cases m : y ∈ frAddrs frs
    · obtain ⟨o', es, n, e', d⟩ := x.fr.dd y m
      rw [e] at e'; cases e'
      obtain ⟨sl, q⟩ := (k y o e).2 m fun vs z => by rw [d] at z; cases z
      exact ⟨_, q⟩
    · exact ⟨o, (k y o e).1 m⟩⟩
theorem Ok.fresh {a : Amb} {frs : List Env} {X : List Addr} {h : Heap} (x : Ok a frs X h) : h.objs.size ∉ X := fun m => by
  obtain ⟨o, e⟩ := x.xs _ m
  exact Nat.lt_irrefl _ (Heap.lt_size e)
theorem Ok.fresh1 {a : Amb} {frs : List Env} {X : List Addr} {h : Heap} (x : Ok a frs X h) : h.objs.size + 1 ∉ X := fun m => by
  obtain ⟨o, e⟩ := x.xs _ m
  exact Nat.lt_irrefl _ (Nat.lt_of_succ_lt (Heap.lt_size e))

structure St (a : Amb) {sc : Scope} (c : Cx sc) (h : Heap) (ρ : Vars) : Prop where
  ok : Ok a c.frs c.X h
  new : a.H.get? c.env.locals = none
  loc : ∃ ml, h.Ns c.env.locals ml ∧ ∀ x d, sc.names.lookup x = some .local → ρ.lookup x = some d → ∃ v, ml x = some v ∧ Rd (vw c.X h) v d
  cel : ∀ x, sc.names.lookup x = some .cell → ∃ ad v, c.env.cells.lookup x = some ad ∧ a.H.get? ad = none ∧ h.IsCell ad v ∧ ∀ d, ρ.lookup x = some d → ∃ u, v = some u ∧ Rd (vw c.X h) u d
  hld : ∀ e, c.hq = some e → HeldAt e h
theorem Cx.h0 {sc : Scope} (c : Cx sc) (h : c.hq = none) : c.A.handled = none := by rw [c.hh, h]; rfl
theorem St.base {a : Amb} {sc : Scope} {c : Cx sc} {h : Heap} {ρ : Vars} (x : St a c h ρ) : a.H.StaysIn h := x.ok.base
theorem St.fr {a : Amb} {sc : Scope} {c : Cx sc} {h : Heap} {ρ : Vars} (x : St a c h ρ) : FrOk a.H h c.frs := x.ok.fr

theorem isCell_up {h h' : Heap} {a : Addr} {v : Option Value} (k : h.UpToSlots h') (x : h.IsCell a v) : h'.IsCell a v := by
  obtain ⟨o, ho, hd⟩ := x
  obtain ⟨sl, q⟩ := k a o ho fun vs e => by rw [hd] at e; cases e
  exact ⟨_, q, hd⟩

theorem St.keep {a : Amb} {sc : Scope} {c : Cx sc} {h h' : Heap} {ρ : Vars} (x : St a c h ρ) (k : Keep c.fs h h') : St a c h' ρ where
  ok := x.ok.keep k
  new := x.new
  loc := by
    obtain ⟨ml, hn, hv⟩ := x.loc
    exact ⟨ml, k.up.ns hn, fun y d e q => let ⟨v, e1, r⟩ := hv y d e q; ⟨v, e1, r.of k.seqv⟩⟩
  cel := fun y e => by
    obtain ⟨ad, v, e1, e0, e2, r⟩ := x.cel y e
    exact ⟨ad, v, e1, e0, isCell_up k.up e2, fun d q => let ⟨u, z, r⟩ := r d q; ⟨u, z, r.of k.seqv⟩⟩
  hld := fun e q => (x.hld e q).keep k x.ok.fr

/-! ## judgements -/
/-- the expression comes to a value that reads as d -/
def Ev (a : Amb) {sc : Scope} (c : Cx sc) (ρ : Vars) (e : Expr) (d : PyData) : Prop :=
  ∀ (s : Shared) (E : Value → Shared → Prop), St a c s.heap ρ → 0 < s.toks → wpAny a.M c.A (eval e c.env) (fun v s' => Kp c.fs s s' ∧ Rd (vw c.X s'.heap) v d) E s
/-- a test comes to b -/
def Ts (a : Amb) {sc : Scope} (c : Cx sc) (ρ : Vars) (e : Expr) (b : Bool) : Prop :=
  ∀ (s : Shared) (E : Value → Shared → Prop), St a c s.heap ρ → 0 < s.toks → wpAny a.M c.A (isTrue e c.env (eval e c.env)) (fun v s' => Kp c.fs s s' ∧ v = b) E s
/-- the expression is this very value, and nothing else happens -/
def Is (a : Amb) {sc : Scope} (c : Cx sc) (ρ : Vars) (e : Expr) (v : Value) : Prop :=
  ∀ (s : Shared) (E : Value → Shared → Prop) (Q : Value → Shared → Prop), St a c s.heap ρ → Q v s → wpAny a.M c.A (eval e c.env) Q E s
/-- a def, called with values that read as ds, hands back one that reads as d -/
def FnG (P : Option Addr → Prop) (a : Amb) (n : Nat) (f : Value) (ds : List PyData) (d : PyData) : Prop :=
  ∀ (A : Around) (frs : List Env) (X : List Addr) (q : Option Addr) (s : Shared) (vs : List Value), P q → A.frames = some frs → A.handled = q.map Value.ref → (∀ e, q = some e → HeldAt e s.heap) → A.depth + n ≤ 800 → A.units + 100 * n ≤ 9000 → Ok a frs X s.heap → RdL (vw X s.heap) vs ds → 0 < s.toks →
    codeAny a.M A (.call f ⟨vs, []⟩) (fun r s' => ∃ v, r = .ok (.ret v) ∧ Kp (frAddrs frs) s s' ∧ Rd (vw X s'.heap) v d) s
/-- .. where no exception is being handled -/
abbrev Fn (a : Amb) (n : Nat) (f : Value) (ds : List PyData) (d : PyData) : Prop := FnG (fun q => q = none) a n f ds d
theorem FnG.fn {P : Option Addr → Prop} {a : Amb} {n : Nat} {f : Value} {ds : List PyData} {d : PyData} (h : FnG P a n f ds d) (hp : P none) : Fn a n f ds d := fun A frs X q s vs p => h A frs X q s vs (by rw [p]; exact hp)

/-- all but the frame's own parts kept -/
structure KpX {sc : Scope} (c : Cx sc) (s s' : Shared) : Prop where
  heap : ∀ b o, s.heap.get? b = some o → b ≠ c.env.locals → (∀ x, sc.names.lookup x = some .cell → c.env.cells.lookup x ≠ some b) → (b ∉ c.fs → s'.heap.get? b = some o) ∧ (b ∈ c.fs → (∀ vs, o.data ≠ .fields vs) → ∃ sl, s'.heap.get? b = some { o with slots := sl })
  gens : s'.gens = s.gens
  os : s'.os = s.os
theorem KpX.refl {sc : Scope} {c : Cx sc} (s : Shared) : KpX c s s := ⟨fun _ o e _ _ => ⟨fun _ => e, fun _ _ => ⟨o.slots, e⟩⟩, rfl, rfl⟩
theorem KpX.trans {sc : Scope} {c : Cx sc} {s₁ s₂ s₃ : Shared} (x : KpX c s₁ s₂) (y : KpX c s₂ s₃) : KpX c s₁ s₃ :=
  ⟨fun b o e n1 n2 => by
    refine ⟨fun n => (y.heap b o ((x.heap b o e n1 n2).1 n) n1 n2).1 n, fun m nf => ?_⟩
    obtain ⟨sl, q⟩ := (x.heap b o e n1 n2).2 m nf
    obtain ⟨sl', q'⟩ := (y.heap b _ q n1 n2).2 m nf
    exact ⟨sl', q'⟩, y.gens.trans x.gens, y.os.trans x.os⟩
theorem Kp.x {sc : Scope} {c : Cx sc} {s s' : Shared} (x : Kp c.fs s s') : KpX c s s' := ⟨fun b o e _ _ => x.heap b o e, x.gens, x.os⟩

inductive Res where
  | next (ρ : Vars)
  | brk (ρ : Vars)
  | ret (d : PyData)

def RPost (a : Amb) {sc : Scope} (c : Cx sc) : Res → Flow → Shared → Prop
  | .next ρ, fl, s => fl = .next ∧ St a c s.heap ρ
  | .brk ρ, fl, s => fl = .brk ∧ St a c s.heap ρ
  | .ret d, fl, s => ∃ v, fl = .ret v ∧ Rd (vw c.X s.heap) v d
/-- the statements end so -/
def Exs (a : Amb) {sc : Scope} (c : Cx sc) (ρ : Vars) (ss : List Stmt) (r : Res) : Prop :=
  ∀ (s : Shared) (E : Value → Shared → Prop), St a c s.heap ρ → 0 < s.toks → wpAny a.M c.A (execs ss c.env) (fun fl s' => KpX c s s' ∧ RPost a c r fl s') E s
def Exc (a : Amb) {sc : Scope} (c : Cx sc) (ρ : Vars) (st : Stmt) (r : Res) : Prop :=
  ∀ (s : Shared) (E : Value → Shared → Prop), St a c s.heap ρ → 0 < s.toks → wpAny a.M c.A (exec st c.env) (fun fl s' => KpX c s s' ∧ RPost a c r fl s') E s

end Mine

end
section
open PySem PySem.W PyProof.Rows PySem.Calls PySem.Spec
set_option Elab.async false
set_option linter.unusedVariables false
namespace Mine

section
variable {a : Amb} {sc : Scope} {c : Cx sc} {ρ : Vars}

theorem Amb.kIn {a : Amb} {h : Heap} (b : a.H.StaysIn h) : a.K.In h := a.hK.keeps b
theorem St.kIn {h : Heap} (x : St a c h ρ) : a.K.In h := a.hK.keeps x.base
theorem St.nolimit {h : Heap} (x : St a c h ρ) : h.NoLimit := a.hT.nolimit.keeps x.base

/-! names and constants -/
theorem Is.globK {x : Str} {pos : Pos} {v : Value} (e : nsIn a.K mainGlobals x = some (some v)) (hx : sc.names.lookup x = some .globalImplicit) (hd : (x == ("__debug__" : Str)) = false) :
    Is a c ρ (.Name x pos) v := fun s E Q S q => by
  refine Name_function_global c.kind (by rw [c.kindOf]; exact hx) (loadGlobal_global (mg := a.mg) ?_ (mg_of a.hK a.hT.g e) q) hd
  rw [c.hg]; exact a.hT.g.keeps S.base
theorem Is.globB {x : Str} {pos : Pos} {v : Value} (e : nsIn a.K mainGlobals x = some none) (hv : bootBuiltins x = some v) (hn : x ≠ "__name__") (hx : sc.names.lookup x = some .globalImplicit) (hd : (x == ("__debug__" : Str)) = false) :
    Is a c ρ (.Name x pos) v := fun s E Q S q => by
  refine Name_function_global c.kind (by rw [c.kindOf]; exact hx) (loadGlobal_builtin (mg := a.mg) (mb := a.mb) ?_ (mg_none_of a.hK a.hT.g e) ?_ ((a.hT.builtins x hn).trans hv) q) hd
  · rw [c.hg]; exact a.hT.g.keeps S.base
  · rw [c.hb]; exact a.hT.b.keeps S.base
theorem Ev.loc {x : Str} {pos : Pos} {d : PyData} (hx : sc.names.lookup x = some .local) (hv : ρ.lookup x = some d) (hd : (x == ("__debug__" : Str)) = false) : Ev a c ρ (.Name x pos) d := fun s E S T => by
  obtain ⟨ml, hn, hl⟩ := S.loc
  obtain ⟨v, e, r⟩ := hl x d hx hv
  exact wpAny_Name (wpAny_loadName_local c.kind (by rw [c.kindOf]; exact hx) hn e ⟨.refl _, r⟩) hd
theorem Ev.cell {x : Str} {pos : Pos} {d : PyData} (hx : sc.names.lookup x = some .cell) (hv : ρ.lookup x = some d) (hd : (x == ("__debug__" : Str)) = false) : Ev a c ρ (.Name x pos) d := fun s E S T => by
  obtain ⟨ad, v, e, _, ic, hl⟩ := S.cel x hx
  obtain ⟨u, rfl, r⟩ := hl d hv
  exact wpAny_Name (wpAny_loadName_cell c.kind (by rw [c.kindOf]; exact hx) e ic ⟨.refl _, r⟩) hd
theorem Ev.int {i : Int} {k : Nat} {pos : Pos} : Ev a c ρ (.Constant (.int i) k pos) (.int i) := fun s E S T => wpAny_mkInt ⟨(Kp.refl s).tok _, .int _ _⟩
theorem Ev.str {x : Str} {k : Nat} {pos : Pos} : Ev a c ρ (.Constant (.str x) k pos) (.str x) := fun s E S T => wpAny_mkText ⟨(Kp.refl s).tok _, .str _ _⟩
theorem Ev.bool {b : Bool} {k : Nat} {pos : Pos} : Ev a c ρ (.Constant (.bool b) k pos) (.bool b) := fun s E S T => wpAny_pure ⟨.refl s, .bool _⟩
theorem Ev.noneC {k : Nat} {pos : Pos} : Ev a c ρ (.Constant .none k pos) .none := fun s E S T => wpAny_pure ⟨.refl s, .none⟩

/-- an expression, then what is done with its value -/
theorem Ev.then {e : Expr} {d : PyData} {s : Shared} {E : Value → Shared → Prop} {Q : Value → Shared → Prop} (h : Ev a c ρ e d) (S : St a c s.heap ρ) (T : 0 < s.toks)
    (k : ∀ v s', Kp c.fs s s' → Rd (vw c.X s'.heap) v d → St a c s'.heap ρ → 0 < s'.toks → Q v s') : wpAny a.M c.A (eval e c.env) Q E s :=
  wpAny_mono (wpAny_toks_of (n := 1) T (h s E S T)) (fun v s' ⟨t, q, r⟩ => k v s' q r (S.keep q.heap) t) fun _ _ x => x.2
theorem Ts.then {e : Expr} {b : Bool} {s : Shared} {E : Value → Shared → Prop} {Q : Bool → Shared → Prop} (h : Ts a c ρ e b) (S : St a c s.heap ρ) (T : 0 < s.toks)
    (k : ∀ s', Kp c.fs s s' → St a c s'.heap ρ → 0 < s'.toks → Q b s') : wpAny a.M c.A (isTrue e c.env (eval e c.env)) Q E s :=
  wpAny_mono (wpAny_toks_of (n := 1) T (h s E S T)) (fun v s' ⟨t, q, r⟩ => by subst r; exact k s' q (S.keep q.heap) t) fun _ _ x => x.2

/-! two operands -/
/-- an operator over two data -/
def Op2 (a : Amb) {sc : Scope} (c : Cx sc) (t : Value → Value → Sem Value) (d1 d2 d : PyData) : Prop :=
  ∀ (s : Shared) (E : Value → Shared → Prop) (v1 v2 : Value), Ok a c.frs c.X s.heap → Rd (vw c.X s.heap) v1 d1 → Rd (vw c.X s.heap) v2 d2 → wpAny a.M c.A (t v1 v2) (fun v s' => Kp c.fs s s' ∧ Rd (vw c.X s'.heap) v d) E s
theorem Ev.bin {l r : Expr} {op : Operator} {pos : Pos} {d1 d2 d : PyData} (h1 : Ev a c ρ l d1) (h2 : Ev a c ρ r d2) (h : Op2 a c (binaryOp op) d1 d2 d) : Ev a c ρ (.BinOp l op r pos) d := fun s E S T => by
  refine wpAny_BinOp (h1.then S T fun v1 s1 q1 r1 S1 T1 => h2.then S1 T1 fun v2 s2 q2 r2 S2 T2 => wpAny_mono (h s2 E v1 v2 S2.ok (r1.of q2.heap.seqv) r2) (fun v s3 ⟨q3, r3⟩ => ⟨(q1.trans q2).trans q3, r3⟩) fun _ _ x => x)
theorem Ev.cmp {l r : Expr} {op : CmpOp} {pos : Pos} {d1 d2 d : PyData} (h1 : Ev a c ρ l d1) (h2 : Ev a c ρ r d2) (h : Op2 a c (compareOp op) d1 d2 d) (hm : behindInMarks op r = false := by with_unfolding_all rfl) :
    Ev a c ρ (.Compare l [op] [r] pos) d := fun s E S T => by
  refine wpAny_Compare1 (h1.then S T fun v1 s1 q1 r1 S1 T1 => h2.then S1 T1 fun v2 s2 q2 r2 S2 T2 => wpAny_mono (h s2 E v1 v2 S2.ok (r1.of q2.heap.seqv) r2) (fun v s3 ⟨q3, r3⟩ => ⟨(q1.trans q2).trans q3, r3⟩) fun _ _ x => x) hm
theorem Ts.cmp {l r : Expr} {op : CmpOp} {pos : Pos} {d1 d2 : PyData} {b : Bool} (h1 : Ev a c ρ l d1) (h2 : Ev a c ρ r d2) (h : Op2 a c (compareOp op) d1 d2 (.bool b)) (hm : behindInMarks op r = false := by with_unfolding_all rfl) :
    Ts a c ρ (.Compare l [op] [r] pos) b := fun s E S T => by
  refine wpAny_isTrue_Compare1 (h1.then S T fun v1 s1 q1 r1 S1 T1 => h2.then S1 T1 fun v2 s2 q2 r2 S2 T2 => wpAny_mono (h s2 E v1 v2 S2.ok (r1.of q2.heap.seqv) r2) (fun v s3 ⟨q3, r3⟩ => ?_) fun _ _ x => x) hm
  cases r3.bool_inv
  exact wpAny_truthy_bool ⟨(q1.trans q2).trans q3, rfl⟩

theorem Op2.addStr {x y : Str} (hsz : x.length + y.length ≤ sizeLine) : Op2 a c (binaryOp .Add) (.str x) (.str y) (.str (x ++ y)) := fun s E v1 v2 _ r1 r2 => by
  obtain ⟨t, rfl⟩ := r1.str_inv; obtain ⟨u, rfl⟩ := r2.str_inv
  exact PyProof.Rows.add_str (fun t' tk => ⟨(Kp.refl s).tok _, .str _ _⟩) hsz
theorem Op2.addInt {x y : Int} : Op2 a c (binaryOp .Add) (.int x) (.int y) (.int (x + y)) := fun s E v1 v2 _ r1 r2 => by
  obtain ⟨t, rfl⟩ := r1.int_inv; obtain ⟨u, rfl⟩ := r2.int_inv
  exact PyProof.Rows.add_int ⟨(Kp.refl s).tok _, .int _ _⟩
theorem Op2.subInt {x y : Int} : Op2 a c (binaryOp .Sub) (.int x) (.int y) (.int (x - y)) := fun s E v1 v2 _ r1 r2 => by
  obtain ⟨t, rfl⟩ := r1.int_inv; obtain ⟨u, rfl⟩ := r2.int_inv
  exact PyProof.Rows.sub_int ⟨(Kp.refl s).tok _, .int _ _⟩
theorem Op2.modInt {x y : Int} (hy : y ≠ 0) : Op2 a c (binaryOp .Mod) (.int x) (.int y) (.int (x.fmod y)) := fun s E v1 v2 _ r1 r2 => by
  obtain ⟨t, rfl⟩ := r1.int_inv; obtain ⟨u, rfl⟩ := r2.int_inv
  exact PyProof.Rows.mod_int hy ⟨(Kp.refl s).tok _, .int _ _⟩
theorem Cx.pylong (c : Cx sc) {s : Shared} (b : a.H.StaysIn s.heap) : PySem.PylongRoom a.M c.A s :=
  PySem.PylongRoom.of (a.hT.nolimit.keeps b) (by have := c.hd; unfold recursionLimit Builtin.pylongFrames; omega) (PySem.SeerAt.of (a.seer.keeps b) a.tree c.hfr c.hgen c.hco c.hfb c.hfg)
theorem Op2.divInt {x y : Int} (hy : y ≠ 0) : Op2 a c (binaryOp .FloorDiv) (.int x) (.int y) (.int (x.fdiv y)) := fun s E v1 v2 b r1 r2 => by
  obtain ⟨t, rfl⟩ := r1.int_inv; obtain ⟨u, rfl⟩ := r2.int_inv
  exact PyProof.Rows.floordiv_int hy ⟨(Kp.refl s).tok _, .int _ _⟩ (Or.inr (c.pylong b.base))
theorem Op2.eqInt {x y : Int} : Op2 a c (compareOp .Eq) (.int x) (.int y) (.bool (x == y)) := fun s E v1 v2 _ r1 r2 => by
  obtain ⟨t, rfl⟩ := r1.int_inv; obtain ⟨u, rfl⟩ := r2.int_inv
  exact PyProof.Rows.eq_int ⟨.refl s, .bool _⟩
theorem Op2.neInt {x y : Int} : Op2 a c (compareOp .NotEq) (.int x) (.int y) (.bool (x != y)) := fun s E v1 v2 _ r1 r2 => by
  obtain ⟨t, rfl⟩ := r1.int_inv; obtain ⟨u, rfl⟩ := r2.int_inv
  exact PyProof.Rows.ne_int ⟨.refl s, .bool _⟩
theorem Op2.ltInt {x y : Int} : Op2 a c (compareOp .Lt) (.int x) (.int y) (.bool (decide (x < y))) := fun s E v1 v2 _ r1 r2 => by
  obtain ⟨t, rfl⟩ := r1.int_inv; obtain ⟨u, rfl⟩ := r2.int_inv
  exact PyProof.Rows.lt_int ⟨.refl s, .bool _⟩
theorem Op2.eqStr {x y : Str} : Op2 a c (compareOp .Eq) (.str x) (.str y) (.bool (x == y)) := fun s E v1 v2 _ r1 r2 => by
  obtain ⟨t, rfl⟩ := r1.str_inv; obtain ⟨u, rfl⟩ := r2.str_inv
  exact PyProof.Rows.eq_str ⟨.refl s, .bool _⟩
theorem Op2.neStr {x y : Str} : Op2 a c (compareOp .NotEq) (.str x) (.str y) (.bool (x != y)) := fun s E v1 v2 _ r1 r2 => by
  obtain ⟨t, rfl⟩ := r1.str_inv; obtain ⟨u, rfl⟩ := r2.str_inv
  exact PyProof.Rows.ne_str ⟨.refl s, .bool _⟩

/-! tests -/
theorem Ev.ifT {t b o : Expr} {pos : Pos} {d : PyData} (ht : Ts a c ρ t true) (hb : Ev a c ρ b d) : Ev a c ρ (.IfExp t b o pos) d := fun s E S T => by
  rw [arm_eval_IfExp]
  refine wpAny_bind (ht.then S T fun s1 q1 S1 T1 => ?_)
  exact hb.then S1 T1 fun v s2 q2 r2 _ _ => ⟨q1.trans q2, r2⟩
theorem Ev.ifF {t b o : Expr} {pos : Pos} {d : PyData} (ht : Ts a c ρ t false) (ho : Ev a c ρ o d) : Ev a c ρ (.IfExp t b o pos) d := fun s E S T => by
  rw [arm_eval_IfExp]
  refine wpAny_bind (ht.then S T fun s1 q1 S1 T1 => ?_)
  exact ho.then S1 T1 fun v s2 q2 r2 _ _ => ⟨q1.trans q2, r2⟩
theorem Ts.not {e : Expr} {pos : Pos} {b : Bool} (h : Ts a c ρ e b) : Ts a c ρ (.UnaryOp .Not e pos) (!b) := fun s E S T =>
  isTrue_not (h.then S T fun s1 q1 _ _ => ⟨q1, rfl⟩)
end

end Mine

end
section
open PySem PySem.W PyProof.Rows PySem.Calls PySem.Spec
set_option Elab.async false
set_option linter.unusedVariables false
namespace Mine

theorem frames_of {h h' base : Heap} (k : ∀ b o, h.get? b = some o → (∀ vs, o.data ≠ .fields vs) → ∃ o', h'.get? b = some o' ∧ ∀ vs, o'.data ≠ .fields vs) : ∀ {l : List Env}, h.FunFrames base l → h'.FunFrames base l
  | [], _ => trivial
  | _ :: _, ⟨hk, ⟨L, o, hf, hn, ho, hd⟩, hr⟩ => by
    obtain ⟨o', ho', hd'⟩ := k L o ho hd
    exact ⟨hk, ⟨L, o', hf, hn, ho', hd'⟩, frames_of k hr⟩

theorem lookup_cons_ne {x y : Str} {d : PyData} {ρ : Vars} (h : y ≠ x) : ((x, d) :: ρ).lookup y = ρ.lookup y := by
  rw [List.lookup_cons]
  have : (y == x) = false := by simpa using h
  rw [this]
theorem lookup_cons_eq {x : Str} {d : PyData} {ρ : Vars} : ((x, d) :: ρ).lookup x = some d := by
  rw [List.lookup_cons, beq_self_eq_true]

theorem frOk_of {h h' base : Heap} {l : List Env} (k : ∀ b o, h.get? b = some o → (∀ vs, o.data ≠ .fields vs) → ∃ o', h'.get? b = some o' ∧ ∀ vs, o'.data ≠ .fields vs)
    (kd : ∀ b o es n, h.get? b = some o → o.data = .dict es n → ∃ o' es' n', h'.get? b = some o' ∧ o'.data = .dict es' n') (f : FrOk base h l) : FrOk base h' l :=
  ⟨frames_of k f.ff, fun b hb => by obtain ⟨o, es, n, e, d⟩ := f.dd b hb; exact kd b o es n e d⟩

section
variable {a : Amb} {sc : Scope} {c : Cx sc} {ρ : Vars}

theorem seq_sameBut {X : List Addr} {h h' : Heap} {L : Addr} {o : Obj} (hs : Heap.SameBut L h h') (ho : h.get? L = some o) (hd : ∀ vs n, o.data ≠ .seq vs n) : SeqKeep (vw X h) (vw X h') := .vw fun b ob vs n e _ d =>
  ⟨ob.slots, by rw [hs.2 b fun q => by subst q; rw [ho] at e; cases e; exact hd _ _ d]; exact e⟩
theorem ok_sameBut {frs : List Env} {X : List Addr} {h h' : Heap} {L : Addr} {o o' : Obj} (x : Ok a frs X h) (hs : Heap.SameBut L h h') (hL : a.H.get? L = none) (ho : h.get? L = some o) (ho' : h'.get? L = some o') (hf : ∀ vs, o'.data ≠ .fields vs)
    (hd : ∀ es n, o.data = .dict es n → ∃ es' n', o'.data = .dict es' n') : Ok a frs X h' := by
  refine ⟨fun b ob e => ?_, frOk_of (fun b ob e nf => ?_) (fun b ob es n e q => ?_) x.fr, fun y hy => ?_⟩
  · rw [hs.2 b fun q => by subst q; rw [hL] at e; cases e]; exact x.base b ob e
  · by_cases q : b = L
    · subst q; exact ⟨_, ho', hf⟩
    · exact ⟨ob, (hs.2 b q).trans e, nf⟩
  · by_cases z : b = L
    · subst z; rw [ho] at e; cases e; obtain ⟨es', n', d'⟩ := hd es n q; exact ⟨_, es', n', ho', d'⟩
    · exact ⟨ob, es, n, (hs.2 b z).trans e, q⟩
  · obtain ⟨oy, e⟩ := x.xs y hy
    by_cases z : y = L
    · subst z; exact ⟨_, ho'⟩
    · exact ⟨oy, (hs.2 y z).trans e⟩

theorem St.store {h h' : Heap} {x : Str} {v : Value} {d : PyData} {ml : Str → Option Value} (S : St a c h ρ) (hn : h.Ns c.env.locals ml)
    (hv : ∀ x d, sc.names.lookup x = some .local → ρ.lookup x = some d → ∃ v, ml x = some v ∧ Rd (vw c.X h) v d) (hx : sc.names.lookup x = some .local) (r : Rd (vw c.X h) v d)
    (hn' : h'.Ns c.env.locals (fun y => if y = x then some v else ml y)) (hs : Heap.SameBut c.env.locals h h') : St a c h' ((x, d) :: ρ) := by
  obtain ⟨oL, es, ep, hL, hLd, _⟩ := id hn
  have sk : SeqKeep (vw c.X h) (vw c.X h') := seq_sameBut hs hL fun vs n q => by rw [hLd] at q; cases q
  obtain ⟨oL', es', ep', hL', hLd', _⟩ := id hn'
  refine ⟨ok_sameBut S.ok hs S.new hL hL' (fun vs z => by rw [hLd'] at z; cases z) (fun _ _ _ => ⟨_, _, hLd'⟩), S.new, ⟨_, hn', fun y dy hy hq => ?_⟩, fun y hy => ?_, fun e q => (S.hld e q).but (fun b o nb eb => (hs.2 b nb).trans eb) hL fun vs z => by rw [hLd] at z; cases z⟩
  · by_cases q : y = x
    · subst q
      rw [lookup_cons_eq] at hq
      cases hq
      exact ⟨v, by simp, r.of sk⟩
    · rw [lookup_cons_ne q] at hq
      obtain ⟨u, e1, e2⟩ := hv y dy hy hq
      exact ⟨u, by simp [q, e1], e2.of sk⟩
  · obtain ⟨ad, w, e1, e0, e2, e3⟩ := S.cel y hy
    have q : y ≠ x := fun z => by rw [z, hx] at hy; cases hy
    have adL : ad ≠ c.env.locals := fun z => by
      obtain ⟨oc, hoc, hoc'⟩ := e2
      rw [z, hL] at hoc; cases hoc; rw [hLd] at hoc'; cases hoc'
    refine ⟨ad, w, e1, e0, e2.sameBut hs adL, fun dy hq => ?_⟩
    rw [lookup_cons_ne q] at hq
    obtain ⟨u, z1, z2⟩ := e3 dy hq
    exact ⟨u, z1, z2.of sk⟩

/-- all but the frame's own dict kept -/
structure KpL {sc : Scope} (c : Cx sc) (s s' : Shared) : Prop where
  heap : ∀ b o, s.heap.get? b = some o → b ≠ c.env.locals → (b ∉ c.fs → s'.heap.get? b = some o) ∧ (b ∈ c.fs → (∀ vs, o.data ≠ .fields vs) → ∃ sl, s'.heap.get? b = some { o with slots := sl })
  gens : s'.gens = s.gens
  os : s'.os = s.os
theorem KpL.x {s s' : Shared} (k : KpL c s s') : KpX c s s' := ⟨fun b o e n _ => k.heap b o e n, k.gens, k.os⟩
theorem KpL.trans {s₁ s₂ s₃ : Shared} (x : KpL c s₁ s₂) (y : KpL c s₂ s₃) : KpL c s₁ s₃ :=
  ⟨fun b o e n1 => by
    refine ⟨fun n => (y.heap b o ((x.heap b o e n1).1 n) n1).1 n, fun m nf => ?_⟩
    obtain ⟨sl, q⟩ := (x.heap b o e n1).2 m nf
    obtain ⟨sl', q'⟩ := (y.heap b _ q n1).2 m nf
    exact ⟨sl', q'⟩, y.gens.trans x.gens, y.os.trans x.os⟩
theorem Kp.l {s s' : Shared} (x : Kp c.fs s s') : KpL c s s' := ⟨fun b o e _ => x.heap b o e, x.gens, x.os⟩
theorem KpL.same {s : Shared} {h' : Heap} {tk : Tok} (hs : Heap.SameBut c.env.locals s.heap h') : KpL c s { s with heap := h', toks := tk } :=
  ⟨fun b o e n => by rw [show (({ s with heap := h', toks := tk } : Shared).heap.get? b) = h'.get? b from rfl, hs.2 b n]; exact ⟨fun _ => e, fun _ _ => ⟨o.slots, e⟩⟩, rfl, rfl⟩

/-- storing a local -/
theorem store_localL {x : Str} {v : Value} {d : PyData} {s : Shared} {E : Value → Shared → Prop} {Q : Unit → Shared → Prop} (hx : sc.names.lookup x = some .local) (S : St a c s.heap ρ) (r : Rd (vw c.X s.heap) v d)
    (k : ∀ s', KpL c s s' → St a c s'.heap ((x, d) :: ρ) → Q () s') : wpAny a.M c.A (storeName c.env x v) Q E s := by
  obtain ⟨ml, hn, hv⟩ := S.loc
  refine wpAny_storeName_local (by rw [c.kindOf]; exact hx) hn (fun h' hn' hs => k _ (KpL.same hs) (S.store hn hv hx r hn' hs)) ?_
  rw [c.kind]; rfl
theorem store_local {x : Str} {v : Value} {d : PyData} {s : Shared} {E : Value → Shared → Prop} {Q : Unit → Shared → Prop} (hx : sc.names.lookup x = some .local) (S : St a c s.heap ρ) (r : Rd (vw c.X s.heap) v d)
    (k : ∀ s', KpX c s s' → St a c s'.heap ((x, d) :: ρ) → Q () s') : wpAny a.M c.A (storeName c.env x v) Q E s :=
  store_localL hx S r fun s' q S' => k s' q.x S'

theorem lookup_mem {β : Type} {x : Str} {y : β} : ∀ {l : List (Str × β)}, l.lookup x = some y → y ∈ l.map (·.2)
  | [], h => by simp at h
  | (z, w) :: r, h => by
    rw [List.lookup_cons] at h
    cases q : x == z with
    | true => rw [q] at h; cases h; simp
    | false => rw [q] at h; exact List.mem_cons_of_mem _ (lookup_mem h)

/-- storing a cell -/
theorem store_cell {x : Str} {v : Value} {d : PyData} {s : Shared} {E : Value → Shared → Prop} {Q : Unit → Shared → Prop} (hx : sc.names.lookup x = some .cell) (S : St a c s.heap ρ) (r : Rd (vw c.X s.heap) v d)
    (k : ∀ s', KpX c s s' → St a c s'.heap ((x, d) :: ρ) → Q () s') : wpAny a.M c.A (storeName c.env x v) Q E s := by
  obtain ⟨ad, w, e1, e0, e2, e3⟩ := S.cel x hx
  obtain ⟨oc, hoc, hoc'⟩ := id e2
  refine wpAny_storeName_cell c.kind (by rw [c.kindOf]; exact hx) e1 e2 fun h' hc' hs => ?_
  obtain ⟨oc2, hoc2, hoc2'⟩ := id hc'
  have sk : SeqKeep (vw c.X s.heap) (vw c.X h') := seq_sameBut hs hoc fun vs n q => by rw [hoc'] at q; cases q
  refine k _ ⟨fun b o e _ nm => ?_, rfl, rfl⟩ ⟨ok_sameBut S.ok hs e0 hoc hoc2 (fun vs z => by rw [hoc2'] at z; cases z) (fun es n q => by rw [hoc'] at q; cases q), S.new, ?_, fun y hy => ?_, fun e q => (S.hld e q).but (fun b o nb eb => (hs.2 b nb).trans eb) hoc fun vs z => by rw [hoc'] at z; cases z⟩
  · have q : b ≠ ad := fun z => nm x hx (by rw [z]; exact e1)
    rw [show (({ s with heap := h' } : Shared).heap.get? b) = h'.get? b from rfl, hs.2 b q]; exact ⟨fun _ => e, fun _ _ => ⟨o.slots, e⟩⟩
  · obtain ⟨ml, hn, hv⟩ := S.loc
    obtain ⟨oL, es, ep, hL, hLd, hrest⟩ := id hn
    have q : c.env.locals ≠ ad := fun z => by rw [z, hoc] at hL; cases hL; rw [hLd] at hoc'; cases hoc'
    refine ⟨ml, hn.sameBut hs q, fun y dy hy hq => ?_⟩
    have yx : y ≠ x := fun z => by rw [z, hx] at hy; cases hy
    rw [lookup_cons_ne yx] at hq
    obtain ⟨u, z1, z2⟩ := hv y dy hy hq
    exact ⟨u, z1, z2.of sk⟩
  · by_cases q : y = x
    · subst q
      refine ⟨ad, _, e1, e0, hc', fun dy hq => ?_⟩
      rw [lookup_cons_eq] at hq
      cases hq
      exact ⟨v, rfl, r.of sk⟩
    · obtain ⟨ad', w', z1, z0, z2, z3⟩ := S.cel y hy
      have ne : ad' ≠ ad := fun z => q (c.hinj x y ad e1 (by rw [z1, z]))
      refine ⟨ad', w', z1, z0, z2.sameBut hs ne, fun dy hq => ?_⟩
      rw [lookup_cons_ne q] at hq
      obtain ⟨u, k1, k2⟩ := z3 dy hq
      exact ⟨u, k1, k2.of sk⟩

/-! statements -/
theorem Exc.then {st : Stmt} {r : Res} {s : Shared} {E : Value → Shared → Prop} {Q : Flow → Shared → Prop} (h : Exc a c ρ st r) (S : St a c s.heap ρ) (T : 0 < s.toks)
    (k : ∀ fl s', KpX c s s' → RPost a c r fl s' → 0 < s'.toks → Q fl s') : wpAny a.M c.A (exec st c.env) Q E s :=
  wpAny_mono (wpAny_toks_of (n := 1) T (h s E S T)) (fun fl s' ⟨t, q, r⟩ => k fl s' q r t) fun _ _ x => x.2
theorem Exs.then {st : List Stmt} {r : Res} {s : Shared} {E : Value → Shared → Prop} {Q : Flow → Shared → Prop} (h : Exs a c ρ st r) (S : St a c s.heap ρ) (T : 0 < s.toks)
    (k : ∀ fl s', KpX c s s' → RPost a c r fl s' → 0 < s'.toks → Q fl s') : wpAny a.M c.A (execs st c.env) Q E s :=
  wpAny_mono (wpAny_toks_of (n := 1) T (h s E S T)) (fun fl s' ⟨t, q, r⟩ => k fl s' q r t) fun _ _ x => x.2
theorem Exs.cons {st : Stmt} {rest : List Stmt} {ρ' : Vars} {r : Res} (h1 : Exc a c ρ st (.next ρ')) (h2 : Exs a c ρ' rest r) : Exs a c ρ (st :: rest) r := fun s E S T =>
  wpAny_execs_cons (h1.then S T fun fl s1 q1 ⟨e1, S1⟩ T1 => by subst e1; exact h2.then S1 T1 fun fl s2 q2 r2 _ => ⟨q1.trans q2, r2⟩)
theorem Exs.nil : Exs a c ρ [] (.next ρ) := fun s E S T => wpAny_execs_nil ⟨.refl s, rfl, S⟩
theorem Exs.ret {st : Stmt} {rest : List Stmt} {d : PyData} (h : Exc a c ρ st (.ret d)) : Exs a c ρ (st :: rest) (.ret d) := fun s E S T =>
  wpAny_execs_cons (h.then S T fun fl s1 q1 ⟨v, e, r⟩ _ => by subst e; exact ⟨q1, v, rfl, r⟩)
theorem Exs.brk {st : Stmt} {rest : List Stmt} {ρ' : Vars} (h : Exc a c ρ st (.brk ρ')) : Exs a c ρ (st :: rest) (.brk ρ') := fun s E S T =>
  wpAny_execs_cons (h.then S T fun fl s1 q1 ⟨e, r⟩ _ => by subst e; exact ⟨q1, rfl, r⟩)
theorem Exc.return {e : Expr} {pos : Pos} {d : PyData} (h : Ev a c ρ e d) : Exc a c ρ (.Return (some e) pos) (.ret d) := fun s E S T =>
  wpAny_Return_some (h.then S T fun v s1 q1 r1 _ _ => ⟨q1.x, v, rfl, r1⟩)
theorem Exc.break {pos : Pos} : Exc a c ρ (.Break pos) (.brk ρ) := fun s E S T => by
  rw [arm_exec_Break]; exact wpAny_bind (wpAny_standAt (wpAny_pure ⟨.refl s, rfl, S⟩))
theorem Exc.ifT {t : Expr} {b o : List Stmt} {pos : Pos} {r : Res} (ht : Ts a c ρ t true) (hb : Exs a c ρ b r) : Exc a c ρ (.If t b o pos) r := fun s E S T =>
  wpAny_If (ht.then S T fun s1 q1 S1 T1 => by
    rw [if_pos rfl]; exact hb.then S1 T1 fun fl s2 q2 r2 _ => ⟨q1.x.trans q2, r2⟩)
theorem Exc.ifF {t : Expr} {b o : List Stmt} {pos : Pos} {r : Res} (ht : Ts a c ρ t false) (hb : Exs a c ρ o r) : Exc a c ρ (.If t b o pos) r := fun s E S T =>
  wpAny_If (ht.then S T fun s1 q1 S1 T1 => by
    rw [if_neg Bool.false_ne_true]; exact hb.then S1 T1 fun fl s2 q2 r2 _ => ⟨q1.x.trans q2, r2⟩)
theorem Exc.assignL {x : Str} {p pos : Pos} {e : Expr} {d : PyData} (h : Ev a c ρ e d) (hx : sc.names.lookup x = some .local) (hs : swapsWith e (some (.Name x p)) pos.line c.env = pure false) :
    Exc a c ρ (.Assign [.Name x p] e pos) (.next ((x, d) :: ρ)) := fun s E S T =>
  wpAny_Assign_Name (h.then S T fun v s1 q1 r1 S1 _ => store_local hx S1 r1 fun s2 q2 S2 => ⟨q1.x.trans q2, rfl, S2⟩) hs
theorem Exc.assignC {x : Str} {p pos : Pos} {e : Expr} {d : PyData} (h : Ev a c ρ e d) (hx : sc.names.lookup x = some .cell)
    (hs : swapsWith e (some (.Name x p)) pos.line c.env = pure false) :
    Exc a c ρ (.Assign [.Name x p] e pos) (.next ((x, d) :: ρ)) := fun s E S T =>
  wpAny_Assign_Name (h.then S T fun v s1 q1 r1 S1 _ => store_cell hx S1 r1 fun s2 q2 S2 => ⟨q1.x.trans q2, rfl, S2⟩) hs
end
end Mine

end
section
open PySem PySem.W PyProof.Rows PySem.Calls PySem.Spec
set_option Elab.async false
set_option linter.unusedVariables false
namespace Mine

abbrev plainArgs (es : List Expr) (env : Env) : List (Bool × Sem Value) := es.map fun e => (false, eval e env)
theorem backTo_plain (pos : Pos) (es : List Expr) (env : Env) : backTo pos (plainArgs es env) = plainArgs es env := by
  unfold backTo plainArgs
  rw [List.map_map]
  rfl
theorem any_plain (es : List Expr) (env : Env) : (plainArgs es env).any (·.1) = false := by
  unfold plainArgs; induction es with
  | nil => rfl
  | cons e r ih => simp only [List.map_cons, List.any_cons, Bool.false_or]; exact ih
theorem all_plain (es : List Expr) (env : Env) : (plainArgs es env).all (fun x => !x.1) = true := by
  unfold plainArgs; induction es with
  | nil => rfl
  | cons e r ih => simp only [List.map_cons, List.all_cons, Bool.not_false, Bool.true_and]; exact ih

section
variable {a : Amb} {sc : Scope} {c : Cx sc} {ρ : Vars}

/-- arguments in order -/
def EvL (a : Amb) {sc : Scope} (c : Cx sc) (ρ : Vars) (es : List Expr) (ds : List PyData) : Prop :=
  ∀ (s : Shared) (E : Value → Shared → Prop), St a c s.heap ρ → 0 < s.toks → wpAny a.M c.A (spliced (plainArgs es c.env)) (fun vs s' => Kp c.fs s s' ∧ RdL (vw c.X s'.heap) vs ds) E s
theorem EvL.nil : EvL a c ρ [] [] := fun s E S T => spliced_nil ⟨.refl s, .nil⟩
theorem EvL.cons {e : Expr} {es : List Expr} {d : PyData} {ds : List PyData} (h : Ev a c ρ e d) (hs : EvL a c ρ es ds) : EvL a c ρ (e :: es) (d :: ds) := fun s E S T =>
  spliced_cons (h.then S T fun v s1 q1 r1 S1 T1 => wpAny_mono (hs s1 E S1 T1) (fun vs s2 ⟨q2, r2⟩ => ⟨q1.trans q2, .cons (r1.of q2.heap.seqv) r2⟩) fun _ _ x => x)
theorem EvL.one {e : Expr} {d : PyData} (h : Ev a c ρ e d) : EvL a c ρ [e] [d] := .cons h .nil
theorem EvL.two {e e' : Expr} {d d' : PyData} (h : Ev a c ρ e d) (h' : Ev a c ρ e' d') : EvL a c ρ [e, e'] [d, d'] := .cons h (.one h')
theorem EvL.then {es : List Expr} {ds : List PyData} {s : Shared} {E : Value → Shared → Prop} {Q : List Value → Shared → Prop} (h : EvL a c ρ es ds) (S : St a c s.heap ρ) (T : 0 < s.toks)
    (k : ∀ vs s', Kp c.fs s s' → RdL (vw c.X s'.heap) vs ds → St a c s'.heap ρ → 0 < s'.toks → Q vs s') : wpAny a.M c.A (spliced (plainArgs es c.env)) Q E s :=
  wpAny_mono (wpAny_toks_of (n := 1) T (h s E S T)) (fun v s' ⟨t, q, r⟩ => k v s' q r (S.keep q.heap) t) fun _ _ x => x.2
theorem evalArgs_any {M : Model} {A : Around} {E : Value → Shared → Prop} {s : Shared} {f : Value} {es : List Expr} {env : Env} {Q : Args → Shared → Prop}
    (h : wpAny M A (spliced (plainArgs es env)) (fun vs s' => Q ⟨vs, []⟩ s') E s) : wpAny M A (evalArgs f true (plainArgs es env) []) Q E s := by
  cases es with
  | nil =>
    unfold evalArgs
    show wpAny M A (spliced [] >>= _) Q E s
    refine wpAny_bind (wpAny_mono h (fun vs s' h' => ?_) fun _ _ x => x)
    refine wpAny_holding ?_
    exact wpAny_bind (wpAny_pure (wpAny_bind (wpAny_pure (wpAny_pure h'))))
  | cons e r => exact evalArgs_plain h
theorem EvL.args {es : List Expr} {ds : List PyData} {f : Value} {s : Shared} {E : Value → Shared → Prop} {Q : Args → Shared → Prop} (h : EvL a c ρ es ds) (S : St a c s.heap ρ) (T : 0 < s.toks)
    (k : ∀ vs s', Kp c.fs s s' → RdL (vw c.X s'.heap) vs ds → St a c s'.heap ρ → 0 < s'.toks → Q ⟨vs, []⟩ s') : wpAny a.M c.A (evalArgs f true (plainArgs es c.env) []) Q E s :=
  evalArgs_any (h.then S T k)

/-! calls -/
theorem call_name {x : Str} {p pos : Pos} {es : List Expr} {f : Value} {s : Shared} {E : Value → Shared → Prop} {Q : Value → Shared → Prop} (hf : Is a c ρ (.Name x p) f) (hst : starEach es c.env = plainArgs es c.env) (S : St a c s.heap ρ)
    (h : wpAny a.M c.A (callWith pos f [] (plainArgs es c.env) []) Q E s) : wpAny a.M c.A (eval (.Call (.Name x p) es [] pos) c.env) Q E s := by
  refine PyProof.Rows.Call_ (hf s E _ S ?_)
  rw [hst, backTo_plain]
  exact h

/-- a def of the text -/
def fdName : Stmt → Str
  | .FunctionDef n _ _ _ _ _ _ _ _ _ => n
  | _ => Str.empty
def fdPs : Stmt → Arguments
  | .FunctionDef _ p _ _ _ _ _ _ _ _ => p
  | _ => default
def fdBody : Stmt → List Stmt
  | .FunctionDef _ _ b _ _ _ _ _ _ _ => b
  | _ => []
def fdScope : Stmt → Scope
  | .FunctionDef _ _ _ _ _ _ sc _ _ _ => sc
  | _ => default
def sAt (i : Nat) : Stmt := (PySem.Challenge.rw_pd0098_01.row.prog.main.body[i]?).getD (.Pass ⟨0, 0, 0, 0⟩)

structure IsFn (a : Amb) (x : Str) (f : Addr) (st : Stmt) : Prop where
  glob : nsIn a.K mainGlobals x = some (some (.ref f))
  obj : ∃ o pm cd doc an ct, a.K.lookup f = some o ∧ o.data = .func (fnOf (fdName st) (fdName st) (fdPs st) (fdBody st) (fdScope st) .none .none doc pm an cd ct) ∧ codeIn a.K cd (fdName st) = true

/-- a def is called by its name -/
theorem Ev.fn {P : Option Addr → Prop} {x : Str} {p pos : Pos} {es : List Expr} {f : Addr} {st : Stmt} {n : Nat} {ds : List PyData} {d : PyData} (hI : IsFn a x f st) (hF : FnG P a n (.ref f) ds d) (hp : P c.hq) (hs : EvL a c ρ es ds) (hn : n ≤ c.n)
    (hx : sc.names.lookup x = some .globalImplicit) (hd : (x == ("__debug__" : Str)) = false) (hst : starEach es c.env = plainArgs es c.env) : Ev a c ρ (.Call (.Name x p) es [] pos) d := fun s E S T => by
  refine call_name (Is.globK hI.glob hx hd) hst S ?_
  obtain ⟨o, pm, cd, doc, an, ct, e2, e3, e4⟩ := hI.obj
  refine callWith_function (o := o) (fd := fnOf (fdName st) (fdName st) (fdPs st) (fdBody st) (fdScope st) .none .none doc pm an cd ct) (hs.args S T fun vs s1 q1 r1 S1 T1 => ⟨⟨S1.kIn _ _ e2, e3⟩, wpAny_call ?_⟩)
  refine codeAny_mono (hF c.A c.frs c.X c.hq s1 vs hp c.hfr c.hh S1.hld (by have := c.hd; omega) (by have := c.hu; omega) S1.ok r1 T1) fun r s2 z => ?_
  obtain ⟨v, rfl, q2, r2⟩ := z
  exact ⟨q1.trans q2, r2⟩

/-- a built-in over data -/
def Bi (a : Amb) {sc : Scope} (c : Cx sc) (f : Value) (ds : List PyData) (d : PyData) : Prop :=
  ∀ (s : Shared) (E : Value → Shared → Prop) (vs : List Value), Ok a c.frs c.X s.heap → 0 < s.toks → RdL (vw c.X s.heap) vs ds → wpAny a.M c.A (call f vs) (fun v s' => Kp c.fs s s' ∧ Rd (vw c.X s'.heap) v d) E s
theorem Ev.bi {x : Str} {p pos : Pos} {es : List Expr} {id : String} {ds : List PyData} {d : PyData} (hf : Is a c ρ (.Name x p) (.builtin id)) (hB : Bi a c (.builtin id) ds d) (hs : EvL a c ρ es ds)
    (hst : starEach es c.env = plainArgs es c.env) : Ev a c ρ (.Call (.Name x p) es [] pos) d := fun s E S T => by
  refine call_name hf hst S (callWith_builtin (any_plain _ _) (hs.args S T fun vs s1 q1 r1 S1 T1 => ?_))
  exact wpAny_mono (hB s1 E vs S1.ok T1 r1) (fun v s2 ⟨q2, r2⟩ => ⟨q1.trans q2, r2⟩) fun _ _ x => x
theorem Ev.ty {x : Str} {p pos : Pos} {es : List Expr} {T' : String} {ds : List PyData} {d : PyData} (hf : Is a c ρ (.Name x p) (.type T')) (hB : Bi a c (.type T') ds d) (hs : EvL a c ρ es ds)
    (hst : starEach es c.env = plainArgs es c.env) : Ev a c ρ (.Call (.Name x p) es [] pos) d := fun s E S T => by
  refine call_name hf hst S (PyProof.Rows.callWith_type (any_plain _ _) (hs.args S T fun vs s1 q1 r1 S1 T1 => ?_))
  exact wpAny_mono (hB s1 E vs S1.ok T1 r1) (fun v s2 ⟨q2, r2⟩ => ⟨q1.trans q2, r2⟩) fun _ _ x => x

/-- a method of a text -/
theorem Ev.meth {o : Expr} {name : Str} {apos pos : Pos} {es : List Expr} {id : String} {x : Str} {ds : List PyData} {d : PyData} (ho : Ev a c ρ o (.str x)) (slot : Slot "str" name id)
    (ty : typeOf (.builtin id) = pure (.type "method_descriptor")) (hs : EvL a c ρ es ds) (hB : Bi a c (.builtin id) (.str x :: ds) d)
    (hbase : attributeBase o name c.env (eval o c.env) = eval o c.env) (hline : (apos.endLine == pos.line) = true) (hlen : es.length < 30)
    (hst : starEach es c.env = plainArgs es c.env) : Ev a c ρ (.Call (.Attribute o name apos) es [] pos) d := fun s E S T => by
  refine wpAny_Call_method_lateS hbase ?_ hline (ho.then S T fun v s1 q1 r1 S1 T1 => ?_)
  · rw [hst, backTo_plain, all_plain]; simp [backToKw, keywordEach]; omega
  obtain ⟨t, rfl⟩ := r1.str_inv
  refine ⟨"str", id, PySem.F.plainAttrs_str, slot, ty, typeIs_str _ _ _, (fun _ e => nomatch e), ?_⟩
  rw [hst, backTo_plain]
  refine callWith_builtin (any_plain _ _) (hs.args S1 T1 fun vs s2 q2 r2 S2 T2 => ?_)
  exact wpAny_mono (hB s2 E (.str x t :: vs) S2.ok T2 (.cons (.str _ _) r2)) (fun v s3 ⟨q3, r3⟩ => ⟨(q1.trans q2).trans q3, r3⟩) fun _ _ x => x
end
end Mine

end
section
open PySem PySem.W PyProof.Rows PySem.Calls PySem.Spec
set_option Elab.async false
set_option linter.unusedVariables false
namespace Mine

theorem bindL_eq {kindOf : Str → Option NameKind} {x : Str} (hx : kindOf x = some .local) : ∀ (binds : List (Str × Value)) (m : Str → Option Value), bindL kindOf binds m x = (binds.reverse.lookup x).or (m x)
  | [], m => by simp [bindL]
  | (n, v) :: r, m => by
    rw [bindL, bindL_eq hx r, List.reverse_cons, List.lookup_append, Option.or_assoc]
    congr 1
    by_cases q : x = n
    · subst q; simp [hx, List.lookup_cons]
    · have q' : (x == n) = false := by simpa using q
      split <;> simp [List.lookup_cons, q, q']
theorem bindC_eq {kindOf : Str → Option NameKind} {x : Str} (hx : kindOf x ≠ some .local) : ∀ (binds : List (Str × Value)) (m : Str → Option Value), bindC kindOf binds m x = (binds.reverse.lookup x).or (m x)
  | [], m => by simp [bindC]
  | (n, v) :: r, m => by
    rw [bindC, bindC_eq hx r, List.reverse_cons, List.lookup_append, Option.or_assoc]
    congr 1
    by_cases q : x = n
    · subst q; simp [hx, List.lookup_cons]
    · have q' : (x == n) = false := by simpa using q
      split <;> simp [List.lookup_cons, q, q']

theorem zip_lookup {h : Heap} {x : Str} {d : PyData} : ∀ (names : List Str) (vs : List Value) (ds : List PyData), RdL h vs ds → (names.zip ds).reverse.lookup x = some d → ∃ v, (names.zip vs).reverse.lookup x = some v ∧ Rd h v d
  | [], _, _, _, e => by simp at e
  | n :: ns, [], ds, r, e => by rw [r.nil_inv'] at e; simp at e
  | n :: ns, v :: vs, ds, r, e => by
    obtain ⟨d', ds', rfl, r1, r2⟩ := r.cons_inv'
    rw [List.zip_cons_cons, List.reverse_cons, List.lookup_append] at e
    rw [List.zip_cons_cons, List.reverse_cons, List.lookup_append]
    cases q : List.lookup x (ns.zip ds').reverse with
    | some d'' =>
      rw [q] at e
      simp only [Option.some_or, Option.some.injEq] at e
      subst e
      obtain ⟨u, e1, e2⟩ := zip_lookup ns vs ds' r2 q
      exact ⟨u, by rw [e1]; rfl, e2⟩
    | none =>
      rw [q] at e
      simp only [Option.none_or] at e
      have z : List.lookup x (ns.zip vs).reverse = none := by
        cases y : List.lookup x (ns.zip vs).reverse with
        | none => rfl
        | some u =>
          exfalso
          have key : ∀ (ns : List Str) (vs : List Value) (ds : List PyData), vs.length = ds.length → List.lookup x (ns.zip ds).reverse = none → List.lookup x (ns.zip vs).reverse = none := by
            intro ns
            induction ns with
            | nil => intro vs ds _ _; simp
            | cons n ns ih =>
              intro vs ds hl hn
              cases vs with
              | nil => simp
              | cons v vs =>
                cases ds with
                | nil => simp at hl
                | cons d ds =>
                  rw [List.zip_cons_cons, List.reverse_cons, List.lookup_append] at hn ⊢
                  simp only [List.length_cons, Nat.add_right_cancel_iff] at hl
                  obtain ⟨h1, h2⟩ := Option.or_eq_none_iff.mp hn
                  rw [ih vs ds hl h1]
                  simp only [List.lookup_cons, List.lookup_nil] at h2 ⊢
                  cases hx : x == n <;> simp [hx] at h2 ⊢
          rw [key ns vs ds' r2.length q] at y
          cases y
      rw [z]
      simp only [Option.none_or, List.lookup_cons, List.lookup_nil] at e ⊢
      cases hx : x == n with
      | true => rw [hx] at e; cases e; exact ⟨v, rfl, r1⟩
      | false => rw [hx] at e; cases e

theorem pair_inj {cs : List (Str × Addr)} (h : cs.Pairwise fun x y => x.2 ≠ y.2) : ∀ x y ad, cs.lookup x = some ad → cs.lookup y = some ad → y = x := by
  intro x y ad e1 e2
  have m1 := mem_of_lookup e1
  have m2 := mem_of_lookup e2
  induction cs with
  | nil => simp at m1
  | cons p r ih =>
    obtain ⟨hp, hr⟩ := List.pairwise_cons.mp h
    rcases List.mem_cons.mp m1 with rfl | m1'
    · rcases List.mem_cons.mp m2 with q | m2'
      · exact (Prod.mk.inj q).1
      · exact (hp (y, ad) m2' rfl).elim
    · rcases List.mem_cons.mp m2 with q | m2'
      · rw [← q] at hp; exact (hp (x, ad) m1' rfl).elim
      · by_cases hx : x = p.1
        · rw [List.lookup_cons, hx, beq_self_eq_true] at e1
          cases e1
          exact (hp (x, p.2) m1' rfl).elim
        · by_cases hy : y = p.1
          · rw [List.lookup_cons, hy, beq_self_eq_true] at e2
            cases e2
            exact (hp (y, p.2) m2' rfl).elim
          · have hx' : (x == p.1) = false := by simpa using hx
            have hy' : (y == p.1) = false := by simpa using hy
            rw [List.lookup_cons, hx'] at e1
            rw [List.lookup_cons, hy'] at e2
            exact ih hr e1 e2 m1' m2'

section
variable {a : Amb}

/-- a def by its body -/
theorem FnG.bodyE {P : Option Addr → Prop} {n : Nat} {f : Addr} {o : Obj} {nm : Str} {ps : Arguments} {body : List Stmt} {scp : Scope} {doc pm cd ct : Value} {an : Option Addr} {ds ds' : List PyData} {d : PyData} (names : List Str)
    (ho : a.K.lookup f = some o) (hd : o.data = .func (fnOf nm nm ps body scp .none .none doc pm an cd ct)) (hc : codeIn a.K cd nm = true)
    (hb : ∀ (A : Around) (frs : List Env) (X : List Addr) (s : Shared) (E : Value → Shared → Prop) (vs : List Value), Ok a frs X s.heap → RdL (vw X s.heap) vs ds →
      wpAny a.M A (bindArgs (fnOf nm nm ps body scp .none .none doc pm an cd ct) ⟨vs, []⟩) (fun binds s' => ∃ vs', binds = names.zip vs' ∧ s.heap.StaysIn s'.heap ∧ s'.gens = s.gens ∧ s'.os = s.os ∧ RdL (vw X s'.heap) vs' ds') E s)
    (hkinds : (names.all fun x => scp.names.lookup x == some .local || scp.names.lookup x == some .cell) = true)
    (hco : scp.isCoroutine = false) (hgen : scp.isGenerator = false) (hk : scp.kind = .function)
    (h : ∀ c : Cx scp, c.n = n → P c.hq → c.env = c.fe → Exs a c (names.zip ds').reverse body (.ret d)) : FnG P a (n + 1) (.ref f) ds d := by
  intro A frs X q s vs hp hfr hh hld hdp hun hok hvs htk
  have hst := hok.base
  have hff := hok.fr
  refine codeAny_call_function (by unfold recursionLimit; omega) (hst f o (a.hK _ _ ho)) hd hco hgen rfl (codeRec_of (a.hK.keeps hst) hc) ?_
  refine wpAny_mono (wpAny_toks_of (n := 1) htk (hb A.in1 frs X s _ vs hok hvs)) (fun binds s1 ⟨htk1, vs1, e1, k1, g1, o1, hvs1⟩ => ?_) fun _ _ x => x.2
  subst e1
  have hok1 : Ok a frs X s1.heap := hok.keep (.ofStays k1)
  have hst1 := hok1.base
  have hff1 := hok1.fr
  have hld1 : ∀ e, q = some e → HeldAt e s1.heap := fun e z => let ⟨o, ws, e1, e2⟩ := hld e z; ⟨o, ws, k1 e o e1, e2⟩
  have kin : ∀ (k : Nat), ∀ x ∈ names.zip vs1, scp.names.lookup x.1 = some .local ∨ (scp.names.lookup x.1 = some .cell ∧ ((cellsFrom k scp.names []).lookup x.1).isSome = true) := fun k x hx => by
    have := List.all_eq_true.mp hkinds x.1 (List.of_mem_zip hx).1
    rcases Bool.or_eq_true_iff.mp this with q | q
    · exact .inl (by simpa using q)
    · have q' : scp.names.lookup x.1 = some .cell := by simpa using q
      exact .inr ⟨q', cellsFrom_some _ _ _ (.inl q')⟩
  refine wpAny_mono (wpAny_toks_of (n := 1) htk1 (wpAny_newFunctionEnv_cells (Q := fun env s' => env = newEnv scp s1.heap.objs.size mainGlobals (cellsFrom (s1.heap.objs.size + 1) scp.names []) (nm ++ ".<locals>.") (some f) cd none builtinsNs ∧
    InCallC s1 env.locals (bindL env.kindOf (names.zip vs1) fun _ => none) env.cells (bindC env.kindOf (names.zip vs1) fun _ => none) s') hk (kin _) fun env he s' x => ⟨he, x⟩)) (fun env s' ⟨T, he, x⟩ => ?_) fun _ _ x => x.2
  subst he
  obtain ⟨h', tk, hs', hkeep⟩ := x.done
  have hlim : s'.heap.NoLimit := (a.hT.nolimit.keeps hst1).keeps x.toInCall.keep
  refine ⟨hlim, codeAny_func ?_⟩
  have hnewL : a.H.get? s1.heap.objs.size = none := hst1.fresh
  have hfrm : FrOk a.H s'.heap (newEnv scp s1.heap.objs.size mainGlobals (cellsFrom (s1.heap.objs.size + 1) scp.names []) (nm ++ ".<locals>.") (some f) cd none builtinsNs :: frs) := by
    obtain ⟨oL, es, ep, hL, hLd, _⟩ := x.toInCall.ns
    have hff' := hff1.keep (Keep.ofStays (fs := []) x.toInCall.keep)
    refine ⟨⟨by show scp.kind ≠ .module; rw [hk]; decide, ⟨_, oL, rfl, hnewL, hL, fun vs q => by rw [hLd] at q; cases q⟩, hff'.ff⟩, fun b hb => ?_⟩
    rcases List.mem_cons.mp hb with q | q
    · rw [q]; exact ⟨oL, es, ep, hL, hLd⟩
    · exact hff'.dd b q
  let c : Cx scp := {
    A := A.deeper (newEnv scp s1.heap.objs.size mainGlobals (cellsFrom (s1.heap.objs.size + 1) scp.names []) (nm ++ ".<locals>.") (some f) cd none builtinsNs)
    env := newEnv scp s1.heap.objs.size mainGlobals (cellsFrom (s1.heap.objs.size + 1) scp.names []) (nm ++ ".<locals>.") (some f) cd none builtinsNs
    fe := newEnv scp s1.heap.objs.size mainGlobals (cellsFrom (s1.heap.objs.size + 1) scp.names []) (nm ++ ".<locals>.") (some f) cd none builtinsNs
    fo := frs
    n := n
    X := X
    hfr := Around.frames_deeper hfr
    hgen := hgen
    hco := hco
    hfb := rfl
    hfg := rfl
    hff := rfl
    hq := q
    hh := hh
    hd := by rw [depth_deeper]; omega
    hu := by rw [units_deeper]; omega
    hsc := rfl
    hk := hk
    hinj := pair_inj x.apart
    hg := rfl
    hb := rfl }
  have S : St a c s'.heap (names.zip ds').reverse := by
    refine ⟨⟨fun b o e => x.toInCall.keep b o (hst1 b o e), hfrm, fun y hy => let ⟨o, e⟩ := hok1.xs y hy; ⟨o, x.toInCall.keep y o e⟩⟩, hnewL, ⟨_, x.toInCall.ns, fun y dy hy hq => ?_⟩, fun y hy => ?_, fun e z => let ⟨o, vs, e1, e2⟩ := hld1 e z; ⟨o, vs, x.toInCall.keep e o e1, e2⟩⟩
    · obtain ⟨v, e1, e2⟩ := zip_lookup names vs1 ds' hvs1 hq
      refine ⟨v, ?_, e2.of (Keep.ofStays (fs := []) x.toInCall.keep).seqv⟩
      rw [bindL_eq (by exact hy), e1]; rfl
    · have hsome := cellsFrom_some (x := y) scp.names (s1.heap.objs.size + 1) [] (.inl hy)
      obtain ⟨ad, hadl⟩ := Option.isSome_iff_exists.mp hsome
      refine ⟨ad, _, hadl, ?_, x.cell y ad hadl, fun dy hq => ?_⟩
      · have := x.above y ad (mem_of_lookup hadl)
        cases q : a.H.get? ad with
        | none => rfl
        | some o' => exact absurd (Heap.lt_size (hst1 ad o' q)) (Nat.lt_asymm this)
      · obtain ⟨v, e1, e2⟩ := zip_lookup names vs1 ds' hvs1 hq
        refine ⟨v, ?_, e2.of (Keep.ofStays (fs := []) x.toInCall.keep).seqv⟩
        rw [bindC_eq (by show List.lookup y scp.names ≠ _; rw [hy]; decide), e1]; rfl
  refine (h c rfl hp rfl).then (c := c) S T fun fl s2 q2 ⟨v, e, r⟩ _ => ?_
  subst e
  refine ⟨v, rfl, ⟨fun b o e0 => ?_, q2.gens.trans (by rw [hs']; exact g1), q2.os.trans (by rw [hs']; exact o1)⟩, r⟩
  have e := k1 b o e0
  have ne : b ≠ s1.heap.objs.size := Nat.ne_of_lt (Heap.lt_size e)
  have nc : ∀ y, scp.names.lookup y = some .cell → (cellsFrom (s1.heap.objs.size + 1) scp.names []).lookup y ≠ some b := fun y _ hm =>
    absurd (Heap.lt_size e) (Nat.lt_asymm (x.above y b (mem_of_lookup hm)))
  have := q2.heap b o (x.toInCall.keep b o e) ne nc
  refine ⟨fun nm => this.1 fun hm => ?_, fun m nf => this.2 (List.mem_cons_of_mem _ m) nf⟩
  rcases List.mem_cons.mp hm with q | q
  · exact ne q
  · exact nm q


theorem FnG.bodyW {P : Option Addr → Prop} {n : Nat} {f : Addr} {o : Obj} {nm : Str} {ps : Arguments} {body : List Stmt} {scp : Scope} {doc pm cd ct : Value} {an : Option Addr} {ds ds' : List PyData} {d : PyData} (names : List Str)
    (ho : a.K.lookup f = some o) (hd : o.data = .func (fnOf nm nm ps body scp .none .none doc pm an cd ct)) (hc : codeIn a.K cd nm = true)
    (hb : ∀ (A : Around) (frs : List Env) (X : List Addr) (s : Shared) (E : Value → Shared → Prop) (vs : List Value), Ok a frs X s.heap → RdL (vw X s.heap) vs ds →
      wpAny a.M A (bindArgs (fnOf nm nm ps body scp .none .none doc pm an cd ct) ⟨vs, []⟩) (fun binds s' => ∃ vs', binds = names.zip vs' ∧ s.heap.StaysIn s'.heap ∧ s'.gens = s.gens ∧ s'.os = s.os ∧ RdL (vw X s'.heap) vs' ds') E s)
    (hkinds : (names.all fun x => scp.names.lookup x == some .local || scp.names.lookup x == some .cell) = true)
    (hco : scp.isCoroutine = false) (hgen : scp.isGenerator = false) (hk : scp.kind = .function)
    (h : ∀ c : Cx scp, c.n = n → P c.hq → Exs a c (names.zip ds').reverse body (.ret d)) : FnG P a (n + 1) (.ref f) ds d := FnG.bodyE names ho hd hc hb hkinds hco hgen hk fun c h1 h2 _ => h c h1 h2

/-- a def by its body -/
theorem FnG.body {P : Option Addr → Prop} {n : Nat} {f : Addr} {o : Obj} {nm : Str} {ps : Arguments} {body : List Stmt} {scp : Scope} {doc pm cd ct : Value} {an : Option Addr} {ds : List PyData} {d : PyData} (names : List Str)
    (ho : a.K.lookup f = some o) (hd : o.data = .func (fnOf nm nm ps body scp .none .none doc pm an cd ct)) (hc : codeIn a.K cd nm = true)
    (hb : ∀ vs : List Value, vs.length = ds.length → bindArgs (fnOf nm nm ps body scp .none .none doc pm an cd ct) ⟨vs, []⟩ = pure (names.zip vs))
    (hkinds : (names.all fun x => scp.names.lookup x == some .local || scp.names.lookup x == some .cell) = true)
    (hco : scp.isCoroutine = false) (hgen : scp.isGenerator = false) (hk : scp.kind = .function)
    (h : ∀ c : Cx scp, c.n = n → P c.hq → Exs a c (names.zip ds).reverse body (.ret d)) : FnG P a (n + 1) (.ref f) ds d := by
  refine FnG.bodyW (ds' := ds) names ho hd hc (fun A frs X s E vs hok hvs => ?_) hkinds hco hgen hk h
  rw [hb vs hvs.length]
  exact wpAny_pure ⟨vs, rfl, fun _ _ e => e, rfl, rfl, hvs⟩

theorem IsFn.fnG {P : Option Addr → Prop} {x : Str} {f : Addr} {st : Stmt} {n : Nat} {ds : List PyData} {d : PyData} (hI : IsFn a x f st) (names : List Str)
    (hb : ∀ (doc pm : Value) (an : Option Addr) (cd ct : Value) (vs : List Value), vs.length = ds.length → bindArgs (fnOf (fdName st) (fdName st) (fdPs st) (fdBody st) (fdScope st) .none .none doc pm an cd ct) ⟨vs, []⟩ = pure (names.zip vs))
    (hkinds : (names.all fun x => (fdScope st).names.lookup x == some .local || (fdScope st).names.lookup x == some .cell) = true)
    (hco : (fdScope st).isCoroutine = false) (hgen : (fdScope st).isGenerator = false) (hk : (fdScope st).kind = .function)
    (h : ∀ c : Cx (fdScope st), c.n = n → P c.hq → Exs a c (names.zip ds).reverse (fdBody st) (.ret d)) : FnG P a (n + 1) (.ref f) ds d := by
  obtain ⟨o, pm, cd, doc, an, ct, e2, e3, e4⟩ := hI.obj
  exact FnG.body names e2 e3 e4 (hb doc pm an cd ct) hkinds hco hgen hk h
theorem IsFn.fn {x : Str} {f : Addr} {st : Stmt} {n : Nat} {ds : List PyData} {d : PyData} (hI : IsFn a x f st) (names : List Str)
    (hb : ∀ (doc pm : Value) (an : Option Addr) (cd ct : Value) (vs : List Value), vs.length = ds.length → bindArgs (fnOf (fdName st) (fdName st) (fdPs st) (fdBody st) (fdScope st) .none .none doc pm an cd ct) ⟨vs, []⟩ = pure (names.zip vs))
    (hkinds : (names.all fun x => (fdScope st).names.lookup x == some .local || (fdScope st).names.lookup x == some .cell) = true)
    (hco : (fdScope st).isCoroutine = false) (hgen : (fdScope st).isGenerator = false) (hk : (fdScope st).kind = .function)
    (h : ∀ c : Cx (fdScope st), c.n = n → c.hq = none → Exs a c (names.zip ds).reverse (fdBody st) (.ret d)) : Fn a (n + 1) (.ref f) ds d := hI.fnG names hb hkinds hco hgen hk h
end
end Mine

end
section
open PySem PySem.W PyProof.Rows PySem.Calls PySem.Spec
set_option Elab.async false
set_option linter.unusedVariables false
namespace Mine

section
variable {a : Amb} {sc : Scope} {c : Cx sc} {ρ : Vars}

theorem seqIndex_in {k : Int} {n : Nat} (h0 : 0 ≤ k) (h1 : k.toNat < n) : seqIndex? k n = some k.toNat := by
  unfold seqIndex?
  dsimp only
  have e : (if k < 0 then k + (n : Int) else k) = k := if_neg (by omega)
  rw [e]
  have h2 : (decide (0 ≤ k) && decide (k < (n : Int))) = true := by simp only [Bool.and_eq_true, decide_eq_true_eq]; omega
  simp only [h2, if_true]
theorem Kp.push {fs : List Addr} (s : Shared) (o : Obj) : Kp fs s { s with heap := s.heap.push o } := ⟨.push _ _, rfl, rfl⟩
theorem Kp.push2 {fs : List Addr} (s : Shared) (o o' : Obj) : Kp fs s { s with heap := (s.heap.push o).push o' } := ⟨(Keep.push _ _).trans (.push _ _), rfl, rfl⟩
theorem isList_push {h : Heap} {vs : List Value} {n : Nat} {dd : Option Addr} {sl : Array (Option Value)} : (h.push ⟨.type "list", dd, .seq vs.toArray n, sl⟩).IsList h.objs.size vs.toArray := ⟨_, Heap.get?_push_size _ rfl, rfl, n, rfl⟩
theorem isTuple_push {h : Heap} {vs : List Value} {n : Nat} {dd : Option Addr} {sl : Array (Option Value)} : (h.push ⟨.type "tuple", dd, .seq vs.toArray n, sl⟩).IsTuple h.objs.size vs.toArray := ⟨_, Heap.get?_push_size _ rfl, rfl, n, rfl⟩
theorem seq_push {X : List Addr} (h : Heap) (o : Obj) : SeqKeep (vw X h) (vw X (h.push o)) := (Keep.push (fs := []) h o).seqv

theorem seq_push2 {X : List Addr} (h : Heap) (o o' : Obj) : SeqKeep (vw X h) (vw X ((h.push o).push o')) := ((Keep.push (fs := []) h o).trans (Keep.push (fs := []) _ o')).seqv

theorem newList_d {frs : List Env} {X : List Addr} {vs : List Value} {ds : List PyData} {s : Shared} {A : Around} {E : Value → Shared → Prop} (ok : Ok a frs X s.heap) (r : RdL (vw X s.heap) vs ds) (hsz : ds.length ≤ sizeLine) {fs : List Addr} :
    wpAny a.M A (newList vs) (fun v s' => Kp fs s s' ∧ Rd (vw X s'.heap) v (.list ds)) E s :=
  wpAny_newObj_type ⟨.push _ _, .list isList_push ok.fresh (by simpa using r.of (seq_push _ _))⟩ (by show vs.toArray.size ≤ sizeLine; rw [List.size_toArray, r.length]; exact hsz)
theorem newTuple_d {frs : List Env} {X : List Addr} {vs : List Value} {ds : List PyData} {s : Shared} {A : Around} {E : Value → Shared → Prop} (ok : Ok a frs X s.heap) (r : RdL (vw X s.heap) vs ds) (hsz : ds.length ≤ sizeLine) {fs : List Addr} :
    wpAny a.M A (newTuple vs) (fun v s' => Kp fs s s' ∧ Rd (vw X s'.heap) v (.tuple ds)) E s :=
  wpAny_newObj_type ⟨.push _ _, .tuple isTuple_push ok.fresh (by simpa using r.of (seq_push _ _))⟩ (by show vs.toArray.size ≤ sizeLine; rw [List.size_toArray, r.length]; exact hsz)

theorem Ev.list {es : List Expr} {ds : List PyData} {pos : Pos} (h : EvL a c ρ es ds) (hst : starEach es c.env = plainArgs es c.env) (hsz : ds.length ≤ sizeLine) : Ev a c ρ (.List es pos) (.list ds) := fun s E S T => by
  refine List_ ?_
  rw [hst, backTo_plain]
  exact h.then S T fun vs s1 q1 r1 S1 T1 => wpAny_mono (newList_d S1.ok r1 hsz) (fun v s2 ⟨q2, r2⟩ => ⟨q1.trans q2, r2⟩) fun _ _ x => x
theorem Ev.tuple {es : List Expr} {ds : List PyData} {k : Nat} {pos : Pos} (h : EvL a c ρ es ds) (hst : starEach es c.env = plainArgs es c.env) (hsz : ds.length ≤ sizeLine) : Ev a c ρ (.Tuple es k pos) (.tuple ds) := fun s E S T => by
  refine Tuple_ ?_
  rw [hst, backTo_plain]
  exact h.then S T fun vs s1 q1 r1 S1 T1 => wpAny_mono (newTuple_d S1.ok r1 hsz) (fun v s2 ⟨q2, r2⟩ => ⟨q1.trans q2, r2⟩) fun _ _ x => x

/-! items -/
theorem Ev.itemL {v i : Expr} {pos : Pos} {xs : List PyData} {k : Int} {d : PyData} (hv : Ev a c ρ v (.list xs)) (hi : Ev a c ρ i (.int k)) (h0 : 0 ≤ k) (hk : k < 2 ^ 63) (hx : xs[k.toNat]? = some d)
    (hs : ∀ o j, subscripted i false o j = operate [o, j] (getItem o j)) : Ev a c ρ (.Subscript v i pos) d := fun s E S T => by
  refine Subscript_ (hv.then S T fun v1 s1 q1 r1 S1 T1 => hi.then S1 T1 fun v2 s2 q2 r2 S2 T2 => ?_)
  obtain ⟨ad, vs, rfl, hl, hx', rl⟩ := (r1.of q2.heap.seqv).list_inv
  obtain ⟨t, rfl⟩ := r2.int_inv
  obtain ⟨u, e, ru⟩ := rl.get hx
  exact tail_any hl.typeIs slot_list_getitem.lookup (wpAny_getItem_list hl h0 hk (by simpa using e) ⟨q1.trans q2, ru⟩) (hs _ _)
theorem Ev.itemT {v i : Expr} {pos : Pos} {xs : List PyData} {k : Int} {d : PyData} (hv : Ev a c ρ v (.tuple xs)) (hi : Ev a c ρ i (.int k)) (h0 : 0 ≤ k) (hk : k < 2 ^ 63) (hx : xs[k.toNat]? = some d)
    (hs : ∀ o j, subscripted i false o j = operate [o, j] (getItem o j)) : Ev a c ρ (.Subscript v i pos) d := fun s E S T => by
  refine Subscript_ (hv.then S T fun v1 s1 q1 r1 S1 T1 => hi.then S1 T1 fun v2 s2 q2 r2 S2 T2 => ?_)
  obtain ⟨ad, vs, rfl, hl, hx', rl⟩ := (r1.of q2.heap.seqv).tuple_inv
  obtain ⟨t, rfl⟩ := r2.int_inv
  obtain ⟨u, e, ru⟩ := rl.get hx
  have hlt : k.toNat < vs.size := by
    have := (List.getElem?_eq_some_iff.mp e).1
    simpa using this
  have hl' : IsTup s2.heap ad vs := hl
  refine tail_any hl'.typeIs slot_tuple_getitem.lookup (getItem_tuple hl' (by omega) hk (j := k.toNat) ?_ (by simpa using e) ⟨q1.trans q2, ru⟩) (hs _ _)
  exact seqIndex_in h0 hlt
theorem Ev.itemS {v i : Expr} {pos : Pos} {x : Str} {k : Int} {ch : Nat} (hv : Ev a c ρ v (.str x)) (hi : Ev a c ρ i (.int k)) (h0 : 0 ≤ k) (hk : k < 2 ^ 63) (hx : x.cps.toList[k.toNat]? = some ch)
    (hs : ∀ o j, subscripted i false o j = operate [o, j] (getItem o j)) : Ev a c ρ (.Subscript v i pos) (.str ⟨#[ch]⟩) := fun s E S T => by
  refine Subscript_ (hv.then S T fun v1 s1 q1 r1 S1 T1 => hi.then S1 T1 fun v2 s2 q2 r2 S2 T2 => ?_)
  obtain ⟨t', rfl⟩ := r1.str_inv
  obtain ⟨t, rfl⟩ := r2.int_inv
  have hlt : k.toNat < x.cps.size := by
    have := (List.getElem?_eq_some_iff.mp hx).1
    simpa using this
  refine tail_any (typeIs_str _ _ _) PySem.F.slot_str_getitem.lookup (PyProof.Rows.getItem_str (c := ch) ?_ ?_ ⟨(q1.trans q2).tok _, .str _ _⟩) (hs _ _)
  · simp only [Bool.or_eq_false_iff, decide_eq_false_iff_not]; omega
  · rw [seqIndex_in h0 (by simpa [Str.length] using hlt)]
    simpa using hx

/-! slices -/
inductive Part (a : Amb) {sc : Scope} (c : Cx sc) (ρ : Vars) : Option Expr → Option Int → Prop
  | none : Part a c ρ none none
  | some {e : Expr} {i : Int} : Ev a c ρ e (.int i) → Part a c ρ (some e) (some i)
theorem Part.then {o : Option Expr} {k : Option Int} {s : Shared} {E : Value → Shared → Prop} {Q : Value → Shared → Prop} (h : Part a c ρ o k) (S : St a c s.heap ρ) (T : 0 < s.toks)
    (k' : ∀ v s', Kp c.fs s s' → IsPart v k → St a c s'.heap ρ → 0 < s'.toks → Q v s') : wpAny a.M c.A (evalPart o c.env) Q E s := by
  cases h with
  | none => exact wpAny_pure (k' _ _ (.refl s) .none S T)
  | some h => exact h.then S T fun v s1 q1 r1 S1 T1 => by obtain ⟨t, rfl⟩ := r1.int_inv; exact k' _ _ q1 (.int _ _) S1 T1

def cut {α : Type} (xs : List α) (lo hi : Option Int) : List α := (xs.drop (lo.elim 0 (clipAt xs.length))).take (hi.elim xs.length (clipAt xs.length) - lo.elim 0 (clipAt xs.length))

theorem Ev.sliceL {v : Expr} {l u : Option Expr} {p pos : Pos} {xs : List PyData} {lo hi : Option Int} (hv : Ev a c ρ v (.list xs)) (hl : Part a c ρ l lo) (hu : Part a c ρ u hi) (hsz : xs.length ≤ sizeLine) :
    Ev a c ρ (.Subscript v (.Slice l u Option.none p) pos) (.list (cut xs lo hi)) := fun s E S T => by
  refine Subscript_ (hv.then S T fun v1 s1 q1 r1 S1 T1 => wpAny_Slice (hl.then S1 T1 fun vl s2 q2 pl S2 T2 => hu.then S2 T2 fun vu s3 q3 pu S3 T3 => ?_))
  rw [evalPart_none]
  refine wpAny_pure ?_
  obtain ⟨ad, vs, rfl, hL, hx', rl⟩ := (r1.of (q2.trans q3).heap.seqv).list_inv
  have hn : vs.size = xs.length := by simpa using rl.length
  have hL' := hL.push { cls := .type "slice", data := .fields #[vl, vu, .none] }
  refine tail_any (ops := [.ref s3.heap.objs.size, .ref ad]) hL'.typeIs slot_list_getitem.lookup (wpAny_getItem_list_slice hL' (Heap.IsSliceOf.new ..) pl pu .none (by simp) ?_ (by rw [hn]; exact hsz)) rfl
  rw [slicePick_plain]
  refine ⟨((q1.trans q2).trans q3).trans (.push2 _ _ _), .list isList_push (by show (s3.heap.push _).objs.size ∉ c.X; rw [Heap.size_push]; exact S3.ok.fresh1) ?_⟩
  show RdL (vw c.X ((s3.heap.push _).push _)) _ _
  unfold cut
  rw [← hn]
  simpa using ((rl.drop (lo.elim 0 (clipAt vs.size))).take (hi.elim vs.size (clipAt vs.size) - lo.elim 0 (clipAt vs.size))).of (seq_push2 s3.heap _ _)
theorem Ev.sliceS {v : Expr} {l u : Option Expr} {p pos : Pos} {x : Str} {lo hi : Option Int} (hv : Ev a c ρ v (.str x)) (hl : Part a c ρ l lo) (hu : Part a c ρ u hi) (hsz : x.length ≤ sizeLine) :
    Ev a c ρ (.Subscript v (.Slice l u Option.none p) pos) (.str (Txt.slice x lo hi)) := fun s E S T => by
  refine Subscript_ (hv.then S T fun v1 s1 q1 r1 S1 T1 => wpAny_Slice (hl.then S1 T1 fun vl s2 q2 pl S2 T2 => hu.then S2 T2 fun vu s3 q3 pu S3 T3 => ?_))
  rw [evalPart_none]
  refine wpAny_pure ?_
  obtain ⟨t, rfl⟩ := r1.str_inv
  have key : ∀ (l' u' : Option (Int × Tok)), vl = partValue l' → vu = partValue u' → l'.map (·.1) = lo → u'.map (·.1) = hi →
      wpAny a.M c.A (subscriptTail v (.Slice l u Option.none p) (.str x t) (.ref s3.heap.objs.size)) (fun v s' => Kp c.fs s s' ∧ Rd (vw c.X s'.heap) v (.str (Txt.slice x lo hi))) E
        { s3 with heap := s3.heap.push { cls := .type "slice", data := .fields #[vl, vu, .none] } } := by
    rintro l' u' rfl rfl rfl rfl
    refine tail_any (ops := [.ref s3.heap.objs.size, .str x t]) (typeIs_str _ _ _) PySem.F.slot_str_getitem.lookup (wpAny_getItem_str_slice (l := l') (u := u') (st := none) ⟨_, Heap.get?_push_size _ rfl, rfl, rfl⟩ rfl ?_) rfl
    exact post_val_or_str ⟨Nat.le_trans (Txt.slice_le x _ _) hsz, fun t' k => ⟨(((q1.trans q2).trans q3).trans (.push s3 _)).tok k, .str _ _⟩⟩
  cases pl with
  | none => cases pu with
    | none => exact key none none rfl rfl rfl rfl
    | int i t => exact key none (some (i, t)) rfl rfl rfl rfl
  | int j t' => cases pu with
    | none => exact key (some (j, t')) none rfl rfl rfl rfl
    | int i t => exact key (some (j, t')) (some (i, t)) rfl rfl rfl rfl

/-! operators over lists -/
theorem Op2.addL {xs ys : List PyData} (hsz : xs.length + ys.length ≤ sizeLine) : Op2 a c (binaryOp .Add) (.list xs) (.list ys) (.list (xs ++ ys)) := fun s E v1 v2 b r1 r2 => by
  obtain ⟨l, vs, rfl, hl, hx1, rl⟩ := r1.list_inv
  obtain ⟨l', vs', rfl, hl', hx2, rl'⟩ := r2.list_inv
  obtain ⟨⟨cls, dd, data, sl⟩, ho, hc, n, hd⟩ := hl
  obtain ⟨⟨cls2, dd2, data2, sl2⟩, ho2, hc2, n2, hd2⟩ := hl'
  simp only at hc hd hc2 hd2
  subst hc hd hc2 hd2
  have n1 : vs.size = xs.length := by simpa using rl.length
  have n2' : vs'.size = ys.length := by simpa using rl'.length
  refine concat_meets ⟨_, ho, rfl⟩ ⟨_, ho2, rfl⟩ noFill_list_add seq_list_add PySem.F.slot_list_add PySem.F.entry_list_add (PySem.F.args_list_add_2 _ _) (list_addW l l' vs vs' n n2 dd dd2 sl sl2 (by omega)) ⟨ho, ho2, ?_⟩
  refine ⟨.push _ _, .list ⟨_, Heap.get?_push_size _ rfl, rfl, _, rfl⟩ b.fresh ?_⟩
  have := (rl.append rl').of (seq_push s.heap { cls := .type "list", data := .seq (vs ++ vs') })
  simpa using this
end
end Mine

end
section
open PySem PySem.W PyProof.Rows PySem.Calls PySem.Spec
set_option Elab.async false
set_option linter.unusedVariables false
namespace Mine

section
variable {a : Amb} {sc : Scope} {c : Cx sc} {ρ : Vars}

/-! comparing data -/
theorem Op2.eqD {d1 d2 : PyData} (h1 : d1.canLay0 = true) (h2 : d2.canLay0 = true) (hd : d1.depth ≤ 100) : Op2 a c (compareOp .Eq) d1 d2 (.bool (PyData.eqv d1 d2)) := fun s E v1 v2 b r1 r2 => by
  obtain ⟨_, as, r1⟩ := r1.out
  obtain ⟨_, bs, r2⟩ := r2.out
  exact PySem.SeqAt.compareEq_reads r1 r2 h1 h2 (by have := c.units_lt; omega) ⟨.refl s, .bool _⟩
theorem Op2.neD {d1 d2 : PyData} (h1 : d1.canLay0 = true) (h2 : d2.canLay0 = true) (hd : d1.depth ≤ 100) : Op2 a c (compareOp .NotEq) d1 d2 (.bool (!PyData.eqv d1 d2)) := fun s E v1 v2 b r1 r2 => by
  obtain ⟨_, as, r1⟩ := r1.out
  obtain ⟨_, bs, r2⟩ := r2.out
  exact PySem.SeqAt.rcNeAt_reads r1 r2 h1 h2 (by have := c.units_lt; omega) a.prog a.w E _ ⟨.refl s, .bool _⟩

theorem in_strs {h : Heap} {x : Str} {t : Tok} {A : Around} {s : Shared} : ∀ {vs : List Value} {ys : List Str}, RdL h vs (ys.map .str) →
    ∃ e : Value → Bool, (∀ v ∈ vs, PySem.SeqAt.EqAt A s v (.str x t) (e v)) ∧ vs.any e = ys.contains x := by
  intro vs ys r
  refine ⟨fun v => match v with | .str y _ => y == x | _ => false, fun v hv => ?_, ?_⟩
  · obtain ⟨y, t', rfl⟩ := r.strs v hv
    exact PySem.SeqAt.EqAt.str_str y t' x t
  · induction vs generalizing ys with
    | nil => have := r.nil_inv'; rw [List.map_eq_nil_iff] at this; subst this; rfl
    | cons v vs ih =>
      cases ys with
      | nil => have := r.nil_inv; cases this
      | cons y ys =>
        obtain ⟨d, ds', e, r1, r2⟩ := r.cons_inv'
        simp only [List.map_cons, List.cons.injEq] at e
        obtain ⟨rfl, rfl⟩ := e
        obtain ⟨t', rfl⟩ := r1.str_inv
        rw [List.any_cons, List.contains_cons, ih r2]
        congr 1
        show (y == x) = (x == y)
        rw [Bool.eq_iff_iff, beq_iff_eq, beq_iff_eq]; exact eq_comm
theorem Op2.inStrs {x : Str} {ys : List Str} : Op2 a c (compareOp .In) (.str x) (.list (ys.map .str)) (.bool (ys.contains x)) := fun s E v1 v2 b r1 r2 => by
  obtain ⟨t, rfl⟩ := r1.str_inv
  obtain ⟨l, vs, rfl, hl, hx, rl⟩ := r2.list_inv
  obtain ⟨e, h1, h2⟩ := in_strs (A := c.A.in1) (s := s) (x := x) (t := t) rl
  refine PySem.SeqAt.in_listAt e hl (fun y hy => h1 y (by simpa using hy)) ⟨.refl s, ?_⟩
  rw [← Array.any_toList, h2]; exact .bool _
theorem Op2.notInStrs {x : Str} {ys : List Str} : Op2 a c (compareOp .NotIn) (.str x) (.list (ys.map .str)) (.bool (!ys.contains x)) := fun s E v1 v2 b r1 r2 => by
  obtain ⟨t, rfl⟩ := r1.str_inv
  obtain ⟨l, vs, rfl, hl, hx, rl⟩ := r2.list_inv
  obtain ⟨e, h1, h2⟩ := in_strs (A := c.A.in1) (s := s) (x := x) (t := t) rl
  refine PySem.SeqAt.notIn_listAt e hl (fun y hy => h1 y (by simpa using hy)) ⟨.refl s, ?_⟩
  rw [← Array.any_toList, h2]; exact .bool _

/-! truth -/
def Tr (a : Amb) {sc : Scope} (c : Cx sc) (d : PyData) (b : Bool) : Prop := ∀ (s : Shared) (E : Value → Shared → Prop) (v : Value), Rd (vw c.X s.heap) v d → wpAny a.M c.A (truthy v) (fun x s' => Kp c.fs s s' ∧ x = b) E s
theorem Tr.bool {b : Bool} : Tr a c (.bool b) b := fun s E v r => by rw [r.bool_inv]; exact wpAny_truthy_bool ⟨.refl s, rfl⟩
theorem Tr.str {x : Str} (hx : (x.length : Int) < 2 ^ 63) : Tr a c (.str x) (x.length != 0) := fun s E v r => by
  obtain ⟨t, rfl⟩ := r.str_inv
  refine PySem.P.truthy_str (by omega) ⟨(Kp.refl s).tok _, ?_⟩
  rw [Bool.eq_iff_iff]; simp
theorem Tr.list {xs : List PyData} (hx : (xs.length : Int) < 2 ^ 63) : Tr a c (.list xs) (xs.length != 0) := fun s E v r => by
  obtain ⟨l, vs, rfl, hl, hx', rl⟩ := r.list_inv
  have n : vs.size = xs.length := by simpa using rl.length
  refine wpAny_truthy_list hl (by omega) ⟨(Kp.refl s).tok _, ?_⟩
  have e : vs.isEmpty = (xs.length == 0) := by rw [← n]; rfl
  rw [e]; rfl
theorem Tr.tuple {xs : List PyData} (hx : (xs.length : Int) < 2 ^ 63) : Tr a c (.tuple xs) (xs.length != 0) := fun s E v r => by
  obtain ⟨l, vs, rfl, hl, hx', rl⟩ := r.tuple_inv
  have n : vs.size = xs.length := by simpa using rl.length
  refine truthy_tuple (show IsTup _ _ _ from hl) (by omega) ⟨(Kp.refl s).tok _, ?_⟩
  have e : vs.isEmpty = (xs.length == 0) := by rw [← n]; rfl
  rw [e]; rfl
theorem Ts.ev {e : Expr} {d : PyData} {b : Bool} (h : Ev a c ρ e d) (t : Tr a c d b) (he : ∀ whole, isTrue e c.env whole = (do let v ← whole; standAt e.pos; holding [v] (truthy v))) : Ts a c ρ e b := fun s E S T =>
  isTrue_plain (h.then S T fun v s1 q1 r1 S1 T1 => wpAny_mono (t s1 E v r1) (fun x s2 ⟨q2, e2⟩ => ⟨q1.trans q2, e2⟩) fun _ _ x => x) (he _)
theorem Ts.andT {e1 e2 : Expr} {pos : Pos} {b : Bool} (h1 : Ts a c ρ e1 true) (h2 : Ts a c ρ e2 b) : Ts a c ρ (.BoolOp .And [e1, e2] pos) b := fun s E S T => by
  rw [arm_isTrue_BoolOp, arm_allTrue_cons]
  refine wpAny_bind (h1.then S T fun s1 q1 S1 T1 => ?_)
  dsimp only
  rw [arm_allTrue_cons]
  refine wpAny_bind (h2.then S1 T1 fun s2 q2 S2 T2 => ?_)
  cases b
  · exact wpAny_pure ⟨q1.trans q2, rfl⟩
  · exact wpAny_pure ⟨q1.trans q2, rfl⟩
theorem Ts.andF {e1 e2 : Expr} {pos : Pos} (h1 : Ts a c ρ e1 false) : Ts a c ρ (.BoolOp .And [e1, e2] pos) false := fun s E S T => by
  rw [arm_isTrue_BoolOp, arm_allTrue_cons]
  refine wpAny_bind (h1.then S T fun s1 q1 S1 T1 => ?_)
  exact wpAny_pure ⟨q1, rfl⟩
theorem Ts.orT {e1 e2 : Expr} {pos : Pos} (h1 : Ts a c ρ e1 true) : Ts a c ρ (.BoolOp .Or [e1, e2] pos) true := fun s E S T => by
  rw [arm_isTrue_BoolOp, arm_allTrue_cons]
  refine wpAny_bind (h1.then S T fun s1 q1 S1 T1 => ?_)
  exact wpAny_pure ⟨q1, rfl⟩
theorem Ts.orF {e1 e2 : Expr} {pos : Pos} {b : Bool} (h1 : Ts a c ρ e1 false) (h2 : Ts a c ρ e2 b) : Ts a c ρ (.BoolOp .Or [e1, e2] pos) b := fun s E S T => by
  rw [arm_isTrue_BoolOp, arm_allTrue_cons]
  refine wpAny_bind (h1.then S T fun s1 q1 S1 T1 => ?_)
  dsimp only
  rw [arm_allTrue_cons]
  refine wpAny_bind (h2.then S1 T1 fun s2 q2 S2 T2 => ?_)
  cases b
  · exact wpAny_pure ⟨q1.trans q2, rfl⟩
  · exact wpAny_pure ⟨q1.trans q2, rfl⟩
theorem Ev.orT {e1 e2 : Expr} {pos : Pos} {d : PyData} (h1 : Ev a c ρ e1 d) (t : Tr a c d true) : Ev a c ρ (.BoolOp .Or [e1, e2] pos) d := fun s E S T => by
  rw [arm_eval_BoolOp, arm_evalEach_cons, arm_evalEach_cons]
  refine wpAny_bind (h1.then S T fun v s1 q1 r1 S1 T1 => wpAny_bind (wpAny_standAt (wpAny_bind (wpAny_holding (wpAny_mono (t s1 E v r1) (fun x s2 ⟨q2, e2⟩ => ?_) fun _ _ x => x)))))
  subst e2
  exact wpAny_pure ⟨q1.trans q2, r1.of q2.heap.seqv⟩
theorem Ev.orF {e1 e2 : Expr} {pos : Pos} {d d' : PyData} (h1 : Ev a c ρ e1 d) (t : Tr a c d false) (h2 : Ev a c ρ e2 d') : Ev a c ρ (.BoolOp .Or [e1, e2] pos) d' := fun s E S T => by
  rw [arm_eval_BoolOp, arm_evalEach_cons, arm_evalEach_cons]
  refine wpAny_bind (h1.then S T fun v s1 q1 r1 S1 T1 => wpAny_bind (wpAny_standAt (wpAny_bind (wpAny_holding (wpAny_mono (wpAny_toks_of (n := 1) T1 (t s1 E v r1)) (fun x s2 ⟨T2, q2, e2⟩ => ?_) fun _ _ x => x.2)))))
  subst e2
  exact h2.then (S1.keep q2.heap) T2 fun v s3 q3 r3 _ _ => ⟨(q1.trans q2).trans q3, r3⟩

theorem Ts.to {e : Expr} {b b' : Bool} (h : Ts a c ρ e b) (q : b = b') : Ts a c ρ e b' := q ▸ h
theorem Ev.to {e : Expr} {d d' : PyData} (h : Ev a c ρ e d) (q : d = d') : Ev a c ρ e d' := q ▸ h
theorem Ev.ite {t b o : Expr} {pos : Pos} {d : PyData} {x : Bool} (ht : Ts a c ρ t x) (hb : x = true → Ev a c ρ b d) (ho : x = false → Ev a c ρ o d) : Ev a c ρ (.IfExp t b o pos) d := by
  cases x with
  | true => exact Ev.ifT ht (hb rfl)
  | false => exact Ev.ifF ht (ho rfl)
theorem Exc.ite {t : Expr} {b o : List Stmt} {pos : Pos} {r : Res} {x : Bool} (ht : Ts a c ρ t x) (hb : x = true → Exs a c ρ b r) (ho : x = false → Exs a c ρ o r) : Exc a c ρ (.If t b o pos) r := by
  cases x with
  | true => exact Exc.ifT ht (hb rfl)
  | false => exact Exc.ifF ht (ho rfl)

theorem Exs.if1 {t : Expr} {body rest : List Stmt} {pos : Pos} {r : Res} {x : Bool} {ρ' : Vars} (ht : Ts a c ρ t x) (hb : x = true → Exs a c ρ body (.next ρ')) (h1 : x = true → Exs a c ρ' rest r) (h2 : x = false → Exs a c ρ rest r) :
    Exs a c ρ (.If t body [] pos :: rest) r := by
  cases x with
  | true => exact Exs.cons (Exc.ifT ht (hb rfl)) (h1 rfl)
  | false => exact Exs.cons (Exc.ifF ht Exs.nil) (h2 rfl)
/-- an if whose body returns -/
theorem Exs.ifRet {t : Expr} {body rest : List Stmt} {pos : Pos} {d : PyData} {x : Bool} (ht : Ts a c ρ t x) (hb : x = true → Exs a c ρ body (.ret d)) (h2 : x = false → Exs a c ρ rest (.ret d)) :
    Exs a c ρ (.If t body [] pos :: rest) (.ret d) := by
  cases x with
  | true => exact Exs.ret (Exc.ifT ht (hb rfl))
  | false => exact Exs.cons (Exc.ifF ht Exs.nil) (h2 rfl)

/-! built-ins -/
theorem Bi.lenL {xs : List PyData} (hx : (xs.length : Int) < 2 ^ 63) : Bi a c (.builtin "len") [.list xs] (.int xs.length) := fun s E vs b t r => by
  obtain ⟨v, ws, rfl, r1, r2⟩ := r.cons_inv
  rw [r2.nil_inv]
  obtain ⟨l, us, rfl, hl, hx', rl⟩ := r1.list_inv
  have n : us.size = xs.length := by simpa using rl.length
  refine call_len_list hl (by omega) ⟨(Kp.refl s).tok _, ?_⟩
  rw [n]; exact .int _ _
theorem Bi.lenS {x : Str} (hx : (x.length : Int) < 2 ^ 63) : Bi a c (.builtin "len") [.str x] (.int x.length) := fun s E vs b t r => by
  obtain ⟨v, ws, rfl, r1, r2⟩ := r.cons_inv
  rw [r2.nil_inv]
  obtain ⟨t', rfl⟩ := r1.str_inv
  exact PyProof.Rows.len_str (by omega) ⟨(Kp.refl s).tok _, .int _ _⟩
theorem Bi.chr {i : Int} (h0 : 0 ≤ i) (h1 : i ≤ 1114111) : Bi a c (.builtin "chr") [.int i] (.str ⟨#[i.toNat]⟩) := fun s E vs b t r => by
  obtain ⟨v, ws, rfl, r1, r2⟩ := r.cons_inv
  rw [r2.nil_inv]
  obtain ⟨t', rfl⟩ := r1.int_inv
  exact chr_of_range h0 h1 ⟨(Kp.refl s).tok _, .str _ _⟩
theorem Bi.strI {i : Int} (hi : i.natAbs.log2 < 1920) : Bi a c (.type "str") [.int i] (.str (toString i)) := fun s E vs b t r => by
  obtain ⟨v, ws, rfl, r1, r2⟩ := r.cons_inv
  rw [r2.nil_inv]
  obtain ⟨t', rfl⟩ := r1.int_inv
  exact PySem.P.str_of_int hi ⟨(Kp.refl s).tok _, .str _ _⟩
theorem ints_of {h : Heap} : ∀ {vs : List Value} {ns : List Int}, RdL h vs (ns.map .int) → IntsAre vs ns := by
  intro vs
  induction vs with
  | nil => intro ns r; have := r.nil_inv'; rw [List.map_eq_nil_iff] at this; subst this; exact .nil
  | cons v vs ih =>
    intro ns r
    cases ns with
    | nil => have := r.nil_inv; cases this
    | cons n ns =>
      obtain ⟨d, ds', e, r1, r2⟩ := r.cons_inv'
      simp only [List.map_cons, List.cons.injEq] at e
      obtain ⟨rfl, rfl⟩ := e
      obtain ⟨t', rfl⟩ := r1.int_inv
      exact .cons _ _ (ih r2)
theorem Bi.sum {ns : List Int} (h0 : c.hq = none) : Bi a c (.builtin "sum") [.list (ns.map .int)] (.int ns.sum) := fun s E vs b t r => by
  obtain ⟨v, ws, rfl, r1, r2⟩ := r.cons_inv
  rw [r2.nil_inv]
  obtain ⟨l, us, rfl, hl, hx', rl⟩ := r1.list_inv
  have hi := ints_of rl
  obtain ⟨xs, hx⟩ := hi.allInts.items
  have hl' : s.heap.IsList l (intItems xs) := by rw [← hx]; simpa using hl
  refine sum_intListG (c.h0 h0) hl' fun h' tk t' hk => ?_
  have e1 : ns = xs.toList.map (·.1) := by
    rw [← nums_intItems, ← hx]
    exact (show numsOf us.toList.toArray.toList = ns from by simpa using hi.numsOf).symm
  have e2 : preSum (numAt xs) xs.size = ns.sum := by
    rw [preSum_eq, List.take_of_length_le (by simp), e1]
  rw [e2]
  exact ⟨⟨.ofStays hk, rfl, rfl⟩, .int _ _⟩

/-! methods of texts -/
theorem Bi.starts {x y : Str} : Bi a c (.builtin "str.startswith") [.str x, .str y] (.bool (Txt.startswith x y)) := fun s E vs b t r => by
  obtain ⟨v, ws, rfl, r1, r2⟩ := r.cons_inv
  obtain ⟨v', ws', rfl, r3, r4⟩ := r2.cons_inv
  rw [r4.nil_inv]
  obtain ⟨t1, rfl⟩ := r1.str_inv; obtain ⟨t2, rfl⟩ := r3.str_inv
  exact SC.startswith ⟨.refl s, .bool _⟩
theorem Bi.ends {x y : Str} : Bi a c (.builtin "str.endswith") [.str x, .str y] (.bool (Txt.endswith x y)) := fun s E vs b t r => by
  obtain ⟨v, ws, rfl, r1, r2⟩ := r.cons_inv
  obtain ⟨v', ws', rfl, r3, r4⟩ := r2.cons_inv
  rw [r4.nil_inv]
  obtain ⟨t1, rfl⟩ := r1.str_inv; obtain ⟨t2, rfl⟩ := r3.str_inv
  exact SC.endswith ⟨.refl s, .bool _⟩
theorem Bi.find {x y : Str} : Bi a c (.builtin "str.find") [.str x, .str y] (.int (Txt.find x y)) := fun s E vs b t r => by
  obtain ⟨v, ws, rfl, r1, r2⟩ := r.cons_inv
  obtain ⟨v', ws', rfl, r3, r4⟩ := r2.cons_inv
  rw [r4.nil_inv]
  obtain ⟨t1, rfl⟩ := r1.str_inv; obtain ⟨t2, rfl⟩ := r3.str_inv
  exact SC.find ⟨(Kp.refl s).tok _, .int _ _⟩
theorem Bi.rfind {x y : Str} : Bi a c (.builtin "str.rfind") [.str x, .str y] (.int (Txt.rfind x y)) := fun s E vs b t r => by
  obtain ⟨v, ws, rfl, r1, r2⟩ := r.cons_inv
  obtain ⟨v', ws', rfl, r3, r4⟩ := r2.cons_inv
  rw [r4.nil_inv]
  obtain ⟨t1, rfl⟩ := r1.str_inv; obtain ⟨t2, rfl⟩ := r3.str_inv
  exact SC.rfind ⟨(Kp.refl s).tok _, .int _ _⟩
theorem Bi.find3 {x y : Str} {i : Int} : Bi a c (.builtin "str.find") [.str x, .str y, .int i] (.int (Txt.find3 x y i)) := fun s E vs b t r => by
  obtain ⟨v, ws, rfl, r1, r2⟩ := r.cons_inv
  obtain ⟨v', ws', rfl, r3, r4⟩ := r2.cons_inv
  obtain ⟨v'', ws'', rfl, r5, r6⟩ := r4.cons_inv
  rw [r6.nil_inv]
  obtain ⟨t1, rfl⟩ := r1.str_inv; obtain ⟨t2, rfl⟩ := r3.str_inv; obtain ⟨t3, rfl⟩ := r5.int_inv
  exact SC.find3 ⟨(Kp.refl s).tok _, .int _ _⟩
theorem Bi.rstripC {x y : Str} (hx : x.length ≤ sizeLine) : Bi a c (.builtin "str.rstrip") [.str x, .str y] (.str (Txt.rstripChars x y)) := fun s E vs b t r => by
  obtain ⟨v, ws, rfl, r1, r2⟩ := r.cons_inv
  obtain ⟨v', ws', rfl, r3, r4⟩ := r2.cons_inv
  rw [r4.nil_inv]
  obtain ⟨t1, rfl⟩ := r1.str_inv; obtain ⟨t2, rfl⟩ := r3.str_inv
  exact SC.rstripChars (fun t' k => ⟨(Kp.refl s).tok _, .str _ _⟩) hx
theorem rdl_strs {h : Heap} : ∀ {l : List (Str × Tok)}, RdL h (strValues l) ((l.map (·.1)).map .str)
  | [] => .nil
  | (x, t) :: r => .cons (.str _ _) rdl_strs
theorem rdl_strs_inv {h : Heap} : ∀ {vs : List Value} {xs : List Str}, RdL h vs (xs.map .str) → ∃ l, vs = strValues l ∧ l.map (·.1) = xs := by
  intro vs
  induction vs with
  | nil => intro xs r; have := r.nil_inv'; rw [List.map_eq_nil_iff] at this; subst this; exact ⟨[], rfl, rfl⟩
  | cons v vs ih =>
    intro xs r
    cases xs with
    | nil => have := r.nil_inv; cases this
    | cons n ns =>
      obtain ⟨d, ds', e, r1, r2⟩ := r.cons_inv'
      simp only [List.map_cons, List.cons.injEq] at e
      obtain ⟨rfl, rfl⟩ := e
      obtain ⟨t', rfl⟩ := r1.str_inv
      obtain ⟨l, rfl, rfl⟩ := ih r2
      exact ⟨(n, t') :: l, rfl, rfl⟩
theorem Bi.split {x y : Str} (hy : (y.length == 0) = false) (hx : x.length ≤ sizeLine) (h2 : (Builtin.Str.partsBetween x (Builtin.Str.occurrences x y 0 x.length (x.length + 1)) y.length).length ≤ sizeLine) :
    Bi a c (.builtin "str.split") [.str x, .str y] (.list ((Txt.split x y).map .str)) := fun s E vs b t r => by
  obtain ⟨v, ws, rfl, r1, r2⟩ := r.cons_inv
  obtain ⟨v', ws', rfl, r3, r4⟩ := r2.cons_inv
  rw [r4.nil_inv]
  obtain ⟨t1, rfl⟩ := r1.str_inv; obtain ⟨t2, rfl⟩ := r3.str_inv
  have fin : ∀ (l : List (Str × Tok)) (k : Nat), l.map (·.1) = Txt.split x y → Kp c.fs s { s with toks := k, heap := s.heap.push { cls := .type "list", data := .seq (strValues l).toArray } } ∧
      Rd (vw c.X (s.heap.push { cls := .type "list", data := .seq (strValues l).toArray })) (.ref s.heap.objs.size) (.list ((Txt.split x y).map .str)) := fun l k e =>
    ⟨(Kp.push s _).tok k, .list isList_push b.fresh (by rw [← e]; simpa using rdl_strs)⟩
  cases h1 : (decide (x.length < y.length) || decide (Builtin.Str.strKind x < Builtin.Str.strKind y))
  · cases hf : (Builtin.Str.occurrences x y 0 x.length (x.length + 1)).isEmpty
    · refine call_meets PySem.F.slot_str_split (typeIs_str _ _ _) PySem.F.entry_str_split (PySem.F.args_str_split_2 _ _) (meets_str_split_sep x y t1 t2 h1 hy hf hx h2) ?_
      show wants _ E _ { s with toks := _, heap := s.heap.push { cls := .type "list", data := .seq (strsFrom s.toks (Builtin.Str.partsBetween x (Builtin.Str.occurrences x y 0 x.length (x.length + 1)) y.length)).toArray } }
      rw [strsFrom_eq]
      exact fin _ _ ((numbered_texts _ _).trans ((if_neg (ne_true_of_eq_false h1)).trans (if_neg (ne_true_of_eq_false hf))).symm)
    · exact call_meets PySem.F.slot_str_split (typeIs_str _ _ _) PySem.F.entry_str_split (PySem.F.args_str_split_2 _ _) (meets_str_split_not_found x y t1 t2 h1 hy hf)
        (fin [(x, t1)] s.toks ((if_neg (ne_true_of_eq_false h1)).trans (if_pos hf)).symm)
  · exact call_meets PySem.F.slot_str_split (typeIs_str _ _ _) PySem.F.entry_str_split (PySem.F.args_str_split_2 _ _) (meets_str_split_cannot_occur x y t1 t2 h1)
      (fin [(x, t1)] s.toks (if_pos h1).symm)
theorem Bi.join {x : Str} {ys : List Str} (hok : JoinOk x ys = true) : Bi a c (.builtin "str.join") [.str x, .list (ys.map .str)] (.str (Txt.join x ys)) := fun s E vs b t r => by
  obtain ⟨v, ws, rfl, r1, r2⟩ := r.cons_inv
  obtain ⟨v', ws', rfl, r3, r4⟩ := r2.cons_inv
  rw [r4.nil_inv]
  obtain ⟨t1, rfl⟩ := r1.str_inv; obtain ⟨l, us, rfl, hl, hx', rl⟩ := r3.list_inv
  obtain ⟨l', e, e2⟩ := rdl_strs_inv rl
  have hl' : s.heap.IsList l (strValues l').toArray := by rw [← e]; simpa using hl
  exact SC.join hl' e2 hok fun t' k => ⟨(Kp.refl s).tok _, .str _ _⟩
end
end Mine

end
section
open PySem PySem.W PyProof.Rows PySem.Calls PySem.Spec
set_option Elab.async false
set_option linter.unusedVariables false
namespace Mine

theorem entry_unchain : entryFor table "proto.unchain" = some Builtin.«proto.unchain» := entryFor_of_tree (by kernel_rfl)
def behind : Option Addr → Array Value → Array Value
  | none, vs => vs
  | some x, vs => vs.setIfInBounds 2 (.ref x)
section
variable {prog : Program} {w : World} {A : Around} {E : Value → Shared → Prop} {s : Shared}
/-- raising while another exception is handled -/
theorem raise_held {α : Type} {e : Addr} {q : Option Addr} {o : Obj} {vs : Array Value} {Q : α → Shared → Prop} (hh : A.handled = q.map Value.ref) (held : ∀ x, q = some x → HeldAt x s.heap) (hne : ∀ x, q = some x → x ≠ e)
    (he : s.heap.get? e = some o) (hd : o.data = .fields vs) (h2 : 2 < vs.size)
    (hE : ∀ h' o', Heap.SameBut e s.heap h' → h'.get? e = some o' → o'.cls = o.cls → o'.data = .fields (behind q vs) → E (.ref e) { s with heap := h' }) : wpAny (model prog w) A (raiseNew (.ref e) : Sem α) Q E s := by
  unfold raiseNew
  refine wpAny_bind (wpAny_handled ?_)
  rw [hh]
  cases q with
  | none =>
    refine wpAny_bind (wpAny_pure (wpAny_throw ?_))
    exact hE s.heap o ⟨rfl, fun _ _ => rfl⟩ he rfl hd
  | some x =>
    obtain ⟨ox, ws, h1, h1d, h12⟩ := held x rfl
    dsimp only [Option.map_some]
    rw [if_pos (show (Value.ref x != Value.ref e) = true from by simpa using hne x rfl)]
    refine wpAny_bind (wpAny_holding (wpAny_runValue (codeAny_builtin entry_unchain ?_)))
    unfold Builtin.«proto.unchain»
    dsimp only
    refine wpAny_bind (wpAny_field h1 h1d h12 ?_)
    rw [if_pos (by rfl)]
    refine wpAny_pure ?_
    unfold updateField
    refine wpAny_bind (wpAny_bind (wpAny_load he ?_))
    rw [hd]
    dsimp only
    rw [if_pos h2]
    refine wpAny_update he (wpAny_throw ?_)
    have hd' := Obj.data_mapFields hd (·.setIfInBounds 2 (Value.ref x))
    exact hE _ _ (Heap.SameBut.update ..) (Heap.get?_update_self _ he (Obj.isFreed_of_fields hd')) (Obj.cls_mapFields ..) hd'

theorem list_end_held {it l : Addr} {i : Nat} {items : Array Value} {q : Option Addr} {Q : Option Value → Shared → Prop} (hh : A.handled = q.map Value.ref) (held : ∀ x, q = some x → HeldAt x s.heap)
    (hit : s.heap.IsListIter it l i) (hl : s.heap.IsList l items) (hx : items[i]? = none)
    (hQ : ∀ h', (∀ b o, b ≠ it → s.heap.get? b = some o → h'.get? b = some o) → Q none { s with heap := h' }) : wpAny (model prog w) A (pyNext (.ref it)) Q E s := by
  cases q with
  | none => exact wpAny_pyNext_list_end hh hit hl hx hQ
  | some x =>
    obtain ⟨ox, ws, h1, h1d, h12⟩ := held x rfl
    obtain ⟨o, ho, hc, hd⟩ := id hit
    obtain ⟨ol, hol, _, nl, hdl⟩ := hl
    have xit : x ≠ it := fun z => by
      rw [z, ho] at h1; cases h1; rw [hd] at h1d; cases h1d; simp at h12
    unfold pyNext
    refine wpAny_bind (wpAny_attempt (wpAny_callSpecial?_slot (name := Str.ofString "__next__") hit.typeIs slot_listiter_next
      (wpAny_call_entry slot_listiter_next hit.typeIs entry_listiter_next ?_ (args_listiter_next _))))
    refine wpAny_bind (m := field (.ref it) 0) (wpAny_field ho hd (x := .ref l) rfl ?_)
    rw [if_neg (show ¬ ((Value.ref l == Value.none) = true) from Bool.false_ne_true)]
    refine wpAny_bind (wpAny_field ho hd (x := .int i 0) rfl ?_)
    refine wpAny_bind (wpAny_seqItems hol hdl ?_)
    simp only [Int.toNat_natCast, hx]
    refine wpAny_bind (wpAny_rule (wpAny_bind (wpAny_setField ho hd (by simp) ?_)))
    refine wpAny_bind (m := newExc (.type "StopIteration") []) ?_
    simp only [newExc, newTuple]
    refine wpAny_bind (wpAny_newObj_type ?_ (by size_fits))
    refine wpAny_bind (m := firstArgMember _ _) (wpAny_of_eq (a := Value.none) (by first | rfl | (simp only [firstArgMember]; rfl)) ?_)
    refine wpAny_newObj_type ?_ (by size_fits)
    refine raise_held (q := some x) hh (fun y hy => ?_) (fun y hy => ?_) (Heap.get?_push_size _ rfl) rfl (by simp; omega) fun h' o' hs he' hc' hd' => ?_
    · cases hy
      exact ⟨ox, ws, Heap.get?_push_of_some _ (Heap.get?_push_of_some _ ((Heap.get?_update_other _ _ (Ne.symm xit)).trans h1)), h1d, h12⟩
    · cases hy
      have := Heap.lt_size h1
      intro z
      rw [z, Heap.size_push] at this
      simp only [Heap.size_update] at this
      exact absurd this (by show ¬ (_ + 1 < _); exact Nat.not_lt.mpr (Nat.le_succ _))
    refine wpAny_bind (wpAny_isInstance (T := "StopIteration") (b := true) ⟨_, he', hc'⟩ isSubtype_stop ?_)
    refine wpAny_pure (hQ _ fun b o hb e => ?_)
    have hb2 := Heap.lt_size e
    refine (hs.2 b ?_).trans (Heap.get?_push_of_some _ (Heap.get?_push_of_some _ ((Heap.get?_update_other _ _ (Ne.symm hb)).trans e)))
    intro z
    rw [z, Heap.size_push] at hb2
    simp only [Heap.size_update] at hb2
    exact absurd hb2 (by show ¬ (_ + 1 < _); exact Nat.not_lt.mpr (Nat.le_succ _))
end

def GK (g h : Heap) : Prop := ∀ b o vs n, g.get? b = some o → o.data = .seq vs n → h.get? b = some o

/-- an iterator over ds, made when the heap was g -/
structure Iter (a : Amb) (A : Around) (q : Option Addr) (g : Heap) (it : Addr) (ds : List PyData) (IS : Nat → Heap → Prop) : Prop where
  loc : ∀ i h h', IS i h → (∀ o, h.get? it = some o → h'.get? it = some o) → IS i h'
  fld : ∀ i h, IS i h → ∃ o vs, h.get? it = some o ∧ o.data = .fields vs
  next : ∀ i (s : Shared) (Q : Option Value → Shared → Prop) (E : Value → Shared → Prop) d, ds[i]? = some d → IS i s.heap → GK g s.heap →
    (∀ v h' tk, Rd g v d → IS (i + 1) h' → (∀ b o, b ≠ it → s.heap.get? b = some o → h'.get? b = some o) → Q (some v) { s with heap := h', toks := tk }) → wpAny a.M A (pyNext (.ref it)) Q E s
  done : ∀ (s : Shared) (Q : Option Value → Shared → Prop) (E : Value → Shared → Prop), IS ds.length s.heap → GK g s.heap → (∀ e, q = some e → HeldAt e s.heap) →
    (∀ h' tk, (∀ b o, b ≠ it → s.heap.get? b = some o → h'.get? b = some o) → Q none { s with heap := h', toks := tk }) → wpAny a.M A (pyNext (.ref it)) Q E s
  self : ∀ i (s : Shared) (Q : Value → Shared → Prop) (E : Value → Shared → Prop), IS i s.heap → Q (.ref it) s → wpAny a.M A (pyIter (.ref it)) Q E s
  own : ∀ i (s : Shared) (Q : Unit → Shared → Prop) (E : Value → Shared → Prop) (t : Expr) (v : Value), IS i s.heap → Q () s → wpAny a.M A (letOwnedTupleGo t (.ref it) v) Q E s

theorem own_of {M : Model} {A : Around} {s : Shared} {Q : Unit → Shared → Prop} {E : Value → Shared → Prop} {t : Expr} {it : Addr} {v : Value} {o : Obj} {n : String} (ho : s.heap.get? it = some o) (hc : o.cls = .type n)
    (hn : ["enumerate", "zip", "dict_itemiterator", "dict_reverseitemiterator", "odict_iterator", "itertools.zip_longest", "itertools.pairwise"].contains n = false) (h : Q () s) : wpAny M A (letOwnedTupleGo t (.ref it) v) Q E s := by
  unfold letOwnedTupleGo
  split
  all_goals first
    | exact wpAny_pure h
    | (split
       · rename_i e
         cases e
         refine wpAny_bind (wpAny_load ho ?_)
         rw [hc]
         split
         · rename_i e1 e2
           cases e1
           rw [hn]
           simp only [Bool.false_and, Bool.false_eq_true, if_false]
           exact wpAny_pure h
         · exact wpAny_pure h
       · exact wpAny_pure h)

theorem Iter.list {a : Amb} {A : Around} {q : Option Addr} {g : Heap} {it l : Addr} {vs : Array Value} {ds : List PyData} (hh : A.handled = q.map Value.ref) (hl : g.IsList l vs) (r : RdL g vs.toList ds) (hne : l ≠ it) :
    Iter a A q g it ds (fun i h => h.IsListIter it l i) := by
  have n : vs.size = ds.length := by simpa using r.length
  have hl' : ∀ h, GK g h → h.IsList l vs := fun h k => by obtain ⟨o, ho, hc, m, hd⟩ := hl; exact ⟨o, k _ _ _ _ ho hd, hc, m, hd⟩
  refine ⟨fun i h h' ⟨o, e, c1, c2⟩ k => ⟨o, k o e, c1, c2⟩, fun i h ⟨o, e, c1, c2⟩ => ⟨o, _, e, c2⟩, fun i s Q E d hd st k hQ => ?_, fun s Q E st k held hQ => ?_, fun i s Q E st hQ => wpAny_pyIter_listiter st hQ, fun i s Q E t v ⟨o, e, c1, c2⟩ hQ => own_of e c1 (by decide) hQ⟩
  · obtain ⟨v, e, rv⟩ := r.get hd
    exact wpAny_pyNext_list_item st (hl' _ k) (by simpa using e) fun h' st' hs => hQ v h' s.toks rv st' fun b o hb e => (hs.2 b hb).trans e
  · exact list_end_held hh held st (hl' _ k) (by simp [n]) fun h' he => hQ h' s.toks he
theorem Iter.tuple {a : Amb} {A : Around} {g : Heap} {it l : Addr} {vs : Array Value} {ds : List PyData} (hh : A.handled = none) (hl : g.IsTuple l vs) (r : RdL g vs.toList ds) (hne : l ≠ it) :
    Iter a A none g it ds (fun i h => h.IsTupleIter it l i) := by
  have n : vs.size = ds.length := by simpa using r.length
  have hl' : ∀ h, GK g h → h.IsTuple l vs := fun h k => by obtain ⟨o, ho, hc, m, hd⟩ := hl; exact ⟨o, k _ _ _ _ ho hd, hc, m, hd⟩
  refine ⟨fun i h h' ⟨o, e, c1, c2⟩ k => ⟨o, k o e, c1, c2⟩, fun i h ⟨o, e, c1, c2⟩ => ⟨o, _, e, c2⟩, fun i s Q E d hd st k hQ => ?_, fun s Q E st k held hQ => ?_, fun i s Q E st hQ => wpAny_pyIter_tupleiter st hQ, fun i s Q E t v ⟨o, e, c1, c2⟩ hQ => own_of e c1 (by decide) hQ⟩
  · obtain ⟨v, e, rv⟩ := r.get hd
    exact wpAny_pyNext_tuple_item st (hl' _ k) (by simpa using e) fun h' st' hs => hQ v h' s.toks rv st' fun b o hb e => (hs.2 b hb).trans e
  · exact wpAny_pyNext_tuple_end hh st (hl' _ k) (by simp [n]) fun h' he => hQ h' s.toks he
theorem Iter.range {a : Amb} {A : Around} {g : Heap} {it : Addr} {lo : Int} {n : Nat} (hh : A.handled = none) :
    Iter a A none g it ((List.range n).map fun (i : Nat) => .int (lo + (i : Int) * 1)) (fun i h => IsRangeIter h it (lo + (i : Nat) * 1) ((n : Int) - (i : Nat)) 1) := by
  have W := Walks.range (prog := a.prog) (w := a.w) (A := A) hh it lo 1 n
  refine ⟨fun i h h' st k => k _ st, fun i h st => ⟨_, _, st, rfl⟩, fun i s Q E d hd st k hQ => ?_, fun s Q E st k held hQ => ?_, fun i s Q E st hQ => W.self i s Q E st hQ, fun i s Q E t v st hQ => own_of st rfl (by decide) hQ⟩
  · have hi : i < n := by
      have := (List.getElem?_eq_some_iff.mp hd).1
      simpa using this
    refine W.item i s Q E hi st fun v h' tk hP st' hk => hQ v h' tk ?_ st' fun b o hb e => hk b o (by simpa using hb) e
    obtain ⟨t, rfl⟩ := hP
    have e : d = .int (lo + (i : Int) * 1) := by
      have := (List.getElem?_eq_some_iff.mp hd).2
      simpa using this.symm
    rw [e]; exact .int _ _
  · refine W.done s Q E (by simpa using st) fun h' tk hk => hQ h' tk fun b o hb e => hk b o (by simpa using hb) e

theorem Iter.next' {a : Amb} {A : Around} {q : Option Addr} {g : Heap} {it : Addr} {ds : List PyData} {IS : Nat → Heap → Prop} (I : Iter a A q g it ds IS) {i : Nat} {s : Shared} {Q : Option Value → Shared → Prop} {E : Value → Shared → Prop} {d : PyData}
    (hd : ds[i]? = some d) (st : IS i s.heap) (gk : GK g s.heap) (T : 0 < s.toks)
    (k : ∀ v s', 0 < s'.toks → Rd g v d → IS (i + 1) s'.heap → (∀ b o, b ≠ it → s.heap.get? b = some o → s'.heap.get? b = some o) → s'.gens = s.gens → s'.os = s.os → Q (some v) s') : wpAny a.M A (pyNext (.ref it)) Q E s :=
  wpAny_mono (wpAny_toks_of (n := 1) T (I.next i s (fun r s' => ∃ v, r = some v ∧ Rd g v d ∧ IS (i + 1) s'.heap ∧ (∀ b o, b ≠ it → s.heap.get? b = some o → s'.heap.get? b = some o) ∧ s'.gens = s.gens ∧ s'.os = s.os) E d hd st gk
    fun v h' tk r st' e => ⟨v, rfl, r, st', e, rfl, rfl⟩)) (fun r s' ⟨T', v, e1, e2, e3, e4, e5, e6⟩ => by subst e1; exact k v s' T' e2 e3 e4 e5 e6) fun _ _ x => x.2
theorem Iter.done' {a : Amb} {A : Around} {q : Option Addr} {g : Heap} {it : Addr} {ds : List PyData} {IS : Nat → Heap → Prop} (I : Iter a A q g it ds IS) {s : Shared} {Q : Option Value → Shared → Prop} {E : Value → Shared → Prop}
    (st : IS ds.length s.heap) (gk : GK g s.heap) (held : ∀ e, q = some e → HeldAt e s.heap) (T : 0 < s.toks)
    (k : ∀ s', 0 < s'.toks → (∀ b o, b ≠ it → s.heap.get? b = some o → s'.heap.get? b = some o) → s'.gens = s.gens → s'.os = s.os → Q none s') : wpAny a.M A (pyNext (.ref it)) Q E s :=
  wpAny_mono (wpAny_toks_of (n := 1) T (I.done s (fun r s' => r = none ∧ (∀ b o, b ≠ it → s.heap.get? b = some o → s'.heap.get? b = some o) ∧ s'.gens = s.gens ∧ s'.os = s.os) E st gk held
    fun h' tk e => ⟨rfl, e, rfl, rfl⟩)) (fun r s' ⟨T', e1, e4, e5, e6⟩ => by subst e1; exact k s' T' e4 e5 e6) fun _ _ x => x.2

section
variable {a : Amb} {sc : Scope} {c : Cx sc} {ρ : Vars}

/-- an expression that is iterated over -/
def EvI (a : Amb) {sc : Scope} (c : Cx sc) (ρ : Vars) (e : Expr) (ds : List PyData) : Prop :=
  ∀ (s : Shared) (E : Value → Shared → Prop), St a c s.heap ρ → 0 < s.toks → wpAny a.M c.A (eval e c.env) (fun x s1 => Kp c.fs s s1 ∧ ∀ (E : Value → Shared → Prop), wpAny a.M c.A (pyIter x)
    (fun v s2 => ∃ it IS, v = .ref it ∧ s1.heap.StaysIn s2.heap ∧ s1.heap.get? it = none ∧ IS 0 s2.heap ∧ Iter a c.A c.hq (vw c.X s1.heap) it ds IS ∧ s2.gens = s1.gens ∧ s2.os = s1.os) E s1) E s
theorem none_at (h : Heap) : h.get? h.objs.size = none := by
  cases q : h.get? h.objs.size with
  | none => rfl
  | some o => exact absurd (Heap.lt_size q) (Nat.lt_irrefl _)
theorem EvI.list {e : Expr} {ds : List PyData} (h : Ev a c ρ e (.list ds)) : EvI a c ρ e ds := fun s E S T =>
  h.then S T fun v s1 q1 r1 S1 T1 => ⟨q1, fun E => by
    obtain ⟨l, vs, rfl, hl, hx', rl⟩ := r1.list_inv
    have hlt : l < s1.heap.objs.size := by obtain ⟨_, e, _⟩ := hl; exact Heap.lt_size e
    have hlv : (vw c.X s1.heap).IsList l vs := by obtain ⟨o, e, z⟩ := hl; exact ⟨o, hideAll_get _ e hx', z⟩
    exact wpAny_pyIter_list hl ⟨s1.heap.objs.size, _, rfl, fun b o e => Heap.get?_push_of_some _ e, none_at _, ⟨_, Heap.get?_push_size _ rfl, rfl, rfl⟩, Iter.list c.hh hlv rl (Nat.ne_of_lt hlt), rfl, rfl⟩⟩
theorem EvI.tuple {e : Expr} {ds : List PyData} (h0 : c.hq = none) (h : Ev a c ρ e (.tuple ds)) : EvI a c ρ e ds := fun s E S T =>
  h.then S T fun v s1 q1 r1 S1 T1 => ⟨q1, fun E => by
    obtain ⟨l, vs, rfl, hl, hx', rl⟩ := r1.tuple_inv
    have hlt : l < s1.heap.objs.size := by obtain ⟨_, e, _⟩ := hl; exact Heap.lt_size e
    have hlv : (vw c.X s1.heap).IsTuple l vs := by obtain ⟨o, e, z⟩ := hl; exact ⟨o, hideAll_get _ e hx', z⟩
    exact wpAny_pyIter_tuple hl ⟨s1.heap.objs.size, (fun i h => h.IsTupleIter s1.heap.objs.size l i), rfl, fun b o e => Heap.get?_push_of_some _ e, none_at _, ⟨_, Heap.get?_push_size _ rfl, rfl, rfl⟩, (by rw [h0]; exact Iter.tuple (c.h0 h0) hlv rl (Nat.ne_of_lt hlt)), rfl, rfl⟩⟩
theorem EvI.then {e : Expr} {ds : List PyData} {s : Shared} {E : Value → Shared → Prop} {Q : Value → Shared → Prop} (h : EvI a c ρ e ds) (S : St a c s.heap ρ) (T : 0 < s.toks)
    (k : ∀ x s1, Kp c.fs s s1 → St a c s1.heap ρ → 0 < s1.toks → (∀ (Q : Value → Shared → Prop) (E : Value → Shared → Prop),
      (∀ it s2 IS, 0 < s2.toks → s1.heap.StaysIn s2.heap → s1.heap.get? it = none → IS 0 s2.heap → Iter a c.A c.hq (vw c.X s1.heap) it ds IS → s2.gens = s1.gens → s2.os = s1.os → Q (.ref it) s2) → wpAny a.M c.A (pyIter x) Q E s1) → Q x s1) :
    wpAny a.M c.A (eval e c.env) Q E s :=
  wpAny_mono (wpAny_toks_of (n := 1) T (h s E S T)) (fun x s1 ⟨t, q, r⟩ => k x s1 q (S.keep q.heap) t fun Q E hQ =>
    wpAny_mono (wpAny_toks_of (n := 1) t (r E)) (fun v s2 ⟨t2, it, IS, e1, e2, e3, e4, e5, e6, e7⟩ => by subst e1; exact hQ it s2 IS t2 e2 e3 e4 e5 e6 e7) fun _ _ x => x.2) fun _ _ x => x.2

/-- storing into a target -/
def As (a : Amb) {sc : Scope} (c : Cx sc) (t : Expr) (d : PyData) (bs : Vars) : Prop :=
  ∀ (ρ : Vars) (s : Shared) (E : Value → Shared → Prop) (v : Value), St a c s.heap ρ → 0 < s.toks → Rd (vw c.X s.heap) v d → wpAny a.M c.A (assign t c.env v) (fun _ s' => KpX c s s' ∧ St a c s'.heap (bs ++ ρ)) E s
theorem As.nameL {x : Str} {p : Pos} {d : PyData} (hx : sc.names.lookup x = some .local) : As a c (.Name x p) d [(x, d)] := fun ρ s E v S T r =>
  wpAny_assign_Name (store_local hx S r fun s' q S' => ⟨q, S'⟩)
/-- .. where names of the frame's own dict alone are stored -/
def AsL (a : Amb) {sc : Scope} (c : Cx sc) (t : Expr) (d : PyData) (bs : Vars) : Prop :=
  ∀ (ρ : Vars) (s : Shared) (E : Value → Shared → Prop) (v : Value), St a c s.heap ρ → 0 < s.toks → Rd (vw c.X s.heap) v d → wpAny a.M c.A (assign t c.env v) (fun _ s' => KpL c s s' ∧ St a c s'.heap (bs ++ ρ)) E s
theorem AsL.name {x : Str} {p : Pos} {d : PyData} (hx : sc.names.lookup x = some .local) : AsL a c (.Name x p) d [(x, d)] := fun ρ s E v S T r =>
  wpAny_assign_Name (store_localL hx S r fun s' q S' => ⟨q, S'⟩)
theorem extBut_keep {fs : List Addr} {h h' : Heap} (k : Heap.ExtBut h.objs.size h h') : Keep fs h h' := .ofStays fun b o e => k b o (Nat.ne_of_lt (Heap.lt_size e)) e
theorem AsL.pair (h0 : c.hq = none) {x y : Str} {p q pos : Pos} {k : Nat} {d e : PyData} (hx : sc.names.lookup x = some .local) (hy : sc.names.lookup y = some .local) : AsL a c (.Tuple [.Name x p, .Name y q] k pos) (.tuple [d, e]) [(y, e), (x, d)] := fun ρ s E v S T r => by
  obtain ⟨t, vs, rfl, ht, hx', rl⟩ := r.tuple_inv
  have n : vs.size = 2 := by simpa using rl.length
  refine wpAny_assign_Tuple (c.h0 h0) ht (by rw [n]; rfl) (by rfl) fun h' hk => ?_
  have kk : Keep c.fs s.heap h' := extBut_keep hk
  obtain ⟨v1, ws, e1, r1, r2⟩ := rl.cons_inv
  obtain ⟨v2, ws', e2, r3, r4⟩ := r2.cons_inv
  have e3 := r4.nil_inv
  subst e3 e2
  rw [e1]
  show wpAny a.M c.A (do holding [v2] (assign (.Name x p) c.env v1); assignInOrder [assign (.Name y q) c.env] [v2]) _ _ _
  refine wpAny_bind (wpAny_holding (wpAny_assign_Name (store_localL hx (s := { s with heap := h' }) (S.keep kk) (r1.of kk.seqv) fun s1 q1 S1 => ?_)))
  show wpAny a.M c.A (do holding [] (assign (.Name y q) c.env v2); assignInOrder [] []) _ _ _
  have sk : SeqKeep (vw c.X h') (vw c.X s1.heap) := .vw fun b o ws m eb _ db => by
    obtain ⟨ml, ⟨oL, es, ep, hL, hLd, _⟩, _⟩ := (S.keep kk).loc
    have nb : b ≠ c.env.locals := fun z => by
      have hL' : h'.get? c.env.locals = some oL := hL
      rw [z, hL'] at eb; cases eb; rw [hLd] at db; cases db
    obtain ⟨z1, z2⟩ := q1.heap b o eb nb
    by_cases mb : b ∈ c.fs
    · exact z2 mb fun us zz => by rw [db] at zz; cases zz
    · exact ⟨o.slots, z1 mb⟩
  refine wpAny_bind (wpAny_holding (wpAny_assign_Name (store_localL hy S1 ((r3.of kk.seqv).of sk) fun s2 q2 S2 => ?_)))
  have z : KpL c s { s with heap := h' } := Kp.l ⟨kk, rfl, rfl⟩
  exact wpAny_pure ⟨(z.trans q1).trans q2, S2⟩
theorem As.nameC {x : Str} {p : Pos} {d : PyData} (hx : sc.names.lookup x = some .cell) : As a c (.Name x p) d [(x, d)] := fun ρ s E v S T r =>
  wpAny_assign_Name (store_cell hx S r fun s' q S' => ⟨q, S'⟩)
theorem St.sub {h : Heap} {ρ ρ' : Vars} (S : St a c h ρ) (k : ∀ y d, ρ'.lookup y = some d → ρ.lookup y = some d) : St a c h ρ' :=
  ⟨S.ok, S.new, let ⟨ml, hn, hv⟩ := S.loc; ⟨ml, hn, fun x d hx e => hv x d hx (k x d e)⟩, fun x hx => let ⟨ad, v, e1, e0, e2, r⟩ := S.cel x hx; ⟨ad, v, e1, e0, e2, fun d e => r d (k x d e)⟩, S.hld⟩
theorem sub_one {x : Str} {d : PyData} {ρ : Vars} (hx : ρ.lookup x = none) : ∀ y d', ρ.lookup y = some d' → ((x, d) :: ρ).lookup y = some d' := fun y d' e => by
  rw [lookup_cons_ne fun q => by rw [q, hx] at e; cases e]; exact e
end
end Mine

end
section
open PySem PySem.W PyProof.Rows PySem.Calls PySem.Spec
set_option Elab.async false
set_option linter.unusedVariables false
namespace Mine

/-! ## comprehensions -/
def relabelS (scope sc : Scope) : Scope := { scope with names := scope.names.map fun (n, k) => if (k == .free && sc.kind == .function && sc.names.lookup n == some .cell) then (n, .cell) else (n, k) }
theorem relabel_eq {sc : Scope} (c : Cx sc) (scope : Scope) : relabel scope c.env = relabelS scope sc := by
  unfold relabel relabelS Env.kindOf
  rw [c.hsc]

def clo (env : Env) : List (Str × NameKind) → List (Str × Addr) → List (Str × Addr)
  | [], acc => acc
  | (n, k) :: r, acc => if k == .free then clo env r ((n, (env.cells.lookup n).getD 0) :: acc) else clo env r acc
theorem closure_eq {env : Env} : ∀ (names : List (Str × NameKind)) (acc : List (Str × Addr)), (∀ x ∈ names, x.2 = .free → (env.cells.lookup x.1).isSome = true) →
    (forIn names acc (fun x cs => match x with | (name, kind) => if kind == .free then do let a ← cellOf env name; pure (ForInStep.yield ((name, a) :: cs)) else pure (ForInStep.yield cs)) : Sem (List (Str × Addr))) = pure (clo env names acc)
  | [], acc, _ => rfl
  | (n, k) :: r, acc, h => by
    rw [List.forIn_cons]
    have ih := fun acc => closure_eq (env := env) r acc fun x hx => h x (List.mem_cons_of_mem _ hx)
    cases hk : k == NameKind.free with
    | true =>
      have hk' : k = .free := by simpa using hk
      obtain ⟨ad, e⟩ := Option.isSome_iff_exists.mp (h (n, k) (List.mem_cons_self ..) hk')
      have e2 : cellOf env n = pure ad := by unfold cellOf; rw [show env.cells.lookup n = some ad from e]
      simp only [hk, if_true, e2]
      rw [clo, hk, if_pos rfl, show env.cells.lookup n = some ad from e]
      exact ih _
    | false =>
      simp only [hk, Bool.false_eq_true, if_false]
      rw [clo, hk, if_neg Bool.false_ne_true]
      exact ih _
theorem closureFor_eq {scope : Scope} {env : Env} (h : ∀ x ∈ scope.names, x.2 = .free → (env.cells.lookup x.1).isSome = true) : closureFor scope env = pure (clo env scope.names []) := by
  have e : closureFor scope env = ((forIn scope.names [] (fun x cs => match x with | (name, kind) => if kind == .free then do let a ← cellOf env name; pure (ForInStep.yield ((name, a) :: cs)) else pure (ForInStep.yield cs)) : Sem (List (Str × Addr))) >>= fun s => pure s) := rfl
  rw [e, closure_eq (env := env) scope.names [] h]
  rfl
theorem clo_lookup {env : Env} {x : Str} {ad : Addr} : ∀ (names : List (Str × NameKind)) (acc : List (Str × Addr)), (∀ y ∈ names, y.2 = .free → (env.cells.lookup y.1).isSome = true) → (∀ y b, acc.lookup y = some b → env.cells.lookup y = some b) →
    (clo env names acc).lookup x = some ad → env.cells.lookup x = some ad
  | [], acc, _, ha, e => ha x ad e
  | (n, k) :: r, acc, h, ha, e => by
    rw [clo] at e
    have h' := fun y hy => h y (List.mem_cons_of_mem (n, k) hy)
    by_cases hk : (k == NameKind.free) = true
    · rw [if_pos hk] at e
      refine clo_lookup r _ h' (fun y b q => ?_) e
      have hk' : k = .free := by simpa using hk
      obtain ⟨a', e'⟩ := Option.isSome_iff_exists.mp (h (n, k) (List.mem_cons_self ..) hk')
      rw [List.lookup_cons] at q
      cases z : y == n with
      | true =>
        have z' : y = n := by simpa using z
        rw [z] at q
        simp only [show env.cells.lookup n = some a' from e', Option.getD_some, Option.some.injEq] at q
        rw [z', ← q]; exact e'
      | false => rw [z] at q; exact ha y b q
    · rw [if_neg hk] at e
      exact clo_lookup r acc h' ha e
theorem clo_some {env : Env} {x : Str} : ∀ (names : List (Str × NameKind)) (acc : List (Str × Addr)), ((x, NameKind.free) ∈ names ∨ (acc.lookup x).isSome = true) → ((clo env names acc).lookup x).isSome = true
  | [], acc, h => h.elim (fun m => nomatch m) id
  | (n, k) :: r, acc, h => by
    rw [clo]
    by_cases hk : (k == NameKind.free) = true
    · rw [if_pos hk]
      refine clo_some r _ ?_
      rcases h with m | s
      · rcases List.mem_cons.mp m with e | m
        · cases e; exact .inr (by rw [List.lookup_cons, beq_self_eq_true]; rfl)
        · exact .inl m
      · refine .inr ?_
        rw [List.lookup_cons]
        cases x == n
        · exact s
        · rfl
    · rw [if_neg hk]
      refine clo_some r acc ?_
      rcases h with m | s
      · rcases List.mem_cons.mp m with e | m
        · cases e; exact absurd rfl hk
        · exact .inl m
      · exact .inr s
theorem relabel_cell {scope sc : Scope} (hc : ∀ x ∈ scope.names, x.2 ≠ .cell) {y : Str} (e : (relabelS scope sc).names.lookup y = some .cell) : (y, NameKind.free) ∈ scope.names ∧ sc.names.lookup y = some .cell := by
  have m := mem_of_lookup e
  obtain ⟨⟨n, k⟩, hm, he⟩ := List.mem_map.mp m
  dsimp only at he
  split at he
  · rename_i q
    cases he
    obtain ⟨q1, q2⟩ := Bool.and_eq_true_iff.mp q
    obtain ⟨q3, _⟩ := Bool.and_eq_true_iff.mp q1
    have : k = .free := by simpa using q3
    subst this
    exact ⟨hm, by simpa using q2⟩
  · cases he
    exact absurd rfl (hc _ hm)

section
variable {a : Amb} {sc : Scope} {c : Cx sc} {ρ : Vars}

/-- the comprehension's own frame -/
abbrev compCx (c : Cx sc) (scope : Scope) (C D : Addr) (hk : scope.kind = .function) (hf : ∀ x ∈ scope.names, x.2 = .free → (c.env.cells.lookup x.1).isSome = true) : Cx (relabelS scope sc) where
  A := c.A
  env := compEnvC scope (clo c.env scope.names []) C c.env
  fe := c.fe
  fo := c.fo
  n := c.n
  X := D :: c.X
  hfr := c.hfr
  hgen := c.hgen
  hco := c.hco
  hfb := c.hfb
  hfg := c.hfg
  hff := c.hff
  hq := c.hq
  hh := c.hh
  hd := c.hd
  hu := c.hu
  hsc := relabel_eq c scope
  hk := hk
  hinj := fun x y ad e1 e2 => c.hinj x y ad (clo_lookup _ _ hf (fun _ _ q => by simp at q) e1) (clo_lookup _ _ hf (fun _ _ q => by simp at q) e2)
  hg := c.hg
  hb := c.hb

/-- what a comprehension sees of the frame around it -/
def capt (scope sc : Scope) (ρ : Vars) : Vars := ρ.filter fun q => (relabelS scope sc).names.lookup q.1 == some .cell
theorem lookup_filter {p : Str → Bool} {y : Str} {d : PyData} : ∀ {ρ : Vars}, (ρ.filter fun q => p q.1).lookup y = some d → ρ.lookup y = some d ∧ p y = true
  | [], e => by simp at e
  | (x, d') :: r, e => by
    rw [List.filter_cons] at e
    by_cases h : p x = true
    · rw [if_pos h, List.lookup_cons] at e
      rw [List.lookup_cons]
      cases q : y == x with
      | true =>
        rw [q] at e
        have z : y = x := by simpa using q
        exact ⟨e, by rw [z]; exact h⟩
      | false => rw [q] at e; exact lookup_filter e
    · rw [if_neg h] at e
      obtain ⟨e1, e2⟩ := lookup_filter e
      have ne : y ≠ x := fun z => h (by rw [← z]; exact e2)
      exact ⟨by rw [lookup_cons_ne ne]; exact e1, e2⟩

theorem seq_new {fs X : List Addr} {g h : Heap} {D : Addr} (k : Keep fs g h) (hD : g.get? D = none) : SeqKeep (vw X g) (vw (D :: X) h) := fun b o vs n e d => by
  have nb : b ∉ X := fun m => by rw [hideAll_none X m] at e; cases e
  have e' := of_hideAll X e
  obtain ⟨sl, q⟩ := k.seq b o vs n e' d
  refine ⟨sl, hideAll_get _ q fun m => ?_⟩
  rcases List.mem_cons.mp m with z | z
  · rw [z, hD] at e'; cases e'
  · exact nb z

theorem compSt {scope : Scope} {C D : Addr} {hk : scope.kind = .function} {hf : ∀ x ∈ scope.names, x.2 = .free → (c.env.cells.lookup x.1).isSome = true} {s1 s' : Shared} {m : Str → Option Value} {oD : Obj}
    (hc : ∀ x ∈ scope.names, x.2 ≠ .cell) (S : St a c s1.heap ρ) (k : Keep c.fs s1.heap s'.heap) (hn : s'.heap.Ns C m) (hD : s1.heap.get? D = none) (hC : s1.heap.get? C = none) (hD' : s'.heap.get? D = some oD) :
    St a (compCx c scope C D hk hf) s'.heap (capt scope sc ρ) := by
  have S' := S.keep k
  refine ⟨⟨S'.base, S'.fr, fun x hx => ?_⟩, ?_, ⟨m, hn, fun x d hx e => ?_⟩, fun x hx => ?_, fun e q => S'.hld e q⟩
  · rcases List.mem_cons.mp hx with q | q
    · rw [q]; exact ⟨_, hD'⟩
    · exact S'.ok.xs x q
  · show a.H.get? C = none
    cases q : a.H.get? C with
    | none => rfl
    | some o => have := S.base C o q; rw [hC] at this; cases this
  · obtain ⟨_, e2⟩ := lookup_filter (p := fun n => (relabelS scope sc).names.lookup n == some .cell) e
    rw [hx] at e2; cases e2
  · obtain ⟨m1, m2⟩ := relabel_cell hc hx
    obtain ⟨ad, v, e1, e0, e2, e3⟩ := S.cel x m2
    have hs := clo_some (env := c.env) scope.names [] (.inl m1)
    obtain ⟨ad', e4⟩ := Option.isSome_iff_exists.mp hs
    have e5 := clo_lookup _ _ hf (fun _ _ q => by simp at q) e4
    rw [e1] at e5; cases e5
    refine ⟨ad, v, e4, e0, isCell_up k.up e2, fun d q => ?_⟩
    obtain ⟨q1, _⟩ := lookup_filter (p := fun n => (relabelS scope sc).names.lookup n == some .cell) q
    obtain ⟨u, z1, z2⟩ := e3 d q1
    exact ⟨u, z1, z2.of (seq_new k hD)⟩

/-- the tests of a comprehension -/
def TsAll (a : Amb) {sc : Scope} (c : Cx sc) (ρ : Vars) (ifs : List Expr) (b : Bool) : Prop :=
  ∀ (s : Shared) (E : Value → Shared → Prop), St a c s.heap ρ → 0 < s.toks →
    wpAny a.M c.A (forIn ifs true fun e r => if r = true then do let ok ← isTrue e c.env (eval e c.env); pure (ForInStep.yield ok) else pure (ForInStep.yield r)) (fun v s' => Kp c.fs s s' ∧ v = b) E s
theorem TsAll.nil : TsAll a c ρ [] true := fun s E S T => wpAny_tests_nil ⟨.refl s, rfl⟩
theorem TsAll.one {e : Expr} {b : Bool} (h : Ts a c ρ e b) : TsAll a c ρ [e] b := fun s E S T => wpAny_tests_one (h s E S T)

theorem Keep.ext {fs : List Addr} {g h h' : Heap} {it : Addr} (k : Keep fs g h) (e : ∀ b o, b ≠ it → h.get? b = some o → h'.get? b = some o) (n : g.get? it = none) : Keep fs g h' := fun b o q => by
  have ne : b ≠ it := fun z => by rw [z, n] at q; cases q
  refine ⟨fun m => e b o ne ((k b o q).1 m), fun m nf => ?_⟩
  obtain ⟨sl, z⟩ := (k b o q).2 m nf
  exact ⟨sl, e b _ ne z⟩
theorem KpL.from {g : Heap} {s s' : Shared} (k : Keep c.fs g s.heap) (l : KpL c s s') (n : g.get? c.env.locals = none) : Keep c.fs g s'.heap := fun b o q => by
  have ne : b ≠ c.env.locals := fun z => by rw [z, n] at q; cases q
  refine ⟨fun m => (l.heap b o ((k b o q).1 m) ne).1 m, fun m nf => ?_⟩
  obtain ⟨sl, z⟩ := (k b o q).2 m nf
  obtain ⟨sl', z'⟩ := (l.heap b _ z ne).2 m nf
  exact ⟨sl', z'⟩
theorem KpL.exact {s s' : Shared} (l : KpL c s s') (f : FrOk a.H s.heap c.frs) {b : Addr} {o : Obj} (e : s.heap.get? b = some o) (ne : b ≠ c.env.locals) (nd : ∀ es n, o.data ≠ .dict es n) : s'.heap.get? b = some o :=
  (l.heap b o e ne).1 fun m => by
    obtain ⟨o', es, n, e', d⟩ := f.dd b m
    rw [e] at e'; cases e'; exact nd es n d
theorem KpL.seqv {s s' : Shared} {X : List Addr} (l : KpL c s s') {oL : Obj} {es : Array DictEntry} {n : Nat} (hL : s.heap.get? c.env.locals = some oL) (hd : oL.data = .dict es n) : SeqKeep (vw X s.heap) (vw X s'.heap) := .vw fun b o ws m eb _ db => by
  have nb : b ≠ c.env.locals := fun z => by rw [z, hL] at eb; cases eb; rw [hd] at db; cases db
  obtain ⟨z1, z2⟩ := l.heap b o eb nb
  by_cases mb : b ∈ c.fs
  · exact z2 mb fun us zz => by rw [db] at zz; cases zz
  · exact ⟨o.slots, z1 mb⟩
theorem Keep.gk {g h : Heap} (k : Keep c.fs g h) (f : FrOk a.H g c.frs) : GK g h := fun b o vs n e d => k.exact f e fun es m z => by rw [d] at z; cases z

theorem GK.vw {X : List Addr} {g h : Heap} (k : GK g h) : GK (Mine.vw X g) h := fun b o vs n e d => k b o vs n (of_hideAll X e) d

/-- the turns of a comprehension -/
theorem comp_loop {elt iter tg : Expr} {ifs : List Expr} {scope : Scope} {pos : Pos} {C D it : Addr} {IS : Nat → Heap → Prop} {ds : List PyData} {p : PyData → Bool} {f : PyData → PyData} {bs : PyData → Vars} {s1 s : Shared}
    {R : Result → Shared → Prop} {m : Str → Option Value} (hk : scope.kind = .function) (hf : ∀ x ∈ scope.names, x.2 = .free → (c.env.cells.lookup x.1).isSome = true) (hc : ∀ x ∈ scope.names, x.2 ≠ .cell)
    (S : St a c s1.heap ρ) (I₀ : Iter a c.A c.hq (vw c.X s1.heap) it ds IS) (hD : s1.heap.get? D = none) (hC : s1.heap.get? C = none) (hit : s1.heap.get? it = none) (hDC : D ≠ C) (hDit : D ≠ it) (hCit : C ≠ it) (hsz : ds.length ≤ sizeLine)
    (hin : ∀ c' : Cx (relabelS scope sc), c'.n = c.n → c'.hq = c.hq → ∀ d ∈ ds, AsL a c' tg d (bs d) ∧ TsAll a c' (bs d ++ capt scope sc ρ) ifs (p d) ∧ (p d = true → Ev a c' (bs d ++ capt scope sc ρ) elt (f d)))
    (k : Kp c.fs s1 s) (T : 0 < s.toks) (st : IS 0 s.heap) (hn : s.heap.Ns C m) (hl : s.heap.IsList D #[])
    (hR : ∀ s' ys m', Kp c.fs s1 s' → 0 < s'.toks → s'.heap.Ns C m' → s'.heap.IsList D ys → RdL (vw (D :: c.X) s'.heap) ys.toList ((ds.filter p).map f) → R (.ok .next) s') :
    codeAny a.M c.A (.compLoop (.ListComp elt [⟨tg, iter, ifs, 0⟩] scope pos) 0 (.ref it) (.ref D) (compEnvC scope (clo c.env scope.names []) C c.env)) R s := by
  refine codeAny_loop rfl (fun j s' => ∃ i ys m', i ≤ ds.length ∧ j = ds.length + 1 - i ∧ Kp c.fs s1 s' ∧ 0 < s'.toks ∧ IS i s'.heap ∧ s'.heap.Ns C m' ∧ s'.heap.IsList D ys ∧ RdL (vw (D :: c.X) s'.heap) ys.toList (((ds.take i).filter p).map f))
    ?_ (ds.length + 1) ⟨0, #[], m, Nat.zero_le _, rfl, k, T, st, hn, hl, by simpa using RdL.nil⟩
  rintro j s2 ⟨i, ys, m', hi, rfl, k2, T2, st2, hn2, hl2, r2⟩
  show wpAny _ c.A ((compTurn (.ListComp elt [⟨tg, iter, ifs, 0⟩] scope pos) 0 (.ref it) (.ref D) (compEnvC scope (clo c.env scope.names []) C c.env)).onRaise (fun x => do noteFrame x (compEnvC scope (clo c.env scope.names []) C c.env); theTreesLotGoes x)) _ _ s2
  refine wpAny_noted ?_
  rw [compTurn_list]
  refine wpAny_bind (wpAny_standAt (wpAny_bind ?_))
  have gk : GK (vw c.X s1.heap) s2.heap := (k2.heap.gk S.fr).vw
  obtain ⟨oD, hoD, hcD, nD, hdD⟩ := id hl2
  obtain ⟨oC, esC, epC, hoC, hdC, _⟩ := id hn2
  by_cases hlt : i < ds.length
  · obtain ⟨d, hd⟩ : ∃ d, ds[i]? = some d := ⟨ds[i], by simp [hlt]⟩
    have hmem : d ∈ ds := List.mem_of_getElem? hd
    refine I₀.next' hd st2 gk T2 fun v s3 T3 rv st3 ext3 g3 o3 => ?_
    dsimp only
    refine wpAny_bind (I₀.own (i + 1) _ _ _ tg v st3 ?_)
    have k3 : Keep c.fs s1.heap s3.heap := k2.heap.ext ext3 hit
    have hn3 : s3.heap.Ns C m' := hn2.at' fun o e => ext3 C o hCit e
    have hD3 := ext3 D oD hDit hoD
    have hC3 := ext3 C oC hCit hoC
    obtain ⟨oi, vi, hoi2, hdi2⟩ := I₀.fld _ _ st2
    obtain ⟨oi, vi, hoi, hdi⟩ := I₀.fld _ _ st3
    let c' : Cx (relabelS scope sc) := compCx c scope C D hk hf
    have S3 : St a c' s3.heap (capt scope sc ρ) := compSt hc S k3 hn3 hD hC hD3
    obtain ⟨hAs, hTs, hEl⟩ := hin c' rfl rfl d hmem
    have rv3 : Rd (vw c'.X s3.heap) v d := rv.of (seq_new k3 hD)
    have r3 : RdL (vw (D :: c.X) s3.heap) ys.toList (((ds.take i).filter p).map f) := r2.of (.vw fun b o us n e _ db => ⟨o.slots, ext3 b o (fun z => by rw [z, hoi2] at e; cases e; rw [hdi2] at db; cases db) e⟩)
    refine wpAny_bind (wpAny_mono (wpAny_toks_of (n := 1) T3 (hAs _ s3 _ v S3 T3 rv3)) (fun _ s4 ⟨T4, q4, S4⟩ => ?_) fun _ _ x => x.2)
    have k4 : Keep c.fs s1.heap s4.heap := KpL.from (c := c') k3 q4 hC
    have st4 : IS (i + 1) s4.heap := I₀.loc _ _ _ st3 fun o e => KpL.exact (c := c') q4 S3.fr e (Ne.symm hCit) fun es n z => by rw [hoi] at e; cases e; rw [hdi] at z; cases z
    have hD4 : s4.heap.get? D = some oD := KpL.exact (c := c') q4 S3.fr hD3 hDC fun es n z => by rw [hdD] at z; cases z
    obtain ⟨ml4, hn4, _⟩ := S4.loc
    have r4 := r3.of (KpL.seqv (c := c') (X := D :: c.X) q4 hC3 hdC)
    refine wpAny_bind (wpAny_mono (wpAny_toks_of (n := 1) T4 (hTs s4 _ S4 T4)) (fun ok s5 ⟨T5, q5, e5⟩ => ?_) fun _ _ x => x.2)
    subst e5
    have S5 := S4.keep q5.heap
    have k5 : Keep c.fs s1.heap s5.heap := k4.trans q5.heap
    obtain ⟨oi4, vi4, hoi4, hdi4⟩ := I₀.fld _ _ st4
    have st5 : IS (i + 1) s5.heap := I₀.loc _ _ _ st4 fun o e => q5.heap.exact S4.fr e fun es n z => by rw [hoi4] at e; cases e; rw [hdi4] at z; cases z
    have hD5 : s5.heap.get? D = some oD := q5.heap.exact S4.fr hD4 fun es n z => by rw [hdD] at z; cases z
    have r5 := r4.of (q5.heap.seqv (X := D :: c.X))
    have hn5 := q5.heap.up.ns hn4
    have take_eq : ds.take (i + 1) = ds.take i ++ [d] := by rw [List.take_succ, hd]; rfl
    have gen5 : s5.gens = s1.gens := q5.gens.trans (q4.gens.trans (g3.trans k2.gens))
    have os5 : s5.os = s1.os := q5.os.trans (q4.os.trans (o3.trans k2.os))
    cases hp : p d with
    | false =>
      refine wpAny_pure ⟨rfl, ds.length + 1 - (i + 1), by omega, i + 1, ys, _, hlt, rfl, ⟨k5, gen5, os5⟩, T5, st5, hn5, ⟨oD, hD5, hcD, nD, hdD⟩, ?_⟩
      rw [take_eq, List.filter_append, List.filter_cons_of_neg (by rw [hp]; decide), List.filter_nil, List.append_nil]
      exact r5
    | true =>
      refine wpAny_bind (wpAny_bind ((hEl hp).then (c := c') S5 T5 fun y s6 q6 r6 S6 T6 => ?_))
      have k6 : Keep c.fs s1.heap s6.heap := k5.trans q6.heap
      obtain ⟨oi5, vi5, hoi5, hdi5⟩ := I₀.fld _ _ st5
      have st6 : IS (i + 1) s6.heap := I₀.loc _ _ _ st5 fun o e => q6.heap.exact S5.fr e fun es n z => by rw [hoi5] at e; cases e; rw [hdi5] at z; cases z
      have hD6 : s6.heap.get? D = some oD := q6.heap.exact S5.fr hD5 fun es n z => by rw [hdD] at z; cases z
      have rr := r5.of (q6.heap.seqv (X := D :: c.X))
      have hn6 := q6.heap.up.ns hn5
      have hys : ys.size ≤ sizeLine := by
        have e1 : ys.toList.length = (((ds.take i).filter p).map f).length := rr.length
        have e2 : ((ds.take i).filter p).length ≤ (ds.take i).length := List.length_filter_le _ _
        simp only [List.length_map, Array.length_toList, List.length_take] at e1 e2
        omega
      refine wpAny_bind (wpAny_mono (wpAny_toks_of (n := 1) T6 (wpAny_list_append (Q := fun v s' => ∃ h', s' = { s6 with heap := h' } ∧ h'.IsList D (ys.push y) ∧ Heap.SameBut D s6.heap h') (E := fun _ _ => False) ⟨oD, hD6, hcD, nD, hdD⟩ (fun h' hl' hs' => ⟨h', rfl, hl', hs'⟩) hys)) (fun _ s7 ⟨T7, h7, e7, hl7, hs7⟩ => ?_) fun _ _ x => x.2.elim)
      subst e7
      have ext7 : ∀ b o, b ≠ D → s6.heap.get? b = some o → h7.get? b = some o := fun b o nb e => (hs7.2 b nb).trans e
      obtain ⟨oi6, vi6, hoi6, hdi6⟩ := I₀.fld _ _ st6
      have sk7 : SeqKeep (vw (D :: c.X) s6.heap) (vw (D :: c.X) h7) := .vw fun b o us n e nb db => ⟨o.slots, ext7 b o (fun z => nb (by rw [z]; exact List.mem_cons_self ..)) e⟩
      refine wpAny_pure (wpAny_pure ⟨rfl, ds.length + 1 - (i + 1), by omega, i + 1, ys.push y, _, hlt, rfl, ⟨k6.ext ext7 hD, q6.gens.trans gen5, q6.os.trans os5⟩, T7, I₀.loc _ _ _ st6 fun o e => ext7 it o (Ne.symm hDit) e,
        hn6.at' fun o e => ext7 C o (Ne.symm hDC) e, hl7, ?_⟩)
      rw [take_eq, List.filter_append, List.filter_cons_of_pos hp, List.filter_nil, List.map_append, Array.toList_push]
      exact (rr.of sk7).append (.cons (r6.of sk7) .nil)
  · have hie : i = ds.length := by omega
    subst hie
    refine I₀.done' st2 gk (fun e q => (S.hld e q).keep k2.heap S.fr) T2 fun s3 T3 ext3 g3 o3 => wpAny_pure ?_
    obtain ⟨oi2, vi2, hoi2, hdi2⟩ := I₀.fld _ _ st2
    refine hR _ ys m' ⟨k2.heap.ext ext3 hit, g3.trans k2.gens, o3.trans k2.os⟩ T3 (hn2.at' fun o e => ext3 C o hCit e) ⟨oD, ext3 D oD hDit hoD, hcD, nD, hdD⟩ ?_
    rw [List.take_length] at r2
    exact r2.of (.vw fun b o us n e _ db => ⟨o.slots, ext3 b o (fun z => by rw [z, hoi2] at e; cases e; rw [hdi2] at db; cases db) e⟩)
end
end Mine

end
section
open PySem PySem.W PyProof.Rows PySem.Calls PySem.Spec
set_option Elab.async false
set_option linter.unusedVariables false
namespace Mine
section
variable {a : Amb} {sc : Scope} {c : Cx sc} {ρ : Vars}

theorem St.ext {h h' : Heap} {C : Addr} (S : St a c h ρ) (k : ∀ b o, b ≠ C → h.get? b = some o → h'.get? b = some o) (hH : a.H.get? C = none) (hfs : C ∉ c.fs) (hX : C ∉ c.X) (hloc : C ≠ c.env.locals)
    (hdat : ∀ o, h.get? C = some o → (∀ v, o.data ≠ .cell v) ∧ (∀ vs n, o.data ≠ .seq vs n) ∧ ∀ vs, o.data ≠ .fields vs) : St a c h' ρ := by
  have sk : SeqKeep (vw c.X h) (vw c.X h') := .vw fun b o vs n e _ d => ⟨o.slots, k b o (fun z => by subst z; exact (hdat o e).2.1 vs n d) e⟩
  have frk : ∀ {l : List Env}, (∀ b ∈ frAddrs l, b ≠ C) → h.FunFrames a.H l → h'.FunFrames a.H l := by
    intro l
    induction l with
    | nil => intro _ _; trivial
    | cons e l ih =>
      rintro hne ⟨h1, ⟨L, o, hf, hn, ho, hd⟩, hr⟩
      refine ⟨h1, ⟨L, o, hf, hn, k L o (hne L ?_) ho, hd⟩, ih (fun b hb => hne b ?_) hr⟩
      · unfold frAddrs; rw [List.filterMap_cons, hf]; exact List.mem_cons_self ..
      · unfold frAddrs; rw [List.filterMap_cons, hf]; exact List.mem_cons_of_mem _ hb
  refine ⟨⟨fun b o e => k b o (fun z => by rw [z, hH] at e; cases e) (S.base b o e), ⟨frk (fun b hb z => hfs (by rw [← z]; exact hb)) S.fr.ff, fun b hb => ?_⟩, fun x hx => ?_⟩, S.new, ?_, fun x hx => ?_, fun e q => ?_⟩
  · obtain ⟨o, es, n, e, d⟩ := S.fr.dd b hb
    exact ⟨o, es, n, k b o (fun z => hfs (by rw [← z]; exact hb)) e, d⟩
  · obtain ⟨o, e⟩ := S.ok.xs x hx
    exact ⟨o, k x o (fun z => hX (by rw [← z]; exact hx)) e⟩
  · obtain ⟨ml, hn, hv⟩ := S.loc
    exact ⟨ml, hn.at' fun o e => k _ o (Ne.symm hloc) e, fun x d hx e => let ⟨v, e1, r⟩ := hv x d hx e; ⟨v, e1, r.of sk⟩⟩
  · obtain ⟨ad, v, e1, e0, ⟨o, e2, e2'⟩, e3⟩ := S.cel x hx
    exact ⟨ad, v, e1, e0, ⟨o, k ad o (fun z => by subst z; exact (hdat o e2).1 v e2') e2, e2'⟩, fun d q => let ⟨u, z1, z2⟩ := e3 d q; ⟨u, z1, z2.of sk⟩⟩
  · obtain ⟨o, vs, e1, e2, e3⟩ := S.hld e q
    exact ⟨o, vs, k e o (fun z => by subst z; exact (hdat o e1).2.2 vs e2) e1, e2, e3⟩

/-- the whole run of a comprehension, up to what is done with it -/
theorem comp_run {elt iter tg : Expr} {ifs : List Expr} {scope : Scope} {pos pos' : Pos} {ds : List PyData} {p : PyData → Bool} {f : PyData → PyData} {bs : PyData → Vars} {s : Shared}
    {use : Option (Value → Sem Unit)} {Q : Value → Shared → Prop} {E : Value → Shared → Prop}
    (hi : EvI a c ρ iter ds) (hk : scope.kind = .function) (hc : ∀ x ∈ scope.names, x.2 ≠ .cell) (hfree : ∀ x ∈ scope.names, x.2 = .free → sc.names.lookup x.1 = some .cell)
    (hnames : ∀ x ∈ scope.names, x.2 = .local → scope.names.lookup x.1 = some .local) (hs : ∀ x, foldedSetIterable iter c.env x = pure x) (hsz : ds.length ≤ sizeLine)
    (hin : ∀ c' : Cx (relabelS scope sc), c'.n = c.n → c'.hq = c.hq → ∀ d ∈ ds, AsL a c' tg d (bs d) ∧ TsAll a c' (bs d ++ capt scope sc ρ) ifs (p d) ∧ (p d = true → Ev a c' (bs d ++ capt scope sc ρ) elt (f d)))
    (S : St a c s.heap ρ) (T : 0 < s.toks)
    (fin : ∀ s' C D m' oC, Kp c.fs s s' → 0 < s'.toks → St a c s'.heap ρ → s.heap.get? C = none → s'.heap.get? C = some oC → s'.heap.Ns C m' → Rd (vw c.X s'.heap) (.ref D) (.list ((ds.filter p).map f)) → compPost a.M c.A E use Q (.ref D) C (.ok .next) s') :
    wpAny a.M c.A (comprehension (.ListComp elt [⟨tg, iter, ifs, 0⟩] scope pos) scope c.env pos' (newList []) false (eval iter c.env) use) Q E s := by
  have hf : ∀ x ∈ scope.names, x.2 = .free → (c.env.cells.lookup x.1).isSome = true := fun x hx e => by
    obtain ⟨ad, v, e1, _⟩ := S.cel x.1 (hfree x hx e)
    rw [e1]; rfl
  refine wpAny_comprehension_free (use := use) (g := ⟨tg, iter, ifs, 0⟩) (gs := []) rfl hs (closureFor_eq hf) hk hnames ?_
  refine hi.then S T fun x s1 q1 S1 T1 hit => hit _ _ fun it s2 IS T2 stay2 nit st2 I₀ g2 o2 => ?_
  refine wpAny_newObj_type (wpAny_newFunctionEnv hc (by intro y hy; simp at hy) (fun h4 hns4 hsb4 => ?_) hk) (Nat.zero_le _)
  dsimp only at hns4 hsb4 ⊢
  have hsz2 : (s2.heap.push { cls := .type "list", data := .seq ([] : List Value).toArray }).objs.size = s2.heap.objs.size + 1 := Heap.size_push ..
  generalize hCC : (s2.heap.push { cls := .type "list", data := .seq ([] : List Value).toArray }).objs.size = C at hns4 hsb4 hsz2 ⊢
  have stay4 : s2.heap.StaysIn h4 := fun b o e => by
    have hb := Heap.lt_size e
    refine hsb4.extBut b o (fun z => ?_) (Heap.get?_push_of_some _ (Heap.get?_push_of_some _ e))
    rw [z, hsz2] at hb; exact Nat.lt_irrefl _ (Nat.lt_of_succ_lt hb)
  have hDC : s2.heap.objs.size ≠ C := by rw [hsz2]; exact Nat.ne_of_lt (Nat.lt_succ_self _)
  have hD1 : s1.heap.get? s2.heap.objs.size = none := by
    cases q : s1.heap.get? s2.heap.objs.size with
    | none => rfl
    | some o => exact absurd (Heap.lt_size (stay2 _ o q)) (Nat.lt_irrefl _)
  have hC1 : s1.heap.get? C = none := by
    cases q : s1.heap.get? C with
    | none => rfl
    | some o => exact absurd (Heap.lt_size (stay2 _ o q)) (fun z => by rw [hsz2] at z; exact Nat.lt_irrefl _ (Nat.lt_of_succ_lt z))
  obtain ⟨oi, vi, hoi, hdi⟩ := I₀.fld _ _ st2
  have hlti : it < s2.heap.objs.size := Heap.lt_size hoi
  have hl4 : h4.IsList s2.heap.objs.size #[] := ⟨_, hsb4.extBut _ _ hDC (Heap.get?_push_of_some _ (Heap.get?_push_size _ rfl)), rfl, _, rfl⟩
  have k4 : Kp c.fs s1 { s2 with heap := h4, toks := s2.toks + ([] : List (Str × Value)).length } := ⟨.ofStays fun b o e => stay4 b o (stay2 b o e), g2, o2⟩
  have loop : codeAny a.M c.A (.compLoop (.ListComp elt [⟨tg, iter, ifs, 0⟩] scope pos) 0 (.ref it) (.ref s2.heap.objs.size) (compEnvC scope (clo c.env scope.names []) C c.env))
      (compPost a.M c.A E use Q (.ref s2.heap.objs.size) C) { s2 with heap := h4, toks := s2.toks + ([] : List (Str × Value)).length } := by
    refine comp_loop hk hf hc S1 I₀ hD1 hC1 nit hDC (Nat.ne_of_gt hlti) (by rw [hsz2]; exact Nat.ne_of_gt (Nat.lt_succ_of_lt hlti)) hsz hin k4 (Nat.lt_of_lt_of_le T2 (Nat.le_add_right _ _)) (I₀.loc _ _ _ st2 fun o e => stay4 it o e) hns4 hl4 fun s' ys m' k5 T5 hn5 hl5 r5 => ?_
    obtain ⟨oC, es, ep, hoC, hdC, _⟩ := id hn5
    refine fin s' _ _ m' oC (q1.trans k5) T5 (S1.keep k5.heap) ?_ hoC hn5 (.list hl5 ?_ (r5.of .less))
    · cases q : s.heap.get? C with
      | none => rfl
      | some o =>
        exfalso
        have e1 : (s1.heap.get? C).isSome = true := by
          by_cases m : C ∈ c.fs
          · obtain ⟨o', es, n, e', d⟩ := S.fr.dd _ m
            rw [q] at e'; cases e'
            obtain ⟨sl, z⟩ := (q1.heap _ o q).2 m fun vs z => by rw [d] at z; cases z
            rw [z]; rfl
          · rw [(q1.heap _ o q).1 m]; rfl
        rw [hC1] at e1; cases e1
    · intro m
      obtain ⟨o, e⟩ := S1.ok.xs _ m
      rw [hD1] at e; cases e
  exact codeAny_compStart_list loop (I₀.self 0 _ _ _ (I₀.loc _ _ _ st2 fun o e => stay4 it o e) loop)

theorem St.new_not {h : Heap} {C : Addr} (S : St a c h ρ) (hC : h.get? C = none) : a.H.get? C = none ∧ C ∉ c.fs ∧ C ∉ c.X ∧ C ≠ c.env.locals := by
  refine ⟨?_, fun m => ?_, fun m => ?_, fun e => ?_⟩
  · cases q : a.H.get? C with
    | none => rfl
    | some o => have := S.base C o q; rw [hC] at this; cases this
  · obtain ⟨o, _, _, e, _⟩ := S.fr.dd C m; rw [hC] at e; cases e
  · obtain ⟨o, e⟩ := S.ok.xs C m; rw [hC] at e; cases e
  · obtain ⟨ml, ⟨o, _, _, e', _⟩, _⟩ := S.loc; rw [← e, hC] at e'; cases e'

/-- a list comprehension -/
theorem Ev.comp {elt iter tg : Expr} {ifs : List Expr} {scope : Scope} {pos : Pos} {ds : List PyData} {p : PyData → Bool} {f : PyData → PyData} {bs : PyData → Vars}
    (hi : EvI a c ρ iter ds) (hk : scope.kind = .function) (hc : ∀ x ∈ scope.names, x.2 ≠ .cell) (hfree : ∀ x ∈ scope.names, x.2 = .free → sc.names.lookup x.1 = some .cell)
    (hnames : ∀ x ∈ scope.names, x.2 = .local → scope.names.lookup x.1 = some .local) (hs : ∀ x, foldedSetIterable iter c.env x = pure x) (hsz : ds.length ≤ sizeLine)
    (hin : ∀ c' : Cx (relabelS scope sc), c'.n = c.n → c'.hq = c.hq → ∀ d ∈ ds, AsL a c' tg d (bs d) ∧ TsAll a c' (bs d ++ capt scope sc ρ) ifs (p d) ∧ (p d = true → Ev a c' (bs d ++ capt scope sc ρ) elt (f d))) :
    Ev a c ρ (.ListComp elt [⟨tg, iter, ifs, 0⟩] scope pos) (.list ((ds.filter p).map f)) := fun s E S T => by
  rw [eval_ListComp]
  refine comp_run (use := Option.none) hi hk hc hfree hnames hs hsz hin S T fun s' C D m' oC q' T' S' hC hoC hn r => ⟨m', hn, fun h' hs' => ?_⟩
  have ext : ∀ b o, b ≠ C → s'.heap.get? b = some o → h'.get? b = some o := fun b o nb e => (hs'.2 b nb).trans e
  obtain ⟨o2, es, ep, e2, d2, _⟩ := hn
  exact ⟨⟨q'.heap.ext ext hC, q'.gens, q'.os⟩, r.of (.vw fun b o vs n e _ d => ⟨o.slots, ext b o (fun z => by rw [z, e2] at e; cases e; rw [d2] at d; cases d) e⟩)⟩
/-- .. stored into a local of the same line -/
theorem Exc.assignComp {elt iter tg : Expr} {ifs : List Expr} {scope : Scope} {pos spos py : Pos} {y : Str} {ds : List PyData} {p : PyData → Bool} {f : PyData → PyData} {bs : PyData → Vars}
    (hy : sc.names.lookup y = some .local) (hsw : swapsWith (.ListComp elt [⟨tg, iter, ifs, 0⟩] scope pos) (some (.Name y py)) spos.line c.env = pure true)
    (hi : EvI a c ρ iter ds) (hk : scope.kind = .function) (hc : ∀ x ∈ scope.names, x.2 ≠ .cell) (hfree : ∀ x ∈ scope.names, x.2 = .free → sc.names.lookup x.1 = some .cell)
    (hnames : ∀ x ∈ scope.names, x.2 = .local → scope.names.lookup x.1 = some .local) (hs : ∀ x, foldedSetIterable iter c.env x = pure x) (hsz : ds.length ≤ sizeLine)
    (hin : ∀ c' : Cx (relabelS scope sc), c'.n = c.n → c'.hq = c.hq → ∀ d ∈ ds, AsL a c' tg d (bs d) ∧ TsAll a c' (bs d ++ capt scope sc ρ) ifs (p d) ∧ (p d = true → Ev a c' (bs d ++ capt scope sc ρ) elt (f d))) :
    Exc a c ρ (.Assign [.Name y py] (.ListComp elt [⟨tg, iter, ifs, 0⟩] scope pos) spos) (.next ((y, .list ((ds.filter p).map f)) :: ρ)) := fun s E S T => by
  rw [exec_Assign_Name_used _ _ _ _ hsw]
  refine wpAny_bind (wpAny_standAt (wpAny_bind ?_))
  show wpAny _ c.A (do let _ ← comprehension (.ListComp elt [⟨tg, iter, ifs, 0⟩] scope pos) scope c.env _ (newList []) false (eval iter c.env) (some (assign (.Name y py) c.env))) _ _ s
  refine wpAny_bind (comp_run (use := some (assign (.Name y py) c.env)) hi hk hc hfree hnames hs hsz hin S T fun s' C D m' oC q' T' S' hC hoC hn r => ?_)
  show wpAny _ c.A (assign (.Name y py) c.env (.ref D)) _ _ _
  obtain ⟨n1, n2, n3, n4⟩ := S.new_not hC
  refine wpAny_assign_Name (store_localL hy S' r fun s2 q2 S2 => ⟨m', hn.at' fun o e => ?_, fun h' hs' => wpAny_pure (wpAny_pure ?_)⟩)
  · exact (q2.heap C o e n4).1 n2
  · obtain ⟨o2, es, ep, e2, d2, _⟩ := hn
    have e2' : s2.heap.get? C = some o2 := (q2.heap C o2 e2 n4).1 n2
    have ext : ∀ b o, b ≠ C → s2.heap.get? b = some o → h'.get? b = some o := fun b o nb e => (hs'.2 b nb).trans e
    refine ⟨⟨fun b o e nb nc => ?_, q2.gens.trans q'.gens, q2.os.trans q'.os⟩, rfl, S2.ext ext n1 n2 n3 n4 fun o e => by rw [e2'] at e; cases e; exact ⟨(fun v z => by rw [d2] at z; cases z), (fun vs n z => by rw [d2] at z; cases z), (fun vs z => by rw [d2] at z; cases z)⟩⟩
    have bC : b ≠ C := fun z => by rw [z, hC] at e; cases e
    obtain ⟨z1, z2⟩ := (q'.l.trans q2).heap b o e nb
    exact ⟨fun m => ext b o bC (z1 m), fun m nf => let ⟨sl, z⟩ := z2 m nf; ⟨sl, ext b _ bC z⟩⟩
end
end Mine

end
section
open PySem PySem.W PyProof.Rows PySem.Calls PySem.Spec
set_option Elab.async false
set_option linter.unusedVariables false
namespace Mine
section
variable {a : Amb} {sc : Scope} {c : Cx sc} {ρ : Vars}

theorem KpX.exact {s s' : Shared} (k : KpX c s s') (S : St a c s.heap ρ) {b : Addr} {o : Obj} (e : s.heap.get? b = some o) (nd : ∀ es n, o.data ≠ .dict es n) (nc : ∀ v, o.data ≠ .cell v) : s'.heap.get? b = some o := by
  refine (k.heap b o e (fun z => ?_) (fun x hx z => ?_)).1 fun m => ?_
  · obtain ⟨ml, ⟨oL, es, ep, hL, hLd, _⟩, _⟩ := S.loc
    rw [z, hL] at e; cases e; exact nd _ _ hLd
  · obtain ⟨ad, v, e1, _, ⟨oc, e2, e2'⟩, _⟩ := S.cel x hx
    rw [e1] at z; cases z; rw [e2] at e; cases e; exact nc _ e2'
  · obtain ⟨o', es, n, e', d⟩ := S.fr.dd b m
    rw [e] at e'; cases e'; exact nd es n d
theorem KpX.gk {s s' : Shared} (k : KpX c s s') (S : St a c s.heap ρ) : GK s.heap s'.heap := fun b o vs n e d => k.exact S e (fun es m z => by rw [d] at z; cases z) fun v z => by rw [d] at z; cases z
/-- all but one new address -/
theorem KpX.ext {s s2 s3 : Shared} {it : Addr} (k : KpX c s s2) (n : s.heap.get? it = none) (e : ∀ b o, b ≠ it → s2.heap.get? b = some o → s3.heap.get? b = some o) (hg : s3.gens = s2.gens) (ho : s3.os = s2.os) : KpX c s s3 :=
  ⟨fun b o q n1 n2 => by
    have ne : b ≠ it := fun z => by rw [z, n] at q; cases q
    obtain ⟨z1, z2⟩ := k.heap b o q n1 n2
    exact ⟨fun m => e b o ne (z1 m), fun m nf => let ⟨sl, z⟩ := z2 m nf; ⟨sl, e b _ ne z⟩⟩, hg.trans k.gens, ho.trans k.os⟩
theorem St.ext2 {h h' : Heap} {C : Addr} (S : St a c h ρ) (k : ∀ b o, b ≠ C → h.get? b = some o → h'.get? b = some o) (hH : a.H.get? C = none) (hfs : C ∉ c.fs) (hX : C ∉ c.X) (hloc : C ≠ c.env.locals)
    (hdat : ∀ o, h.get? C = some o → (∀ v, o.data ≠ .cell v) ∧ (∀ vs n, o.data ≠ .seq vs n)) (hq : ∀ e, c.hq = some e → e ≠ C) : St a c h' ρ := by
  have sk : SeqKeep (vw c.X h) (vw c.X h') := .vw fun b o vs n e _ d => ⟨o.slots, k b o (fun z => by subst z; exact (hdat o e).2 vs n d) e⟩
  have frk : ∀ {l : List Env}, (∀ b ∈ frAddrs l, b ≠ C) → h.FunFrames a.H l → h'.FunFrames a.H l := by
    intro l
    induction l with
    | nil => intro _ _; trivial
    | cons e l ih =>
      rintro hne ⟨h1, ⟨L, o, hf, hn, ho, hd⟩, hr⟩
      refine ⟨h1, ⟨L, o, hf, hn, k L o (hne L ?_) ho, hd⟩, ih (fun b hb => hne b ?_) hr⟩
      · unfold frAddrs; rw [List.filterMap_cons, hf]; exact List.mem_cons_self ..
      · unfold frAddrs; rw [List.filterMap_cons, hf]; exact List.mem_cons_of_mem _ hb
  refine ⟨⟨fun b o e => k b o (fun z => by rw [z, hH] at e; cases e) (S.base b o e), ⟨frk (fun b hb z => hfs (by rw [← z]; exact hb)) S.fr.ff, fun b hb => ?_⟩, fun x hx => ?_⟩, S.new, ?_, fun x hx => ?_, fun e q => ?_⟩
  · obtain ⟨o, es, n, e, d⟩ := S.fr.dd b hb
    exact ⟨o, es, n, k b o (fun z => hfs (by rw [← z]; exact hb)) e, d⟩
  · obtain ⟨o, e⟩ := S.ok.xs x hx
    exact ⟨o, k x o (fun z => hX (by rw [← z]; exact hx)) e⟩
  · obtain ⟨ml, hn, hv⟩ := S.loc
    exact ⟨ml, hn.at' fun o e => k _ o (Ne.symm hloc) e, fun x d hx e => let ⟨v, e1, r⟩ := hv x d hx e; ⟨v, e1, r.of sk⟩⟩
  · obtain ⟨ad, v, e1, e0, ⟨o, e2, e2'⟩, e3⟩ := S.cel x hx
    exact ⟨ad, v, e1, e0, ⟨o, k ad o (fun z => by subst z; exact (hdat o e2).1 v e2') e2, e2'⟩, fun d q => let ⟨u, z1, z2⟩ := e3 d q; ⟨u, z1, z2.of sk⟩⟩
  · obtain ⟨o, vs, e1, e2, e3⟩ := S.hld e q
    exact ⟨o, vs, k e o (hq e q) e1, e2, e3⟩
theorem St.new_held {h : Heap} {C : Addr} (S : St a c h ρ) (hC : h.get? C = none) : ∀ e, c.hq = some e → e ≠ C := fun e q z => by
  obtain ⟨o, vs, e1, _⟩ := S.hld e q
  rw [z, hC] at e1; cases e1

/-- a for loop, by an invariant of states -/
theorem for_run {target iter : Expr} {body : List Stmt} {pos : Pos} {ds : List PyData} {s : Shared} {E : Value → Shared → Prop} {Q : Flow → Shared → Prop} (J : Nat → Shared → Prop)
    (hi : EvI a c ρ iter ds) (S : St a c s.heap ρ) (T : 0 < s.toks) (hfs : ∀ x, foldedSetIterable iter c.env x = pure x)
    (start : ∀ s1, Kp c.fs s s1 → 0 < s1.toks → J 0 s1)
    (stab : ∀ i it s2 s3, s.heap.get? it = none → (∃ o vs, s2.heap.get? it = some o ∧ o.data = .fields vs) → J i s2 → (∀ b o, b ≠ it → s2.heap.get? b = some o → s3.heap.get? b = some o) → s3.gens = s2.gens → s3.os = s2.os → J i s3)
    (hld : ∀ i s3, J i s3 → ∀ e, c.hq = some e → HeldAt e s3.heap)
    (turn : ∀ s1 i d v it s3, Kp c.fs s s1 → s.heap.get? it = none → (∃ o vs, s3.heap.get? it = some o ∧ o.data = .fields vs) → ds[i]? = some d → J i s3 → 0 < s3.toks → Rd (vw c.X s1.heap) v d → GK (vw c.X s1.heap) s3.heap →
      wpAny a.M c.A (assign target c.env v) (fun _ s4 => wpAny a.M c.A (execs body c.env) (fun fl s5 => match fl with
        | .next | .cont => J (i + 1) s5 ∧ 0 < s5.toks ∧ (∀ o, s3.heap.get? it = some o → s5.heap.get? it = some o) ∧ GK (vw c.X s1.heap) s5.heap
        | .brk => Q .next s5
        | .ret v => Q (.ret v) s5) (notedBy a.M c.A c.env (cameBackBy a.M c.A c.env E)) s4) (notedBy a.M c.A c.env (cameBackBy a.M c.A c.env E)) s3)
    (fin : ∀ s3, J ds.length s3 → Q .next s3) (ht : ∀ it v, letOwnedTupleGo target it v = pure ()) : wpAny a.M c.A (exec (.For target iter body [] pos) c.env) Q E s := by
  refine wpAny_For (hi.then S T fun x s1 q1 S1 T1 hit => hit _ _ fun it s2 IS T2 stay2 nit st2 I₀ g2 o2 => ?_) hfs
  have nit0 : s.heap.get? it = none := by
    cases q : s.heap.get? it with
    | none => rfl
    | some o =>
      exfalso
      by_cases m : it ∈ c.fs
      · obtain ⟨o', es, n, e', d⟩ := S.fr.dd _ m
        rw [q] at e'; cases e'
        obtain ⟨sl, z⟩ := (q1.heap _ o q).2 m fun vs z => by rw [d] at z; cases z
        rw [nit] at z; cases z
      · have := (q1.heap _ o q).1 m
        rw [nit] at this; cases this
  refine codeAny_forLoop (fun n s' => ∃ i, i ≤ ds.length ∧ n = ds.length + 1 - i ∧ J i s' ∧ 0 < s'.toks ∧ IS i s'.heap ∧ GK (vw c.X s1.heap) s'.heap) ?_ (ds.length + 1)
    ⟨0, Nat.zero_le _, rfl, start s2 (q1.trans ⟨.ofStays stay2, g2, o2⟩) T2, T2, st2, fun b o vs n e d => stay2 b o (of_hideAll _ e)⟩ (fun v => ht (.ref it) v)
  rintro n s3 ⟨i, hi', rfl, hJ, T3, st3, gk3⟩
  by_cases hlt : i < ds.length
  · obtain ⟨d, hd⟩ : ∃ d, ds[i]? = some d := ⟨ds[i], by simp [hlt]⟩
    refine I₀.next' hd st3 gk3 T3 fun v s4 T4 rv st4 ext4 g4 o4 => ?_
    dsimp only
    obtain ⟨oi, vi, hoi, hdi⟩ := I₀.fld _ _ st3
    obtain ⟨oi', vi', hoi', hdi'⟩ := I₀.fld _ _ st4
    have hJ4 := stab i it s3 s4 nit0 ⟨_, _, hoi, hdi⟩ hJ ext4 g4 o4
    have gk4 : GK (vw c.X s1.heap) s4.heap := fun b o vs n e d => ext4 b o (fun z => by rw [z] at e; have := of_hideAll _ e; rw [nit] at this; cases this) (gk3 b o vs n e d)
    refine wpAny_mono (turn s1 i d v it s4 q1 nit0 ⟨_, _, hoi', hdi'⟩ hd hJ4 T4 rv gk4) (fun _ s5 h5 => wpAny_mono h5 (fun fl s6 h6 => ?_) fun _ _ x => x) fun _ _ x => x
    cases fl with
    | next => exact ⟨ds.length + 1 - (i + 1), by omega, i + 1, hlt, rfl, h6.1, h6.2.1, I₀.loc _ _ _ st4 h6.2.2.1, h6.2.2.2⟩
    | cont => exact ⟨ds.length + 1 - (i + 1), by omega, i + 1, hlt, rfl, h6.1, h6.2.1, I₀.loc _ _ _ st4 h6.2.2.1, h6.2.2.2⟩
    | brk => exact h6
    | ret v => exact h6
  · have hie : i = ds.length := by omega
    subst hie
    obtain ⟨oi, vi, hoi, hdi⟩ := I₀.fld _ _ st3
    refine I₀.done' st3 gk3 (hld _ _ hJ) T3 fun s4 T4 ext4 g4 o4 => ?_
    have hJ4 := stab ds.length it s3 s4 nit0 ⟨_, _, hoi, hdi⟩ hJ ext4 g4 o4
    dsimp only
    exact wpAny_execs_nil (fin s4 hJ4)

/-- a for loop over data, each turn ending as told -/
theorem Exc.forL {target iter : Expr} {body : List Stmt} {pos : Pos} {ds : List PyData} {r : Res} (ρs : Nat → Vars) (bs : PyData → Vars) (h0 : ρs 0 = ρ) (hi : EvI a c ρ iter ds) (hfs : ∀ x, foldedSetIterable iter c.env x = pure x)
    (hr : r = .next (ρs ds.length)) (has : ∀ (i : Nat) d, ds[i]? = some d → As a c target d (bs d)) (hb : ∀ (i : Nat) d, ds[i]? = some d → Exs a c (bs d ++ ρs i) body (.next (ρs (i + 1))))
    (ht : ∀ it v, letOwnedTupleGo target it v = pure ()) : Exc a c ρ (.For target iter body [] pos) r := fun s E S T => by
  subst hr
  refine for_run (fun i s' => KpX c s s' ∧ St a c s'.heap (ρs i)) hi S T hfs (fun s1 q1 T1 => ⟨q1.x, by rw [h0]; exact S.keep q1.heap⟩) (fun i it s2 s3 nit ⟨o, vs, hoi, hdi⟩ ⟨k2, S2⟩ ext g3 o3 => ?_) (fun i s3 ⟨_, S3⟩ => S3.hld)
    (fun s1 i d v it s3 q1 nit ⟨oi, vi, hoi, hdi⟩ hd ⟨k3, S3⟩ T3 rv gk3 => ?_) (fun s3 ⟨k3, S3⟩ => ⟨k3, rfl, S3⟩) ht
  · obtain ⟨n1, n2, n3, n4⟩ := S.new_not nit
    exact ⟨k2.ext nit ext g3 o3, S2.ext2 ext n1 n2 n3 n4 (fun o' e => by rw [hoi] at e; cases e; exact ⟨(fun v z => by rw [hdi] at z; cases z), (fun ws n z => by rw [hdi] at z; cases z)⟩) (S.new_held nit)⟩
  · have rv3 : Rd (vw c.X s3.heap) v d := rv.of fun b o vs n e db => by
      have nb : b ∉ c.X := fun m => by rw [hideAll_none _ m] at e; cases e
      exact ⟨o.slots, hideAll_get _ (gk3 b o vs n e db) nb⟩
    refine wpAny_mono (wpAny_toks_of (n := 1) T3 (has i d hd (ρs i) s3 _ v S3 T3 rv3)) (fun _ s4 ⟨T4, q4, S4⟩ => ?_) fun _ _ x => x.2
    refine (hb i d hd).then S4 T4 fun fl s5 q5 ⟨e5, S5⟩ T5 => ?_
    subst e5
    have q35 := q4.trans q5
    refine ⟨⟨k3.trans q35, S5⟩, T5, fun o e => q35.exact S3 e (fun es n z => ?_) (fun v z => ?_), fun b o vs n e db => (q35.gk S3) b o vs n (gk3 b o vs n e db) db⟩
    · rw [hoi] at e; cases e; rw [hdi] at z; cases z
    · rw [hoi] at e; cases e; rw [hdi] at z; cases z

/-- a try whose body raises nothing -/
theorem Exc.tryN {body : List Stmt} {h₀ : ExceptHandler} {hs : List ExceptHandler} {pos : Pos} {r : Res} (h : Exs a c ρ body r) : Exc a c ρ (.Try body (h₀ :: hs) [] [] pos) r := fun s E S T => by
  rw [arm_exec_Try]
  refine wpAny_bind (wpAny_standAt (wpAny_tryStmt_except (h.then S T fun fl s1 q1 r1 T1 => ?_)))
  cases r with
  | next ρ' => obtain ⟨e, S1⟩ := r1; subst e; exact wpAny_execs_nil ⟨q1, rfl, S1⟩
  | brk ρ' => obtain ⟨e, S1⟩ := r1; subst e; exact ⟨q1, rfl, S1⟩
  | ret d => obtain ⟨v, e, S1⟩ := r1; subst e; exact ⟨q1, v, rfl, S1⟩

/-- x op= e -/
theorem Exc.aug {x : Str} {p pos : Pos} {op : Operator} {e : Expr} {d1 d2 d : PyData} (hx : sc.names.lookup x = some .local) (hv : ρ.lookup x = some d1) (h : Ev a c ρ e d2) (ho : Op2 a c (inplaceOp op) d1 d2 d) :
    Exc a c ρ (.AugAssign (.Name x p) op e pos) (.next ((x, d) :: ρ)) := fun s E S T => by
  obtain ⟨ml, hn, hl⟩ := S.loc
  obtain ⟨v, e1, r⟩ := hl x d1 hx hv
  refine wpAny_AugAssign_Name (wpAny_loadName_local c.kind (by rw [c.kindOf]; exact hx) hn e1 (h.then S T fun v2 s2 q2 r2 S2 T2 => ?_))
  refine wpAny_mono (wpAny_toks_of (n := 1) T2 (ho s2 E v v2 S2.ok (r.of q2.heap.seqv) r2)) (fun v3 s3 ⟨T3, q3, r3⟩ => ?_) fun _ _ x => x.2
  exact store_local hx (S2.keep q3.heap) r3 fun s4 q4 S4 => ⟨((q2.trans q3).x).trans q4, rfl, S4⟩
end
end Mine

end
section
open PySem PySem.W PyProof.Rows PySem.Calls PySem.Spec
set_option Elab.async false
set_option linter.unusedVariables false
namespace Mine

/-- all that stands is kept, but for records that are new since g; frames' dicts up to their slots -/
def KeepF (g : Heap) (fs : List Addr) (h h' : Heap) : Prop := ∀ b o, h.get? b = some o → ((∀ vs, o.data ≠ .fields vs) ∨ g.get? b ≠ none) → (b ∉ fs → h'.get? b = some o) ∧ (b ∈ fs → ∃ sl, h'.get? b = some { o with slots := sl })
theorem KeepF.refl {g h : Heap} {fs : List Addr} : KeepF g fs h h := fun b o e _ => ⟨fun _ => e, fun _ => ⟨o.slots, e⟩⟩
theorem KeepF.trans {g h₁ h₂ h₃ : Heap} {fs : List Addr} (x : KeepF g fs h₁ h₂) (y : KeepF g fs h₂ h₃) : KeepF g fs h₁ h₃ := fun b o e c => by
  refine ⟨fun n => (y b o ((x b o e c).1 n) c).1 n, fun m => ?_⟩
  obtain ⟨sl, q⟩ := (x b o e c).2 m
  obtain ⟨sl', q'⟩ := (y b _ q c).2 m
  exact ⟨sl', q'⟩
theorem KeepF.less {g g' h₁ h₂ : Heap} {fs : List Addr} (x : KeepF g fs h₁ h₂) (k : ∀ b, g.get? b = none → g'.get? b = none) : KeepF g' fs h₁ h₂ := fun b o e c =>
  x b o e (c.imp_right fun n z => n (k b z))

/-- an exception on its way: made since g; fl is the mark on its last entry -/
structure Xc (g h : Heap) (e : Addr) (cls : Value) (P : List Value → Prop) (ct : Value) (fl : Option Value) : Prop where
  new : g.get? e = none
  sub : ∀ b, h.get? b = none → g.get? b = none
  there : ∃ oe vs t args, h.get? e = some oe ∧ oe.cls = cls ∧ oe.data = .fields vs ∧ vs[0]? = some (.ref t) ∧ h.TupAt t args ∧ P args ∧ vs[2]? = some ct ∧
    ((fl = none ∧ vs[1]? = some .none) ∨ ∃ T oT ts f, fl = some f ∧ vs[1]? = some (.ref T) ∧ g.get? T = none ∧ T ≠ e ∧ h.get? T = some oT ∧ oT.data = .fields ts ∧ ts[3]? = some f)
theorem Xc.less {g g' h : Heap} {e : Addr} {cls ct : Value} {P : List Value → Prop} {fl : Option Value} (x : Xc g h e cls P ct fl) (k : ∀ b, g.get? b = none → g'.get? b = none) : Xc g' h e cls P ct fl := by
  obtain ⟨n, nb, oe, vs, t, args, e1, e2, e3, e4, e5, e6, e7, e8⟩ := x
  refine ⟨k _ n, fun b z => k b (nb b z), oe, vs, t, args, e1, e2, e3, e4, e5, e6, e7, e8.imp_right ?_⟩
  rintro ⟨T, oT, ts, f, z1, z2, z3, z⟩
  exact ⟨T, oT, ts, f, z1, z2, k _ z3, z⟩
theorem Xc.made {h h' : Heap} {e : Addr} {cls : Value} {args : List Value} {P : List Value → Prop} (x : Heap.MadeExcOf h h' e cls args) (p : P args) : Xc h h' e cls P .none none := by
  obtain ⟨t, he, _, ht⟩ := x.there
  have nb : ∀ b, h'.get? b = none → h.get? b = none := fun b z => by
    cases q : h.get? b with
    | none => rfl
    | some o => rw [x.keeps b o q] at z; cases z
  exact ⟨x.new, nb, _, _, t, args, he, rfl, rfl, rfl, ⟨_, _, ht, rfl, rfl⟩, p, rfl, .inl ⟨rfl, rfl⟩⟩
theorem Xc.held {g h : Heap} {e : Addr} {cls : Value} {P : List Value → Prop} {fl : Option Value} (x : Xc g h e cls P .none fl) : HeldAt e h := by
  obtain ⟨oe, vs, t, args, e1, e2, e3, e4, e5, e6, e7, e8⟩ := x.there
  exact ⟨oe, vs, e1, e3, e7⟩

theorem KeepF.sub {g h h' : Heap} {fs : List Addr} (k : KeepF g fs h h') (n : ∀ b, h.get? b = none → g.get? b = none) : ∀ b, h'.get? b = none → g.get? b = none := fun b z => by
  cases q : g.get? b with
  | none => rfl
  | some o =>
    cases q2 : h.get? b with
    | none => rw [n b q2] at q; cases q
    | some o2 =>
      by_cases m : b ∈ fs
      · obtain ⟨sl, w⟩ := (k b o2 q2 (.inr (by rw [q]; simp))).2 m; rw [w] at z; cases z
      · rw [(k b o2 q2 (.inr (by rw [q]; simp))).1 m] at z; cases z
section
variable {M : Model} {A : Around} {E : Value → Shared → Prop} {s : Shared} {g base : Heap} {env : Env} {outer : List Env} {L e : Addr} {cls ct : Value} {P : List Value → Prop} {fl : Option Value}

theorem upd_keep {h : Heap} {fs : List Addr} {b : Addr} {o : Obj} {vs : Array Value} {f : Obj → Obj} (ho : h.get? b = some o) (hd : o.data = .fields vs) (hg : g.get? b = none) : KeepF g fs h (h.update b f) := fun b' o' e' c => by
  have ne : b' ≠ b := fun z => by
    subst z
    rw [ho] at e'; cases e'
    rcases c with c | c
    · exact c vs hd
    · exact c hg
  rw [Heap.get?_update_other _ _ (Ne.symm ne)]
  exact ⟨fun _ => e', fun _ => ⟨o'.slots, e'⟩⟩
theorem tup_keep {h h' : Heap} {fs : List Addr} {t : Addr} {args : List Value} (x : h.TupAt t args) (k : KeepF g fs h h') : h'.TupAt t args := by
  obtain ⟨o, n, ho, hc, hd⟩ := x
  have c : (∀ vs, o.data ≠ .fields vs) := fun vs z => by rw [hd] at z; cases z
  by_cases m : t ∈ fs
  · obtain ⟨sl, q⟩ := (k t o ho (.inl c)).2 m; exact ⟨_, n, q, hc, hd⟩
  · exact ⟨o, n, (k t o ho (.inl c)).1 m, hc, hd⟩

/-- the mark is set -/
theorem flight_step {f : Option Addr} {fl0 : Value} {fs : List Addr} {Q : Unit → Shared → Prop} (x : Xc g s.heap e cls P ct (some fl0))
    (hQ : ∀ h', KeepF g fs s.heap h' → Xc g h' e cls P ct (some (f.elim .none fun f => rawInt f)) → Q () { s with heap := h' }) : wpAny M A (setFlight (.ref e) f) Q E s := by
  obtain ⟨n, nb, oe, vs, t, args, e1, e2, e3, e4, e5, e6, e7, e8⟩ := x
  rcases e8 with ⟨z, _⟩ | ⟨T, oT, ts, f', z1, z2, z3, z4, z5, z6, z7⟩
  · cases z
  unfold setFlight
  refine wpAny_bind (wpAny_field e1 e3 z2 ?_)
  rw [if_pos (show (Value.ref T != Value.none) = true from by simp)]
  have h3 : 3 < ts.size := (Array.getElem?_eq_some_iff.mp z7).1
  have kk := upd_keep (fs := fs) (f := Obj.mapFields (·.setIfInBounds 3 (f.elim .none fun f => rawInt f))) z5 z6 z3
  refine wpAny_setField z5 z6 h3 (hQ _ kk ⟨n, kk.sub nb, oe, vs, t, args, ?_, e2, e3, e4, tup_keep e5 kk, e6, e7, .inr ⟨T, _, _, _, rfl, z2, z3, z4, Heap.get?_update_self _ z5 (Obj.isFreed_of_fields (Obj.data_mapFields z6 _)), Obj.data_mapFields z6 _, by simp [h3]⟩⟩)
  rw [Heap.get?_update_other _ _ z4]; exact e1

/-- a frame is noted -/
theorem note_step {Q : Unit → Shared → Prop} (hfr : A.frames = some (env :: outer)) (hl : s.heap.FunFrames base (env :: outer)) (hf : env.frame = some L) (hfl : fl = none ∨ fl = some .none) (x : Xc g s.heap e cls P ct fl)
    (hQ : ∀ h', KeepF g (frAddrs (env :: outer)) s.heap h' → Xc g h' e cls P ct (some (rawInt L)) → Q () { s with heap := h' }) : wpAny M A (noteFrame (.ref e) env) Q E s := by
  have key : ∀ (s : Shared) (head : Value) (hadNext : Bool) (Q : Unit → Shared → Prop), (∀ b, s.heap.get? b = none → g.get? b = none) → s.heap.FunFrames base (env :: outer) → (∃ oe vs t args, s.heap.get? e = some oe ∧ oe.cls = cls ∧ oe.data = .fields vs ∧ vs[0]? = some (.ref t) ∧ s.heap.TupAt t args ∧ P args ∧ vs[2]? = some ct) →
      (∀ h', KeepF g (frAddrs (env :: outer)) s.heap h' → Xc g h' e cls P ct (some (rawInt L)) → Q () { s with heap := h' }) →
      wpAny M A (do let a ← frameOf env; let pl ← entryPlaceOf L hadNext; let b ← EntryCells.newEntry head a .none (rawInt L) .none pl; setField (.ref e) 1 b) Q E s := by
    intro s head hadNext Q hsub hl ⟨oe, vs, t, args, e1, e2, e3, e4, e5, e6, e7⟩ hQ
    have hene : e ∉ (env :: outer).filterMap (·.frame) := fun hm => by
      obtain ⟨_, o, ho, hnf⟩ := hl.mem hm
      rw [e1] at ho; injection ho with ho; subst ho; exact hnf vs e3
    have hsz : 1 < vs.size := Nat.lt_trans (by decide) (Array.getElem?_eq_some_iff.mp e7).1
    refine wpAny_bind (wpAny_frameOf_fun hfr hl hf fun h₁ hs₁ => ?_)
    refine wpAny_bind (wpAny_entryPlaceOf fun pl hpl => ?_)
    unfold EntryCells.newEntry newFields
    refine wpAny_bind (wpAny_newObj_type ?_ (hpl.sizeOk5 _ _ _ _ _))
    have he₁ : h₁.get? e = some oe := (hs₁.2.1 e hene).trans e1
    have k1 : KeepF g (frAddrs (env :: outer)) s.heap h₁ := fun b o eb _ => ⟨fun nm => (hs₁.2.1 b nm).trans eb, fun _ => hs₁.2.2 b o eb⟩
    have k2 : KeepF g (frAddrs (env :: outer)) h₁ (h₁.push { cls := .type "traceback", dict := none, data := .fields ([head, .ref L, .none, rawInt L, .none] ++ (if pl.isEmpty then List.replicate 6 Value.none else pl)).toArray }) :=
      fun b o eb _ => ⟨fun _ => Heap.get?_push_of_some _ eb, fun _ => ⟨o.slots, Heap.get?_push_of_some _ eb⟩⟩
    have he₂ := Heap.get?_push_of_some (h := h₁) { cls := .type "traceback", dict := none, data := .fields ([head, .ref L, .none, rawInt L, .none] ++ (if pl.isEmpty then List.replicate 6 Value.none else pl)).toArray } he₁
    have k3 := upd_keep (fs := frAddrs (env :: outer)) (f := Obj.mapFields (·.setIfInBounds 1 (Value.ref h₁.objs.size))) he₂ e3 x.new
    have hTe : h₁.objs.size ≠ e := Nat.ne_of_gt (Heap.lt_size he₁)
    have gT : g.get? h₁.objs.size = none := k1.sub hsub _ (none_at h₁)
    have hT : ((h₁.push { cls := .type "traceback", dict := none, data := .fields ([head, .ref L, .none, rawInt L, .none] ++ (if pl.isEmpty then List.replicate 6 Value.none else pl)).toArray }).update e (Obj.mapFields (·.setIfInBounds 1 (Value.ref h₁.objs.size)))).get? h₁.objs.size = some { cls := .type "traceback", dict := none, data := .fields ([head, .ref L, .none, rawInt L, .none] ++ (if pl.isEmpty then List.replicate 6 Value.none else pl)).toArray } := by
      rw [Heap.get?_update_other _ _ (Ne.symm hTe)]; exact Heap.get?_push_size _ rfl
    refine wpAny_setField he₂ e3 hsz (hQ _ ((k1.trans k2).trans k3) ⟨x.new, ((k1.trans k2).trans k3).sub hsub, _, _, t, args, Heap.get?_update_self _ he₂ (Obj.isFreed_of_fields (Obj.data_mapFields e3 _)), (Obj.cls_mapFields _ _).trans e2, Obj.data_mapFields e3 _, ?_, tup_keep e5 ((k1.trans k2).trans k3), e6, ?_, .inr ⟨h₁.objs.size, _, _, _, rfl, ?_, gT, hTe, hT, rfl, ?_⟩⟩)
    · rw [Array.getElem?_setIfInBounds_ne (by decide)]; exact e4
    · rw [Array.getElem?_setIfInBounds_ne (by decide)]; exact e7
    · simp [hsz]
    · first | (simp; done) | (rcases hpl with rfl | ⟨_, _, _, _, _, _, _, rfl⟩ <;> simp)
  obtain ⟨n, nb, oe, vs, t, args, e1, e2, e3, e4, e5, e6, e7, e8⟩ := id x
  unfold noteFrame
  simp only [hf]
  rcases e8 with ⟨z, z1⟩ | ⟨T, oT, ts, f', z1, z2, z3, z4, z5, z6, z7⟩
  · refine wpAny_bind (wpAny_field e1 e3 z1 ?_)
    rw [if_neg (by decide)]
    exact key s _ _ Q nb hl ⟨oe, vs, t, args, e1, e2, e3, e4, e5, e6, e7⟩ hQ
  · have hf' : f' = .none := by
      rcases hfl with q | q
      · rw [q] at z1; cases z1
      · rw [q] at z1; cases z1; rfl
    subst hf'
    refine wpAny_bind (wpAny_field e1 e3 z2 ?_)
    rw [if_pos (show (Value.ref T != Value.none) = true from by simp)]
    refine wpAny_bind (wpAny_field z5 z6 z7 ?_)
    rw [if_neg (show ¬ ((Value.none == rawInt L) = true) from by simp [rawInt])]
    refine wpAny_bind (wpAny_setField z5 z6 (Array.getElem?_eq_some_iff.mp z7).1 ?_)
    have kk := upd_keep (fs := frAddrs (env :: outer)) (f := Obj.mapFields (·.setIfInBounds 3 Value.none)) z5 z6 z3
    refine key { s with heap := s.heap.update T (Obj.mapFields (·.setIfInBounds 3 Value.none)) } _ _ Q (kk.sub nb) (hl.of_keeps fun b o hb hnf => ⟨o, ?_, rfl⟩) ⟨oe, vs, t, args, ?_, e2, e3, e4, tup_keep e5 kk, e6, e7⟩ fun h' k' x' => hQ h' (kk.trans k') x'
    · show (s.heap.update T _).get? b = some o
      rw [Heap.get?_update_other _ _ (fun q => by rw [← q, z5] at hb; injection hb with hb; subst hb; exact hnf ts z6)]; exact hb
    · show (s.heap.update T _).get? e = some oe
      rw [Heap.get?_update_other _ _ z4]; exact e1
end
end Mine

end
section
open PySem PySem.W PyProof.Rows PySem.Calls PySem.Spec
set_option Elab.async false
set_option linter.unusedVariables false
namespace Mine
section
variable {a : Amb} {sc : Scope} {c : Cx sc} {ρ ρ₀ : Vars}

theorem KeepF.keep {g h h' : Heap} {fs : List Addr} (k : KeepF g fs h h') (w : ∀ b o vs, h.get? b = some o → o.data = .fields vs → g.get? b ≠ none) : Keep fs h h' := fun b o e => by
  have c : (∀ vs, o.data ≠ .fields vs) ∨ g.get? b ≠ none := by
    by_cases q : ∃ vs, o.data = .fields vs
    · obtain ⟨vs, q⟩ := q; exact .inr (w b o vs e q)
    · exact .inl fun vs z => q ⟨vs, z⟩
  exact ⟨fun n => (k b o e c).1 n, fun m _ => (k b o e c).2 m⟩
theorem KeepF.seq {g h h' : Heap} {fs X : List Addr} (k : KeepF g fs h h') : SeqKeep (vw X h) (vw X h') := .vw fun b o vs n e _ d => by
  have c : (∀ vs, o.data ≠ .fields vs) := fun vs z => by rw [d] at z; cases z
  by_cases m : b ∈ fs
  · exact (k b o e (.inl c)).2 m
  · exact ⟨o.slots, (k b o e (.inl c)).1 m⟩
theorem KeepF.up {g h h' : Heap} {fs : List Addr} (k : KeepF g fs h h') : h.UpToSlots h' := fun b o e nf => by
  by_cases m : b ∈ fs
  · exact (k b o e (.inl nf)).2 m
  · exact ⟨o.slots, (k b o e (.inl nf)).1 m⟩
theorem KeepF.frOk {g H h h' : Heap} {fs : List Addr} {l : List Env} (k : KeepF g fs h h') (f : FrOk H h l) : FrOk H h' l :=
  ⟨f.ff.of_keeps fun b o e nf => by obtain ⟨sl, q⟩ := k.up b o e nf; exact ⟨_, q, rfl⟩, fun b hb => by
    obtain ⟨o, es, n, e, d⟩ := f.dd b hb
    obtain ⟨sl, q⟩ := k.up b o e fun vs z => by rw [d] at z; cases z
    exact ⟨_, es, n, q, d⟩⟩
/-- a state seen from one that stood before -/
theorem St.keepF {g h h' : Heap} (S₀ : St a c g ρ₀) (S : St a c h ρ) (k : KeepF g c.fs h h') : St a c h' ρ where
  ok := ⟨(fun b o e => by
      refine (k b o (S.base b o e) (.inr (by rw [S₀.base b o e]; simp))).1 fun m => ?_
      rw [(S.fr.ff.mem m).1] at e; cases e), k.frOk S.fr, fun x hx => by
      obtain ⟨o, e⟩ := S.ok.xs x hx
      obtain ⟨o₀, e₀⟩ := S₀.ok.xs x hx
      have := k x o e (.inr (by rw [e₀]; simp))
      by_cases m : x ∈ c.fs
      · obtain ⟨sl, q⟩ := this.2 m; exact ⟨_, q⟩
      · exact ⟨_, this.1 m⟩⟩
  new := S.new
  loc := by
    obtain ⟨ml, hn, hv⟩ := S.loc
    exact ⟨ml, k.up.ns hn, fun y d e q => let ⟨v, e1, r⟩ := hv y d e q; ⟨v, e1, r.of k.seq⟩⟩
  cel := fun y e => by
    obtain ⟨ad, v, e1, e0, e2, r⟩ := S.cel y e
    exact ⟨ad, v, e1, e0, isCell_up k.up e2, fun d q => let ⟨u, z, r⟩ := r d q; ⟨u, z, r.of k.seq⟩⟩
  hld := fun e q => by
    obtain ⟨o₀, vs₀, e₀, _⟩ := S₀.hld e q
    obtain ⟨o, vs, e1, e2, e3⟩ := S.hld e q
    have := k e o e1 (.inr (by rw [e₀]; simp))
    refine ⟨o, vs, this.1 fun m => ?_, e2, e3⟩
    obtain ⟨o', es, n, e', d⟩ := S.fr.dd e m
    rw [e1] at e'; cases e'; rw [e2] at d; cases d
theorem KpX.keepF {s s1 : Shared} {h' : Heap} (k : KpX c s s1) (S : St a c s.heap ρ₀) (q : KeepF s.heap c.fs s1.heap h') : KpX c s { s1 with heap := h' } :=
  ⟨fun b o e n1 n2 => by
    obtain ⟨z1, z2⟩ := k.heap b o e n1 n2
    have ne : s.heap.get? b ≠ none := by rw [e]; simp
    refine ⟨fun m => (q b o (z1 m) (.inr ne)).1 m, fun m nf => ?_⟩
    obtain ⟨sl, w⟩ := z2 m nf
    obtain ⟨sl', w'⟩ := (q b _ w (.inr ne)).2 m
    exact ⟨sl', w'⟩, k.gens, k.os⟩
/-- what stood still stands somehow -/
theorem KpX.there {s s1 : Shared} (k : KpX c s s1) (S : St a c s.heap ρ₀) (S1 : St a c s1.heap ρ) : ∀ b, s1.heap.get? b = none → s.heap.get? b = none := fun b z => by
  cases q : s.heap.get? b with
  | none => rfl
  | some o =>
    exfalso
    by_cases hL : b = c.env.locals
    · obtain ⟨ml, ⟨oL, es, ep, h1, _⟩, _⟩ := S1.loc
      rw [← hL, z] at h1; cases h1
    · by_cases hc : ∃ x, sc.names.lookup x = some .cell ∧ c.env.cells.lookup x = some b
      · obtain ⟨x, hx, hb⟩ := hc
        obtain ⟨ad, v, e1, _, ⟨oc, e2, _⟩, _⟩ := S1.cel x hx
        rw [e1] at hb; cases hb; rw [z] at e2; cases e2
      · obtain ⟨z1, z2⟩ := k.heap b o q hL fun x hx hb => hc ⟨x, hx, hb⟩
        by_cases m : b ∈ c.fs
        · obtain ⟨o', es, n, e', d⟩ := S.fr.dd b m
          rw [q] at e'; cases e'
          obtain ⟨sl, w⟩ := z2 m fun vs w => by rw [d] at w; cases w
          rw [z] at w; cases w
        · rw [z1 m] at z; cases z
theorem Kp.there {fs : List Addr} {H : Heap} {l : List Env} {s s1 : Shared} (k : Kp (frAddrs l) s s1) (f : FrOk H s.heap l) : ∀ b, s1.heap.get? b = none → s.heap.get? b = none := fun b z => by
  cases q : s.heap.get? b with
  | none => rfl
  | some o =>
    exfalso
    obtain ⟨z1, z2⟩ := k.heap b o q
    by_cases m : b ∈ frAddrs l
    · obtain ⟨o', es, n, e', d⟩ := f.dd b m
      rw [q] at e'; cases e'
      obtain ⟨sl, w⟩ := z2 m fun vs w => by rw [d] at w; cases w
      rw [z] at w; cases w
    · rw [z1 m] at z; cases z

/-! ## what raises -/
def FlOk (c : Cx sc) (fl : Option Value) : Prop := fl = none ∨ fl = some .none ∨ ∃ L, c.env.frame = some L ∧ fl = some (rawInt L)
/-- what is left when an exception comes out of a piece of the frame's code -/
structure Rp (a : Amb) (c : Cx sc) (cls : Value) (P : List Value → Prop) (ct : Value) (ρ' : Vars) (s : Shared) (e : Addr) (s' : Shared) : Prop where
  kp : KpX c s s'
  st : St a c s'.heap ρ'
  xc : ∃ fl, FlOk c fl ∧ Xc s.heap s'.heap e cls P ct fl
/-- statements that raise -/
def Rz (a : Amb) (c : Cx sc) (ρ : Vars) (ss : List Stmt) (cls : Value) (P : List Value → Prop) (ρ' : Vars) : Prop :=
  ∀ (s : Shared) (E : Value → Shared → Prop), St a c s.heap ρ → 0 < s.toks → (∀ e s', Rp a c cls P .none ρ' s e s' → 0 < s'.toks → E (.ref e) s') → wpAny a.M c.A (execs ss c.env) (fun _ _ => False) E s
def Rzc (a : Amb) (c : Cx sc) (ρ : Vars) (st : Stmt) (cls : Value) (P : List Value → Prop) (ρ' : Vars) : Prop :=
  ∀ (s : Shared) (E : Value → Shared → Prop), St a c s.heap ρ → 0 < s.toks → (∀ e s', Rp a c cls P .none ρ' s e s' → 0 < s'.toks → E (.ref e) s') → wpAny a.M c.A (exec st c.env) (fun _ _ => False) E s
/-- an expression that raises -/
def Rze (a : Amb) (c : Cx sc) (ρ : Vars) (e : Expr) (cls : Value) (P : List Value → Prop) : Prop :=
  ∀ (s : Shared) (E : Value → Shared → Prop), St a c s.heap ρ → 0 < s.toks → (∀ e s', Rp a c cls P .none ρ s e s' → 0 < s'.toks → E (.ref e) s') → wpAny a.M c.A (eval e c.env) (fun _ _ => False) E s
/-- a def that raises -/
def FnX (a : Amb) (n : Nat) (f : Value) (ds : List PyData) (cls : Value) (P : List Value → Prop) : Prop :=
  ∀ (A : Around) (frs : List Env) (X : List Addr) (s : Shared) (vs : List Value), A.frames = some frs → A.handled = none → A.depth + n ≤ 800 → A.units + 100 * n ≤ 9000 → Ok a frs X s.heap → RdL (vw X s.heap) vs ds → 0 < s.toks →
    codeAny a.M A (.call f ⟨vs, []⟩) (fun r s' => ∃ e, r = .error (.ref e) ∧ Kp (frAddrs frs) s s' ∧ Xc s.heap s'.heap e cls P .none (some .none)) s

variable {cls : Value} {P : List Value → Prop}
theorem Rp.shift {s0 s s' : Shared} {e : Addr} {ρ' : Vars} {ct : Value} (x : Rp a c cls P ct ρ' s e s') (k : KpX c s0 s) (S0 : St a c s0.heap ρ₀) (S : St a c s.heap ρ) : Rp a c cls P ct ρ' s0 e s' :=
  ⟨k.trans x.kp, x.st, let ⟨fl, f1, f2⟩ := x.xc; ⟨fl, f1, f2.less (k.there S0 S)⟩⟩
theorem Rz.here {st : Stmt} {rest : List Stmt} {ρ' : Vars} (h : Rzc a c ρ st cls P ρ') : Rz a c ρ (st :: rest) cls P ρ' := fun s E S T hE =>
  wpAny_execs_cons (wpAny_mono (h s E S T hE) (fun _ _ x => x.elim) fun _ _ x => x)
theorem Rz.cons {st : Stmt} {rest : List Stmt} {ρ1 ρ' : Vars} (h1 : Exc a c ρ st (.next ρ1)) (h2 : Rz a c ρ1 rest cls P ρ') : Rz a c ρ (st :: rest) cls P ρ' := fun s E S T hE =>
  wpAny_execs_cons (h1.then S T fun fl s1 q1 ⟨e1, S1⟩ T1 => by subst e1; exact h2 s1 E S1 T1 fun e s' r T' => hE e s' (r.shift q1 S S1) T')
theorem Rzc.ifT {t : Expr} {b o : List Stmt} {pos : Pos} {ρ' : Vars} (ht : Ts a c ρ t true) (hb : Rz a c ρ b cls P ρ') : Rzc a c ρ (.If t b o pos) cls P ρ' := fun s E S T hE =>
  wpAny_If (ht.then S T fun s1 q1 S1 T1 => by
    rw [if_pos rfl]; exact hb s1 E S1 T1 fun e s' r T' => hE e s' (r.shift q1.x S S1) T')
theorem Rzc.ifF {t : Expr} {b o : List Stmt} {pos : Pos} {ρ' : Vars} (ht : Ts a c ρ t false) (hb : Rz a c ρ o cls P ρ') : Rzc a c ρ (.If t b o pos) cls P ρ' := fun s E S T hE =>
  wpAny_If (ht.then S T fun s1 q1 S1 T1 => by
    rw [if_neg Bool.false_ne_true]; exact hb s1 E S1 T1 fun e s' r T' => hE e s' (r.shift q1.x S S1) T')
theorem Rzc.assign {x : Str} {p pos : Pos} {e : Expr} (h : Rze a c ρ e cls P) (hs : swapsWith e (some (.Name x p)) pos.line c.env = pure false) : Rzc a c ρ (.Assign [.Name x p] e pos) cls P ρ := fun s E S T hE =>
  wpAny_Assign_Name (wpAny_mono (h s E S T hE) (fun _ _ x => x.elim) fun _ _ x => x) hs
theorem Rze.fn {x : Str} {p pos : Pos} {es : List Expr} {f : Addr} {st : Stmt} {n : Nat} {ds : List PyData} (hI : IsFn a x f st) (hF : FnX a n (.ref f) ds cls P) (h0 : c.hq = none) (hs : EvL a c ρ es ds) (hn : n ≤ c.n)
    (hx : sc.names.lookup x = some .globalImplicit) (hd : (x == ("__debug__" : Str)) = false) (hst : starEach es c.env = plainArgs es c.env) : Rze a c ρ (.Call (.Name x p) es [] pos) cls P := fun s E S T hE => by
  refine call_name (Is.globK hI.glob hx hd) hst S ?_
  obtain ⟨o, pm, cd, doc, an, ct, e2, e3, e4⟩ := hI.obj
  refine callWith_function (o := o) (fd := fnOf (fdName st) (fdName st) (fdPs st) (fdBody st) (fdScope st) .none .none doc pm an cd ct) (hs.args S T fun vs s1 q1 r1 S1 T1 => ⟨⟨S1.kIn _ _ e2, e3⟩, wpAny_mono (wpAny_toks_of (n := 1) T1 (wpAny_call ?_)) (fun _ _ x => x.2) fun v s' (x : _ ∧ ∃ e, v = .ref e ∧ Rp a c cls P .none ρ s e s') => ?_⟩)
  · refine codeAny_mono (hF c.A c.frs c.X s1 vs c.hfr (c.h0 h0) (by have := c.hd; omega) (by have := c.hu; omega) S1.ok r1 T1) fun r s2 z => ?_
    obtain ⟨e, rfl, q2, x2⟩ := z
    exact ⟨e, rfl, (q1.trans q2).x, S1.keep q2.heap, _, .inr (.inl rfl), x2.less (Kp.there (fs := []) q1 S.fr)⟩
  · obtain ⟨T', e, rfl, r⟩ := x
    exact hE e s' r T'
end
end Mine

end
section
open PySem PySem.W PyProof.Rows PySem.Calls PySem.Spec
set_option Elab.async false
set_option linter.unusedVariables false
namespace Mine
section
variable {M : Model} {A : Around} {E : Value → Shared → Prop} {s : Shared} {g : Heap} {env : Env} {L e : Addr} {cls ct : Value} {P : List Value → Prop}
theorem note_again {Q : Unit → Shared → Prop} (hf : env.frame = some L) (x : Xc g s.heap e cls P ct (some (rawInt L))) (h : Q () s) : wpAny M A (noteFrame (.ref e) env) Q E s := by
  obtain ⟨n, nb, oe, vs, t, args, e1, e2, e3, e4, e5, e6, e7, e8⟩ := x
  rcases e8 with ⟨z, _⟩ | ⟨T, oT, ts, f', z1, z2, z3, z4, z5, z6, z7⟩
  · cases z
  cases z1
  unfold noteFrame
  simp only [hf]
  refine wpAny_bind (wpAny_field e1 e3 z2 ?_)
  rw [if_pos (show (Value.ref T != Value.none) = true from by simp)]
  refine wpAny_bind (wpAny_field z5 z6 z7 ?_)
  rw [if_pos (show (rawInt L == rawInt L) = true from by simp)]
  exact wpAny_pure h
end
section
variable {a : Amb}
theorem FnX.body {cls : Value} {P : List Value → Prop} {n : Nat} {f : Addr} {o : Obj} {nm : Str} {ps : Arguments} {body : List Stmt} {scp : Scope} {doc pm cd ct : Value} {an : Option Addr} {ds : List PyData} {ρ' : Vars} (names : List Str)
    (ho : a.K.lookup f = some o) (hd : o.data = .func (fnOf nm nm ps body scp .none .none doc pm an cd ct)) (hc : codeIn a.K cd nm = true)
    (hb : ∀ vs : List Value, vs.length = ds.length → bindArgs (fnOf nm nm ps body scp .none .none doc pm an cd ct) ⟨vs, []⟩ = pure (names.zip vs))
    (hkinds : (names.all fun x => scp.names.lookup x == some .local || scp.names.lookup x == some .cell) = true)
    (hco : scp.isCoroutine = false) (hgen : scp.isGenerator = false) (hk : scp.kind = .function)
    (h : ∀ c : Cx scp, c.n = n → c.hq = none → c.env = c.fe → Rz a c (names.zip ds).reverse body cls P ρ') : FnX a (n + 1) (.ref f) ds cls P := by
  intro A frs X s vs hfr hh hdp hun hok hvs htk
  have hst := hok.base
  have hff := hok.fr
  refine codeAny_call_function (by unfold recursionLimit; omega) (hst f o (a.hK _ _ ho)) hd hco hgen rfl (codeRec_of (a.hK.keeps hst) hc) ?_
  rw [hb vs hvs.length]
  refine wpAny_pure ?_
  have kin : ∀ (k : Nat), ∀ x ∈ names.zip vs, scp.names.lookup x.1 = some .local ∨ (scp.names.lookup x.1 = some .cell ∧ ((cellsFrom k scp.names []).lookup x.1).isSome = true) := fun k x hx => by
    have := List.all_eq_true.mp hkinds x.1 (List.of_mem_zip hx).1
    rcases Bool.or_eq_true_iff.mp this with q | q
    · exact .inl (by simpa using q)
    · have q' : scp.names.lookup x.1 = some .cell := by simpa using q
      exact .inr ⟨q', cellsFrom_some _ _ _ (.inl q')⟩
  refine wpAny_mono (wpAny_toks_of (n := 1) htk (wpAny_newFunctionEnv_cells (Q := fun env s' => env = newEnv scp s.heap.objs.size mainGlobals (cellsFrom (s.heap.objs.size + 1) scp.names []) (nm ++ ".<locals>.") (some f) cd none builtinsNs ∧
    InCallC s env.locals (bindL env.kindOf (names.zip vs) fun _ => none) env.cells (bindC env.kindOf (names.zip vs) fun _ => none) s') hk (kin _) fun env he s' x => ⟨he, x⟩)) (fun env s' ⟨T, he, x⟩ => ?_) fun _ _ x => x.2
  subst he
  obtain ⟨h', tk, hs', hkeep⟩ := x.done
  have hlim : s'.heap.NoLimit := (a.hT.nolimit.keeps hst).keeps x.toInCall.keep
  refine ⟨hlim, codeAny_func ?_⟩
  have hnewL : a.H.get? s.heap.objs.size = none := hst.fresh
  have hfrm : FrOk a.H s'.heap (newEnv scp s.heap.objs.size mainGlobals (cellsFrom (s.heap.objs.size + 1) scp.names []) (nm ++ ".<locals>.") (some f) cd none builtinsNs :: frs) := by
    obtain ⟨oL, es, ep, hL, hLd, _⟩ := x.toInCall.ns
    have hff' := hff.keep (Keep.ofStays (fs := []) x.toInCall.keep)
    refine ⟨⟨by show scp.kind ≠ .module; rw [hk]; decide, ⟨_, oL, rfl, hnewL, hL, fun vs q => by rw [hLd] at q; cases q⟩, hff'.ff⟩, fun b hb => ?_⟩
    rcases List.mem_cons.mp hb with q | q
    · rw [q]; exact ⟨oL, es, ep, hL, hLd⟩
    · exact hff'.dd b q
  let c : Cx scp := {
    A := A.deeper (newEnv scp s.heap.objs.size mainGlobals (cellsFrom (s.heap.objs.size + 1) scp.names []) (nm ++ ".<locals>.") (some f) cd none builtinsNs)
    env := newEnv scp s.heap.objs.size mainGlobals (cellsFrom (s.heap.objs.size + 1) scp.names []) (nm ++ ".<locals>.") (some f) cd none builtinsNs
    fe := newEnv scp s.heap.objs.size mainGlobals (cellsFrom (s.heap.objs.size + 1) scp.names []) (nm ++ ".<locals>.") (some f) cd none builtinsNs
    fo := frs
    n := n
    X := X
    hfr := Around.frames_deeper hfr
    hgen := hgen
    hco := hco
    hfb := rfl
    hfg := rfl
    hff := rfl
    hq := none
    hh := hh
    hd := by rw [depth_deeper]; omega
    hu := by rw [units_deeper]; omega
    hsc := rfl
    hk := hk
    hinj := pair_inj x.apart
    hg := rfl
    hb := rfl }
  have S : St a c s'.heap (names.zip ds).reverse := by
    refine ⟨⟨fun b o e => x.toInCall.keep b o (hst b o e), hfrm, fun y hy => let ⟨o, e⟩ := hok.xs y hy; ⟨o, x.toInCall.keep y o e⟩⟩, hnewL, ⟨_, x.toInCall.ns, fun y dy hy hq => ?_⟩, fun y hy => ?_, fun e z => by cases z⟩
    · obtain ⟨v, e1, e2⟩ := zip_lookup names vs ds hvs hq
      refine ⟨v, ?_, e2.of (Keep.ofStays (fs := []) x.toInCall.keep).seqv⟩
      rw [bindL_eq (by exact hy), e1]; rfl
    · have hsome := cellsFrom_some (x := y) scp.names (s.heap.objs.size + 1) [] (.inl hy)
      obtain ⟨ad, hadl⟩ := Option.isSome_iff_exists.mp hsome
      refine ⟨ad, _, hadl, ?_, x.cell y ad hadl, fun dy hq => ?_⟩
      · have := x.above y ad (mem_of_lookup hadl)
        cases q : a.H.get? ad with
        | none => rfl
        | some o' => exact absurd (Heap.lt_size (hst ad o' q)) (Nat.lt_asymm this)
      · obtain ⟨v, e1, e2⟩ := zip_lookup names vs ds hvs hq
        refine ⟨v, ?_, e2.of (Keep.ofStays (fs := []) x.toInCall.keep).seqv⟩
        rw [bindC_eq (by show List.lookup y scp.names ≠ _; rw [hy]; decide), e1]; rfl
  refine wpAny_mono (h c rfl rfl rfl s' (fun v s2 => ∃ e, v = .ref e ∧ Rp a c cls P .none ρ' s' e s2) S T fun e s2 r _ => ⟨e, rfl, r⟩) (fun _ _ x => x.elim) fun v s2 ⟨e, ev, r⟩ => ?_
  subst ev
  obtain ⟨fl, hfl, xc⟩ := r.xc
  have fin : ∀ (h2 : Heap), KeepF s'.heap c.fs s2.heap h2 → Xc s'.heap h2 e cls P .none (some .none) → ∃ e', (Except.error (Value.ref e) : Result) = .error (.ref e') ∧ Kp (frAddrs frs) s { s2 with heap := h2 } ∧ Xc s.heap h2 e' cls P .none (some .none) := fun h2 k2 x2 => by
    refine ⟨e, rfl, ⟨fun b o eb => ?_, r.kp.gens.trans (by rw [hs']), r.kp.os.trans (by rw [hs'])⟩, x2.less fun b z => ?_⟩
    · have ne : b ≠ s.heap.objs.size := Nat.ne_of_lt (Heap.lt_size eb)
      have nc : ∀ y, scp.names.lookup y = some .cell → (cellsFrom (s.heap.objs.size + 1) scp.names []).lookup y ≠ some b := fun y _ hm =>
        absurd (Heap.lt_size eb) (Nat.lt_asymm (x.above y b (mem_of_lookup hm)))
      have := (r.kp.keepF S k2).heap b o (x.toInCall.keep b o eb) ne nc
      refine ⟨fun nm => this.1 fun hm => ?_, fun m nf => this.2 (List.mem_cons_of_mem _ m) nf⟩
      rcases List.mem_cons.mp hm with q | q
      · exact ne q
      · exact nm q
    · cases q : s.heap.get? b with
      | none => rfl
      | some o => rw [x.toInCall.keep b o q] at z; cases z
  unfold leaving
  have hlast : ∀ (s3 : Shared), KeepF s'.heap c.fs s2.heap s3.heap → s3.gens = s2.gens → s3.os = s2.os → (∃ f, Xc s'.heap s3.heap e cls P .none (some f)) → wpAny a.M c.A (setFlight (.ref e) none) (fun _ s'' => ∃ e', (Except.error (Value.ref e) : Result) = .error (.ref e') ∧ Kp (frAddrs frs) s s'' ∧ Xc s.heap s''.heap e' cls P .none (some .none)) (fun e' s'' => ∃ e'', (Except.error e' : Result) = .error (.ref e'') ∧ Kp (frAddrs frs) s s'' ∧ Xc s.heap s''.heap e'' cls P .none (some .none)) s3 := fun s3 k3 g3 o3 ⟨f, x3⟩ => by
    refine flight_step (fs := c.fs) (f := none) x3 fun h2 k2 x2 => ?_
    obtain ⟨e', z1, z2, z3⟩ := fin h2 (k3.trans k2) x2
    exact ⟨e', z1, ⟨z2.heap, g3.trans z2.gens, o3.trans z2.os⟩, z3⟩
  rcases hfl with q | q | ⟨L, hL, q⟩
  · subst q
    exact wpAny_bind (note_step (base := a.H) (L := s.heap.objs.size) c.hfr r.st.fr.ff rfl (.inl rfl) xc fun h3 k3 x3 => hlast { s2 with heap := h3 } k3 rfl rfl ⟨_, x3⟩)
  · subst q
    exact wpAny_bind (note_step (base := a.H) (L := s.heap.objs.size) c.hfr r.st.fr.ff rfl (.inr rfl) xc fun h3 k3 x3 => hlast { s2 with heap := h3 } k3 rfl rfl ⟨_, x3⟩)
  · subst q
    refine wpAny_bind (note_again hL xc ?_)
    exact hlast s2 .refl rfl rfl ⟨_, xc⟩

end
end Mine

end
section
open PySem PySem.W PyProof.Rows PySem.Calls PySem.Spec
set_option Elab.async false
set_option linter.unusedVariables false
set_option maxRecDepth 100000
namespace Mine
theorem one_arg {P : List Value → Prop} (h : ∀ v, P [v]) : ∀ vs : List Value, vs.length = 1 → P vs
  | [v], _ => h v
theorem two_args {P : List Value → Prop} (h : ∀ v u, P [v, u]) : ∀ vs : List Value, vs.length = 2 → P vs
  | [v, u], _ => h v u

/-! _law_reply -/
def replyS (x : Str) : Str := "229 :) Extended (" ++ x ++ ") (|||9|)"
theorem reply_fn {a : Amb} {f : Addr} (hI : IsFn a "_law_reply" f (sAt 25)) {n : Nat} {x : Str} (hx : x.length ≤ 100000) : FnG (fun _ => True) a (n + 1) (.ref f) [.str x] (.str (replyS x)) := by
  refine hI.fnG ["inside"] (fun doc pm an cd ct => one_arg fun v => by rfl) (by rfl) (by rfl) (by rfl) (by rfl) fun c hc h0 => ?_
  refine Exs.ret (Exc.return (Ev.bin (Ev.bin Ev.str (Ev.loc (x := "inside") (by rfl) (by rfl) (by decide)) (Op2.addStr ?_)) Ev.str (Op2.addStr ?_)))
  · rw [sizeLine_eq]
    have : (Str.ofString "229 :) Extended (").length = 17 := by decide
    omega
  · rw [sizeLine_eq, Str.length_append]
    have e1 : (Str.ofString "229 :) Extended (").length = 17 := by decide
    have e2 : (Str.ofString ") (|||9|)").length = 9 := by decide
    omega

/-! _law_piece -/
def signS (q : Int) : Str := ⟨#[(33 + q.fmod 94).toNat]⟩
def lastS (q : Int) : Str := if ([("/" : Str), (")" : Str)].contains (signS q)) = true then ("a" : Str) else signS q
def wholeS (q : Int) : Str := [("+" : Str), ("-" : Str), ("0" : Str), ("1_" : Str)].getD ((q.fdiv 10).fmod 4).toNat Str.empty ++ Str.ofString (toString (q.fmod 10))
def pieceS (n : Int) : Str := [Str.ofString (toString ((n.fdiv 7).fmod 65536)), ("a" : Str), ("" : Str), ("." : Str), wholeS (n.fdiv 7), (".." : Str), lastS (n.fdiv 7)].getD (n.fmod 7).toNat Str.empty

theorem strs_get {xs : List Str} {i : Nat} (h : i < xs.length) : (xs.map PyData.str)[i]? = some (.str (xs.getD i Str.empty)) := by
  rw [List.getElem?_map]
  simp [h]
theorem fmod_lt (q : Int) {m : Int} (hm : 0 < m) : 0 ≤ q.fmod m ∧ q.fmod m < m := ⟨Int.fmod_nonneg_of_pos q hm, Int.fmod_lt_of_pos q hm⟩
theorem log2_small {i : Int} (h0 : 0 ≤ i) (h1 : i < 65536) : i.natAbs.log2 < 1920 := by
  have : i.natAbs < 2 ^ 16 := by omega
  by_cases hz : i.natAbs = 0
  · rw [hz]; decide
  · exact Nat.lt_of_lt_of_le ((Nat.log2_lt hz).mpr this) (by decide)
theorem piece_fn {a : Amb} {f : Addr} (hI : IsFn a "_law_piece" f (sAt 23)) (hchr : nsIn a.K mainGlobals "chr" = some none) (hstr : nsIn a.K mainGlobals "str" = some none) {m : Nat} {n : Int} : Fn a (m + 1) (.ref f) [.int n] (.str (pieceS n)) := by
  refine hI.fn ["n"] (fun doc pm an cd ct => one_arg fun v => by rfl) (by rfl) (by rfl) (by rfl) (by rfl) fun c hc h0 => ?_
  have f94 := fmod_lt (n.fdiv 7) (m := 94) (by decide)
  have f4 := fmod_lt ((n.fdiv 7).fdiv 10) (m := 4) (by decide)
  have f10 := fmod_lt (n.fdiv 7) (m := 10) (by decide)
  have f7 := fmod_lt n (m := 7) (by decide)
  have f65 := fmod_lt (n.fdiv 7) (m := 65536) (by decide)
  refine Exs.cons (Exc.assignL (Ev.bin (Ev.loc (x := "n") (by rfl) (by rfl) (by decide)) Ev.int (Op2.divInt (by decide))) (by rfl) (by rfl)) ?_
  refine Exs.cons (Exc.assignL (Ev.bi (Is.globB hchr PyProof.Rows.Boot.«chr» (by decide) (by rfl) (by decide)) (Bi.chr (i := 33 + (n.fdiv 7).fmod 94) (by omega) (by omega))
    (EvL.one (Ev.bin Ev.int (Ev.bin (Ev.loc (x := "q") (by rfl) (by rfl) (by decide)) Ev.int (Op2.modInt (by decide))) Op2.addInt)) (by rfl)) (by rfl) (by rfl)) ?_
  refine Exs.cons (Exc.assignL (d := .str (lastS (n.fdiv 7))) (Ev.ite (Ts.cmp (Ev.loc (x := "sign") (by rfl) (by rfl) (by decide)) (Ev.list (EvL.two Ev.str Ev.str) (by rfl) (by decide)) (Op2.inStrs (ys := ["/", ")"]))) (fun hb => ?_) (fun hb => ?_)) (by rfl) (by rfl)) ?_
  · rw [show lastS (n.fdiv 7) = "a" from if_pos hb]; exact Ev.str
  · rw [show lastS (n.fdiv 7) = signS (n.fdiv 7) from if_neg (by rw [show [("/" : Str), (")" : Str)].contains (signS (n.fdiv 7)) = false from hb]; decide)]; exact Ev.loc (x := "sign") (by rfl) (by rfl) (by decide)
  refine Exs.cons (Exc.assignL (d := .str (wholeS (n.fdiv 7))) (Ev.bin (Ev.itemL (Ev.list (EvL.cons Ev.str (EvL.cons Ev.str (EvL.two Ev.str Ev.str))) (by rfl) (by decide))
      (Ev.bin (Ev.bin (Ev.loc (x := "q") (by rfl) (by rfl) (by decide)) Ev.int (Op2.divInt (by decide))) Ev.int (Op2.modInt (by decide))) f4.1 (by omega) (strs_get (xs := ["+", "-", "0", "1_"]) (by simp; omega)) (fun o j => by rfl))
    (Ev.ty (Is.globB hstr PyProof.Rows.Boot.«str» (by decide) (by rfl) (by decide)) (Bi.strI (log2_small f10.1 (by omega))) (EvL.one (Ev.bin (Ev.loc (x := "q") (by rfl) (by rfl) (by decide)) Ev.int (Op2.modInt (by decide)))) (by rfl))
    (Op2.addStr ?_)) (by rfl) (by rfl)) ?_
  · rw [sizeLine_eq]
    have h1 := len_str_of_int ((n.fdiv 7).fmod 10)
    have h2 : ([("+" : Str), ("-" : Str), ("0" : Str), ("1_" : Str)].getD (((n.fdiv 7).fdiv 10).fmod 4).toNat Str.empty).length ≤ 2 := by
      have : (((n.fdiv 7).fdiv 10).fmod 4).toNat < 4 := by omega
      generalize (((n.fdiv 7).fdiv 10).fmod 4).toNat = k at this
      match k, this with
      | 0, _ => decide
      | 1, _ => decide
      | 2, _ => decide
      | 3, _ => decide
    omega
  refine Exs.ret (Exc.return (Ev.itemL (Ev.list (EvL.cons (Ev.ty (Is.globB hstr PyProof.Rows.Boot.«str» (by decide) (by rfl) (by decide)) (Bi.strI (log2_small f65.1 (by omega))) (EvL.one (Ev.bin (Ev.loc (x := "q") (by rfl) (by rfl) (by decide)) Ev.int (Op2.modInt (by decide)))) (by rfl))
      (EvL.cons Ev.str (EvL.cons Ev.str (EvL.cons Ev.str (EvL.cons (Ev.loc (x := "whole") (by rfl) (by rfl) (by decide)) (EvL.cons Ev.str (EvL.one (Ev.loc (x := "last") (by rfl) (by rfl) (by decide)))))))))
      (by rfl) (Nat.le_of_ble_eq_true rfl)) (Ev.bin (Ev.loc (x := "n") (by rfl) (by rfl) (by decide)) Ev.int (Op2.modInt (by decide))) f7.1 (by omega) (strs_get (xs := [_, _, _, _, _, _, _]) (by simp; omega)) (fun o j => by rfl)))
end Mine

end
section
open PySem
set_option Elab.async false
set_option linter.unusedVariables false
namespace Mine
/-! what a piece looks like -/
def GoodP (p : Str) : Prop := p.length ≤ 20 ∧ ∀ c ∈ p.cps.toList, 33 ≤ c ∧ c ≤ 126 ∧ c ≠ 47 ∧ c ≠ 41
theorem digits_good {i : Int} (h0 : 0 ≤ i) (h1 : i < 65536) : (Str.ofString (toString i)).length ≤ 5 ∧ ∀ c ∈ (Str.ofString (toString i)).cps.toList, 48 ≤ c ∧ c ≤ 57 := by
  obtain ⟨n, rfl⟩ := Int.eq_ofNat_of_zero_le h0
  have hn : n < 10 ^ 5 := by omega
  have e : (toString (n : Int)).toList = Nat.toDigits 10 n := by
    rw [Int.toString_eq_repr, Int.repr_eq_if, if_pos (by omega), Nat.toList_repr]
    rfl
  constructor
  · rw [PyProof.Rows.ofString_len, ← String.length_toList, e]
    exact (Nat.length_toDigits_le_iff (by decide) (by decide)).mpr hn
  · intro c hc
    rw [PyProof.Rows.signs_ofString, e] at hc
    obtain ⟨ch, hch, rfl⟩ := List.mem_map.mp hc
    exact PyProof.Rows.digit_range (Nat.isDigit_of_mem_toDigits (b := 10) (n := n) (by decide) (by decide) hch)
theorem sign_good (q : Int) : (signS q).length = 1 ∧ ∀ c ∈ (signS q).cps.toList, 33 ≤ c ∧ c ≤ 126 := by
  have f := fmod_lt q (m := 94) (by decide)
  refine ⟨rfl, fun c hc => ?_⟩
  have hc : c ∈ [(33 + q.fmod 94).toNat] := hc
  rw [List.mem_singleton] at hc
  omega
theorem last_good (q : Int) : GoodP (lastS q) := by
  unfold lastS
  split
  · exact ⟨by decide, by decide⟩
  · rename_i h
    obtain ⟨h1, h2⟩ := sign_good q
    refine ⟨by omega, fun c hc => ?_⟩
    have h3 := h2 c hc
    have hc : c ∈ [(33 + q.fmod 94).toNat] := hc
    rw [List.mem_singleton] at hc
    have h' : signS q ≠ ("/" : Str) ∧ signS q ≠ (")" : Str) := by simpa using h
    refine ⟨h3.1, h3.2, fun z => h'.1 ?_, fun z => h'.2 ?_⟩
    · unfold signS; rw [← hc, z]; rfl
    · unfold signS; rw [← hc, z]; rfl
theorem whole_good (q : Int) : GoodP (wholeS q) := by
  have f4 := fmod_lt (q.fdiv 10) (m := 4) (by decide)
  have f10 := fmod_lt q (m := 10) (by decide)
  obtain ⟨d1, d2⟩ := digits_good f10.1 (by omega)
  have hw : ∀ k, GoodP ([("+" : Str), ("-" : Str), ("0" : Str), ("1_" : Str)].getD k Str.empty) ∧ ([("+" : Str), ("-" : Str), ("0" : Str), ("1_" : Str)].getD k Str.empty).length ≤ 2 := fun k =>
    match k with
    | 0 => ⟨⟨by decide, by decide⟩, by decide⟩
    | 1 => ⟨⟨by decide, by decide⟩, by decide⟩
    | 2 => ⟨⟨by decide, by decide⟩, by decide⟩
    | 3 => ⟨⟨by decide, by decide⟩, by decide⟩
    | k + 4 => ⟨⟨Nat.zero_le 20, fun c hc => nomatch (show c ∈ ([] : List Nat) from hc)⟩, Nat.zero_le 2⟩
  obtain ⟨⟨w1, w2⟩, w3⟩ := hw ((q.fdiv 10).fmod 4).toNat
  unfold wholeS
  refine ⟨by rw [Str.length_append]; omega, fun c hc => ?_⟩
  rcases PyProof.Rows.mem_cps_append.mp hc with hc | hc
  · exact w2 c hc
  · have := d2 c hc; omega
theorem piece_good (n : Int) : GoodP (pieceS n) := by
  have f7 := fmod_lt n (m := 7) (by decide)
  have f65 := fmod_lt (n.fdiv 7) (m := 65536) (by decide)
  unfold pieceS
  generalize hk : (n.fmod 7).toNat = k
  match k with
  | 0 =>
    obtain ⟨d1, d2⟩ := digits_good f65.1 f65.2
    refine ⟨Nat.le_trans d1 (by decide), fun c hc => ?_⟩
    have := d2 c hc; omega
  | 1 => exact (⟨by decide, by decide⟩ : GoodP ("a" : Str))
  | 2 => exact (⟨by decide, by decide⟩ : GoodP ("" : Str))
  | 3 => exact (⟨by decide, by decide⟩ : GoodP ("." : Str))
  | 4 => exact whole_good _
  | 5 => exact (⟨by decide, by decide⟩ : GoodP (".." : Str))
  | 6 => exact last_good _
  | k + 7 => omega
end Mine

end
section
open PySem PySem.W PyProof.Rows PySem.Calls PySem.Spec
set_option Elab.async false
set_option linter.unusedVariables false
set_option maxRecDepth 100000
namespace Mine

theorem cut_upto {α : Type} (xs : List α) {k : Int} (hk : 0 ≤ k) : cut xs none (some k) = xs.take k.toNat := by
  unfold cut
  have e : clipAt xs.length k = min k.toNat xs.length := by
    have := clipAt_nat xs.length k.toNat
    rwa [Int.toNat_of_nonneg hk] at this
  simp only [Option.elim, e, List.drop_zero, Nat.sub_zero]
  rcases Nat.le_total k.toNat xs.length with h | h
  · rw [Nat.min_eq_left h]
  · rw [Nat.min_eq_right h, List.take_of_length_le (Nat.le_refl _), List.take_of_length_le h]
theorem joinOk_of {sep : Str} {texts : List Str} {n : Nat} (hs : sep.length ≤ 1) (ht : ∀ t ∈ texts, t.length ≤ n) (hl : texts.length * (n + 1) ≤ 16777216) : JoinOk sep texts = true := by
  unfold JoinOk Builtin.Str.tooLong
  rw [Bool.not_eq_true', decide_eq_false_iff_not, sizeLine_eq]
  rw [List.foldl_toArray' _ _ _ rfl]
  have key : ∀ (l : List Str) (acc : Nat), (∀ t ∈ l, t.length ≤ n) → l.foldl (· + ·.length + sep.length) acc ≤ acc + l.length * (n + 1) := by
    intro l
    induction l with
    | nil => intro acc _; simp
    | cons x r ih =>
      intro acc h
      rw [List.foldl_cons]
      have h1 := ih (acc + x.length + sep.length) fun t m => h t (List.mem_cons_of_mem _ m)
      have h2 := h x (List.mem_cons_self ..)
      rw [List.length_cons, Nat.succ_mul]
      omega
  have := key texts 0 ht
  omega

theorem join_len {sep : Str} {texts : List Str} {n : Nat} (hs : sep.length ≤ 1) (ht : ∀ t ∈ texts, t.length ≤ n) : (Txt.join sep texts).length ≤ texts.length * (n + 1) := by
  show (Builtin.Str.glued sep texts).length ≤ _
  rw [StrLaws.glued_eq_join]
  refine Nat.le_trans (StrLaws.join_length_le sep texts) ?_
  have h1 : (texts.map (·.length)).sum ≤ texts.length * n := by
    clear hs
    induction texts with
    | nil => simp
    | cons x r ih =>
      have := ih fun t m => ht t (List.mem_cons_of_mem _ m)
      have := ht x (List.mem_cons_self ..)
      simp only [List.map_cons, List.sum_cons, List.length_cons, Nat.succ_mul]
      omega
  have h2 : texts.length * sep.length ≤ texts.length * 1 := Nat.mul_le_mul_left _ hs
  rw [Nat.mul_add]; omega

def aheadS (x : Int) : Str := if (x.fmod 8 == 7) = true then "" else if (x.fmod 8 == 6) = true then "//" else "/"
def piecesL (x : Int) (trunk : List Str) : List Str := trunk.take ((x.fdiv 8).fmod 6).toNat ++ [pieceS (x.fdiv 48), pieceS (x.fdiv 336)]
def pathS (x : Int) (trunk : List Str) : Str := aheadS x ++ Txt.join "/" (piecesL x trunk)
def isName (p : Str) : Bool := ![("" : Str), ("." : Str)].contains p
def rowL (x : Int) (trunk : List Str) : List Str := (piecesL x trunk).filter isName
def dName : PyData → Bool
  | .str x => isName x
  | _ => false
theorem filter_strs {p : Str → Bool} {q : PyData → Bool} (h : ∀ x, q (.str x) = p x) (xs : List Str) : (xs.map PyData.str).filter q = (xs.filter p).map PyData.str := by
  induction xs with
  | nil => rfl
  | cons x r ih => rw [List.map_cons, List.filter_cons, List.filter_cons, h, ih]; split <;> rfl

theorem pieceS_len (n : Int) : (pieceS n).length ≤ 20 := (piece_good n).1

theorem path_fn {a : Amb} {f fp : Addr} (hI : IsFn a "_law_path" f (sAt 24)) (hP : IsFn a "_law_piece" fp (sAt 23)) (hchr : nsIn a.K mainGlobals "chr" = some none) (hstr : nsIn a.K mainGlobals "str" = some none) {m : Nat} {x : Int} {trunk : List Str}
    (ht : ∀ t ∈ trunk, t.length ≤ 20) (hn : trunk.length = 5) : Fn a (m + 2) (.ref f) [.int x, .list (trunk.map .str)] (.tuple [.str (pathS x trunk), .list ((rowL x trunk).map .str)]) := by
  refine hI.fn ["x", "trunk"] (fun doc pm an cd ct => two_args fun v u => by rfl) (by rfl) (by rfl) (by rfl) (by rfl) fun c hc h0 => ?_
  have f6 := fmod_lt (x.fdiv 8) (m := 6) (by decide)
  refine Exs.cons (Exc.assignL (d := .str (aheadS x)) (Ev.ite (Ts.cmp (Ev.bin (Ev.loc (x := "x") (by rfl) (by rfl) (by decide)) Ev.int (Op2.modInt (by decide))) Ev.int Op2.eqInt) (fun hb => ?_) (fun hb => ?_)) (by rfl) (by rfl)) ?_
  · rw [show aheadS x = "" from if_pos hb]; exact Ev.str
  · refine Ev.ite (Ts.cmp (Ev.bin (Ev.loc (x := "x") (by rfl) (by rfl) (by decide)) Ev.int (Op2.modInt (by decide))) Ev.int Op2.eqInt) (fun hb2 => ?_) (fun hb2 => ?_)
    · rw [show aheadS x = "//" from by unfold aheadS; rw [if_neg (by rw [hb]; decide), if_pos hb2]]; exact Ev.str
    · rw [show aheadS x = "/" from by unfold aheadS; rw [if_neg (by rw [hb]; decide), if_neg (by rw [hb2]; decide)]]; exact Ev.str
  have hlen : ((piecesL x trunk).map PyData.str).length ≤ 20 := by
    simp only [piecesL, List.length_map, List.length_append, List.length_take, List.length_cons, List.length_nil]; omega
  have hall : ∀ t ∈ piecesL x trunk, t.length ≤ 20 := fun t h => by
    rcases List.mem_append.mp h with h | h
    · exact ht t (List.mem_of_mem_take h)
    · rcases List.mem_cons.mp h with rfl | h
      · exact pieceS_len _
      · rw [List.mem_singleton.mp h]; exact pieceS_len _
  refine Exs.cons (Exc.assignL (d := .list ((piecesL x trunk).map .str)) (Ev.to (Ev.bin (Ev.sliceL (lo := none) (hi := some ((x.fdiv 8).fmod 6)) (Ev.loc (x := "trunk") (by rfl) (by rfl) (by decide)) .none
      (.some (Ev.bin (Ev.bin (Ev.loc (x := "x") (by rfl) (by rfl) (by decide)) Ev.int (Op2.divInt (by decide))) Ev.int (Op2.modInt (by decide)))) ?_)
    (Ev.list (EvL.two (Ev.fn hP (piece_fn (m := 0) hP hchr hstr) h0 (EvL.one (Ev.bin (Ev.loc (x := "x") (by rfl) (by rfl) (by decide)) Ev.int (Op2.divInt (by decide)))) (by omega) (by rfl) (by decide) (by rfl))
      (Ev.fn hP (piece_fn (m := 0) hP hchr hstr) h0 (EvL.one (Ev.bin (Ev.loc (x := "x") (by rfl) (by rfl) (by decide)) Ev.int (Op2.divInt (by decide)))) (by omega) (by rfl) (by decide) (by rfl))) (by rfl) (Nat.le_of_ble_eq_true rfl)) (Op2.addL ?_)) ?_) (by rfl) (by rfl)) ?_
  · rw [List.length_map, hn, sizeLine_eq]; omega
  · rw [cut_upto _ f6.1, sizeLine_eq, List.length_take, List.length_map, hn]; simp; omega
  · rw [cut_upto _ f6.1]; unfold piecesL; rw [List.map_append, List.map_take]; rfl
  have hj : JoinOk ("/" : Str) (piecesL x trunk) = true := joinOk_of (n := 20) (by decide) hall (by rw [List.length_map] at hlen; omega)
  refine Exs.ret (Exc.return (Ev.tuple (EvL.two (Ev.bin (Ev.loc (x := "ahead") (by rfl) (by rfl) (by decide))
      (Ev.meth Ev.str PySem.F.slot_str_join PySem.F.type_str_join (EvL.one (Ev.loc (x := "pieces") (by rfl) (by rfl) (by decide))) (Bi.join hj) (by rfl) (by rfl) (by decide) (by rfl)) (Op2.addStr ?_))
    (Ev.to (Ev.comp (p := dName) (f := id) (bs := fun d => [("piece", d)]) (EvI.list (Ev.loc (x := "pieces") (by rfl) (by rfl) (by decide))) (by rfl) (by decide) (by decide) (by decide) (fun _ => by rfl) ?_ fun c' hc' hq' d hd => ?_) ?_)) (by rfl) (Nat.le_of_ble_eq_true rfl)))
  · have h1 := join_len (sep := ("/" : Str)) (n := 20) (by decide) hall
    have h2 : (aheadS x).length ≤ 2 := by unfold aheadS; split; decide; split <;> decide
    rw [List.length_map] at hlen
    rw [sizeLine_eq]; omega
  · rw [sizeLine_eq]; omega
  · obtain ⟨p, hp, rfl⟩ := List.mem_map.mp hd
    refine ⟨AsL.name (by rfl), TsAll.one (Ts.cmp (Ev.loc (x := "piece") (by rfl) (by rfl) (by decide)) (Ev.list (EvL.two Ev.str Ev.str) (by rfl) (by decide)) (Op2.notInStrs (ys := ["", "."]))), fun _ => Ev.loc (x := "piece") (by rfl) (by rfl) (by decide)⟩
  · rw [List.map_id]; unfold rowL; rw [filter_strs (p := isName) fun _ => rfl]
end Mine

end
section
open PySem PySem.W PyProof.Rows PySem.Calls PySem.Spec
set_option Elab.async false
set_option linter.unusedVariables false
set_option maxRecDepth 100000
namespace Mine
section
variable {prog : Program} {w : World} {A : Around} {E : Value → Shared → Prop} {s : Shared}
theorem str_sub : isSubtype (.type "str") (.type "str") = pure true := by rw [isSubtype_type]; kernel_rfl
theorem sub_nested_str {k : Value} {dep : Int} {tk : Tok} {Q : Fin → Shared → Prop} (hk : k = .int dep tk) (hq : Q (.done (.ret (.bool true))) s) :
    wpAny (model prog w) A (Builtin.«issubclass.nested» ⟨[.type "str", .type "str", k], []⟩) Q E s := by
  subst hk
  have hm : typeOf (.type "str") = pure (.type "type") := by kernel_rfl
  have hself := str_sub
  have hi : isType (.type "str") = pure true := by kernel_rfl
  repeat (any_goals (first | assumption | (rw [hm]) | (rw [hi]) | (rw [hself]) | wp_step))
theorem tup_sub : isSubtype (.type "tuple") (.type "tuple") = pure true := by rw [isSubtype_type]; kernel_rfl
theorem sub_nested_tup {t : Addr} {Q : Fin → Shared → Prop} (ht : s.heap.IsTuple t #[.type "str", .type "bytes"]) (hq : Q (.done (.ret (.bool true))) s) :
    wpAny (model prog w) A (Builtin.«issubclass.nested» ⟨[.type "str", .ref t, rawInt 0], []⟩) Q E s := by
  have hT := ht.typeIs
  obtain ⟨o, ho, hc, n, hd⟩ := id ht
  unfold Builtin.«issubclass.nested»
  dsimp only
  refine wpAny_bind (wpAny_typeOf hT ?_)
  rw [if_neg (by decide)]
  refine wpAny_bind (m := Builtin.Builtins.unionMembers (.ref t)) ?_
  unfold Builtin.Builtins.unionMembers
  refine wpAny_bind (wpAny_typeOf hT ?_)
  rw [if_neg (by decide)]
  refine wpAny_pure ?_
  refine wpAny_bind (wpAny_isInstance hT tup_sub ?_)
  rw [if_pos rfl, if_neg (by decide)]
  refine wpAny_bind (m := seqItems? (.ref t)) ?_
  unfold seqItems?
  refine wpAny_bind (wpAny_load ho ?_)
  rw [hd]
  refine wpAny_pure ?_
  simp only [Option.getD_some, List.forIn_toArray, List.forIn_cons]
  refine wpAny_bind (wpAny_bind (wpAny_bind (call_function_entry (by decide +kernel) (by decide +kernel) PySem.F.entry_issubclass_nested (by unfold argsOk; kernel_rfl) (sub_nested_str rfl ⟨_, rfl, ?_⟩))))
  refine wpAny_bind (wpAny_truthy_bool ?_)
  rw [if_pos rfl]
  exact wpAny_bind (wpAny_pure (wpAny_pure (wpAny_pure (wpAny_pure hq))))
theorem sub_str {t : Addr} {Q : Value → Shared → Prop} (ht : s.heap.IsTuple t #[.type "str", .type "bytes"]) (hq : Q (.bool true) s) : wpAny (model prog w) A (call (.builtin "issubclass") [.type "str", .ref t]) Q E s :=
  call_issubclass (S := fun A R s => s.heap.IsTuple t #[.type "str", .type "bytes"] ∧ R (.ok (.ret (.bool true))) s) (fun prog w A R s h => issubclass_outer (sub_nested_tup h.1 h.2)) ⟨ht, hq⟩
end

section
variable {a : Amb} {sc : Scope} {c : Cx sc} {ρ : Vars}
theorem St.storeAny {h h' : Heap} {x : Str} {v : Value} {ml : Str → Option Value} (S : St a c h ρ) (hn : h.Ns c.env.locals ml)
    (hv : ∀ x d, sc.names.lookup x = some .local → ρ.lookup x = some d → ∃ v, ml x = some v ∧ Rd (vw c.X h) v d) (hx : sc.names.lookup x = some .local) (hr : ρ.lookup x = none)
    (hn' : h'.Ns c.env.locals (fun y => if y = x then some v else ml y)) (hs : Heap.SameBut c.env.locals h h') : St a c h' ρ := by
  obtain ⟨oL, es, ep, hL, hLd, _⟩ := id hn
  have sk : SeqKeep (vw c.X h) (vw c.X h') := seq_sameBut hs hL fun vs n q => by rw [hLd] at q; cases q
  obtain ⟨oL', es', ep', hL', hLd', _⟩ := id hn'
  refine ⟨ok_sameBut S.ok hs S.new hL hL' (fun vs z => by rw [hLd'] at z; cases z) (fun _ _ _ => ⟨_, _, hLd'⟩), S.new, ⟨_, hn', fun y dy hy hq => ?_⟩, fun y hy => ?_, fun e q => (S.hld e q).but (fun b o nb eb => (hs.2 b nb).trans eb) hL fun vs z => by rw [hLd] at z; cases z⟩
  · have q : y ≠ x := fun z => by rw [z, hr] at hq; cases hq
    obtain ⟨u, e1, e2⟩ := hv y dy hy hq
    exact ⟨u, by simp [q, e1], e2.of sk⟩
  · obtain ⟨ad, w, e1, e0, e2, e3⟩ := S.cel y hy
    have adL : ad ≠ c.env.locals := fun z => by
      obtain ⟨oc, hoc, hoc'⟩ := e2
      rw [z, hL] at hoc; cases hoc; rw [hLd] at hoc'; cases hoc'
    refine ⟨ad, w, e1, e0, e2.sameBut hs adL, fun dy hq => ?_⟩
    obtain ⟨u, z1, z2⟩ := e3 dy hq
    exact ⟨u, z1, z2.of sk⟩
theorem store_any {x : Str} {v : Value} {s : Shared} {E : Value → Shared → Prop} {Q : Unit → Shared → Prop} (hx : sc.names.lookup x = some .local) (hr : ρ.lookup x = none) (S : St a c s.heap ρ)
    (k : ∀ s' ml, KpL c s s' → St a c s'.heap ρ → s'.heap.Ns c.env.locals ml → ml x = some v → Q () s') : wpAny a.M c.A (storeName c.env x v) Q E s := by
  obtain ⟨ml, hn, hv⟩ := S.loc
  refine wpAny_storeName_local (by rw [c.kindOf]; exact hx) hn (fun h' hn' hs => k _ _ (KpL.same hs) (S.storeAny hn hv hx hr hn' hs) hn' (by simp)) ?_
  rw [c.kind]; rfl
end

theorem fspath_fn {a : Amb} {f : Addr} (hI : IsFn a "fspath" f (sAt 14)) (ht : nsIn a.K mainGlobals "type" = some none) (hs : nsIn a.K mainGlobals "issubclass" = some none) (h1 : nsIn a.K mainGlobals "str" = some none) (h2 : nsIn a.K mainGlobals "bytes" = some none)
    {m : Nat} {x : Str} : Fn a (m + 1) (.ref f) [.str x] (.str x) := by
  refine hI.fn ["path"] (fun doc pm an cd ct => one_arg fun v => by rfl) (by rfl) (by rfl) (by rfl) (by rfl) fun c hc h0 => ?_
  intro s E S T
  refine wpAny_execs_cons (wpAny_mono (wpAny_toks_of (n := 1) T (wpAny_Assign_Name (Q := fun fl s' => fl = .next ∧ KpX c s s' ∧ St a c s'.heap [(("path" : Str), .str x)] ∧ ∃ ml, s'.heap.Ns c.env.locals ml ∧ ml "kind" = some (.type "str"))
    (call_name (Is.globB ht PyProof.Rows.Boot.«type» (by decide) (by rfl) (by decide)) (by rfl) S (PyProof.Rows.callWith_type (any_plain _ _) ((EvL.one (Ev.loc (x := "path") (d := .str x) (by rfl) (by rfl) (by decide))).args S T fun vs s1 q1 r1 S1 T1 => ?_))) (by rfl))) (fun fl s2 ⟨T2, e, q2, S2, ml, hn, hk⟩ => ?_) fun _ _ x => x.2)
  · obtain ⟨v, ws, rfl, r2, r3⟩ := r1.cons_inv
    rw [r3.nil_inv]
    obtain ⟨t, rfl⟩ := r2.str_inv
    refine call_type_of (typeIs_str _ _ _) (by decide) (store_any (by rfl) (by rfl) S1 fun s2 ml q2 S2 hn hm => ?_)
    exact ⟨rfl, q1.x.trans q2.x, S2, ml, hn, hm⟩
  subst e
  have hP : Ev a c [(("path" : Str), .str x)] (.Name "path" ⟨0, 0, 0, 0⟩) (.str x) := Ev.loc (by rfl) (by rfl) (by decide)
  refine wpAny_execs_cons (wpAny_If (isTrue_plain (call_name (Is.globB hs PyProof.Rows.Boot.«issubclass» (by decide) (by rfl) (by decide)) (by rfl) S2 (callWith_builtin (any_plain _ _) (evalArgs_any (spliced_cons
    (wpAny_Name (wpAny_loadName_local c.kind (by rw [c.kindOf]; rfl) hn hk (spliced_cons (Tuple_ (spliced_cons (Is.globB (ρ := [(("path" : Str), .str x)]) h1 PyProof.Rows.Boot.«str» (by decide) (by rfl) (by decide) _ _ _ S2 (spliced_cons (Is.globB (ρ := [(("path" : Str), .str x)]) h2 PyProof.Rows.Boot.«bytes» (by decide) (by rfl) (by decide) _ _ _ S2 (spliced_nil ?_)))))))) (by decide)))))) (by rfl)))
  refine wpAny_newObj_type (spliced_nil (sub_str ⟨_, Heap.get?_push_size _ rfl, rfl, _, rfl⟩ (wpAny_truthy_bool ?_)))
  rw [if_pos rfl]
  have k3 : Kp c.fs s2 { s2 with heap := s2.heap.push { cls := .type "tuple", data := .seq #[.type "str", .type "bytes"] } } := Kp.push _ _
  have S3 := S2.keep k3.heap
  refine wpAny_execs_cons (wpAny_Return_some ((Ev.loc (x := "path") (d := .str x) (by rfl) (by rfl) (by decide)).then (ρ := [(("path" : Str), .str x)]) S3 T2 fun v s4 q4 r4 S4 T4 => ?_))
  exact ⟨q2.trans (k3.trans q4).x, v, rfl, r4⟩

section
variable {a : Amb} {sc : Scope} {c : Cx sc} {ρ : Vars}
theorem bytes_meta : typeOf (.type "bytes") = pure (.type "type") := by kernel_rfl
theorem str_not_bytes : isSubtype (.type "str") (.type "bytes") = pure false := by rw [isSubtype_type]; kernel_rfl
/-- isinstance(a text, bytes) -/
theorem Ts.notBytes {e : Expr} {x : Str} {p1 p2 pos : Pos} (hi : nsIn a.K mainGlobals "isinstance" = some none) (hb : nsIn a.K mainGlobals "bytes" = some none) (h : Ev a c ρ e (.str x))
    (hx1 : sc.names.lookup ("isinstance" : Str) = some .globalImplicit) (hx2 : sc.names.lookup ("bytes" : Str) = some .globalImplicit) (hst : starEach [e, .Name "bytes" p2] c.env = plainArgs [e, .Name "bytes" p2] c.env) :
    Ts a c ρ (.Call (.Name "isinstance" p1) [e, .Name "bytes" p2] [] pos) false := fun s E S T => by
  refine isTrue_plain (call_name (Is.globB hi PyProof.Rows.Boot.«isinstance» (by decide) hx1 (by decide)) hst S (callWith_builtin (any_plain _ _) (evalArgs_any (spliced_cons (h.then S T fun v s1 q1 r1 S1 T1 =>
    spliced_cons (Is.globB (ρ := ρ) hb PyProof.Rows.Boot.«bytes» (by decide) hx2 (by decide) _ _ _ S1 (spliced_nil ?_))))))) (by rfl)
  obtain ⟨t, rfl⟩ := r1.str_inv
  exact call_isinstance (isinstance_false_str (by decide) bytes_meta str_not_bytes) (wpAny_truthy_bool ⟨q1.trans ((Kp.refl s1).tok _), rfl⟩)
end

theorem sep_fn {a : Amb} {f : Addr} (hI : IsFn a "_get_sep" f (sAt 18)) (hi : nsIn a.K mainGlobals "isinstance" = some none) (hb : nsIn a.K mainGlobals "bytes" = some none) {m : Nat} {x : Str} : Fn a (m + 1) (.ref f) [.str x] (.str "/") := by
  refine hI.fn ["path"] (fun doc pm an cd ct => one_arg fun v => by rfl) (by rfl) (by rfl) (by rfl) (by rfl) fun c hc h0 => ?_
  exact Exs.ret (Exc.ifF (Ts.notBytes hi hb (Ev.loc (x := "path") (d := .str x) (by rfl) (by rfl) (by decide)) (by rfl) (by rfl) (by rfl)) (Exs.ret (Exc.return Ev.str)))

section
variable {a : Amb} {sc : Scope} {c : Cx sc} {ρ : Vars}
theorem Cx.env_eq (c : Cx sc) : c.env = { c.env with scope := sc } := by
  have := c.hsc
  cases h : c.env
  rw [h] at this
  simp only at this
  rw [this]
theorem Exc.swap2 (h0 : c.hq = none) {x y : Str} {elts : List Expr} {k : Nat} {tpos pos : Pos} {value : Expr} {d e : PyData} (h : Ev a c ρ value (.tuple [d, e])) (hx : sc.names.lookup x = some .local) (hy : sc.names.lookup y = some .local)
    (hs : swapsWithSole [.Tuple elts k tpos] value pos.line c.env = pure false) (hw : swappedStores [.Tuple elts k tpos] value c.env = pure (some [x, y])) :
    Exc a c ρ (.Assign [.Tuple elts k tpos] value pos) (.next ((x, d) :: (y, e) :: ρ)) := fun s E S T => by
  refine Assign_Tuple_swapped (names := [x, y]) (h.then S T fun v s1 q1 r1 S1 T1 => ?_) hs hw
  obtain ⟨t, vs, rfl, ht, hx', rl⟩ := r1.tuple_inv
  have n : vs.size = 2 := by simpa using rl.length
  have hU := fun Q hQ => wpAny_unpackItems_tuple (prog := a.prog) (w := a.w) (A := c.A) (E := E) (s := s1) (Q := Q) (c.h0 h0) ht hQ
  rw [n] at hU
  refine hU _ fun h' hk => ?_
  have kk : Keep c.fs s1.heap h' := extBut_keep hk
  obtain ⟨v1, ws, e1, r1', r2⟩ := rl.cons_inv
  obtain ⟨v2, ws', e2, r3, r4⟩ := r2.cons_inv
  have e3 := r4.nil_inv
  subst e3 e2
  rw [e1]
  show wpAny a.M c.A (do holding [v1] (bindName c.env y v2); assignInOrder [bindName c.env x] [v1]) _ _ _
  refine wpAny_bind (wpAny_holding (wpAny_bindName (store_localL hy (s := { s1 with heap := h' }) (S1.keep kk) (r3.of kk.seqv) fun s2 q2 S2 => ?_)))
  show wpAny a.M c.A (do holding [] (bindName c.env x v1); assignInOrder [] []) _ _ _
  obtain ⟨ml, ⟨oL, es, ep, hL, hLd, _⟩, _⟩ := (S1.keep kk).loc
  have sk : SeqKeep (vw c.X h') (vw c.X s2.heap) := KpL.seqv (X := c.X) (s := { s1 with heap := h' }) q2 hL hLd
  refine wpAny_bind (wpAny_holding (wpAny_bindName (store_localL hx S2 ((r1'.of kk.seqv).of sk) fun s3 q3 S3 => ?_)))
  have z : KpL c s1 { s1 with heap := h' } := Kp.l ⟨kk, rfl, rfl⟩
  exact wpAny_pure ⟨(q1.l.trans ((z.trans q2).trans q3)).x, rfl, S3⟩

theorem Op2.mulS {x : Str} {n : Int} (hok : MulOk x n) : Op2 a c (binaryOp .Mult) (.str x) (.int n) (.str (Txt.mul x n)) := fun s E v1 v2 b r1 r2 => by
  obtain ⟨t, rfl⟩ := r1.str_inv
  obtain ⟨u, rfl⟩ := r2.int_inv
  exact SB.mul hok fun t' k => ⟨(Kp.refl s).tok k, .str _ _⟩
end

/-- posixpath.split, as the code reckons it -/
def headS (p : Str) : Str := Txt.slice p none (some (Txt.rfind p "/" + 1))
def tailS (p : Str) : Str := Txt.slice p (some (Txt.rfind p "/" + 1)) none
def splitHead (p : Str) : Str := if ((headS p).length != 0 && headS p != Txt.mul "/" (headS p).length) = true then Txt.rstripChars (headS p) "/" else headS p

theorem split_fn {a : Amb} {f ff fs : Addr} (hI : IsFn a "split" f (sAt 20)) (hF : IsFn a "fspath" ff (sAt 14)) (hS : IsFn a "_get_sep" fs (sAt 18)) (hfs : ∀ {m : Nat} {x : Str}, Fn a (m + 1) (.ref ff) [.str x] (.str x)) (hsep : ∀ {m : Nat} {x : Str}, Fn a (m + 1) (.ref fs) [.str x] (.str "/"))
    (hlen : nsIn a.K mainGlobals "len" = some none) {m : Nat} {p : Str} (hp : p.length ≤ 100000) : Fn a (m + 2) (.ref f) [.str p] (.tuple [.str (splitHead p), .str (tailS p)]) := by
  refine hI.fn ["p"] (fun doc pm an cd ct => one_arg fun v => by rfl) (by rfl) (by rfl) (by rfl) (by rfl) fun c hc h0 => ?_
  have sz := sizeLine_eq
  have hh : (headS p).length ≤ p.length := Txt.slice_le _ _ _
  refine Exs.cons (Exc.assignL (Ev.fn hF (hfs (m := 0)) h0 (EvL.one (Ev.loc (x := "p") (d := .str p) (by rfl) (by rfl) (by decide))) (by omega) (by rfl) (by decide) (by rfl)) (by rfl) (by rfl)) ?_
  refine Exs.cons (Exc.assignL (Ev.fn hS (hsep (m := 0)) h0 (EvL.one (Ev.loc (x := "p") (d := .str p) (by rfl) (by rfl) (by decide))) (by omega) (by rfl) (by decide) (by rfl)) (by rfl) (by rfl)) ?_
  refine Exs.cons (Exc.assignL (d := .int (Txt.rfind p "/" + 1)) (Ev.bin (Ev.meth (Ev.loc (x := "p") (d := .str p) (by rfl) (by rfl) (by decide)) PySem.F.slot_str_rfind PySem.F.type_str_rfind (EvL.one (Ev.loc (x := "sep") (d := .str "/") (by rfl) (by rfl) (by decide))) Bi.rfind (by rfl) (by rfl) (by decide) (by rfl)) Ev.int Op2.addInt) (by rfl) (by rfl)) ?_
  refine Exs.cons (Exc.swap2 h0 (x := "head") (y := "tail") (Ev.tuple (EvL.two (Ev.sliceS (lo := none) (hi := some _) (Ev.loc (x := "p") (d := .str p) (by rfl) (by rfl) (by decide)) .none (.some (Ev.loc (x := "i") (by rfl) (by rfl) (by decide))) (by omega))
      (Ev.sliceS (lo := some _) (hi := none) (Ev.loc (x := "p") (d := .str p) (by rfl) (by rfl) (by decide)) (.some (Ev.loc (x := "i") (by rfl) (by rfl) (by decide))) .none (by omega))) (by rfl) (Nat.le_of_ble_eq_true rfl)) (by rfl) (by rfl) (by rfl) (by rw [c.env_eq]; rfl)) ?_
  have hmul : MulOk ("/" : Str) ((headS p).length : Int) := by
    refine ⟨by simp only [Bool.or_eq_false_iff, decide_eq_false_iff_not]; omega, fun h1 h2 => ?_, fun h1 h2 => ?_⟩
    · have e1 : (("/" : Str).length : Int) = 1 := by decide
      rw [e1]
      have : (1 : Int) ≤ (2 ^ 63 - 1) / ((headS p).length : Int) := by
        rw [Int.le_ediv_iff_mul_le (by omega)]; omega
      omega
    · unfold Builtin.Str.tooLong
      have e1 : ("/" : Str).length = 1 := by decide
      rw [decide_eq_false_iff_not, sz, e1]; omega
  have fin : ∀ (ρ : Vars), ρ.lookup ("head" : Str) = some (.str (splitHead p)) → ρ.lookup ("tail" : Str) = some (.str (tailS p)) → ∀ p1 p2 k p3 p4, Exs a c ρ [.Return (some (.Tuple [.Name "head" p1, .Name "tail" p2] k p3)) p4] (.ret (.tuple [.str (splitHead p), .str (tailS p)])) :=
    fun ρ h1 h2 p1 p2 k p3 p4 => Exs.ret (Exc.return (Ev.tuple (EvL.two (Ev.loc (by rfl) h1 (by decide)) (Ev.loc (by rfl) h2 (by decide))) (by rfl) (Nat.le_of_ble_eq_true rfl)))
  by_cases hz : (headS p).length = 0
  · have hb : ((headS p).length != 0) = false := by rw [hz]; rfl
    refine Exs.cons (Exc.ifF (Ts.andF ((Ts.ev (Ev.loc (x := "head") (d := .str (headS p)) (by rfl) (by rfl) (by decide)) (Tr.str (by omega)) (fun _ => by rfl)).to hb)) Exs.nil) (fin _ ?_ (by rfl) _ _ _ _ _)
    rw [show splitHead p = headS p from if_neg (by rw [hb, Bool.false_and]; decide)]; rfl
  · have hb : ((headS p).length != 0) = true := by simpa using hz
    refine Exs.if1 (Ts.andT ((Ts.ev (Ev.loc (x := "head") (d := .str (headS p)) (by rfl) (by rfl) (by decide)) (Tr.str (by omega)) (fun _ => by rfl)).to hb)
      (Ts.cmp (Ev.loc (x := "head") (d := .str (headS p)) (by rfl) (by rfl) (by decide)) (Ev.bin (Ev.loc (x := "sep") (d := .str "/") (by rfl) (by rfl) (by decide))
        (Ev.bi (Is.globB hlen PyProof.Rows.Boot.«len» (by decide) (by rfl) (by decide)) (Bi.lenS (by omega)) (EvL.one (Ev.loc (x := "head") (d := .str (headS p)) (by rfl) (by rfl) (by decide))) (by rfl)) (Op2.mulS hmul)) Op2.neStr))
      (fun h1 => Exs.cons (Exc.assignL (Ev.meth (Ev.loc (x := "head") (d := .str (headS p)) (by rfl) (by rfl) (by decide)) PySem.F.slot_str_rstrip PySem.F.type_str_rstrip (EvL.one (Ev.loc (x := "sep") (d := .str "/") (by rfl) (by rfl) (by decide))) (Bi.rstripC (by omega)) (by rfl) (by rfl) (by decide) (by rfl)) (by rfl) (by rfl)) Exs.nil)
      (fun h1 => fin _ ?_ (by rfl) _ _ _ _ _) (fun h1 => fin _ ?_ (by rfl) _ _ _ _ _)
    · rw [show splitHead p = Txt.rstripChars (headS p) "/" from if_pos (by rw [hb, h1]; rfl)]; rfl
    · rw [show splitHead p = headS p from if_neg (by rw [hb, h1]; decide)]; rfl
end Mine

end
section
open PySem PySem.W PyProof.Rows PySem.Calls PySem.Spec
set_option Elab.async false
set_option linter.unusedVariables false
set_option maxRecDepth 100000
namespace Mine
section
variable {a : Amb} {sc : Scope} {c : Cx sc} {ρ : Vars}
theorem Exs.weak {ss : List Stmt} {ρ1 ρ2 : Vars} (h : Exs a c ρ ss (.next ρ1)) (k : ∀ y d, ρ2.lookup y = some d → ρ1.lookup y = some d) : Exs a c ρ ss (.next ρ2) := fun s E S T =>
  h.then S T fun fl s1 q1 ⟨e, S1⟩ _ => ⟨q1, e, S1.sub k⟩
theorem sub1 {x : Str} {d : PyData} {ρ1 : Vars} (h : ρ1.lookup x = some d) : ∀ y d', List.lookup y [(x, d)] = some d' → ρ1.lookup y = some d' := fun y d' e => by
  rw [List.lookup_cons] at e
  cases q : y == x with
  | true => rw [q] at e; cases e; rw [show y = x from by simpa using q]; exact h
  | false => rw [q] at e; cases e
theorem Op2.iaddStr {x y : Str} (hsz : x.length + y.length ≤ sizeLine) : Op2 a c (inplaceOp .Add) (.str x) (.str y) (.str (x ++ y)) := fun s E v1 v2 _ r1 r2 => by
  obtain ⟨t, rfl⟩ := r1.str_inv; obtain ⟨u, rfl⟩ := r2.str_inv
  exact SB.iadd (fun t' k => ⟨(Kp.refl s).tok _, .str _ _⟩) hsz
end

/-- posixpath.join of two -/
def joinS (x y : Str) : Str := if (Txt.startswith y "/" || !(x.length != 0)) = true then y else if Txt.endswith x "/" = true then x ++ y else x ++ ("/" ++ y)

theorem join_fn {a : Amb} {f ff fs : Addr} (hI : IsFn a "join" f (sAt 19)) (hF : IsFn a "fspath" ff (sAt 14)) (hS : IsFn a "_get_sep" fs (sAt 18)) (hfs : ∀ {m : Nat} {x : Str}, Fn a (m + 1) (.ref ff) [.str x] (.str x)) (hsep : ∀ {m : Nat} {x : Str}, Fn a (m + 1) (.ref fs) [.str x] (.str "/"))
    {m : Nat} {x y : Str} (hx : x.length ≤ 100000) (hy : y.length ≤ 100000) : Fn a (m + 2) (.ref f) [.str x, .str y] (.str (joinS x y)) := by
  obtain ⟨o, pm, cd, doc, an, ct, e2, e3, e4⟩ := hI.obj
  refine FnG.bodyW (ds' := [.str x, .tuple [.str y]]) ["a", "p"] e2 e3 e4 (fun A frs X s E vs hok hvs => ?_) (by rfl) (by rfl) (by rfl) (by rfl) fun c hc h0 => ?_
  · obtain ⟨v1, ws, rfl, r1, r2⟩ := hvs.cons_inv
    obtain ⟨v2, ws', rfl, r3, r4⟩ := r2.cons_inv
    rw [r4.nil_inv]
    show wpAny _ _ (newTuple [v2] >>= fun t => pure [(("a" : Str), v1), (("p" : Str), t)]) _ _ _
    refine wpAny_bind (wpAny_newObj_type (wpAny_pure ⟨[v1, .ref s.heap.objs.size], rfl, fun b o e => Heap.get?_push_of_some _ e, rfl, rfl, ?_⟩))
    have k : SeqKeep (vw X s.heap) (vw X (s.heap.push { cls := .type "tuple", data := .seq [v2].toArray })) := seq_push _ _
    exact .cons (r1.of k) (.cons (.tuple isTuple_push hok.fresh (.cons (r3.of k) .nil)) .nil)
  · refine Exs.cons (Exc.assignL (Ev.fn hF (hfs (m := 0)) h0 (EvL.one (Ev.loc (x := "a") (d := .str x) (by rfl) (by rfl) (by decide))) (by omega) (by rfl) (by decide) (by rfl)) (by rfl) (by rfl)) ?_
    refine Exs.cons (Exc.assignL (Ev.fn hS (hsep (m := 0)) h0 (EvL.one (Ev.loc (x := "a") (d := .str x) (by rfl) (by rfl) (by decide))) (by omega) (by rfl) (by decide) (by rfl)) (by rfl) (by rfl)) ?_
    refine Exs.cons (Exc.assignL (Ev.loc (x := "a") (d := .str x) (by rfl) (by rfl) (by decide)) (by rfl) (by rfl)) ?_
    refine Exs.cons (ρ' := [(("path" : Str), .str (joinS x y))]) (Exc.tryN (Exs.cons (Exc.forL (ds := [.str y]) (fun i => if i = 0 then _ else [(("path" : Str), .str (joinS x y))]) (fun d => [(("b" : Str), d)]) (by rfl)
      (EvI.tuple h0 (Ev.loc (x := "p") (by rfl) (by rfl) (by decide))) (fun _ => by rfl) (by rfl) (fun i d hd => As.nameL (by rfl)) (fun i d hd => ?_) (fun it v => by rfl)) Exs.nil)) (Exs.ret (Exc.return (Ev.loc (x := "path") (by rfl) (by rfl) (by decide))))
    have hi : i = 0 := by
      have := (List.getElem?_eq_some_iff.mp hd).1
      simpa using this
    subst hi
    have hd' : d = .str y := by simpa using hd.symm
    subst hd'
    have sz := sizeLine_eq
    refine Exs.cons (Exc.assignL (Ev.fn hF (hfs (m := 0)) h0 (EvL.one (Ev.loc (x := "b") (d := .str y) (by rfl) (by rfl) (by decide))) (by omega) (by rfl) (by decide) (by rfl)) (by rfl) (by rfl)) ?_
    cases h1 : Txt.startswith y "/" with
    | true =>
      have ej : joinS x y = y := if_pos (by rw [h1]; rfl)
      refine Exs.weak (Exs.cons (Exc.ifT (Ts.orT ((Ts.ev (Ev.meth (Ev.loc (x := "b") (d := .str y) (by rfl) (by rfl) (by decide)) PySem.F.slot_str_startswith PySem.F.type_str_startswith (EvL.one (Ev.loc (x := "sep") (d := .str "/") (by rfl) (by rfl) (by decide))) Bi.starts (by rfl) (by rfl) (by decide) (by rfl)) Tr.bool (fun _ => by rfl)).to h1))
        (Exs.cons (Exc.assignL (Ev.loc (x := "b") (d := .str y) (by rfl) (by rfl) (by decide)) (by rfl) (by rfl)) Exs.nil)) Exs.nil) (sub1 (by rw [ej]; rfl))
    | false =>
      by_cases hz : x.length = 0
      · have ej : joinS x y = y := if_pos (by rw [h1, hz]; rfl)
        refine Exs.weak (Exs.cons (Exc.ifT (Ts.orF ((Ts.ev (Ev.meth (Ev.loc (x := "b") (d := .str y) (by rfl) (by rfl) (by decide)) PySem.F.slot_str_startswith PySem.F.type_str_startswith (EvL.one (Ev.loc (x := "sep") (d := .str "/") (by rfl) (by rfl) (by decide))) Bi.starts (by rfl) (by rfl) (by decide) (by rfl)) Tr.bool (fun _ => by rfl)).to h1)
            ((Ts.not (Ts.ev (Ev.loc (x := "path") (d := .str x) (by rfl) (by rfl) (by decide)) (Tr.str (by omega)) (fun _ => by rfl))).to (by rw [hz]; rfl)))
          (Exs.cons (Exc.assignL (Ev.loc (x := "b") (d := .str y) (by rfl) (by rfl) (by decide)) (by rfl) (by rfl)) Exs.nil)) Exs.nil) (sub1 (by rw [ej]; rfl))
      · have hb : (x.length != 0) = true := by simpa using hz
        have en : ¬ (Txt.startswith y "/" || !(x.length != 0)) = true := by rw [h1, hb]; decide
        cases h2 : Txt.endswith x "/" with
        | true =>
          have ej : joinS x y = x ++ y := by unfold joinS; rw [if_neg en, if_pos h2]
          refine Exs.weak (Exs.cons (Exc.ifF (Ts.orF ((Ts.ev (Ev.meth (Ev.loc (x := "b") (d := .str y) (by rfl) (by rfl) (by decide)) PySem.F.slot_str_startswith PySem.F.type_str_startswith (EvL.one (Ev.loc (x := "sep") (d := .str "/") (by rfl) (by rfl) (by decide))) Bi.starts (by rfl) (by rfl) (by decide) (by rfl)) Tr.bool (fun _ => by rfl)).to h1)
              ((Ts.not (Ts.ev (Ev.loc (x := "path") (d := .str x) (by rfl) (by rfl) (by decide)) (Tr.str (by omega)) (fun _ => by rfl))).to (by rw [hb]; rfl)))
            (Exs.cons (Exc.ifT ((Ts.ev (Ev.meth (Ev.loc (x := "path") (d := .str x) (by rfl) (by rfl) (by decide)) PySem.F.slot_str_endswith PySem.F.type_str_endswith (EvL.one (Ev.loc (x := "sep") (d := .str "/") (by rfl) (by rfl) (by decide))) Bi.ends (by rfl) (by rfl) (by decide) (by rfl)) Tr.bool (fun _ => by rfl)).to h2)
              (Exs.cons (Exc.aug (x := "path") (d1 := .str x) (by rfl) (by rfl) (Ev.loc (x := "b") (d := .str y) (by rfl) (by rfl) (by decide)) (Op2.iaddStr (by omega))) Exs.nil)) Exs.nil)) Exs.nil) (sub1 (by rw [ej]; rfl))
        | false =>
          have ej : joinS x y = x ++ ("/" ++ y) := by unfold joinS; rw [if_neg en, if_neg (by rw [h2]; decide)]
          have e1 : ("/" : Str).length = 1 := by decide
          refine Exs.weak (Exs.cons (Exc.ifF (Ts.orF ((Ts.ev (Ev.meth (Ev.loc (x := "b") (d := .str y) (by rfl) (by rfl) (by decide)) PySem.F.slot_str_startswith PySem.F.type_str_startswith (EvL.one (Ev.loc (x := "sep") (d := .str "/") (by rfl) (by rfl) (by decide))) Bi.starts (by rfl) (by rfl) (by decide) (by rfl)) Tr.bool (fun _ => by rfl)).to h1)
              ((Ts.not (Ts.ev (Ev.loc (x := "path") (d := .str x) (by rfl) (by rfl) (by decide)) (Tr.str (by omega)) (fun _ => by rfl))).to (by rw [hb]; rfl)))
            (Exs.cons (Exc.ifF ((Ts.ev (Ev.meth (Ev.loc (x := "path") (d := .str x) (by rfl) (by rfl) (by decide)) PySem.F.slot_str_endswith PySem.F.type_str_endswith (EvL.one (Ev.loc (x := "sep") (d := .str "/") (by rfl) (by rfl) (by decide))) Bi.ends (by rfl) (by rfl) (by decide) (by rfl)) Tr.bool (fun _ => by rfl)).to h2)
              (Exs.cons (Exc.aug (x := "path") (d1 := .str x) (by rfl) (by rfl) (Ev.bin (Ev.loc (x := "sep") (d := .str "/") (by rfl) (by rfl) (by decide)) (Ev.loc (x := "b") (d := .str y) (by rfl) (by rfl) (by decide)) (Op2.addStr (by rw [e1]; omega))) (Op2.iaddStr (by rw [Str.length_append, e1]; omega))) Exs.nil)) Exs.nil)) Exs.nil) (sub1 (by rw [ej]; rfl))
end Mine

end
section
open PySem PySem.W PyProof.Rows PySem.Calls PySem.Spec
open PySem.Sem (wp)
set_option Elab.async false
set_option linter.unusedVariables false
namespace Mine

/-- the claim's caller lies on the stack -/
def HasC (Γ : PySem.Ctx) : Prop := (Γ.code.isCaller || Γ.below.any fun x => x.1.isCaller) = true
/-- as wpAny, in contexts under the claim's caller -/
def wpC {α : Type} (M : Model) (A : Around) (t : Sem α) (Q : α → Shared → Prop) (E : Value → Shared → Prop) (s : Shared) : Prop :=
  ∀ Γ p, Γ.In A → HasC Γ → wp M Γ t (fun a _ s' => Q a s') (fun e _ s' => E e s') p s
def codeC (M : Model) (A : Around) (c : Code) (R : Result → Shared → Prop) (s : Shared) : Prop :=
  ∀ Γ p, Γ.code = c → Γ.Below A → (Γ.below.any fun x => x.1.isCaller) = true → wpCode M Γ R p s

section
variable {α β : Type} {M : Model} {A : Around} {E : Value → Shared → Prop} {s : Shared} {env : Env}
theorem wpC.of {t : Sem α} {Q : α → Shared → Prop} (h : wpAny M A t Q E s) : wpC M A t Q E s := fun Γ p hΓ _ => h Γ p hΓ
theorem codeC.of {c : Code} {R : Result → Shared → Prop} (h : codeAny M A c R s) : codeC M A c R s := fun Γ p hc hΓ _ => h Γ p hc hΓ
theorem wpC.mono {t : Sem α} {Q Q' : α → Shared → Prop} {E' : Value → Shared → Prop} (h : wpC M A t Q E s) (hQ : ∀ a s, Q a s → Q' a s) (hE : ∀ e s, E e s → E' e s) : wpC M A t Q' E' s :=
  fun Γ p hΓ hC => Sem.wp_mono M Γ t (fun a _ s => hQ a s) (fun e _ s => hE e s) p s (h Γ p hΓ hC)
theorem wpC.toks {t : Sem α} {Q : α → Shared → Prop} {n : Nat} (hn : n ≤ s.toks) (h : wpC M A t Q E s) : wpC M A t (fun a s' => n ≤ s'.toks ∧ Q a s') (fun e s' => n ≤ s'.toks ∧ E e s') s :=
  fun Γ p hΓ hC => Sem.wp_toks M Γ n t _ _ p s hn (h Γ p hΓ hC)
theorem wpC.bind {m : Sem α} {f : α → Sem β} {Q : β → Shared → Prop} (h : wpC M A m (fun a s' => wpC M A (f a) Q E s') E s) : wpC M A (m >>= f) Q E s := fun Γ p hΓ hC => by
  rw [Sem.wp_bind']
  exact Sem.wp_mono M Γ m (fun a p' s' h' => h' Γ p' hΓ hC) (fun _ _ _ h' => h') p s (h Γ p hΓ hC)
theorem wpC.pure {a : α} {Q : α → Shared → Prop} (h : Q a s) : wpC M A (Pure.pure a) Q E s := fun _ _ _ _ => h
theorem wpC.stand {pos : Pos} {Q : Unit → Shared → Prop} (h : Q () s) : wpC M A (standAt pos) Q E s := fun _ _ _ _ => h
theorem wpC.holding {vs : List Value} {m : Sem α} {Q : α → Shared → Prop} (h : wpC M A m Q E s) : wpC M A (PySem.holding vs m) Q E s :=
  fun Γ p hΓ hC => by rw [Sem.wp_holding]; exact h Γ p hΓ hC
theorem wpC.keep {vs : List Value} {m : Sem α} {Q : α → Shared → Prop} (h : wpC M A m Q E s) : wpC M A (m.keep vs) Q E s :=
  fun Γ p hΓ hC => by rw [Sem.wp_keep]; exact h Γ p hΓ hC
theorem wpC.onRaise {m : Sem α} {k : Value → Sem Unit} {Q : α → Shared → Prop} (h : wpC M A m Q (fun e s' => wpC M A (k e) (fun _ s'' => E e s'') E s') s) : wpC M A (m.onRaise k) Q E s := fun Γ p hΓ hC => by
  rw [Sem.wp_onRaise]
  exact Sem.wp_mono M Γ m (fun _ _ _ h' => h') (fun e p' s' h' => h' Γ p' hΓ hC) p s (h Γ p hΓ hC)
theorem wpC.attempt {m : Sem α} {Q : Except Value α → Shared → Prop} (h : wpC M A m (fun a => Q (.ok a)) (fun e => Q (.error e)) s) : wpC M A m.attempt Q E s :=
  fun Γ p hΓ hC => by rw [Sem.wp_attempt]; exact h Γ p hΓ hC
theorem HasC.enter {Γ : PySem.Ctx} (h : HasC Γ) (c : Code) (hd : Option Value) (p : Pos) : ((Γ.enter c hd p).below.any fun x => x.1.isCaller) = true := h
theorem wpC.run {c : Code} {h : Option Value} {Q : Flow → Shared → Prop} (hc : codeC M (A.mark h) c (fun r s' => match r with | .ok f => Q f s' | .error e => E e s') s) (hnb : h ≠ some byPass := by intro x; cases x) : wpC M A (PySem.run c h) Q E s :=
  fun Γ p hΓ hC => by rw [Sem.wp_run]; exact hc _ p rfl (hΓ.enter c h p hnb) (hC.enter c h p)
theorem wpC.runValue {c : Code} {Q : Value → Shared → Prop} (hc : codeC M A c (fun r s' => match r with | .ok (.ret v) => Q v s' | .ok _ => False | .error e => E e s') s) : wpC M A (PySem.runValue c) Q E s :=
  fun Γ p hΓ hC => by rw [Sem.wp_runValue]; exact hc _ p rfl (hΓ.enter c none p (by intro x; cases x)) (hC.enter c none p)
theorem wpC.call {f : Value} {pos : List Value} {kw : List (Str × Value)} {Q : Value → Shared → Prop} (hc : codeC M A (.call f ⟨pos, kw⟩) (fun r s' => match r with | .ok (.ret v) => Q v s' | .ok _ => False | .error e => E e s') s) :
    wpC M A (PySem.call f pos kw) Q E s := wpC.runValue hc
theorem wpC.runOwn {c : Code} {h : Option Value} {Q : Flow → Shared → Prop}
    (hc : codeC M (A.mark h) c (fun r s' => match r with | .ok f => Q f s' | .error e => cameBackBy M A env E e s') s) (hnb : h ≠ some byPass := by intro x; cases x) : wpC M A (PySem.runOwn c env h) Q E s := by
  unfold PySem.runOwn
  refine wpC.onRaise (wpC.mono (wpC.run hc hnb) (fun _ _ x => x) fun e s' x => wpC.of x)
theorem codeC.mono {c : Code} {R R' : Result → Shared → Prop} (h : codeC M A c R s) (hR : ∀ r s, R r s → R' r s) : codeC M A c R' s := fun Γ p hc hΓ hC => wpCode_mono hR (h Γ p hc hΓ hC)
theorem codeC.tree {c : Code} {R : Result → Shared → Prop}
    (h : wpC M (A.under c) (M.den c) (fun fin s' => match fin with | .done f => R (.ok f) s' | .again c' => c'.quiet = true ∧ codeC M A c' R s') (fun e s' => R (.error e) s') s) : codeC M A c R s := fun Γ p hc hΓ hC => by
  rw [wpCode_iff_wp, hc]
  refine Sem.wp_mono M Γ _ (fun fin p' s' h' => ?_) (fun _ _ _ h' => h') p s (h Γ p (hc ▸ hΓ.in) (by unfold HasC; rw [hC, Bool.or_true]))
  cases fin with
  | done f => exact h'
  | again c' => exact ⟨h'.1, h'.2 (Γ.goto c') p' rfl (hΓ.goto c') hC⟩
theorem codeC.loop {c : Code} {R : Result → Shared → Prop} (hq : c.quiet = true) (I : Nat → Shared → Prop)
    (turn : ∀ n s, I n s → wpC M (A.under c) (M.den c)
      (fun fin s' => match fin with
        | .done f => R (.ok f) s'
        | .again c' => (c' = c ∧ ∃ m, m < n ∧ I m s') ∨ (c'.quiet = true ∧ codeC M A c' R s')) (fun e s' => R (.error e) s') s)
    (n : Nat) (h : I n s) : codeC M A c R s := by
  induction n using Nat.strongRecOn generalizing s with
  | ind n ih =>
    refine codeC.tree (wpC.mono (turn n s h) (fun fin s' hf => ?_) fun _ _ h' => h')
    cases fin with
    | done f => exact hf
    | again c' =>
      rcases hf with ⟨rfl, m, hm, hI⟩ | hf
      · exact ⟨hq, ih m hm hI⟩
      · exact hf
theorem wpC.noted {m : Sem α} {Q : α → Shared → Prop} (h : wpC M A m Q (notedBy M A env E) s) : wpC M A (m.onRaise fun x => do noteFrame x env; theTreesLotGoes x) Q E s :=
  wpC.onRaise (wpC.mono h (fun _ _ q => q) fun _ _ hx => wpC.of (wpAny_bind (wpAny_mono hx (fun _ _ e => wpAny_theTreesLotGoes e) fun _ _ e => e)))

/-! statements and expressions -/
theorem wpC.execs_cons {st : Stmt} {rest : List Stmt} {Q : Flow → Shared → Prop} (h : wpC M A (exec st env) (fun f s' => match f with | .next => wpC M A (execs rest env) Q E s' | f => Q f s') E s) : wpC M A (execs (st :: rest) env) Q E s := by
  rw [PySem.execs_cons]
  refine wpC.bind (wpC.mono h (fun f s' h' => ?_) fun _ _ x => x)
  cases f with
  | next => exact h'
  | cont => exact wpC.pure h'
  | brk => exact wpC.pure h'
  | ret v => exact wpC.pure h'
theorem wpC.If {test : Expr} {body orelse : List Stmt} {pos : Pos} {Q : Flow → Shared → Prop} (h : wpC M A (isTrue test env (eval test env)) (fun b s₂ => if b then wpC M A (execs body env) Q E s₂ else wpC M A (execs orelse env) Q E s₂) E s) :
    wpC M A (exec (.If test body orelse pos) env) Q E s := by
  rw [exec_If]
  refine wpC.bind (wpC.stand (wpC.bind (wpC.mono h (fun b s2 h2 => ?_) fun _ _ x => x)))
  cases b <;> exact h2
theorem wpC.Return_some {e : Expr} {pos : Pos} {Q : Flow → Shared → Prop} (h : wpC M A (eval e env) (fun v => Q (.ret v)) E s) : wpC M A (exec (.Return (some e) pos) env) Q E s := by
  rw [exec_Return_some]
  exact wpC.bind (wpC.stand (wpC.bind (wpC.mono h (fun v s2 h2 => wpC.pure h2) fun _ _ x => x)))
theorem wpC.Assign_Name {x : Str} {pos' pos : Pos} {value : Expr} {Q : Flow → Shared → Prop} (h : wpC M A (eval value env) (fun v s₁ => wpAny M A (storeName env x v) (fun _ => Q .next) E s₁) E s)
    (hs : swapsWith value (some (.Name x pos')) pos.line env = Pure.pure false) : wpC M A (exec (.Assign [.Name x pos'] value pos) env) Q E s := by
  rw [exec_Assign_Name env x pos' value pos hs]
  exact wpC.bind (wpC.stand (wpC.bind (wpC.mono h (fun v s2 h2 => wpC.bind (wpC.stand (wpC.bind (wpC.mono (wpC.of (wpAny_bindName h2)) (fun _ _ y => wpC.pure y) fun _ _ y => y)))) fun _ _ x => x)))
theorem wpC.operate {vs : List Value} {m : Sem Value} {Q : Value → Shared → Prop} (h : wpC M A m Q E s) : wpC M A (PySem.operate vs m) Q E s :=
  fun Γ p hΓ hC => by rw [Sem.wp_operate]; exact h Γ p hΓ hC
theorem wpC.BinOp {l r : Expr} {op : Operator} {pos : Pos} {Q : Value → Shared → Prop} (h : wpC M A (eval l env) (fun a s₁ => wpC M A (eval r env) (fun b s₂ => wpAny M A (binaryOp op a b) Q E s₂) E s₁) E s) :
    wpC M A (eval (.BinOp l op r pos) env) Q E s := by
  rw [eval_BinOp]
  exact wpC.bind (wpC.mono h (fun a s1 h1 => wpC.bind (wpC.holding (wpC.mono h1 (fun b s2 h2 => wpC.bind (wpC.stand (wpC.operate (wpC.of h2)))) fun _ _ x => x))) fun _ _ x => x)
theorem wpC.isTrue_Compare1 {l r : Expr} {op : CmpOp} {pos : Pos} {whole : Sem Value} {Q : Bool → Shared → Prop}
    (h : wpC M A (eval l env) (fun a s₁ => wpC M A (eval r env) (fun b s₂ => wpAny M A (compareOp op a b) (fun c s₃ => wpAny M A (truthy c) Q E s₃) E s₂) E s₁) E s)
    (hm : behindInMarks op r = false := by with_unfolding_all rfl) : wpC M A (isTrue (.Compare l [op] [r] pos) env whole) Q E s := by
  rw [PySem.isTrue_Compare1, markedBehindIn_of_false hm]
  exact wpC.bind (wpC.mono h (fun a s1 h1 => wpC.bind (wpC.holding (wpC.mono h1 (fun b s2 h2 => wpC.bind (wpC.stand (wpC.bind (wpC.operate (wpC.mono (wpC.of h2) (fun c s3 h3 => wpC.holding (wpC.of h3)) fun _ _ x => x))))) fun _ _ x => x))) fun _ _ x => x)
theorem wpC.tryStmt_except {body orelse : Sem Flow} {h₀ : ExceptHandler} {hs : List ExceptHandler} {Q : Flow → Shared → Prop}
    (h : wpC M A body (fun f s₁ => match f with | .next => wpC M A orelse Q E s₁ | f => Q f s₁)
      (fun e s₁ => wpAny M A (noteFrame e env) (fun _ s₂ => wpAny M A (setFlight e none) (fun _ s₃ => wpAny M A (handleBy e env (h₀ :: hs)) Q E s₃) E s₂) E s₁) s) :
    wpC M A (tryStmt false body (h₀ :: hs) orelse [] env) Q E s := by
  have hm : tryStmt false body (h₀ :: hs) orelse [] env = (do
      match ← body.attempt with
      | .ok .next => orelse
      | .ok f => Pure.pure f
      | .error e => do
        noteFrame e env
        setFlight e none
        handleBy e env (h₀ :: hs)) := rfl
  rw [hm]
  refine wpC.bind (wpC.attempt (wpC.mono h (fun f s₁ h₁ => ?_) fun e s₁ h₁ => ?_))
  · cases f with
    | next => exact h₁
    | cont => exact wpC.pure h₁
    | brk => exact wpC.pure h₁
    | ret v => exact wpC.pure h₁
  · exact wpC.of (wpAny_bind (wpAny_mono h₁ (fun _ s₂ h₂ => wpAny_bind (wpAny_mono h₂ (fun _ s₃ h₃ => h₃) fun _ _ x => x)) fun _ _ x => x))
end

section
variable {prog : Program} {w : World} {A : Around} {E : Value → Shared → Prop} {s : Shared} {R : Result → Shared → Prop}
theorem codeC.func {body : List Stmt} {env : Env}
    (h : wpC (model prog w) (A.deeper env) (execs body env) (fun f s' => R (.ok (.ret (match f with | .ret v => v | _ => .none))) s')
      (fun e s' => wpAny (model prog w) (A.deeper env) (leaving env e) (fun _ s'' => R (.error e) s'') (fun e' s'' => R (.error e') s'') s') s) : codeC (model prog w) A (.func body env) R s := by
  refine codeC.tree ?_
  show wpC _ (A.deeper env) (do point; match ← (execs body env).onRaise (leaving env) with | .ret v => ret v | _ => ret .none) _ _ s
  refine wpC.bind (wpC.of (wpAny_point ?_))
  refine wpC.bind (wpC.onRaise (wpC.mono h (fun f s' h' => ?_) fun _ _ h' => wpC.of h'))
  cases f <;> exact wpC.pure h'
theorem codeC.call_function {a : Addr} {args : Args} {o : Obj} {fd : FuncData} {body : List Stmt} (hroom : A.depth < recursionLimit)
    (ho : s.heap.get? a = some o)
    (hd' : o.data = .func fd) (hco : fd.scope.isCoroutine = false) (hgen : fd.scope.isGenerator = false) (hbody : fd.body = .stmts body) (hcd : s.heap.CodeRec fd.code fd.qualname)
    (h : wpAny (model prog w) A.in1 (bindArgs fd args) (fun binds s₁ =>
      wpAny (model prog w) A.in1 (newFunctionEnv fd.scope fd.globals fd.closure binds (fd.qualname ++ ".<locals>.") (some a) fd.code none fd.builtins)
        (fun env s₂ => s₂.heap.NoLimit ∧ codeC (model prog w) A (.func body env) R s₂) (fun e s' => R (.error e) s') s₁) (fun e s' => R (.error e) s') s) :
    codeC (model prog w) A (.call (.ref a) args) R s := by
  refine codeC.tree (wpC.of ?_)
  show wpAny _ A.in1 (callAny (.ref a) args) _ _ s
  simp only [callAny]
  refine wpAny_bind (wpAny_load ho ?_)
  obtain ⟨c, oc, vs, tq, hc, hoc, hdc, hq⟩ := hcd
  simp only [hd', callFunction, hco, hgen, hbody, hc]
  rw [hc] at h
  refine wpAny_bind (m := field (.ref c) 1) (wpAny_field hoc hdc hq (wpAny_bind (wpAny_pure ?_)))
  exact wpAny_bind (wpAny_mono h (fun binds s₁ h₁ => wpAny_bind (wpAny_mono h₁ (fun env s₂ h₂ => wpAny_bind (wpAny_enterFrame h₂.1 hroom
    (wpAny_pure (And.intro rfl h₂.2)))) fun _ _ h' => h')) fun _ _ h' => h')
theorem wpC.callWith_function {pos : Pos} {a : Addr} {o : Obj} {fd : FuncData} {first : List Value} {args : List (Bool × Sem Value)} {Q : Value → Shared → Prop}
    (h : wpAny (model prog w) A (evalArgs (.ref a) true args []) (fun x s₁ => (s₁.heap.get? a = some o ∧ o.data = .func fd) ∧ wpC (model prog w) A (PySem.call (.ref a) (first ++ x.pos) x.kw) Q E s₁) E s) :
    wpC (model prog w) A (callWith pos (.ref a) first args []) Q E s := by
  unfold callWith
  refine wpC.bind (wpC.holding (wpC.mono (wpC.of h) (fun x s₁ h₁ => wpC.bind (wpC.stand ?_)) fun _ _ x => x))
  have tail : ∀ {t : Sem Value}, wpC (model prog w) A t Q E s₁ → wpC (model prog w) A (t >>= fun r => PySem.holding [r] point >>= fun _ => Pure.pure r) Q E s₁ :=
    fun ht => wpC.bind (wpC.mono ht (fun r s₂ hr => wpC.bind (wpC.holding (wpC.of (wpAny_point (wpC.pure hr))))) fun _ _ x => x)
  cases hs : args.any (·.1) <;> simp only [List.any_nil, Bool.or_false] <;>
    refine wpC.bind (m := keeperOf (.ref a)) (wpC.of ?_) <;> unfold keeperOf <;>
    refine wpAny_bind (wpAny_load h₁.1.1 ?_) <;> rw [h₁.1.2] <;> refine wpAny_pure ?_
  all_goals dsimp only
  · split
    · exact tail h₁.2
    · refine tail ?_
      unfold callMarked
      exact wpC.keep h₁.2
  · refine tail ?_
    unfold callMarked
    exact wpC.keep h₁.2
end
end Mine

end
section
open PySem PySem.W PyProof.Rows PySem.Calls PySem.Spec PySem.NumText
open PySem.Sem (wp)
set_option Elab.async false
set_option linter.unusedVariables false
set_option maxRecDepth 100000
namespace Mine
section
variable {α : Type} {prog : Program} {w : World} {A : Around} {E : Value → Shared → Prop} {s : Shared} {R : Result → Shared → Prop}

theorem no_mark {own : List String} {codes : List Code} (h : codes.any Code.isCaller = true) : pythonCodeMadeTheCall own codes = false := by
  show ((!codes.any Code.isCaller && codes.any (·.env?.isSome)) && _) = false
  rw [h]; rfl
theorem wpC.mark {M : Model} {own : List String} {e : Value} {Q : Unit → Shared → Prop} (h : Q () s) : wpC M A (markTheRefusal own e) Q E s := fun Γ p hΓ hC => by
  unfold markTheRefusal
  rw [Sem.wp_bind']
  show wp M Γ (if pythonCodeMadeTheCall own ((((Γ.code, p) :: Γ.below)).map (·.1)) = true then _ else _) _ _ p s
  have : ((((Γ.code, p) :: Γ.below)).map (·.1)).any Code.isCaller = true := by
    rw [List.any_map]
    exact hC
  rw [if_neg (by rw [no_mark this]; decide)]
  exact h

theorem tc_int {x : Value} {Q : PySem.Fin → Shared → Prop} (h : wpC (model prog w) A (call (.builtin "int.__new__") [.type "int", x]) (fun _ _ => False) E s) : wpC (model prog w) A (Builtin.«type.__call__» ⟨[.type "int", x], []⟩) Q E s := by
  unfold Builtin.«type.__call__»
  simp only [F.called_int.notType, Bool.false_eq_true, if_false, F.called_int.canCreate, F.typeCall_int_1, F.mro_int, F.called_int.made, pure_bind, List.isEmpty_cons]
  exact wpC.bind (wpC.holding (wpC.mono h (fun _ _ x => x.elim) fun _ _ x => x))

theorem codeC.builtin {id : String} {args : Args} {b : Builtin} (hb : entryFor table id = some b)
    (h : wpC (model prog w) (A.under (.builtin id args)) (b args)
      (fun fin s' => match fin with | .done f => R (.ok f) s' | .again c' => c'.quiet = true ∧ codeC (model prog w) A c' R s') (fun e s' => R (.error e) s') s) : codeC (model prog w) A (.builtin id args) R s := by
  refine codeC.tree ?_
  show wpC _ _ (match entryFor table id with | some b => b args | none => unsupported ((withoutEnding? id "#data").getD id)) _ _ s
  rw [hb]; exact h

theorem isType_int : isType (.type "int") = pure true := by kernel_rfl
theorem int_new_eq (x : Str) (u : Tok) : Builtin.«int.__new__» ⟨[.type "int", .str x u], []⟩ = (do let v ← (int_private% "intFromObject") (.str x u); ret v) := by
  unfold Builtin.«int.__new__»
  simp only [isType_int, pure_bind, F.conv_sub_int, F.madeHere_int, Bool.not_true, Bool.false_eq_true, if_false]
  rfl
theorem special_none {x : Str} {u : Tok} {name : Str} (h : typeLookup (.type "str") name = pure none) : specialOf (.str x u) name = pure none := by
  unfold specialOf
  show typeLookup (.type "str") name = _
  exact h
theorem callSpecial_none {x : Str} {u : Tok} {name : Str} {pos : List Value} (h : typeLookup (.type "str") name = pure none) : callSpecial? (.str x u) name pos = pure none := by
  unfold callSpecial?
  rw [special_none h]; rfl
theorem int_obj_eq (x : Str) (u : Tok) : (int_private% "intFromObject") (.str x u) = (int_private% "intFromText") (.str x u) (numTextOf x) 10 := by
  show (callSpecial? (.str x u) "__int__" >>= _) = _
  rw [callSpecial_none KIN.str_int]
  show (specialOf (.str x u) "__index__" >>= _) = _
  rw [special_none KIN.str_idx]
  show (specialOf (.str x u) "__trunc__" >>= _) = _
  rw [special_none KIN.str_trunc]
  rfl

theorem int_text {x : Str} {u : Tok} {Q : Value → Shared → Prop} (hn : PySem.intText? x = none) (hl : x.length ≤ 640) (hr : (reprText x).length ≤ 100000) (hh : A.handled = none)
    (hE : ∀ h' e m tk, Heap.MadeExcOf s.heap h' e (.type "ValueError") [m] → E (.ref e) { s with heap := h', toks := tk }) : wpC (model prog w) A ((int_private% "intFromText") (.str x u) (numTextOf x) 10) Q E s := by
  have hs : (numSeenOf x).length ≤ 640 := Nat.le_trans (seen_length x) hl
  have fin : ∀ (Q : Value → Shared → Prop), wpC (model prog w) A (do
      rule "int.__new__.invalid-literal"
      let shown ← pyRepr (.str x u)
      let refusal ← newExc (.type "ValueError") [← mkStr (((s!"invalid literal for int() with base {10}: " : String) ++ ⟨shown.cps.extract 0 200⟩ : Str))]
      markTheRefusal ["int.__new__"] refusal
      raiseNew refusal) Q E s := fun Q => by
    refine wpC.bind (wpC.of (wpAny_rule ?_))
    refine wpC.bind (wpC.of (wpAny_pyRepr_str ?_ (by rw [sizeLine_eq]; omega)))
    refine wpC.bind (wpC.of (wpAny_mkStr ?_ ?_))
    · refine wpC.bind (wpC.of (wpAny_newExc_plain plainExc_ValueError (fun h' e hx => ?_) (Nat.le_of_ble_eq_true rfl)))
      refine wpC.bind (wpC.mark ?_)
      exact wpC.of (wpAny_raiseNew_none hh (hE h' e _ _ hx.of))
    · have e1 : ((⟨(reprText x).cps.extract 0 200⟩ : Str)).length ≤ 200 := by
        show ((reprText x).cps.extract 0 200).size ≤ 200
        rw [Array.size_extract]; omega
      rw [Str.length_append, sizeLine_eq]
      have e2 : (Str.ofString (toString "invalid literal for int() with base " ++ toString 10 ++ toString ": ")).length ≤ 1000 := by decide +kernel
      omega
  have key : (int_private% "intFromText") (.str x u) (numTextOf x) 10 = (do
      rule "int.__new__.invalid-literal"
      let shown ← pyRepr (.str x u)
      let refusal ← newExc (.type "ValueError") [← mkStr (((s!"invalid literal for int() with base {10}: " : String) ++ ⟨shown.cps.extract 0 200⟩ : Str))]
      markTheRefusal ["int.__new__"] refusal
      raiseNew refusal) := by
    show (if (numSeenOf x).length ≤ 640 then _ else _) = _
    rw [if_pos hs]
    rw [pure_bind]
    rcases read0 x hs with ⟨m, h1, _⟩ | ⟨_, h1 | ⟨i, h1, h2⟩⟩
    · rw [hn] at h1; cases h1
    · dsimp only
      rw [h1]
      rfl
    · dsimp only
      rw [h1]
      show (if ((numSeenOf x).length == (numTextOf x).length) = true then _ else _) = _
      rw [if_neg h2]
      rfl
  rw [key]
  exact fin Q

/-- int of a text that is no number's -/
theorem int_refused {x : Str} {u : Tok} {Q : Value → Shared → Prop} (hn : PySem.intText? x = none) (hl : x.length ≤ 640) (hr : (reprText x).length ≤ 100000) (hh : A.handled = none)
    (hE : ∀ h' e m tk, Heap.MadeExcOf s.heap h' e (.type "ValueError") [m] → E (.ref e) { s with heap := h', toks := tk }) : wpC (model prog w) A (call (.type "int") [.str x u]) Q E s := by
  refine wpC.call (codeC.tree ?_)
  show wpC _ _ (callAny (.type "int") _) _ _ _
  refine wpC.pure ⟨Code.quiet_builtin _ (by decide +kernel), codeC.builtin F.entry_type_call ?_⟩
  refine tc_int (wpC.call (codeC.tree ?_))
  show wpC _ _ (checkBuiltinCall "int.__new__" ⟨[.type "int", .str x u], []⟩ >>= fun _ => again (.builtin "int.__new__" ⟨[.type "int", .str x u], []⟩)) _ _ _
  rw [F.newCall_int_1]
  refine wpC.bind (wpC.pure (wpC.pure ⟨plainId_quiet F.called_int.plain _, codeC.builtin F.entry_int_new ?_⟩))
  rw [int_new_eq, int_obj_eq]
  exact wpC.bind (int_text hn hl hr hh hE)
end
end Mine

end
section
open PySem PySem.W PyProof.Rows PySem.Calls PySem.Spec
set_option Elab.async false
set_option linter.unusedVariables false
namespace Mine
section
variable {M : Model} {A : Around} {E : Value → Shared → Prop} {s : Shared} {env : Env}
theorem wpC.standIf {α : Type} {c : Prop} [Decidable c] {pos : Pos} {k : PUnit → Sem α} {Q : α → Shared → Prop} (h : wpC M A (k ()) Q E s) : wpC M A (if c then (standAt pos >>= k) else k ()) Q E s := by
  split
  · exact wpC.bind (wpC.stand h)
  · exact h
theorem wpC.comprehension_free {e : Expr} {scope : Scope} {pos : Pos} {newAcc first : Sem Value} {g : Comprehension} {gs : List Comprehension} {cl : List (Str × Addr)} {Q : Value → Shared → Prop}
    (hcl : clausesOf e = g :: gs) (hs : ∀ x, foldedSetIterable g.iter env x = Pure.pure x) (hclos : closureFor scope env = Pure.pure cl)
    (hkind : scope.kind = .function) (hnames : ∀ x ∈ scope.names, x.2 = .local → scope.names.lookup x.1 = some .local)
    (h : wpAny M A first (fun x s₁ => wpAny M A (pyIter x) (fun it s₂ => wpAny M A newAcc (fun acc s₃ =>
      wpAny M A (newFunctionEnv scope env.globals cl [] env.qual none .none (some env)) (fun cenv s₄ =>
        codeC M A (.compStart e 0 it acc { cenv with scope := relabel scope env }) (compPost M A E none Q acc cenv.locals) s₄) E s₃) E s₂) E s₁) E s) :
    wpC M A (comprehension e scope env pos newAcc false first none) Q E s := by
  unfold comprehension
  rw [hclos, hcl]
  refine wpC.bind (wpC.mono (wpC.of h) (fun x s₁ h₁ => wpC.bind (wpC.stand (wpC.bind (wpC.of (wpAny_of_eq (hs x) (wpC.bind (wpC.holding (wpC.mono (wpC.of h₁) (fun it s₂ h₂ =>
    wpC.standIf (wpC.bind (wpC.mono (wpC.of h₂) (fun acc s₃ h₃ => wpC.bind (wpC.pure (wpC.bind (wpC.mono (wpC.of h₃) (fun cenv s₄ h₄ => ?_) fun _ _ h' => h')))) fun _ _ h' => h')))
      fun _ _ h' => h')))))))) fun _ _ h' => h')
  dsimp only
  have hv : ∀ x ∈ (scope.names.filter fun x => (x.2 == .local || x.2 == .cell) && x.1 != (".0" : Str)).reverse, x.2 = .local →
      Env.kindOf { cenv with scope := relabel scope env } x.1 = some .local := fun x hx hl => lookup_relabel_local (hnames x (List.mem_filter.mp (List.mem_reverse.mp hx)).1 hl)
  refine wpC.holding (wpC.bind (wpC.attempt (wpC.holding (wpC.run (codeC.mono h₄ fun r s' hr => ?_)))))
  cases r with
  | ok f =>
    obtain ⟨m, hn, hr⟩ := hr
    exact wpC.of (wpAny_bind (wpAny_holding (wpAny_comp_letGo (cenv := { cenv with scope := relabel scope env }) hkind _ s' m hv hn fun h' m' _ hs' => wpAny_pure (hr h' hs'))))
  | error x =>
    obtain ⟨m, hn, hr⟩ := hr
    exact wpC.of (wpAny_bind (wpAny_holding (wpAny_comp_letGo (cenv := { cenv with scope := relabel scope env }) hkind _ s' m hv hn fun h' m' _ hs' => wpAny_mono (hr h' hs' _ rfl) (fun _ _ f => f.elim) fun _ _ y => y)))
end
section
variable {prog : Program} {w : World} {A : Around} {E : Value → Shared → Prop} {s : Shared} {R : Result → Shared → Prop}
theorem codeC.compStart_list {elt target iter : Expr} {ifs : List Expr} {rest : List Comprehension} {scope : Scope} {pos : Pos} {it acc : Value} {env : Env}
    (h0 : codeC (model prog w) A (.compLoop (.ListComp elt (⟨target, iter, ifs, 0⟩ :: rest) scope pos) 0 it acc env) R s)
    (h : wpAny (model prog w) A (pyIter it) (fun it' s' => codeC (model prog w) A (.compLoop (.ListComp elt (⟨target, iter, ifs, 0⟩ :: rest) scope pos) 0 it' acc env) R s')
      (notedBy (model prog w) A env fun x s' => R (.error x) s') s) :
    codeC (model prog w) A (.compStart (.ListComp elt (⟨target, iter, ifs, 0⟩ :: rest) scope pos) 0 it acc env) R s := by
  refine codeC.tree (wpC.of ?_)
  show wpAny _ _ ((compStart (.ListComp elt (⟨target, iter, ifs, 0⟩ :: rest) scope pos) 0 it acc env).onRaise (fun x => do noteFrame x env; standAt theWindowsPlace)) _ _ s
  refine wpAny_notedAt ?_
  unfold compStart
  show wpAny _ _ (ask >>= _) _ _ s
  refine wpAny_bind (wpAny_askSetting (wpAny_ite ?_))
  split
  · exact wpAny_pure (And.intro rfl h0)
  · refine wpAny_bind (wpAny_rule ?_)
    show wpAny _ _ (standAt iter.pos >>= _) _ _ s
    exact wpAny_bind (wpAny_standAt (wpAny_bind (wpAny_mono h (fun it' s' h' => wpAny_pure (And.intro rfl h')) fun _ _ x => x)))
end
section
variable {a : Amb} {sc : Scope} {c : Cx sc} {ρ : Vars}
/-- .. under the claim's caller -/
def EvC (a : Amb) {sc : Scope} (c : Cx sc) (ρ : Vars) (e : Expr) (d : PyData) : Prop :=
  ∀ (s : Shared) (E : Value → Shared → Prop), St a c s.heap ρ → 0 < s.toks → wpC a.M c.A (eval e c.env) (fun v s' => Kp c.fs s s' ∧ Rd (vw c.X s'.heap) v d) E s
theorem EvC.of {e : Expr} {d : PyData} (h : Ev a c ρ e d) : EvC a c ρ e d := fun s E S T => wpC.of (h s E S T)
theorem EvC.then {e : Expr} {d : PyData} {s : Shared} {E : Value → Shared → Prop} {Q : Value → Shared → Prop} (h : EvC a c ρ e d) (S : St a c s.heap ρ) (T : 0 < s.toks)
    (k : ∀ v s', Kp c.fs s s' → Rd (vw c.X s'.heap) v d → St a c s'.heap ρ → 0 < s'.toks → Q v s') : wpC a.M c.A (eval e c.env) Q E s :=
  wpC.mono (wpC.toks (n := 1) T (h s E S T)) (fun v s' ⟨t, q, r⟩ => k v s' q r (S.keep q.heap) t) fun _ _ x => x.2

/-- the turns of a comprehension -/
theorem comp_loopC {elt iter tg : Expr} {ifs : List Expr} {scope : Scope} {pos : Pos} {C D it : Addr} {IS : Nat → Heap → Prop} {ds : List PyData} {p : PyData → Bool} {f : PyData → PyData} {bs : PyData → Vars} {s1 s : Shared}
    {R : Result → Shared → Prop} {m : Str → Option Value} (hk : scope.kind = .function) (hf : ∀ x ∈ scope.names, x.2 = .free → (c.env.cells.lookup x.1).isSome = true) (hc : ∀ x ∈ scope.names, x.2 ≠ .cell)
    (S : St a c s1.heap ρ) (I₀ : Iter a c.A c.hq (vw c.X s1.heap) it ds IS) (hD : s1.heap.get? D = none) (hC : s1.heap.get? C = none) (hit : s1.heap.get? it = none) (hDC : D ≠ C) (hDit : D ≠ it) (hCit : C ≠ it) (hsz : ds.length ≤ sizeLine)
    (hin : ∀ c' : Cx (relabelS scope sc), c'.n = c.n → c'.hq = c.hq → ∀ d ∈ ds, AsL a c' tg d (bs d) ∧ TsAll a c' (bs d ++ capt scope sc ρ) ifs (p d) ∧ (p d = true → EvC a c' (bs d ++ capt scope sc ρ) elt (f d)))
    (k : Kp c.fs s1 s) (T : 0 < s.toks) (st : IS 0 s.heap) (hn : s.heap.Ns C m) (hl : s.heap.IsList D #[])
    (hR : ∀ s' ys m', Kp c.fs s1 s' → 0 < s'.toks → s'.heap.Ns C m' → s'.heap.IsList D ys → RdL (vw (D :: c.X) s'.heap) ys.toList ((ds.filter p).map f) → R (.ok .next) s') :
    codeC a.M c.A (.compLoop (.ListComp elt [⟨tg, iter, ifs, 0⟩] scope pos) 0 (.ref it) (.ref D) (compEnvC scope (clo c.env scope.names []) C c.env)) R s := by
  refine codeC.loop rfl (fun j s' => ∃ i ys m', i ≤ ds.length ∧ j = ds.length + 1 - i ∧ Kp c.fs s1 s' ∧ 0 < s'.toks ∧ IS i s'.heap ∧ s'.heap.Ns C m' ∧ s'.heap.IsList D ys ∧ RdL (vw (D :: c.X) s'.heap) ys.toList (((ds.take i).filter p).map f))
    ?_ (ds.length + 1) ⟨0, #[], m, Nat.zero_le _, rfl, k, T, st, hn, hl, by simpa using RdL.nil⟩
  rintro j s2 ⟨i, ys, m', hi, rfl, k2, T2, st2, hn2, hl2, r2⟩
  show wpC _ c.A ((compTurn (.ListComp elt [⟨tg, iter, ifs, 0⟩] scope pos) 0 (.ref it) (.ref D) (compEnvC scope (clo c.env scope.names []) C c.env)).onRaise (fun x => do noteFrame x (compEnvC scope (clo c.env scope.names []) C c.env); theTreesLotGoes x)) _ _ s2
  refine wpC.noted ?_
  rw [compTurn_list]
  refine wpC.bind (wpC.stand (wpC.bind (wpC.of ?_)))
  have gk : GK (vw c.X s1.heap) s2.heap := (k2.heap.gk S.fr).vw
  obtain ⟨oD, hoD, hcD, nD, hdD⟩ := id hl2
  obtain ⟨oC, esC, epC, hoC, hdC, _⟩ := id hn2
  by_cases hlt : i < ds.length
  · obtain ⟨d, hd⟩ : ∃ d, ds[i]? = some d := ⟨ds[i], by simp [hlt]⟩
    have hmem : d ∈ ds := List.mem_of_getElem? hd
    refine I₀.next' hd st2 gk T2 fun v s3 T3 rv st3 ext3 g3 o3 => ?_
    dsimp only
    refine wpC.bind (wpC.of (I₀.own (i + 1) _ _ _ tg v st3 ?_))
    have k3 : Keep c.fs s1.heap s3.heap := k2.heap.ext ext3 hit
    have hn3 : s3.heap.Ns C m' := hn2.at' fun o e => ext3 C o hCit e
    have hD3 := ext3 D oD hDit hoD
    have hC3 := ext3 C oC hCit hoC
    obtain ⟨oi, vi, hoi2, hdi2⟩ := I₀.fld _ _ st2
    obtain ⟨oi, vi, hoi, hdi⟩ := I₀.fld _ _ st3
    let c' : Cx (relabelS scope sc) := compCx c scope C D hk hf
    have S3 : St a c' s3.heap (capt scope sc ρ) := compSt hc S k3 hn3 hD hC hD3
    obtain ⟨hAs, hTs, hEl⟩ := hin c' rfl rfl d hmem
    have rv3 : Rd (vw c'.X s3.heap) v d := rv.of (seq_new k3 hD)
    have r3 : RdL (vw (D :: c.X) s3.heap) ys.toList (((ds.take i).filter p).map f) := r2.of (.vw fun b o us n e _ db => ⟨o.slots, ext3 b o (fun z => by rw [z, hoi2] at e; cases e; rw [hdi2] at db; cases db) e⟩)
    refine wpC.bind (wpC.of (wpAny_mono (wpAny_toks_of (n := 1) T3 (hAs _ s3 _ v S3 T3 rv3)) (fun _ s4 ⟨T4, q4, S4⟩ => ?_) fun _ _ x => x.2))
    have k4 : Keep c.fs s1.heap s4.heap := KpL.from (c := c') k3 q4 hC
    have st4 : IS (i + 1) s4.heap := I₀.loc _ _ _ st3 fun o e => KpL.exact (c := c') q4 S3.fr e (Ne.symm hCit) fun es n z => by rw [hoi] at e; cases e; rw [hdi] at z; cases z
    have hD4 : s4.heap.get? D = some oD := KpL.exact (c := c') q4 S3.fr hD3 hDC fun es n z => by rw [hdD] at z; cases z
    obtain ⟨ml4, hn4, _⟩ := S4.loc
    have r4 := r3.of (KpL.seqv (c := c') (X := D :: c.X) q4 hC3 hdC)
    refine wpC.bind (wpC.of (wpAny_mono (wpAny_toks_of (n := 1) T4 (hTs s4 _ S4 T4)) (fun ok s5 ⟨T5, q5, e5⟩ => ?_) fun _ _ x => x.2))
    subst e5
    have S5 := S4.keep q5.heap
    have k5 : Keep c.fs s1.heap s5.heap := k4.trans q5.heap
    obtain ⟨oi4, vi4, hoi4, hdi4⟩ := I₀.fld _ _ st4
    have st5 : IS (i + 1) s5.heap := I₀.loc _ _ _ st4 fun o e => q5.heap.exact S4.fr e fun es n z => by rw [hoi4] at e; cases e; rw [hdi4] at z; cases z
    have hD5 : s5.heap.get? D = some oD := q5.heap.exact S4.fr hD4 fun es n z => by rw [hdD] at z; cases z
    have r5 := r4.of (q5.heap.seqv (X := D :: c.X))
    have hn5 := q5.heap.up.ns hn4
    have take_eq : ds.take (i + 1) = ds.take i ++ [d] := by rw [List.take_succ, hd]; rfl
    have gen5 : s5.gens = s1.gens := q5.gens.trans (q4.gens.trans (g3.trans k2.gens))
    have os5 : s5.os = s1.os := q5.os.trans (q4.os.trans (o3.trans k2.os))
    cases hp : p d with
    | false =>
      refine wpC.pure (Or.inl ⟨rfl, ds.length + 1 - (i + 1), by omega, i + 1, ys, _, hlt, rfl, ⟨k5, gen5, os5⟩, T5, st5, hn5, ⟨oD, hD5, hcD, nD, hdD⟩, ?_⟩)
      rw [take_eq, List.filter_append, List.filter_cons_of_neg (by rw [hp]; decide), List.filter_nil, List.append_nil]
      exact r5
    | true =>
      refine wpC.bind (wpC.bind ((hEl hp).then (c := c') S5 T5 fun y s6 q6 r6 S6 T6 => ?_))
      have k6 : Keep c.fs s1.heap s6.heap := k5.trans q6.heap
      obtain ⟨oi5, vi5, hoi5, hdi5⟩ := I₀.fld _ _ st5
      have st6 : IS (i + 1) s6.heap := I₀.loc _ _ _ st5 fun o e => q6.heap.exact S5.fr e fun es n z => by rw [hoi5] at e; cases e; rw [hdi5] at z; cases z
      have hD6 : s6.heap.get? D = some oD := q6.heap.exact S5.fr hD5 fun es n z => by rw [hdD] at z; cases z
      have rr := r5.of (q6.heap.seqv (X := D :: c.X))
      have hn6 := q6.heap.up.ns hn5
      have hys : ys.size ≤ sizeLine := by
        have e1 : ys.toList.length = (((ds.take i).filter p).map f).length := rr.length
        have e2 : ((ds.take i).filter p).length ≤ (ds.take i).length := List.length_filter_le _ _
        simp only [List.length_map, Array.length_toList, List.length_take] at e1 e2
        omega
      refine wpC.bind (wpC.of (wpAny_mono (wpAny_toks_of (n := 1) T6 (wpAny_list_append (Q := fun v s' => ∃ h', s' = { s6 with heap := h' } ∧ h'.IsList D (ys.push y) ∧ Heap.SameBut D s6.heap h') (E := fun _ _ => False) ⟨oD, hD6, hcD, nD, hdD⟩ (fun h' hl' hs' => ⟨h', rfl, hl', hs'⟩) hys)) (fun _ s7 ⟨T7, h7, e7, hl7, hs7⟩ => ?_) fun _ _ x => x.2.elim))
      subst e7
      have ext7 : ∀ b o, b ≠ D → s6.heap.get? b = some o → h7.get? b = some o := fun b o nb e => (hs7.2 b nb).trans e
      obtain ⟨oi6, vi6, hoi6, hdi6⟩ := I₀.fld _ _ st6
      have sk7 : SeqKeep (vw (D :: c.X) s6.heap) (vw (D :: c.X) h7) := .vw fun b o us n e nb db => ⟨o.slots, ext7 b o (fun z => nb (by rw [z]; exact List.mem_cons_self ..)) e⟩
      refine wpC.pure (wpC.pure (Or.inl ⟨rfl, ds.length + 1 - (i + 1), by omega, i + 1, ys.push y, _, hlt, rfl, ⟨k6.ext ext7 hD, q6.gens.trans gen5, q6.os.trans os5⟩, T7, I₀.loc _ _ _ st6 fun o e => ext7 it o (Ne.symm hDit) e,
        hn6.at' fun o e => ext7 C o (Ne.symm hDC) e, hl7, ?_⟩))
      rw [take_eq, List.filter_append, List.filter_cons_of_pos hp, List.filter_nil, List.map_append, Array.toList_push]
      exact (rr.of sk7).append (.cons (r6.of sk7) .nil)
  · have hie : i = ds.length := by omega
    subst hie
    refine I₀.done' st2 gk (fun e q => (S.hld e q).keep k2.heap S.fr) T2 fun s3 T3 ext3 g3 o3 => wpC.pure ?_
    obtain ⟨oi2, vi2, hoi2, hdi2⟩ := I₀.fld _ _ st2
    refine hR _ ys m' ⟨k2.heap.ext ext3 hit, g3.trans k2.gens, o3.trans k2.os⟩ T3 (hn2.at' fun o e => ext3 C o hCit e) ⟨oD, ext3 D oD hDit hoD, hcD, nD, hdD⟩ ?_
    rw [List.take_length] at r2
    exact r2.of (.vw fun b o us n e _ db => ⟨o.slots, ext3 b o (fun z => by rw [z, hoi2] at e; cases e; rw [hdi2] at db; cases db) e⟩)

/-- the whole run of a comprehension, up to what is done with it -/
theorem comp_runC {elt iter tg : Expr} {ifs : List Expr} {scope : Scope} {pos pos' : Pos} {ds : List PyData} {p : PyData → Bool} {f : PyData → PyData} {bs : PyData → Vars} {s : Shared}
    {Q : Value → Shared → Prop} {E : Value → Shared → Prop}
    (hi : EvI a c ρ iter ds) (hk : scope.kind = .function) (hc : ∀ x ∈ scope.names, x.2 ≠ .cell) (hfree : ∀ x ∈ scope.names, x.2 = .free → sc.names.lookup x.1 = some .cell)
    (hnames : ∀ x ∈ scope.names, x.2 = .local → scope.names.lookup x.1 = some .local) (hs : ∀ x, foldedSetIterable iter c.env x = pure x) (hsz : ds.length ≤ sizeLine)
    (hin : ∀ c' : Cx (relabelS scope sc), c'.n = c.n → c'.hq = c.hq → ∀ d ∈ ds, AsL a c' tg d (bs d) ∧ TsAll a c' (bs d ++ capt scope sc ρ) ifs (p d) ∧ (p d = true → EvC a c' (bs d ++ capt scope sc ρ) elt (f d)))
    (S : St a c s.heap ρ) (T : 0 < s.toks)
    (fin : ∀ s' C D m' oC, Kp c.fs s s' → 0 < s'.toks → St a c s'.heap ρ → s.heap.get? C = none → s'.heap.get? C = some oC → s'.heap.Ns C m' → Rd (vw c.X s'.heap) (.ref D) (.list ((ds.filter p).map f)) → compPost a.M c.A E none Q (.ref D) C (.ok .next) s') :
    wpC a.M c.A (comprehension (.ListComp elt [⟨tg, iter, ifs, 0⟩] scope pos) scope c.env pos' (newList []) false (eval iter c.env) none) Q E s := by
  have hf : ∀ x ∈ scope.names, x.2 = .free → (c.env.cells.lookup x.1).isSome = true := fun x hx e => by
    obtain ⟨ad, v, e1, _⟩ := S.cel x.1 (hfree x hx e)
    rw [e1]; rfl
  refine wpC.comprehension_free (g := ⟨tg, iter, ifs, 0⟩) (gs := []) rfl hs (closureFor_eq hf) hk hnames ?_
  refine hi.then S T fun x s1 q1 S1 T1 hit => hit _ _ fun it s2 IS T2 stay2 nit st2 I₀ g2 o2 => ?_
  refine wpAny_newObj_type (wpAny_newFunctionEnv hc (by intro y hy; simp at hy) (fun h4 hns4 hsb4 => ?_) hk) (Nat.zero_le _)
  dsimp only at hns4 hsb4 ⊢
  have hsz2 : (s2.heap.push { cls := .type "list", data := .seq ([] : List Value).toArray }).objs.size = s2.heap.objs.size + 1 := Heap.size_push ..
  generalize hCC : (s2.heap.push { cls := .type "list", data := .seq ([] : List Value).toArray }).objs.size = C at hns4 hsb4 hsz2 ⊢
  have stay4 : s2.heap.StaysIn h4 := fun b o e => by
    have hb := Heap.lt_size e
    refine hsb4.extBut b o (fun z => ?_) (Heap.get?_push_of_some _ (Heap.get?_push_of_some _ e))
    rw [z, hsz2] at hb; exact Nat.lt_irrefl _ (Nat.lt_of_succ_lt hb)
  have hDC : s2.heap.objs.size ≠ C := by rw [hsz2]; exact Nat.ne_of_lt (Nat.lt_succ_self _)
  have hD1 : s1.heap.get? s2.heap.objs.size = none := by
    cases q : s1.heap.get? s2.heap.objs.size with
    | none => rfl
    | some o => exact absurd (Heap.lt_size (stay2 _ o q)) (Nat.lt_irrefl _)
  have hC1 : s1.heap.get? C = none := by
    cases q : s1.heap.get? C with
    | none => rfl
    | some o => exact absurd (Heap.lt_size (stay2 _ o q)) (fun z => by rw [hsz2] at z; exact Nat.lt_irrefl _ (Nat.lt_of_succ_lt z))
  obtain ⟨oi, vi, hoi, hdi⟩ := I₀.fld _ _ st2
  have hlti : it < s2.heap.objs.size := Heap.lt_size hoi
  have hl4 : h4.IsList s2.heap.objs.size #[] := ⟨_, hsb4.extBut _ _ hDC (Heap.get?_push_of_some _ (Heap.get?_push_size _ rfl)), rfl, _, rfl⟩
  have k4 : Kp c.fs s1 { s2 with heap := h4, toks := s2.toks + ([] : List (Str × Value)).length } := ⟨.ofStays fun b o e => stay4 b o (stay2 b o e), g2, o2⟩
  have loop : codeC a.M c.A (.compLoop (.ListComp elt [⟨tg, iter, ifs, 0⟩] scope pos) 0 (.ref it) (.ref s2.heap.objs.size) (compEnvC scope (clo c.env scope.names []) C c.env))
      (compPost a.M c.A E none Q (.ref s2.heap.objs.size) C) { s2 with heap := h4, toks := s2.toks + ([] : List (Str × Value)).length } := by
    refine comp_loopC hk hf hc S1 I₀ hD1 hC1 nit hDC (Nat.ne_of_gt hlti) (by rw [hsz2]; exact Nat.ne_of_gt (Nat.lt_succ_of_lt hlti)) hsz hin k4 (Nat.lt_of_lt_of_le T2 (Nat.le_add_right _ _)) (I₀.loc _ _ _ st2 fun o e => stay4 it o e) hns4 hl4 fun s' ys m' k5 T5 hn5 hl5 r5 => ?_
    obtain ⟨oC, es, ep, hoC, hdC, _⟩ := id hn5
    refine fin s' _ _ m' oC (q1.trans k5) T5 (S1.keep k5.heap) ?_ hoC hn5 (.list hl5 ?_ (r5.of .less))
    · cases q : s.heap.get? C with
      | none => rfl
      | some o =>
        exfalso
        have e1 : (s1.heap.get? C).isSome = true := by
          by_cases m : C ∈ c.fs
          · obtain ⟨o', es, n, e', d⟩ := S.fr.dd _ m
            rw [q] at e'; cases e'
            obtain ⟨sl, z⟩ := (q1.heap _ o q).2 m fun vs z => by rw [d] at z; cases z
            rw [z]; rfl
          · rw [(q1.heap _ o q).1 m]; rfl
        rw [hC1] at e1; cases e1
    · intro m
      obtain ⟨o, e⟩ := S1.ok.xs _ m
      rw [hD1] at e; cases e
  exact codeC.compStart_list loop (I₀.self 0 _ _ _ (I₀.loc _ _ _ st2 fun o e => stay4 it o e) loop)


theorem EvC.comp {elt iter tg : Expr} {ifs : List Expr} {scope : Scope} {pos : Pos} {ds : List PyData} {p : PyData → Bool} {f : PyData → PyData} {bs : PyData → Vars}
    (hi : EvI a c ρ iter ds) (hk : scope.kind = .function) (hc : ∀ x ∈ scope.names, x.2 ≠ .cell) (hfree : ∀ x ∈ scope.names, x.2 = .free → sc.names.lookup x.1 = some .cell)
    (hnames : ∀ x ∈ scope.names, x.2 = .local → scope.names.lookup x.1 = some .local) (hs : ∀ x, foldedSetIterable iter c.env x = pure x) (hsz : ds.length ≤ sizeLine)
    (hin : ∀ c' : Cx (relabelS scope sc), c'.n = c.n → c'.hq = c.hq → ∀ d ∈ ds, AsL a c' tg d (bs d) ∧ TsAll a c' (bs d ++ capt scope sc ρ) ifs (p d) ∧ (p d = true → EvC a c' (bs d ++ capt scope sc ρ) elt (f d))) :
    EvC a c ρ (.ListComp elt [⟨tg, iter, ifs, 0⟩] scope pos) (.list ((ds.filter p).map f)) := fun s E S T => by
  rw [eval_ListComp]
  refine comp_runC hi hk hc hfree hnames hs hsz hin S T fun s' C D m' oC q' T' S' hC hoC hn r => ⟨m', hn, fun h' hs' => ?_⟩
  have ext : ∀ b o, b ≠ C → s'.heap.get? b = some o → h'.get? b = some o := fun b o nb e => (hs'.2 b nb).trans e
  obtain ⟨o2, es, ep, e2, d2, _⟩ := hn
  exact ⟨⟨q'.heap.ext ext hC, q'.gens, q'.os⟩, r.of (.vw fun b o vs n e _ d => ⟨o.slots, ext b o (fun z => by rw [z, e2] at e; cases e; rw [d2] at d; cases d) e⟩)⟩
def ExsC (a : Amb) {sc : Scope} (c : Cx sc) (ρ : Vars) (ss : List Stmt) (r : Res) : Prop :=
  ∀ (s : Shared) (E : Value → Shared → Prop), St a c s.heap ρ → 0 < s.toks → wpC a.M c.A (execs ss c.env) (fun fl s' => KpX c s s' ∧ RPost a c r fl s') E s
def ExcC (a : Amb) {sc : Scope} (c : Cx sc) (ρ : Vars) (st : Stmt) (r : Res) : Prop :=
  ∀ (s : Shared) (E : Value → Shared → Prop), St a c s.heap ρ → 0 < s.toks → wpC a.M c.A (exec st c.env) (fun fl s' => KpX c s s' ∧ RPost a c r fl s') E s
theorem ExsC.of {ss : List Stmt} {r : Res} (h : Exs a c ρ ss r) : ExsC a c ρ ss r := fun s E S T => wpC.of (h s E S T)
theorem ExcC.of {ss : Stmt} {r : Res} (h : Exc a c ρ ss r) : ExcC a c ρ ss r := fun s E S T => wpC.of (h s E S T)
theorem ExcC.then {st : Stmt} {r : Res} {s : Shared} {E : Value → Shared → Prop} {Q : Flow → Shared → Prop} (h : ExcC a c ρ st r) (S : St a c s.heap ρ) (T : 0 < s.toks)
    (k : ∀ fl s', KpX c s s' → RPost a c r fl s' → 0 < s'.toks → Q fl s') : wpC a.M c.A (exec st c.env) Q E s :=
  wpC.mono (wpC.toks (n := 1) T (h s E S T)) (fun fl s' ⟨t, q, r⟩ => k fl s' q r t) fun _ _ x => x.2
theorem ExsC.then {st : List Stmt} {r : Res} {s : Shared} {E : Value → Shared → Prop} {Q : Flow → Shared → Prop} (h : ExsC a c ρ st r) (S : St a c s.heap ρ) (T : 0 < s.toks)
    (k : ∀ fl s', KpX c s s' → RPost a c r fl s' → 0 < s'.toks → Q fl s') : wpC a.M c.A (execs st c.env) Q E s :=
  wpC.mono (wpC.toks (n := 1) T (h s E S T)) (fun fl s' ⟨t, q, r⟩ => k fl s' q r t) fun _ _ x => x.2
theorem ExsC.cons {st : Stmt} {rest : List Stmt} {ρ' : Vars} {r : Res} (h1 : ExcC a c ρ st (.next ρ')) (h2 : ExsC a c ρ' rest r) : ExsC a c ρ (st :: rest) r := fun s E S T =>
  wpC.execs_cons (h1.then S T fun fl s1 q1 ⟨e1, S1⟩ T1 => by subst e1; exact h2.then S1 T1 fun fl s2 q2 r2 _ => ⟨q1.trans q2, r2⟩)
theorem ExsC.ret {st : Stmt} {rest : List Stmt} {d : PyData} (h : ExcC a c ρ st (.ret d)) : ExsC a c ρ (st :: rest) (.ret d) := fun s E S T =>
  wpC.execs_cons (h.then S T fun fl s1 q1 ⟨v, e, r⟩ _ => by subst e; exact ⟨q1, v, rfl, r⟩)
theorem ExcC.return {e : Expr} {pos : Pos} {d : PyData} (h : EvC a c ρ e d) : ExcC a c ρ (.Return (some e) pos) (.ret d) := fun s E S T =>
  wpC.Return_some (h.then S T fun v s1 q1 r1 _ _ => ⟨q1.x, v, rfl, r1⟩)
theorem ExcC.ifF {t : Expr} {b o : List Stmt} {pos : Pos} {r : Res} (ht : Ts a c ρ t false) (hb : ExsC a c ρ o r) : ExcC a c ρ (.If t b o pos) r := fun s E S T =>
  wpC.If (wpC.of (ht.then S T fun s1 q1 S1 T1 => by
    rw [if_neg Bool.false_ne_true]; exact hb.then S1 T1 fun fl s2 q2 r2 _ => ⟨q1.x.trans q2, r2⟩))
/-- a test under the claim's caller -/
def TsC (a : Amb) {sc : Scope} (c : Cx sc) (ρ : Vars) (e : Expr) (b : Bool) : Prop :=
  ∀ (s : Shared) (E : Value → Shared → Prop), St a c s.heap ρ → 0 < s.toks → wpC a.M c.A (isTrue e c.env (eval e c.env)) (fun v s' => Kp c.fs s s' ∧ v = b) E s
theorem TsC.cmp {l r : Expr} {op : CmpOp} {pos : Pos} {d1 d2 : PyData} {b : Bool} (h1 : EvC a c ρ l d1) (h2 : EvC a c ρ r d2) (h : Op2 a c (compareOp op) d1 d2 (.bool b)) (hm : behindInMarks op r = false := by with_unfolding_all rfl) :
    TsC a c ρ (.Compare l [op] [r] pos) b := fun s E S T => by
  refine wpC.isTrue_Compare1 (h1.then S T fun v1 s1 q1 r1 S1 T1 => h2.then S1 T1 fun v2 s2 q2 r2 S2 T2 => wpAny_mono (h s2 E v1 v2 S2.ok (r1.of q2.heap.seqv) r2) (fun v s3 ⟨q3, r3⟩ => ?_) fun _ _ x => x) hm
  cases r3.bool_inv
  exact wpAny_truthy_bool ⟨(q1.trans q2).trans q3, rfl⟩
theorem ExcC.skip {t : Expr} {b : List Stmt} {pos : Pos} (ht : TsC a c ρ t false) : ExcC a c ρ (.If t b [] pos) (.next ρ) := fun s E S T =>
  wpC.If (wpC.mono (wpC.toks (n := 1) T (ht s E S T)) (fun v s1 ⟨T1, q1, e⟩ => by
    subst e
    rw [if_neg Bool.false_ne_true]; exact wpC.of (wpAny_execs_nil ⟨q1.x, rfl, S.keep q1.heap⟩)) fun _ _ x => x.2)
theorem EvC.bin {l r : Expr} {op : Operator} {pos : Pos} {d1 d2 d : PyData} (h1 : EvC a c ρ l d1) (h2 : EvC a c ρ r d2) (h : Op2 a c (binaryOp op) d1 d2 d) : EvC a c ρ (.BinOp l op r pos) d := fun s E S T =>
  wpC.BinOp (h1.then S T fun v1 s1 q1 r1 S1 T1 => h2.then S1 T1 fun v2 s2 q2 r2 S2 T2 => wpAny_mono (h s2 E v1 v2 S2.ok (r1.of q2.heap.seqv) r2) (fun v s3 ⟨q3, r3⟩ => ⟨(q1.trans q2).trans q3, r3⟩) fun _ _ x => x)
/-- a def under the claim's caller -/
def FnC (a : Amb) (n : Nat) (f : Value) (ds : List PyData) (d : PyData) : Prop :=
  ∀ (A : Around) (frs : List Env) (X : List Addr) (s : Shared) (vs : List Value), A.frames = some frs → A.handled = none → A.depth + n ≤ 800 → A.units + 100 * n ≤ 9000 → Ok a frs X s.heap → RdL (vw X s.heap) vs ds → 0 < s.toks →
    codeC a.M A (.call f ⟨vs, []⟩) (fun r s' => ∃ v, r = .ok (.ret v) ∧ Kp (frAddrs frs) s s' ∧ Rd (vw X s'.heap) v d) s
theorem FnC.of {n : Nat} {f : Value} {ds : List PyData} {d : PyData} (h : Fn a n f ds d) : FnC a n f ds d := fun A frs X s vs h1 h2 h3 h4 h5 h6 h7 => codeC.of (h A frs X none s vs rfl h1 h2 (fun e z => by cases z) h3 h4 h5 h6 h7)
theorem EvC.fn {x : Str} {p pos : Pos} {es : List Expr} {f : Addr} {st : Stmt} {n : Nat} {ds : List PyData} {d : PyData} (hI : IsFn a x f st) (hF : FnC a n (.ref f) ds d) (h0 : c.hq = none) (hs : EvL a c ρ es ds) (hn : n ≤ c.n)
    (hx : sc.names.lookup x = some .globalImplicit) (hd : (x == ("__debug__" : Str)) = false) (hst : starEach es c.env = plainArgs es c.env) : EvC a c ρ (.Call (.Name x p) es [] pos) d := fun s E S T => by
  have he : eval (.Call (.Name x p) es [] pos) c.env = (do callWith pos (← eval (.Name x p) c.env) [] (backTo pos (starEach es c.env)) (backToKw pos (keywordEach [] c.env))) := by rfl
  rw [he]
  refine wpC.bind (wpC.of (Is.globK (ρ := ρ) hI.glob hx hd s E _ S ?_))
  rw [hst, backTo_plain]
  obtain ⟨o, pm, cd, doc, an, ct, e2, e3, e4⟩ := hI.obj
  refine wpC.callWith_function (o := o) (fd := fnOf (fdName st) (fdName st) (fdPs st) (fdBody st) (fdScope st) .none .none doc pm an cd ct) (hs.args S T fun vs s1 q1 r1 S1 T1 => ⟨⟨S1.kIn _ _ e2, e3⟩, wpC.call ?_⟩)
  refine codeC.mono (hF c.A c.frs c.X s1 vs c.hfr (c.h0 h0) (by have := c.hd; omega) (by have := c.hu; omega) S1.ok r1 T1) fun r s2 z => ?_
  obtain ⟨v, rfl, q2, r2⟩ := z
  exact ⟨q1.trans q2, r2⟩
end
end Mine

end
section
open PySem PySem.W PyProof.Rows PySem.Calls PySem.Spec
set_option Elab.async false
set_option linter.unusedVariables false
namespace Mine
section
variable {M : Model} {A : Around} {E : Value → Shared → Prop} {s : Shared} {env : Env}
theorem wpC.For {target iter : Expr} {body orelse : List Stmt} {pos : Pos} {Q : Flow → Shared → Prop}
    (h : wpAny M A (eval iter env) (fun x s₁ => wpAny M A (pyIter x) (fun it s₂ =>
      codeC M A (.forLoop target it body orelse env) (fun r s' => match r with | .ok f => Q f s' | .error e => cameBackBy M A env E e s') s₂) E s₁) E s)
    (hs : ∀ x, foldedSetIterable iter env x = Pure.pure x) : wpC M A (exec (.For target iter body orelse pos) env) Q E s := by
  rw [exec_For]
  exact wpC.bind (wpC.stand (wpC.bind (wpC.mono (wpC.of h) (fun x s₁ h₁ => wpC.bind (wpC.of (wpAny_of_eq (hs x) (wpC.bind (wpC.stand (wpC.bind (wpC.holding (wpC.mono (wpC.of h₁) (fun it s₂ h₂ => wpC.runOwn h₂) fun _ _ x => x)))))))) fun _ _ x => x)))
end
section
variable {prog : Program} {w : World} {A : Around} {E : Value → Shared → Prop} {s : Shared} {R : Result → Shared → Prop}
theorem codeC.forLoop {target : Expr} {it : Value} {body orelse : List Stmt} {env : Env} (I : Nat → Shared → Prop)
    (turn : ∀ n s, I n s → wpAny (model prog w) A (pyNext it) (fun r s₁ => match r with
      | none => wpAny (model prog w) A (execs orelse env) (fun f s₃ => R (.ok f) s₃) (notedBy (model prog w) A env fun e s' => R (.error e) s') s₁
      | some v => wpAny (model prog w) A (assign target env v) (fun _ s₂ => wpC (model prog w) A (execs body env) (fun f s₃ => match f with
          | .next | .cont => ∃ m, m < n ∧ I m s₃
          | .brk => R (.ok .next) s₃
          | .ret v => R (.ok (.ret v)) s₃) (notedBy (model prog w) A env fun e s' => R (.error e) s') s₂) (notedBy (model prog w) A env fun e s' => R (.error e) s') s₁) (notedBy (model prog w) A env fun e s' => R (.error e) s') s)
    (n : Nat) (h : I n s) (ht : ∀ v, letOwnedTupleGo target it v = Pure.pure ()) : codeC (model prog w) A (.forLoop target it body orelse env) R s := by
  refine codeC.loop rfl I (fun n s hI => ?_) n h
  show wpC _ _ ((forTurn target it body orelse env).onRaise (fun x => do noteFrame x env; theTreesLotGoes x)) _ _ s
  refine wpC.noted ?_
  simp only [forTurn]
  refine wpC.bind (wpC.stand (wpC.bind (wpC.of (wpAny_onRaise (wpAny_mono (turn n s hI) (fun r s₁ h₁ => ?_) fun _ _ h' => wpAny_standAt h')))))
  cases r with
  | none => exact wpC.pure (.inr ⟨rfl, codeC.of (codeAny_block h₁)⟩)
  | some v =>
    refine wpC.bind (wpC.of (wpAny_of_eq (ht v) ?_))
    refine wpC.bind (wpC.of (wpAny_mono h₁ (fun _ s₂ h₂ => wpC.bind (wpC.mono h₂ (fun f s₃ h₃ => ?_) fun _ _ h' => h')) fun _ _ h' => h'))
    cases f with
    | next => exact wpC.pure (.inl ⟨rfl, h₃⟩)
    | cont => exact wpC.pure (.inl ⟨rfl, h₃⟩)
    | brk => exact wpC.pure h₃
    | ret v => exact wpC.pure h₃
end
section
variable {a : Amb} {sc : Scope} {c : Cx sc} {ρ ρ₀ : Vars}
def RzC (a : Amb) {sc : Scope} (c : Cx sc) (ρ : Vars) (ss : List Stmt) (cls : Value) (P : List Value → Prop) (ρ' : Vars) : Prop :=
  ∀ (s : Shared) (E : Value → Shared → Prop), St a c s.heap ρ → 0 < s.toks → (∀ e s', Rp a c cls P .none ρ' s e s' → 0 < s'.toks → E (.ref e) s') → wpC a.M c.A (execs ss c.env) (fun _ _ => False) E s
def RzcC (a : Amb) {sc : Scope} (c : Cx sc) (ρ : Vars) (st : Stmt) (cls : Value) (P : List Value → Prop) (ρ' : Vars) : Prop :=
  ∀ (s : Shared) (E : Value → Shared → Prop), St a c s.heap ρ → 0 < s.toks → (∀ e s', Rp a c cls P .none ρ' s e s' → 0 < s'.toks → E (.ref e) s') → wpC a.M c.A (exec st c.env) (fun _ _ => False) E s
def RzeC (a : Amb) {sc : Scope} (c : Cx sc) (ρ : Vars) (e : Expr) (cls : Value) (P : List Value → Prop) : Prop :=
  ∀ (s : Shared) (E : Value → Shared → Prop), St a c s.heap ρ → 0 < s.toks → (∀ e s', Rp a c cls P .none ρ s e s' → 0 < s'.toks → E (.ref e) s') → wpC a.M c.A (eval e c.env) (fun _ _ => False) E s
def FnXC (a : Amb) (n : Nat) (f : Value) (ds : List PyData) (cls : Value) (P : List Value → Prop) : Prop :=
  ∀ (A : Around) (frs : List Env) (X : List Addr) (s : Shared) (vs : List Value), A.frames = some frs → A.handled = none → A.depth + n ≤ 800 → A.units + 100 * n ≤ 9000 → Ok a frs X s.heap → RdL (vw X s.heap) vs ds → 0 < s.toks →
    codeC a.M A (.call f ⟨vs, []⟩) (fun r s' => ∃ e, r = .error (.ref e) ∧ Kp (frAddrs frs) s s' ∧ Xc s.heap s'.heap e cls P .none (some .none)) s
variable {cls : Value} {P : List Value → Prop}
theorem RzC.of {ss : List Stmt} {ρ' : Vars} (h : Rz a c ρ ss cls P ρ') : RzC a c ρ ss cls P ρ' := fun s E S T hE => wpC.of (h s E S T hE)
theorem FnXC.of {n : Nat} {f : Value} {ds : List PyData} (h : FnX a n f ds cls P) : FnXC a n f ds cls P := fun A frs X s vs h1 h2 h3 h4 h5 h6 h7 => codeC.of (h A frs X s vs h1 h2 h3 h4 h5 h6 h7)
theorem RzC.here {st : Stmt} {rest : List Stmt} {ρ' : Vars} (h : RzcC a c ρ st cls P ρ') : RzC a c ρ (st :: rest) cls P ρ' := fun s E S T hE =>
  wpC.execs_cons (wpC.mono (h s E S T hE) (fun _ _ x => x.elim) fun _ _ x => x)
theorem RzC.cons {st : Stmt} {rest : List Stmt} {ρ1 ρ' : Vars} (h1 : Exc a c ρ st (.next ρ1)) (h2 : RzC a c ρ1 rest cls P ρ') : RzC a c ρ (st :: rest) cls P ρ' := fun s E S T hE =>
  wpC.execs_cons (wpC.of (h1.then S T fun fl s1 q1 ⟨e1, S1⟩ T1 => by subst e1; exact h2 s1 E S1 T1 fun e s' r T' => hE e s' (r.shift q1 S S1) T'))
theorem RzcC.assign {x : Str} {p pos : Pos} {e : Expr} (h : RzeC a c ρ e cls P) (hs : swapsWith e (some (.Name x p)) pos.line c.env = pure false) : RzcC a c ρ (.Assign [.Name x p] e pos) cls P ρ := fun s E S T hE =>
  wpC.Assign_Name (wpC.mono (h s E S T hE) (fun _ _ x => x.elim) fun _ _ x => x) hs
theorem RzeC.fn {x : Str} {p pos : Pos} {es : List Expr} {f : Addr} {st : Stmt} {n : Nat} {ds : List PyData} (hI : IsFn a x f st) (hF : FnXC a n (.ref f) ds cls P) (h0 : c.hq = none) (hs : EvL a c ρ es ds) (hn : n ≤ c.n)
    (hx : sc.names.lookup x = some .globalImplicit) (hd : (x == ("__debug__" : Str)) = false) (hst : starEach es c.env = plainArgs es c.env) : RzeC a c ρ (.Call (.Name x p) es [] pos) cls P := fun s E S T hE => by
  have he : eval (.Call (.Name x p) es [] pos) c.env = (do callWith pos (← eval (.Name x p) c.env) [] (backTo pos (starEach es c.env)) (backToKw pos (keywordEach [] c.env))) := by rfl
  rw [he]
  refine wpC.bind (wpC.of (Is.globK (ρ := ρ) hI.glob hx hd s E _ S ?_))
  rw [hst, backTo_plain]
  obtain ⟨o, pm, cd, doc, an, ct, e2, e3, e4⟩ := hI.obj
  refine wpC.callWith_function (o := o) (fd := fnOf (fdName st) (fdName st) (fdPs st) (fdBody st) (fdScope st) .none .none doc pm an cd ct) (hs.args S T fun vs s1 q1 r1 S1 T1 => ⟨⟨S1.kIn _ _ e2, e3⟩, wpC.mono (wpC.toks (n := 1) T1 (wpC.call ?_)) (fun _ _ x => x.2) fun v s' (x : _ ∧ ∃ e, v = .ref e ∧ Rp a c cls P .none ρ s e s') => ?_⟩)
  · refine codeC.mono (hF c.A c.frs c.X s1 vs c.hfr (c.h0 h0) (by have := c.hd; omega) (by have := c.hu; omega) S1.ok r1 T1) fun r s2 z => ?_
    obtain ⟨e, rfl, q2, x2⟩ := z
    exact ⟨e, rfl, (q1.trans q2).x, S1.keep q2.heap, _, .inr (.inl rfl), x2.less (Kp.there (fs := []) q1 S.fr)⟩
  · obtain ⟨T', e, rfl, r⟩ := x
    exact hE e s' r T'
/-- int of a text that is no number's -/
theorem RzeC.int {e : Expr} {x : Str} {p pos : Pos} (hi : nsIn a.K mainGlobals "int" = some none) (h : Ev a c ρ e (.str x)) (h0 : c.hq = none) (hn : PySem.intText? x = none) (hl : x.length ≤ 640) (hr : (reprText x).length ≤ 100000)
    (hx : sc.names.lookup ("int" : Str) = some .globalImplicit) (hst : starEach [e] c.env = plainArgs [e] c.env) : RzeC a c ρ (.Call (.Name "int" p) [e] [] pos) (.type "ValueError") (fun _ => True) := fun s E S T hE => by
  have he : eval (.Call (.Name "int" p) [e] [] pos) c.env = (do callWith pos (← eval (.Name "int" p) c.env) [] (backTo pos (starEach [e] c.env)) (backToKw pos (keywordEach [] c.env))) := by rfl
  rw [he]
  refine wpC.bind (wpC.of (Is.globB (ρ := ρ) hi PyProof.Rows.Boot.«int» (by decide) hx (by decide) s E _ S ?_))
  rw [hst, backTo_plain]
  unfold callWith
  refine wpC.bind (wpC.holding (wpC.of ((EvL.one h).args S T fun vs s1 q1 r1 S1 T1 => wpC.bind (wpC.stand ?_))))
  simp only [any_plain, List.any_nil, Bool.or_false]
  refine wpC.bind (wpC.pure ?_)
  refine wpC.bind (Mine.wpC.mono (wpC.toks (n := 1) T1 ?_) (fun _ _ (x : _ ∧ False) => x.2.elim) fun v s' (x : _ ∧ ∃ e, v = .ref e ∧ Rp a c (.type "ValueError") (fun _ => True) .none ρ s e s') => ?_)
  · obtain ⟨v, ws, rfl, r2, r3⟩ := r1.cons_inv
    rw [r3.nil_inv]
    obtain ⟨t, rfl⟩ := r2.str_inv
    refine int_refused hn hl hr (c.h0 h0) fun h' e m tk hx => ⟨e, rfl, ?_⟩
    have kk : Kp c.fs s1 { s1 with heap := h', toks := tk } := ⟨.ofStays hx.keeps, rfl, rfl⟩
    exact ⟨(q1.trans kk).x, S1.keep kk.heap, none, .inl rfl, (Xc.made hx trivial).less (Kp.there (fs := []) q1 S.fr)⟩
  · obtain ⟨T', e, rfl, r⟩ := x
    exact hE e s' r T'

theorem FnC.body {n : Nat} {f : Addr} {o : Obj} {nm : Str} {ps : Arguments} {body : List Stmt} {scp : Scope} {doc pm cd ct : Value} {an : Option Addr} {ds : List PyData} {d : PyData} (names : List Str)
    (ho : a.K.lookup f = some o) (hd : o.data = .func (fnOf nm nm ps body scp .none .none doc pm an cd ct)) (hc : codeIn a.K cd nm = true)
    (hb : ∀ vs : List Value, vs.length = ds.length → bindArgs (fnOf nm nm ps body scp .none .none doc pm an cd ct) ⟨vs, []⟩ = pure (names.zip vs))
    (hkinds : (names.all fun x => scp.names.lookup x == some .local || scp.names.lookup x == some .cell) = true)
    (hco : scp.isCoroutine = false) (hgen : scp.isGenerator = false) (hk : scp.kind = .function)
    (h : ∀ c : Cx scp, c.n = n → c.hq = none → c.env = c.fe → ExsC a c (names.zip ds).reverse body (.ret d)) : FnC a (n + 1) (.ref f) ds d := by
  intro A frs X s vs hfr hh hdp hun hok hvs htk
  have hst := hok.base
  have hff := hok.fr
  refine codeC.call_function (by unfold recursionLimit; omega) (hst f o (a.hK _ _ ho)) hd hco hgen rfl (codeRec_of (a.hK.keeps hst) hc) ?_
  rw [hb vs hvs.length]
  refine wpAny_pure ?_
  have kin : ∀ (k : Nat), ∀ x ∈ names.zip vs, scp.names.lookup x.1 = some .local ∨ (scp.names.lookup x.1 = some .cell ∧ ((cellsFrom k scp.names []).lookup x.1).isSome = true) := fun k x hx => by
    have := List.all_eq_true.mp hkinds x.1 (List.of_mem_zip hx).1
    rcases Bool.or_eq_true_iff.mp this with q | q
    · exact .inl (by simpa using q)
    · have q' : scp.names.lookup x.1 = some .cell := by simpa using q
      exact .inr ⟨q', cellsFrom_some _ _ _ (.inl q')⟩
  refine wpAny_mono (wpAny_toks_of (n := 1) htk (wpAny_newFunctionEnv_cells (Q := fun env s' => env = newEnv scp s.heap.objs.size mainGlobals (cellsFrom (s.heap.objs.size + 1) scp.names []) (nm ++ ".<locals>.") (some f) cd none builtinsNs ∧
    InCallC s env.locals (bindL env.kindOf (names.zip vs) fun _ => none) env.cells (bindC env.kindOf (names.zip vs) fun _ => none) s') hk (kin _) fun env he s' x => ⟨he, x⟩)) (fun env s' ⟨T, he, x⟩ => ?_) fun _ _ x => x.2
  subst he
  obtain ⟨h', tk, hs', hkeep⟩ := x.done
  have hlim : s'.heap.NoLimit := (a.hT.nolimit.keeps hst).keeps x.toInCall.keep
  refine ⟨hlim, codeC.func ?_⟩
  have hnewL : a.H.get? s.heap.objs.size = none := hst.fresh
  have hfrm : FrOk a.H s'.heap (newEnv scp s.heap.objs.size mainGlobals (cellsFrom (s.heap.objs.size + 1) scp.names []) (nm ++ ".<locals>.") (some f) cd none builtinsNs :: frs) := by
    obtain ⟨oL, es, ep, hL, hLd, _⟩ := x.toInCall.ns
    have hff' := hff.keep (Keep.ofStays (fs := []) x.toInCall.keep)
    refine ⟨⟨by show scp.kind ≠ .module; rw [hk]; decide, ⟨_, oL, rfl, hnewL, hL, fun vs q => by rw [hLd] at q; cases q⟩, hff'.ff⟩, fun b hb => ?_⟩
    rcases List.mem_cons.mp hb with q | q
    · rw [q]; exact ⟨oL, es, ep, hL, hLd⟩
    · exact hff'.dd b q
  let c : Cx scp := {
    A := A.deeper (newEnv scp s.heap.objs.size mainGlobals (cellsFrom (s.heap.objs.size + 1) scp.names []) (nm ++ ".<locals>.") (some f) cd none builtinsNs)
    env := newEnv scp s.heap.objs.size mainGlobals (cellsFrom (s.heap.objs.size + 1) scp.names []) (nm ++ ".<locals>.") (some f) cd none builtinsNs
    fe := newEnv scp s.heap.objs.size mainGlobals (cellsFrom (s.heap.objs.size + 1) scp.names []) (nm ++ ".<locals>.") (some f) cd none builtinsNs
    fo := frs
    n := n
    X := X
    hfr := Around.frames_deeper hfr
    hgen := hgen
    hco := hco
    hfb := rfl
    hfg := rfl
    hff := rfl
    hq := none
    hh := hh
    hd := by rw [depth_deeper]; omega
    hu := by rw [units_deeper]; omega
    hsc := rfl
    hk := hk
    hinj := pair_inj x.apart
    hg := rfl
    hb := rfl }
  have S : St a c s'.heap (names.zip ds).reverse := by
    refine ⟨⟨fun b o e => x.toInCall.keep b o (hst b o e), hfrm, fun y hy => let ⟨o, e⟩ := hok.xs y hy; ⟨o, x.toInCall.keep y o e⟩⟩, hnewL, ⟨_, x.toInCall.ns, fun y dy hy hq => ?_⟩, fun y hy => ?_, fun e z => by cases z⟩
    · obtain ⟨v, e1, e2⟩ := zip_lookup names vs ds hvs hq
      refine ⟨v, ?_, e2.of (Keep.ofStays (fs := []) x.toInCall.keep).seqv⟩
      rw [bindL_eq (by exact hy), e1]; rfl
    · have hsome := cellsFrom_some (x := y) scp.names (s.heap.objs.size + 1) [] (.inl hy)
      obtain ⟨ad, hadl⟩ := Option.isSome_iff_exists.mp hsome
      refine ⟨ad, _, hadl, ?_, x.cell y ad hadl, fun dy hq => ?_⟩
      · have := x.above y ad (mem_of_lookup hadl)
        cases q : a.H.get? ad with
        | none => rfl
        | some o' => exact absurd (Heap.lt_size (hst ad o' q)) (Nat.lt_asymm this)
      · obtain ⟨v, e1, e2⟩ := zip_lookup names vs ds hvs hq
        refine ⟨v, ?_, e2.of (Keep.ofStays (fs := []) x.toInCall.keep).seqv⟩
        rw [bindC_eq (by show List.lookup y scp.names ≠ _; rw [hy]; decide), e1]; rfl
  refine (h c rfl rfl rfl).then (c := c) S T fun fl s2 q2 ⟨v, e, r⟩ _ => ?_
  subst e
  refine ⟨v, rfl, ⟨fun b o e => ?_, q2.gens.trans (by rw [hs']), q2.os.trans (by rw [hs'])⟩, r⟩
  have ne : b ≠ s.heap.objs.size := Nat.ne_of_lt (Heap.lt_size e)
  have nc : ∀ y, scp.names.lookup y = some .cell → (cellsFrom (s.heap.objs.size + 1) scp.names []).lookup y ≠ some b := fun y _ hm =>
    absurd (Heap.lt_size e) (Nat.lt_asymm (x.above y b (mem_of_lookup hm)))
  have := q2.heap b o (x.toInCall.keep b o e) ne nc
  refine ⟨fun nm => this.1 fun hm => ?_, fun m nf => this.2 (List.mem_cons_of_mem _ m) nf⟩
  rcases List.mem_cons.mp hm with q | q
  · exact ne q
  · exact nm q

theorem FnXC.body {cls : Value} {P : List Value → Prop} {n : Nat} {f : Addr} {o : Obj} {nm : Str} {ps : Arguments} {body : List Stmt} {scp : Scope} {doc pm cd ct : Value} {an : Option Addr} {ds : List PyData} {ρ' : Vars} (names : List Str)
    (ho : a.K.lookup f = some o) (hd : o.data = .func (fnOf nm nm ps body scp .none .none doc pm an cd ct)) (hc : codeIn a.K cd nm = true)
    (hb : ∀ vs : List Value, vs.length = ds.length → bindArgs (fnOf nm nm ps body scp .none .none doc pm an cd ct) ⟨vs, []⟩ = pure (names.zip vs))
    (hkinds : (names.all fun x => scp.names.lookup x == some .local || scp.names.lookup x == some .cell) = true)
    (hco : scp.isCoroutine = false) (hgen : scp.isGenerator = false) (hk : scp.kind = .function)
    (h : ∀ c : Cx scp, c.n = n → c.hq = none → c.env = c.fe → RzC a c (names.zip ds).reverse body cls P ρ') : FnXC a (n + 1) (.ref f) ds cls P := by
  intro A frs X s vs hfr hh hdp hun hok hvs htk
  have hst := hok.base
  have hff := hok.fr
  refine codeC.call_function (by unfold recursionLimit; omega) (hst f o (a.hK _ _ ho)) hd hco hgen rfl (codeRec_of (a.hK.keeps hst) hc) ?_
  rw [hb vs hvs.length]
  refine wpAny_pure ?_
  have kin : ∀ (k : Nat), ∀ x ∈ names.zip vs, scp.names.lookup x.1 = some .local ∨ (scp.names.lookup x.1 = some .cell ∧ ((cellsFrom k scp.names []).lookup x.1).isSome = true) := fun k x hx => by
    have := List.all_eq_true.mp hkinds x.1 (List.of_mem_zip hx).1
    rcases Bool.or_eq_true_iff.mp this with q | q
    · exact .inl (by simpa using q)
    · have q' : scp.names.lookup x.1 = some .cell := by simpa using q
      exact .inr ⟨q', cellsFrom_some _ _ _ (.inl q')⟩
  refine wpAny_mono (wpAny_toks_of (n := 1) htk (wpAny_newFunctionEnv_cells (Q := fun env s' => env = newEnv scp s.heap.objs.size mainGlobals (cellsFrom (s.heap.objs.size + 1) scp.names []) (nm ++ ".<locals>.") (some f) cd none builtinsNs ∧
    InCallC s env.locals (bindL env.kindOf (names.zip vs) fun _ => none) env.cells (bindC env.kindOf (names.zip vs) fun _ => none) s') hk (kin _) fun env he s' x => ⟨he, x⟩)) (fun env s' ⟨T, he, x⟩ => ?_) fun _ _ x => x.2
  subst he
  obtain ⟨h', tk, hs', hkeep⟩ := x.done
  have hlim : s'.heap.NoLimit := (a.hT.nolimit.keeps hst).keeps x.toInCall.keep
  refine ⟨hlim, codeC.func ?_⟩
  have hnewL : a.H.get? s.heap.objs.size = none := hst.fresh
  have hfrm : FrOk a.H s'.heap (newEnv scp s.heap.objs.size mainGlobals (cellsFrom (s.heap.objs.size + 1) scp.names []) (nm ++ ".<locals>.") (some f) cd none builtinsNs :: frs) := by
    obtain ⟨oL, es, ep, hL, hLd, _⟩ := x.toInCall.ns
    have hff' := hff.keep (Keep.ofStays (fs := []) x.toInCall.keep)
    refine ⟨⟨by show scp.kind ≠ .module; rw [hk]; decide, ⟨_, oL, rfl, hnewL, hL, fun vs q => by rw [hLd] at q; cases q⟩, hff'.ff⟩, fun b hb => ?_⟩
    rcases List.mem_cons.mp hb with q | q
    · rw [q]; exact ⟨oL, es, ep, hL, hLd⟩
    · exact hff'.dd b q
  let c : Cx scp := {
    A := A.deeper (newEnv scp s.heap.objs.size mainGlobals (cellsFrom (s.heap.objs.size + 1) scp.names []) (nm ++ ".<locals>.") (some f) cd none builtinsNs)
    env := newEnv scp s.heap.objs.size mainGlobals (cellsFrom (s.heap.objs.size + 1) scp.names []) (nm ++ ".<locals>.") (some f) cd none builtinsNs
    fe := newEnv scp s.heap.objs.size mainGlobals (cellsFrom (s.heap.objs.size + 1) scp.names []) (nm ++ ".<locals>.") (some f) cd none builtinsNs
    fo := frs
    n := n
    X := X
    hfr := Around.frames_deeper hfr
    hgen := hgen
    hco := hco
    hfb := rfl
    hfg := rfl
    hff := rfl
    hq := none
    hh := hh
    hd := by rw [depth_deeper]; omega
    hu := by rw [units_deeper]; omega
    hsc := rfl
    hk := hk
    hinj := pair_inj x.apart
    hg := rfl
    hb := rfl }
  have S : St a c s'.heap (names.zip ds).reverse := by
    refine ⟨⟨fun b o e => x.toInCall.keep b o (hst b o e), hfrm, fun y hy => let ⟨o, e⟩ := hok.xs y hy; ⟨o, x.toInCall.keep y o e⟩⟩, hnewL, ⟨_, x.toInCall.ns, fun y dy hy hq => ?_⟩, fun y hy => ?_, fun e z => by cases z⟩
    · obtain ⟨v, e1, e2⟩ := zip_lookup names vs ds hvs hq
      refine ⟨v, ?_, e2.of (Keep.ofStays (fs := []) x.toInCall.keep).seqv⟩
      rw [bindL_eq (by exact hy), e1]; rfl
    · have hsome := cellsFrom_some (x := y) scp.names (s.heap.objs.size + 1) [] (.inl hy)
      obtain ⟨ad, hadl⟩ := Option.isSome_iff_exists.mp hsome
      refine ⟨ad, _, hadl, ?_, x.cell y ad hadl, fun dy hq => ?_⟩
      · have := x.above y ad (mem_of_lookup hadl)
        cases q : a.H.get? ad with
        | none => rfl
        | some o' => exact absurd (Heap.lt_size (hst ad o' q)) (Nat.lt_asymm this)
      · obtain ⟨v, e1, e2⟩ := zip_lookup names vs ds hvs hq
        refine ⟨v, ?_, e2.of (Keep.ofStays (fs := []) x.toInCall.keep).seqv⟩
        rw [bindC_eq (by show List.lookup y scp.names ≠ _; rw [hy]; decide), e1]; rfl
  refine wpC.mono (h c rfl rfl rfl s' (fun v s2 => ∃ e, v = .ref e ∧ Rp a c cls P .none ρ' s' e s2) S T fun e s2 r _ => ⟨e, rfl, r⟩) (fun _ _ x => x.elim) fun v s2 ⟨e, ev, r⟩ => ?_
  subst ev
  obtain ⟨fl, hfl, xc⟩ := r.xc
  have fin : ∀ (h2 : Heap), KeepF s'.heap c.fs s2.heap h2 → Xc s'.heap h2 e cls P .none (some .none) → ∃ e', (Except.error (Value.ref e) : Result) = .error (.ref e') ∧ Kp (frAddrs frs) s { s2 with heap := h2 } ∧ Xc s.heap h2 e' cls P .none (some .none) := fun h2 k2 x2 => by
    refine ⟨e, rfl, ⟨fun b o eb => ?_, r.kp.gens.trans (by rw [hs']), r.kp.os.trans (by rw [hs'])⟩, x2.less fun b z => ?_⟩
    · have ne : b ≠ s.heap.objs.size := Nat.ne_of_lt (Heap.lt_size eb)
      have nc : ∀ y, scp.names.lookup y = some .cell → (cellsFrom (s.heap.objs.size + 1) scp.names []).lookup y ≠ some b := fun y _ hm =>
        absurd (Heap.lt_size eb) (Nat.lt_asymm (x.above y b (mem_of_lookup hm)))
      have := (r.kp.keepF S k2).heap b o (x.toInCall.keep b o eb) ne nc
      refine ⟨fun nm => this.1 fun hm => ?_, fun m nf => this.2 (List.mem_cons_of_mem _ m) nf⟩
      rcases List.mem_cons.mp hm with q | q
      · exact ne q
      · exact nm q
    · cases q : s.heap.get? b with
      | none => rfl
      | some o => rw [x.toInCall.keep b o q] at z; cases z
  unfold leaving
  have hlast : ∀ (s3 : Shared), KeepF s'.heap c.fs s2.heap s3.heap → s3.gens = s2.gens → s3.os = s2.os → (∃ f, Xc s'.heap s3.heap e cls P .none (some f)) → wpAny a.M c.A (setFlight (.ref e) none) (fun _ s'' => ∃ e', (Except.error (Value.ref e) : Result) = .error (.ref e') ∧ Kp (frAddrs frs) s s'' ∧ Xc s.heap s''.heap e' cls P .none (some .none)) (fun e' s'' => ∃ e'', (Except.error e' : Result) = .error (.ref e'') ∧ Kp (frAddrs frs) s s'' ∧ Xc s.heap s''.heap e'' cls P .none (some .none)) s3 := fun s3 k3 g3 o3 ⟨f, x3⟩ => by
    refine flight_step (fs := c.fs) (f := none) x3 fun h2 k2 x2 => ?_
    obtain ⟨e', z1, z2, z3⟩ := fin h2 (k3.trans k2) x2
    exact ⟨e', z1, ⟨z2.heap, g3.trans z2.gens, o3.trans z2.os⟩, z3⟩
  rcases hfl with q | q | ⟨L, hL, q⟩
  · subst q
    exact wpAny_bind (note_step (base := a.H) (L := s.heap.objs.size) c.hfr r.st.fr.ff rfl (.inl rfl) xc fun h3 k3 x3 => hlast { s2 with heap := h3 } k3 rfl rfl ⟨_, x3⟩)
  · subst q
    exact wpAny_bind (note_step (base := a.H) (L := s.heap.objs.size) c.hfr r.st.fr.ff rfl (.inr rfl) xc fun h3 k3 x3 => hlast { s2 with heap := h3 } k3 rfl rfl ⟨_, x3⟩)
  · subst q
    refine wpAny_bind (note_again hL xc ?_)
    exact hlast s2 .refl rfl rfl ⟨_, xc⟩

/-- a for loop, by an invariant of states -/
theorem for_runC {target iter : Expr} {body : List Stmt} {pos : Pos} {ds : List PyData} {s : Shared} {E : Value → Shared → Prop} {Q : Flow → Shared → Prop} (J : Nat → Shared → Prop)
    (hi : EvI a c ρ iter ds) (S : St a c s.heap ρ) (T : 0 < s.toks) (hfs : ∀ x, foldedSetIterable iter c.env x = pure x)
    (start : ∀ s1, Kp c.fs s s1 → 0 < s1.toks → J 0 s1)
    (stab : ∀ i it s2 s3, s.heap.get? it = none → (∃ o vs, s2.heap.get? it = some o ∧ o.data = .fields vs) → J i s2 → (∀ b o, b ≠ it → s2.heap.get? b = some o → s3.heap.get? b = some o) → s3.gens = s2.gens → s3.os = s2.os → J i s3)
    (hld : ∀ i s3, J i s3 → ∀ e, c.hq = some e → HeldAt e s3.heap)
    (turn : ∀ s1 i d v it s3, Kp c.fs s s1 → s.heap.get? it = none → (∃ o vs, s3.heap.get? it = some o ∧ o.data = .fields vs) → ds[i]? = some d → J i s3 → 0 < s3.toks → Rd (vw c.X s1.heap) v d → GK (vw c.X s1.heap) s3.heap →
      wpAny a.M c.A (assign target c.env v) (fun _ s4 => wpC a.M c.A (execs body c.env) (fun fl s5 => match fl with
        | .next | .cont => J (i + 1) s5 ∧ 0 < s5.toks ∧ (∀ o, s3.heap.get? it = some o → s5.heap.get? it = some o) ∧ GK (vw c.X s1.heap) s5.heap
        | .brk => Q .next s5
        | .ret v => Q (.ret v) s5) (notedBy a.M c.A c.env (cameBackBy a.M c.A c.env E)) s4) (notedBy a.M c.A c.env (cameBackBy a.M c.A c.env E)) s3)
    (fin : ∀ s3, J ds.length s3 → Q .next s3) (ht : ∀ it v, letOwnedTupleGo target it v = pure ()) : wpC a.M c.A (exec (.For target iter body [] pos) c.env) Q E s := by
  refine wpC.For (hi.then S T fun x s1 q1 S1 T1 hit => hit _ _ fun it s2 IS T2 stay2 nit st2 I₀ g2 o2 => ?_) hfs
  have nit0 : s.heap.get? it = none := by
    cases q : s.heap.get? it with
    | none => rfl
    | some o =>
      exfalso
      by_cases m : it ∈ c.fs
      · obtain ⟨o', es, n, e', d⟩ := S.fr.dd _ m
        rw [q] at e'; cases e'
        obtain ⟨sl, z⟩ := (q1.heap _ o q).2 m fun vs z => by rw [d] at z; cases z
        rw [nit] at z; cases z
      · have := (q1.heap _ o q).1 m
        rw [nit] at this; cases this
  refine codeC.forLoop (fun n s' => ∃ i, i ≤ ds.length ∧ n = ds.length + 1 - i ∧ J i s' ∧ 0 < s'.toks ∧ IS i s'.heap ∧ GK (vw c.X s1.heap) s'.heap) ?_ (ds.length + 1)
    ⟨0, Nat.zero_le _, rfl, start s2 (q1.trans ⟨.ofStays stay2, g2, o2⟩) T2, T2, st2, fun b o vs n e d => stay2 b o (of_hideAll _ e)⟩ (fun v => ht (.ref it) v)
  rintro n s3 ⟨i, hi', rfl, hJ, T3, st3, gk3⟩
  by_cases hlt : i < ds.length
  · obtain ⟨d, hd⟩ : ∃ d, ds[i]? = some d := ⟨ds[i], by simp [hlt]⟩
    refine I₀.next' hd st3 gk3 T3 fun v s4 T4 rv st4 ext4 g4 o4 => ?_
    dsimp only
    obtain ⟨oi, vi, hoi, hdi⟩ := I₀.fld _ _ st3
    obtain ⟨oi', vi', hoi', hdi'⟩ := I₀.fld _ _ st4
    have hJ4 := stab i it s3 s4 nit0 ⟨_, _, hoi, hdi⟩ hJ ext4 g4 o4
    have gk4 : GK (vw c.X s1.heap) s4.heap := fun b o vs n e d => ext4 b o (fun z => by rw [z] at e; have := of_hideAll _ e; rw [nit] at this; cases this) (gk3 b o vs n e d)
    refine wpAny_mono (turn s1 i d v it s4 q1 nit0 ⟨_, _, hoi', hdi'⟩ hd hJ4 T4 rv gk4) (fun _ s5 h5 => wpC.mono h5 (fun fl s6 h6 => ?_) fun _ _ x => x) fun _ _ x => x
    cases fl with
    | next => exact ⟨ds.length + 1 - (i + 1), by omega, i + 1, hlt, rfl, h6.1, h6.2.1, I₀.loc _ _ _ st4 h6.2.2.1, h6.2.2.2⟩
    | cont => exact ⟨ds.length + 1 - (i + 1), by omega, i + 1, hlt, rfl, h6.1, h6.2.1, I₀.loc _ _ _ st4 h6.2.2.1, h6.2.2.2⟩
    | brk => exact h6
    | ret v => exact h6
  · have hie : i = ds.length := by omega
    subst hie
    obtain ⟨oi, vi, hoi, hdi⟩ := I₀.fld _ _ st3
    refine I₀.done' st3 gk3 (hld _ _ hJ) T3 fun s4 T4 ext4 g4 o4 => ?_
    have hJ4 := stab ds.length it s3 s4 nit0 ⟨_, _, hoi, hdi⟩ hJ ext4 g4 o4
    dsimp only
    exact wpAny_execs_nil (fin s4 hJ4)

/-- a for loop over data, each turn ending as told -/
theorem ExcC.forL {target iter : Expr} {body : List Stmt} {pos : Pos} {ds : List PyData} {r : Res} (ρs : Nat → Vars) (bs : PyData → Vars) (h0 : ρs 0 = ρ) (hi : EvI a c ρ iter ds) (hfs : ∀ x, foldedSetIterable iter c.env x = pure x)
    (hr : r = .next (ρs ds.length)) (has : ∀ (i : Nat) d, ds[i]? = some d → As a c target d (bs d)) (hb : ∀ (i : Nat) d, ds[i]? = some d → ExsC a c (bs d ++ ρs i) body (.next (ρs (i + 1))))
    (ht : ∀ it v, letOwnedTupleGo target it v = pure ()) : ExcC a c ρ (.For target iter body [] pos) r := fun s E S T => by
  subst hr
  refine for_runC (fun i s' => KpX c s s' ∧ St a c s'.heap (ρs i)) hi S T hfs (fun s1 q1 T1 => ⟨q1.x, by rw [h0]; exact S.keep q1.heap⟩) (fun i it s2 s3 nit ⟨o, vs, hoi, hdi⟩ ⟨k2, S2⟩ ext g3 o3 => ?_) (fun i s3 ⟨_, S3⟩ => S3.hld)
    (fun s1 i d v it s3 q1 nit ⟨oi, vi, hoi, hdi⟩ hd ⟨k3, S3⟩ T3 rv gk3 => ?_) (fun s3 ⟨k3, S3⟩ => ⟨k3, rfl, S3⟩) ht
  · obtain ⟨n1, n2, n3, n4⟩ := S.new_not nit
    exact ⟨k2.ext nit ext g3 o3, S2.ext2 ext n1 n2 n3 n4 (fun o' e => by rw [hoi] at e; cases e; exact ⟨(fun v z => by rw [hdi] at z; cases z), (fun ws n z => by rw [hdi] at z; cases z)⟩) (S.new_held nit)⟩
  · have rv3 : Rd (vw c.X s3.heap) v d := rv.of fun b o vs n e db => by
      have nb : b ∉ c.X := fun m => by rw [hideAll_none _ m] at e; cases e
      exact ⟨o.slots, hideAll_get _ (gk3 b o vs n e db) nb⟩
    refine wpAny_mono (wpAny_toks_of (n := 1) T3 (has i d hd (ρs i) s3 _ v S3 T3 rv3)) (fun _ s4 ⟨T4, q4, S4⟩ => ?_) fun _ _ x => x.2
    refine (hb i d hd).then S4 T4 fun fl s5 q5 ⟨e5, S5⟩ T5 => ?_
    subst e5
    have q35 := q4.trans q5
    refine ⟨⟨k3.trans q35, S5⟩, T5, fun o e => q35.exact S3 e (fun es n z => ?_) (fun v z => ?_), fun b o vs n e db => (q35.gk S3) b o vs n (gk3 b o vs n e db) db⟩
    · rw [hoi] at e; cases e; rw [hdi] at z; cases z
    · rw [hoi] at e; cases e; rw [hdi] at z; cases z

end
end Mine

end
section
open PySem PySem.Builtin PySem.Builtin.BaseException PySem.W PyProof.Rows PySem.Calls PySem.Spec
set_option Elab.async false
set_option linter.unusedVariables false
set_option maxRecDepth 100000
namespace Mine

/-! ## the words of a caught exception -/
/-- an exception of class cls with one text -/
def FaultAt (h : Heap) (e : Addr) (cls : Value) (msg : Str) : Prop := ∃ oe vs t tk, h.get? e = some oe ∧ oe.cls = cls ∧ oe.data = .fields vs ∧ vs[0]? = some (.ref t) ∧ h.TupAt t [.str msg tk]
section
variable {prog : Program} {w : World} {A : Around} {E : Value → Shared → Prop} {s : Shared} {e t0 C : Addr} {K : Frag}
theorem str_own {msg : Str} {Q : Value → Shared → Prop} (X : K.In s.heap) (hs : findIn K (.ref C) "__str__" = some (some (.builtin "BaseException.__str__"))) (hm : mroIn K C (.type "BaseException") = some true) (hu : A.units + 2 < cLine)
    (x : FaultAt s.heap e (.ref C) msg) (h : ∀ tk, Q (.str msg tk) s) : wpAny (model prog w) A (call (.type "str") [.ref e]) Q E s := by
  obtain ⟨oe, vs, t, tk, e1, e2, e3, e4, e5⟩ := x
  refine callType_new PySem.F.called_str (by decide) (PySem.F.typeCall_str_1 _) (PySem.F.newCall_str_1 _) (fun obj => PySem.F.args_object_init_2 obj _) PySem.F.entry_str_new
    (meets_str_new (S := fun A' R s' => A'.units + 1 < cLine ∧ K.In s'.heap ∧ s'.heap.get? e = some oe ∧ s'.heap.TupAt t [.str msg tk] ∧ R (.ok (.ret (.str msg tk))) s')
      fun prog w A' R s' hq => ?_) ⟨(show A.units + 1 + 1 < cLine from hu), X, e1, e5, typeIs_str _ _ _, h tk⟩
  obtain ⟨h1, X', g1, g2, hR⟩ := hq
  have LT : Looks (model prog w) s'.heap (typeOf (.ref e)) (.ref C) := e2 ▸ (Looks.ld g1).andThen .now
  unfold Builtin.Str.strOf
  refine wpAny_bind (m := cRoomFor _ _) (wpAny_cRoomFor h1 ?_)
  refine wpAny_bind (m := callSpecial? (.ref e) (Str.ofString "__str__") []) ?_
  refine wpAny_bind (wpAny_bind (LT.here ((looks_findIn X' hs).here (wpAny_holding (wpAny_bind ((Looks.of_pure (PySem.F.excStr_ValueError.str.bind _)).here (wpAny_bind ?_)))))))
  refine wpAny_call (codeAny_call_builtin PySem.F.excStr_ValueError.str.plain PySem.F.entry_bexc_str (check_slot (i := "BaseException.__str__") (owner := "BaseException") (n := "__str__") (by decide +kernel) (by decide +kernel) (LT.andThen (looks_mroIn X' hm)) (PySem.F.args_bexc_str _) ?_))
  unfold Builtin.«BaseException.__str__»
  refine wpAny_bind (m := slotArgs "__str__" 0 _) (wpAny_pure ?_)
  refine wpAny_bind (m := bexcArgs (.ref e)) ?_
  unfold bexcArgs
  obtain ⟨ot, k, hto, _, htd⟩ := id g2
  refine wpAny_bind (wpAny_field g1 e3 e4 (wpAny_bind (wpAny_seqItems hto htd (wpAny_pure ?_))))
  show wpAny _ _ (rule "BaseException.__str__.one-argument" >>= fun _ => bexcText "__str__" (.str msg tk) >>= fun x => ret x) _ _ _
  refine wpAny_bind (wpAny_rule (wpAny_bind ?_))
  refine wpAny_pure (wpAny_pure ?_)
  exact wpAny_pure (wpAny_pure hR)
end

theorem FaultAt.keep {h h' H : Heap} {l : List Env} {e : Addr} {cls : Value} {msg : Str} (x : FaultAt h e cls msg) (k : Keep (frAddrs l) h h') (f : FrOk H h l) : FaultAt h' e cls msg := by
  obtain ⟨oe, vs, t, tk, e1, e2, e3, e4, ⟨ot, n, g1, g2, g3⟩⟩ := x
  exact ⟨oe, vs, t, tk, k.exact f e1 (fun es n z => by rw [e3] at z; cases z), e2, e3, e4, ⟨ot, n, k.exact f g1 (fun es n z => by rw [g3] at z; cases z), g2, g3⟩⟩

/-! ## handlers -/
section
variable {a : Amb} {sc : Scope} {c : Cx sc} {ρ ρ₀ : Vars} {cls : Value} {P : List Value → Prop}
/-- the same frame, while e is handled -/
abbrev Cx.held (c : Cx sc) (e : Addr) : Cx sc := { c with A := c.A.mark (some (.ref e)), hq := some e, hfr := c.hfr, hh := rfl, hd := c.hd, hu := c.hu }
theorem St.held {h : Heap} {e : Addr} (S : St a c h ρ) (x : HeldAt e h) : St a (c.held e) h ρ := ⟨S.ok, S.new, S.loc, S.cel, fun e' q => by cases q; exact x⟩

/-- what the clauses of a try do with an exception -/
def Hn (a : Amb) (c : Cx sc) (ρ : Vars) (hs : List ExceptHandler) (cls : Value) (P : List Value → Prop) (d : PyData) : Prop :=
  ∀ (s0 s : Shared) (ρ₀ : Vars) (e : Addr) (E : Value → Shared → Prop), St a c s0.heap ρ₀ → KpX c s0 s → St a c s.heap ρ → 0 < s.toks → Xc s0.heap s.heap e cls P .none (some .none) →
    wpAny a.M c.A (handleBy (.ref e) c.env hs) (fun fl s' => KpX c s0 s' ∧ RPost a c (.ret d) fl s') E s

theorem to_handler {s0 s1 : Shared} {e : Addr} {E : Value → Shared → Prop} {Q : Shared → Prop} {ρ' : Vars} (he : c.env = c.fe) (S0 : St a c s0.heap ρ₀) (r : Rp a c cls P .none ρ' s0 e s1) (T : 0 < s1.toks)
    (k : ∀ s3, KpX c s0 s3 → St a c s3.heap ρ' → 0 < s3.toks → Xc s0.heap s3.heap e cls P .none (some .none) → Q s3) :
    wpAny a.M c.A (noteFrame (.ref e) c.env) (fun _ s2 => wpAny a.M c.A (setFlight (.ref e) none) (fun _ s3 => Q s3) E s2) E s1 := by
  obtain ⟨fl, hfl, xc⟩ := r.xc
  have step2 : ∀ (h2 : Heap) (f : Value), KeepF s0.heap c.fs s1.heap h2 → Xc s0.heap h2 e cls P .none (some f) → wpAny a.M c.A (setFlight (.ref e) none) (fun _ s3 => Q s3) E { s1 with heap := h2 } := fun h2 f k2 x2 => by
    refine flight_step (s := { s1 with heap := h2 }) (fs := c.fs) (f := none) x2 fun h3 k3 x3 => ?_
    exact k _ (r.kp.keepF S0 (k2.trans k3)) (S0.keepF r.st (k2.trans k3)) T x3
  have hfr : c.A.frames = some (c.env :: c.fo) := by rw [he]; exact c.hfr
  have hff : s1.heap.FunFrames a.H (c.env :: c.fo) := by rw [he]; exact r.st.fr.ff
  obtain ⟨L, hL⟩ : ∃ L, c.env.frame = some L := by
    obtain ⟨_, ⟨L, o, hf, _⟩, _⟩ := hff
    exact ⟨L, hf⟩
  rcases hfl with q | q | ⟨L', hL', q⟩
  · subst q
    exact note_step (base := a.H) hfr hff hL (.inl rfl) xc fun h2 k2 x2 => step2 h2 _ (by rw [he] at k2; exact k2) x2
  · subst q
    exact note_step (base := a.H) hfr hff hL (.inr rfl) xc fun h2 k2 x2 => step2 h2 _ (by rw [he] at k2; exact k2) x2
  · subst q
    exact note_again hL' xc (step2 s1.heap _ .refl xc)

/-- a try whose body raises and whose clauses return -/
theorem Exc.tryX {body : List Stmt} {h₀ : ExceptHandler} {hs : List ExceptHandler} {pos : Pos} {d : PyData} {ρ' : Vars} (he : c.env = c.fe) (h : Rz a c ρ body cls P ρ') (hn : Hn a c ρ' (h₀ :: hs) cls P d) : Exc a c ρ (.Try body (h₀ :: hs) [] [] pos) (.ret d) := fun s E S T => by
  rw [arm_exec_Try]
  refine wpAny_bind (wpAny_standAt (wpAny_tryStmt_except (wpAny_mono (h s (fun v s1 => ∃ e, v = .ref e ∧ Rp a c cls P .none ρ' s e s1 ∧ 0 < s1.toks) S T fun e s1 r T1 => ⟨e, rfl, r, T1⟩) (fun _ _ x => x.elim) fun v s1 ⟨e, ev, r, T1⟩ => ?_)))
  subst ev
  exact to_handler he S r T1 fun s3 q3 S3 T3 x3 => hn s s3 ρ e E S q3 S3 T3 x3
theorem ExcC.tryX {body : List Stmt} {h₀ : ExceptHandler} {hs : List ExceptHandler} {pos : Pos} {d : PyData} {ρ' : Vars} (he : c.env = c.fe) (h : RzC a c ρ body cls P ρ') (hn : Hn a c ρ' (h₀ :: hs) cls P d) : ExcC a c ρ (.Try body (h₀ :: hs) [] [] pos) (.ret d) := fun s E S T => by
  rw [arm_exec_Try]
  refine wpC.bind (wpC.stand (wpC.tryStmt_except (wpC.mono (h s (fun v s1 => ∃ e, v = .ref e ∧ Rp a c cls P .none ρ' s e s1 ∧ 0 < s1.toks) S T fun e s1 r T1 => ⟨e, rfl, r, T1⟩) (fun _ _ x => x.elim) fun v s1 ⟨e, ev, r, T1⟩ => ?_)))
  subst ev
  exact to_handler he S r T1 fun s3 q3 S3 T3 x3 => hn s s3 ρ e E S q3 S3 T3 x3

theorem Xc.ty {g h : Heap} {M : Model} {e : Addr} {ct : Value} {fl : Option Value} (x : Xc g h e cls P ct fl) : Looks M h (typeOf (.ref e)) cls := by
  obtain ⟨oe, vs, t, args, e1, e2, _⟩ := x.there
  exact e2 ▸ (Looks.ld e1).andThen .now

/-- a clause that does not match -/
theorem Hn.miss {t : Expr} {cv : Value} {name : Option Str} {body : List Stmt} {pos : Pos} {rest : List ExceptHandler} {d : PyData} (ht : ∀ c' : Cx sc, Is a c' ρ t cv) (hm : exmOne a.K cls cv = some false) (hr : Hn a c ρ rest cls P d) :
    Hn a c ρ (.ExceptHandler (some t) name body pos :: rest) cls P d := fun s0 s ρ₀ e E S0 q S T x => by
  refine wpAny_handleBy_cons (codeAny_handlers_test ?_) (by intro z; cases z)
  refine ht (c.held e) s _ _ (S.held x.held) ?_
  refine (exm_one S.kIn x.ty hm).here ?_
  exact hr s0 s ρ₀ e E S0 q S T x
/-- a clause without a name that matches -/
theorem Hn.hit {t : Expr} {cv : Value} {b₀ : Stmt} {suite : List Stmt} {pos : Pos} {rest : List ExceptHandler} {d : PyData} (ht : ∀ c' : Cx sc, Is a c' ρ t cv) (hm : exmOne a.K cls cv = some true)
    (hr : ∀ c' : Cx sc, c'.n = c.n → (∃ e, c'.hq = some e) → c'.env = c.env → Exs a c' ρ (b₀ :: suite) (.ret d)) : Hn a c ρ (.ExceptHandler (some t) none (b₀ :: suite) pos :: rest) cls P d := fun s0 s ρ₀ e E S0 q S T x => by
  refine wpAny_handleBy_cons (codeAny_handlers_test ?_) (by intro z; cases z)
  refine ht (c.held e) s _ _ (S.held x.held) ?_
  refine (exm_one S.kIn x.ty hm).here ?_
  refine codeAny_handlers_suite ?_
  refine flight_step (fs := c.fs) (f := none) x fun h3 k3 x3 => ?_
  have S3 : St a c h3 ρ := S0.keepF S k3
  have q3 : KpX c s0 { s with heap := h3 } := q.keepF S0 k3
  refine (hr (c.held e) rfl ⟨e, rfl⟩ rfl).then (c := c.held e) (s := { s with heap := h3 }) (S3.held x3.held) T fun fl s4 q4 ⟨v, ev, r4⟩ T4 => ?_
  subst ev
  have q4' : KpX c { s with heap := h3 } s4 := ⟨q4.heap, q4.gens, q4.os⟩
  exact ⟨q3.trans q4', v, rfl, r4⟩
end
end Mine

end
section
open PySem PySem.Builtin PySem.W PyProof.Rows PySem.Calls PySem.Spec
set_option Elab.async false
set_option linter.unusedVariables false
set_option maxRecDepth 100000
namespace Mine
section
variable {a : Amb} {sc : Scope} {c : Cx sc} {ρ ρ₀ : Vars} {cls : Value} {P : List Value → Prop}

/-- the name of a caught exception -/
def FaultIn (c : Cx sc) (x : Str) (e : Addr) (cls : Value) (msg : Str) (h : Heap) : Prop := (∃ ml, h.Ns c.env.locals ml ∧ ml x = some (.ref e)) ∧ FaultAt h e cls msg
theorem FaultIn.keep {x : Str} {e : Addr} {msg : Str} {h h' : Heap} (f : FaultIn c x e cls msg h) (k : Keep c.fs h h') (fr : FrOk a.H h c.frs) : FaultIn c x e cls msg h' :=
  let ⟨⟨ml, hn, hx⟩, fa⟩ := f; ⟨⟨ml, k.up.ns hn, hx⟩, fa.keep k fr⟩
theorem Xc.fault {g h : Heap} {e : Addr} {ct : Value} {fl : Option Value} {msg : Str} (x : Xc g h e cls (fun args => ∃ tk, args = [.str msg tk]) ct fl) : FaultAt h e cls msg := by
  obtain ⟨oe, vs, t, args, e1, e2, e3, e4, e5, ⟨tk, rfl⟩, _⟩ := x.there
  exact ⟨oe, vs, t, tk, e1, e2, e3, e4, e5⟩

/-- a clause with a name that matches and returns -/
theorem Hn.hitAs {t : Expr} {cv : Value} {n msg : Str} {b₀ : Stmt} {suite : List Stmt} {pos : Pos} {rest : List ExceptHandler} {d : PyData} (ht : ∀ c' : Cx sc, Is a c' ρ t cv) (hm : exmOne a.K cls cv = some true)
    (hl : sc.names.lookup n = some .local) (hr0 : ρ.lookup n = none)
    (hr : ∀ c' : Cx sc, c'.n = c.n → (∃ e, c'.hq = some e) → c'.env = c.env → ∀ (s : Shared) (e : Addr) (E : Value → Shared → Prop), St a c' s.heap ρ → 0 < s.toks → FaultIn c' n e cls msg s.heap →
      wpAny a.M c'.A (execs (b₀ :: suite) c'.env) (fun fl s' => KpX c' s s' ∧ RPost a c' (.ret d) fl s' ∧ ∃ ml, s'.heap.Ns c'.env.locals ml) E s) :
    Hn a c ρ (.ExceptHandler (some t) (some n) (b₀ :: suite) pos :: rest) cls (fun args => ∃ tk, args = [.str msg tk]) d := fun s0 s ρ₀ e E S0 q S T x => by
  refine wpAny_handleBy_cons (codeAny_handlers_test ?_) (by intro z; cases z)
  refine ht (c.held e) s _ _ (S.held x.held) ?_
  refine (exm_one S.kIn x.ty hm).here ?_
  refine codeAny_handlers_suite_as ?_
  refine flight_step (fs := c.fs) (f := none) x fun h3 k3 x3 => ?_
  have S3 : St a c h3 ρ := S0.keepF S k3
  have q3 : KpX c s0 { s with heap := h3 } := q.keepF S0 k3
  refine wpAny_with_toks (n := 1) T (store_any (c := c.held e) (s := { s with heap := h3 }) hl hr0 (S3.held x3.held) fun s4 ml q4 S4 hn4 hx4 T4 => ?_)
  have q4' : KpL c { s with heap := h3 } s4 := ⟨q4.heap, q4.gens, q4.os⟩
  obtain ⟨oL, es, ep, hL, hLd, _⟩ := (show ∃ o es ep, h3.get? c.env.locals = some o ∧ o.data = .dict es ep ∧ True from by
    obtain ⟨ml3, ⟨o, es, ep, h1, h2, _⟩, _⟩ := S3.loc
    exact ⟨o, es, ep, h1, h2, trivial⟩)
  have f4 : FaultIn (c.held e) n e cls msg s4.heap := by
    refine ⟨⟨ml, hn4, hx4⟩, ?_⟩
    obtain ⟨oe, vs, t, tk, e1, e2, e3, e4, ⟨ot, m, g1, g2, g3⟩⟩ := x3.fault
    exact ⟨oe, vs, t, tk, KpL.exact q4' S3.fr e1 (fun z => by rw [z, hL] at e1; cases e1; rw [hLd] at e3; cases e3) (fun es n z => by rw [e3] at z; cases z), e2, e3, e4,
      ⟨ot, m, KpL.exact q4' S3.fr g1 (fun z => by rw [z, hL] at g1; cases g1; rw [hLd] at g3; cases g3) (fun es n z => by rw [g3] at z; cases z), g2, g3⟩⟩
  refine wpAny_mono (hr (c.held e) rfl ⟨e, rfl⟩ rfl s4 e (fun _ _ => False) S4 T4 f4) (fun fl s5 ⟨q5, ⟨v, ev, r5⟩, ml5, hn5⟩ => ?_) fun _ _ z => z.elim
  subst ev
  have q5' : KpX c s4 s5 := ⟨q5.heap, q5.gens, q5.os⟩
  refine wpAny_nameGoes (by rw [c.kindOf]; exact hl) hn5 (by rw [c.kind]; rfl) fun h6 m6 hn6 hs6 => ?_
  obtain ⟨o5, es5, ep5, hL5, hLd5, _⟩ := hn5
  refine ⟨(q3.trans (q4'.x.trans q5')).trans ⟨fun b o eb nb nc => ?_, rfl, rfl⟩, v, rfl, r5.of (seq_sameBut hs6 hL5 fun vs n z => by rw [hLd5] at z; cases z)⟩
  exact ⟨fun _ => (hs6.2 b nb).trans eb, fun _ _ => ⟨o.slots, (hs6.2 b nb).trans eb⟩⟩

/-- str(fault), an own exception -/
theorem str_fault {x : Str} {p1 p2 pos : Pos} {e C : Addr} {msg : Str} {s : Shared} {E : Value → Shared → Prop} {Q : Value → Shared → Prop} (hstr : nsIn a.K mainGlobals "str" = some none) (S : St a c s.heap ρ) (f : FaultIn c x e (.ref C) msg s.heap)
    (hs : findIn a.K (.ref C) "__str__" = some (some (.builtin "BaseException.__str__"))) (hm : mroIn a.K C (.type "BaseException") = some true)
    (hx : sc.names.lookup x = some .local) (hx' : sc.names.lookup ("str" : Str) = some .globalImplicit) (hd : (x == ("__debug__" : Str)) = false) (hst : starEach [.Name x p2] c.env = plainArgs [.Name x p2] c.env)
    (h : ∀ tk, Q (.str msg tk) s) : wpAny a.M c.A (eval (.Call (.Name "str" p1) [.Name x p2] [] pos) c.env) Q E s := by
  refine call_name (Is.globB (ρ := ρ) hstr PyProof.Rows.Boot.«str» (by decide) hx' (by decide)) hst S (PyProof.Rows.callWith_type (any_plain _ _) (evalArgs_any (spliced_cons ?_)))
  obtain ⟨⟨ml, hn, hml⟩, fa⟩ := f
  refine wpAny_Name (wpAny_loadName_local c.kind (by rw [c.kindOf]; exact hx) hn hml (spliced_nil ?_)) hd
  exact str_own S.kIn hs hm (by have := c.units_lt; omega) fa h
/-- str(fault), a built-in exception -/
theorem str_faultB {x : Str} {p1 p2 pos : Pos} {e : Addr} {X n : String} {msg : Str} {s : Shared} {E : Value → Shared → Prop} {Q : Value → Shared → Prop} (hstr : nsIn a.K mainGlobals "str" = some none) (S : St a c s.heap ρ) (f : FaultIn c x e (.type X) msg s.heap)
    (FX : ExcStrFacts X n) (hx : sc.names.lookup x = some .local) (hx' : sc.names.lookup ("str" : Str) = some .globalImplicit) (hd : (x == ("__debug__" : Str)) = false) (hst : starEach [.Name x p2] c.env = plainArgs [.Name x p2] c.env)
    (h : ∀ tk, Q (.str msg tk) s) : wpAny a.M c.A (eval (.Call (.Name "str" p1) [.Name x p2] [] pos) c.env) Q E s := by
  refine call_name (Is.globB (ρ := ρ) hstr PyProof.Rows.Boot.«str» (by decide) hx' (by decide)) hst S (PyProof.Rows.callWith_type (any_plain _ _) (evalArgs_any (spliced_cons ?_)))
  obtain ⟨⟨ml, hn, hml⟩, fa⟩ := f
  refine wpAny_Name (wpAny_loadName_local c.kind (by rw [c.kindOf]; exact hx) hn hml (spliced_nil ?_)) hd
  obtain ⟨oe, vs, t, tk, e1, e2, e3, e4, e5⟩ := fa
  exact PySem.P.str_of_exc_one FX (by have := c.units_lt; omega) ⟨oe, vs, e1, e2, e3, e4⟩ e5 (h tk)

/-- raise Own(text) -/
theorem Rzc.own {x : Str} {np cpos pos : Pos} {e₀ : Expr} {C : Addr} {msg : Str} {B newId initId : String} {bm : List Value} (hg : nsIn a.K mainGlobals x = some (some (.ref C))) (hq : excIn a.K C bm newId = true) (FB : ExcBaseFacts B newId initId bm) (h0 : c.hq = none)
    (h : Ev a c ρ e₀ (.str msg)) (hx : sc.names.lookup x = some .globalImplicit) (hd : (x == ("__debug__" : Str)) = false) (hst : starEach [e₀] c.env = plainArgs [e₀] c.env) :
    Rzc a c ρ (.Raise (some (.Call (.Name x np) [e₀] [] cpos)) none pos) (.ref C) (fun args => ∃ tk, args = [.str msg tk]) ρ := fun s E S T hE => by
  obtain ⟨tl, N, nm, q, bs, hdct, sn, sub, ab, col, dd, k0, k1, k2, k3, k5, mN, hC, hN, hni, Tt⟩ := (own_of_in a.hK a.hT hg hq).obj
  refine wpAny_Raise_call_subT (C := C) (nm := nm) (q := q) (N := N) (bs := bs) (bm := tl) (hdct := hdct) (sn := sn) (sub := sub) (ab := ab) (col := col) (dd := dd) (k0 := k0) (k1 := k1) (k2 := k2) (k3 := k3) (k5 := k5)
    FB (mN := mN) (Tt.hasType FB.hasBase) (c.h0 h0) (by rw [hst, backTo_plain]; exact any_plain _ _) hni (Is.globK (ρ := ρ) hg hx hd s _ _ S ⟨rfl, ?_⟩)
  rw [hst, backTo_plain]
  refine (EvL.one h).args S T fun vs s1 q1 r1 S1 T1 => ?_
  obtain ⟨v, ws, rfl, r2, r3⟩ := r1.cons_inv
  cases r3.nil_inv
  obtain ⟨t, rfl⟩ := r2.str_inv
  refine ⟨rfl, Nat.le_of_ble_eq_true rfl, S1.base _ _ hC, hN.keeps S1.base, Tt.keeps S1.base, fun h' e hx => hE e _ ?_ T1⟩
  have kk : Kp c.fs s1 { s1 with heap := h' } := ⟨.ofStays hx.keeps, rfl, rfl⟩
  exact ⟨(q1.trans kk).x, S1.keep kk.heap, none, .inl rfl, (Xc.made hx ⟨t, rfl⟩).less (Kp.there (fs := []) q1 S.fr)⟩
end
end Mine

end
section
open PySem PySem.Builtin PySem.W PyProof.Rows PySem.Calls PySem.Spec
set_option Elab.async false
set_option linter.unusedVariables false
set_option maxRecDepth 100000
namespace Mine

theorem IsFn.fnX {a : Amb} {cls : Value} {P : List Value → Prop} {x : Str} {f : Addr} {st : Stmt} {n : Nat} {ds : List PyData} {ρ' : Vars} (hI : IsFn a x f st) (names : List Str)
    (hb : ∀ (doc pm : Value) (an : Option Addr) (cd ct : Value) (vs : List Value), vs.length = ds.length → bindArgs (fnOf (fdName st) (fdName st) (fdPs st) (fdBody st) (fdScope st) .none .none doc pm an cd ct) ⟨vs, []⟩ = pure (names.zip vs))
    (hkinds : (names.all fun x => (fdScope st).names.lookup x == some .local || (fdScope st).names.lookup x == some .cell) = true)
    (hco : (fdScope st).isCoroutine = false) (hgen : (fdScope st).isGenerator = false) (hk : (fdScope st).kind = .function)
    (h : ∀ c : Cx (fdScope st), c.n = n → c.hq = none → c.env = c.fe → Rz a c (names.zip ds).reverse (fdBody st) cls P ρ') : FnX a (n + 1) (.ref f) ds cls P := by
  obtain ⟨o, pm, cd, doc, an, ct, e2, e3, e4⟩ := hI.obj
  exact FnX.body names e2 e3 e4 (hb doc pm an cd ct) hkinds hco hgen hk h
theorem IsFn.fnXC {a : Amb} {cls : Value} {P : List Value → Prop} {x : Str} {f : Addr} {st : Stmt} {n : Nat} {ds : List PyData} {ρ' : Vars} (hI : IsFn a x f st) (names : List Str)
    (hb : ∀ (doc pm : Value) (an : Option Addr) (cd ct : Value) (vs : List Value), vs.length = ds.length → bindArgs (fnOf (fdName st) (fdName st) (fdPs st) (fdBody st) (fdScope st) .none .none doc pm an cd ct) ⟨vs, []⟩ = pure (names.zip vs))
    (hkinds : (names.all fun x => (fdScope st).names.lookup x == some .local || (fdScope st).names.lookup x == some .cell) = true)
    (hco : (fdScope st).isCoroutine = false) (hgen : (fdScope st).isGenerator = false) (hk : (fdScope st).kind = .function)
    (h : ∀ c : Cx (fdScope st), c.n = n → c.hq = none → c.env = c.fe → RzC a c (names.zip ds).reverse (fdBody st) cls P ρ') : FnXC a (n + 1) (.ref f) ds cls P := by
  obtain ⟨o, pm, cd, doc, an, ct, e2, e3, e4⟩ := hI.obj
  exact FnXC.body names e2 e3 e4 (hb doc pm an cd ct) hkinds hco hgen hk h
theorem IsFn.fnC {a : Amb} {x : Str} {f : Addr} {st : Stmt} {n : Nat} {ds : List PyData} {d : PyData} (hI : IsFn a x f st) (names : List Str)
    (hb : ∀ (doc pm : Value) (an : Option Addr) (cd ct : Value) (vs : List Value), vs.length = ds.length → bindArgs (fnOf (fdName st) (fdName st) (fdPs st) (fdBody st) (fdScope st) .none .none doc pm an cd ct) ⟨vs, []⟩ = pure (names.zip vs))
    (hkinds : (names.all fun x => (fdScope st).names.lookup x == some .local || (fdScope st).names.lookup x == some .cell) = true)
    (hco : (fdScope st).isCoroutine = false) (hgen : (fdScope st).isGenerator = false) (hk : (fdScope st).kind = .function)
    (h : ∀ c : Cx (fdScope st), c.n = n → c.hq = none → c.env = c.fe → ExsC a c (names.zip ds).reverse (fdBody st) (.ret d)) : FnC a (n + 1) (.ref f) ds d := by
  obtain ⟨o, pm, cd, doc, an, ct, e2, e3, e4⟩ := hI.obj
  exact FnC.body names e2 e3 e4 (hb doc pm an cd ct) hkinds hco hgen hk h

section
variable {a : Amb} {sc : Scope} {c : Cx sc} {ρ : Vars}
theorem Bi.int {x : Str} {n : Int} (hn : PySem.intText? x = some n) (hl : x.length ≤ 640) : Bi a c (.type "int") [.str x] (.int n) := fun s E vs b t r => by
  obtain ⟨v, ws, rfl, r1, r2⟩ := r.cons_inv
  rw [r2.nil_inv]
  obtain ⟨t', rfl⟩ := r1.str_inv
  exact KIN.call_text hn hl ⟨(Kp.refl s).tok _, .int _ _⟩
end

/-- what parse229 meets in a reply -/
structure Reply (x : Str) (inside : Str) (c1 c2 : Nat) : Prop where
  len : x.length ≤ 100000
  code : Txt.slice x none (some 3) = "229"
  left : Txt.find x "(" = 16
  right : Txt.find3 x ")" 17 = 17 + (inside.length : Int)
  one : x.cps.toList[17]? = some c1
  two : x.cps.toList[16 + inside.length]? = some c2
  mid : Txt.slice x (some 17) (some (17 + (inside.length : Int))) = inside

section
variable {a : Amb} {f C : Addr} {x inside : Str} {c1 c2 : Nat}

def pSt (i : Nat) : Stmt := ((fdBody (sAt 5))[i]?).getD (.Pass ⟨0, 0, 0, 0⟩)
def pV0 (x : Str) (peer : PyData) : Vars := [("peer", peer), ("resp", .str x)]
def pV1 (x : Str) (peer : PyData) : Vars := ("left", .int 16) :: pV0 x peer
def pV2 (x inside : Str) (peer : PyData) : Vars := ("right", .int (17 + (inside.length : Int))) :: pV1 x peer
def pV3 (x inside : Str) (c1 : Nat) (peer : PyData) : Vars := ("parts", .list ((Txt.split inside ⟨#[c1]⟩).map .str)) :: pV2 x inside peer
variable {c : Cx (fdScope (sAt 5))} {peer : PyData}
theorem parse_s0 (R : Reply x inside c1 c2) : Exc a c (pV0 x peer) (pSt 0) (.next (pV0 x peer)) := by
  have sz := sizeLine_eq
  have hl := R.len
  exact Exc.ifF ((Ts.cmp (Ev.sliceS (lo := none) (hi := some 3) (Ev.loc (x := "resp") (d := .str x) (by rfl) (by rfl) (by decide)) .none (.some Ev.int) (by omega)) Ev.str Op2.neStr).to (by rw [R.code]; rfl)) Exs.nil
theorem parse_s1 (R : Reply x inside c1 c2) : Exc a c (pV0 x peer) (pSt 1) (.next (pV1 x peer)) := by
  unfold pV1
  rw [← R.left]
  exact Exc.assignL (Ev.meth (Ev.loc (x := "resp") (d := .str x) (by rfl) (by rfl) (by decide)) PySem.F.slot_str_find PySem.F.type_str_find (EvL.one Ev.str) Bi.find (by rfl) (by rfl) (by decide) (by rfl)) (by rfl) (by rfl)
theorem parse_s2 : Exc a c (pV1 x peer) (pSt 2) (.next (pV1 x peer)) :=
  Exc.ifF ((Ts.cmp (Ev.loc (x := "left") (d := .int 16) (by rfl) (by rfl) (by decide)) Ev.int Op2.ltInt).to (by decide)) Exs.nil
theorem parse_s3 (R : Reply x inside c1 c2) : Exc a c (pV1 x peer) (pSt 3) (.next (pV2 x inside peer)) := by
  unfold pV2
  rw [← R.right]
  exact Exc.assignL (Ev.meth (Ev.loc (x := "resp") (d := .str x) (by rfl) (by rfl) (by decide)) PySem.F.slot_str_find PySem.F.type_str_find (EvL.two Ev.str (Ev.bin (Ev.loc (x := "left") (d := .int 16) (by rfl) (by rfl) (by decide)) Ev.int Op2.addInt)) (Bi.find3 (i := 16 + 1)) (by rfl) (by rfl) (by decide) (by rfl)) (by rfl) (by rfl)
theorem parse_s4 : Exc a c (pV2 x inside peer) (pSt 4) (.next (pV2 x inside peer)) :=
  Exc.ifF ((Ts.cmp (Ev.loc (x := "right") (d := .int (17 + (inside.length : Int))) (by rfl) (by rfl) (by decide)) Ev.int Op2.ltInt).to (by rw [decide_eq_false_iff_not]; omega)) Exs.nil
theorem Reply.ins (R : Reply x inside c1 c2) : inside.length ≤ 100000 := by
  have h1 := R.len
  have h2 : (Txt.slice x (some 17) (some (17 + (inside.length : Int)))).length ≤ x.length := Txt.slice_le _ _ _
  rw [R.mid] at h2
  omega
theorem str1_ne {c1 c2 : Nat} : ((⟨#[c1]⟩ : Str) != ⟨#[c2]⟩) = (c1 != c2) := by
  rw [Bool.eq_iff_iff]
  simp
def ifTest : Stmt → Expr
  | .If t _ _ _ => t
  | _ => .Constant .none 0 ⟨0, 0, 0, 0⟩
theorem parse_t5 (R : Reply x inside c1 c2) : Ts a c (pV2 x inside peer) (ifTest (pSt 5)) (c1 != c2) := by
  have hi := R.ins
  exact (Ts.cmp (Ev.itemS (k := 17) (Ev.loc (x := "resp") (d := .str x) (by rfl) (by rfl) (by decide)) (Ev.bin (Ev.loc (x := "left") (d := .int 16) (by rfl) (by rfl) (by decide)) Ev.int Op2.addInt) (by decide) (by decide) R.one (fun o j => by rfl))
    (Ev.itemS (k := 17 + (inside.length : Int) - 1) (Ev.loc (x := "resp") (d := .str x) (by rfl) (by rfl) (by decide)) (Ev.bin (Ev.loc (x := "right") (d := .int (17 + (inside.length : Int))) (by rfl) (by rfl) (by decide)) Ev.int Op2.subInt) (by omega) (by omega) (by rw [show (17 + (inside.length : Int) - 1).toNat = 16 + inside.length from by omega]; exact R.two) (fun o j => by rfl)) Op2.neStr).to str1_ne
theorem parse_s6 (R : Reply x inside c1 c2) : Exc a c (pV2 x inside peer) (pSt 6) (.next (pV3 x inside c1 peer)) := by
  have sz := sizeLine_eq
  have hl := R.len
  have hi := R.ins
  have e : (Builtin.Str.partsBetween inside (Builtin.Str.occurrences inside ⟨#[c1]⟩ 0 inside.length (inside.length + 1)) (⟨#[c1]⟩ : Str).length).length ≤ sizeLine := by
    have h1 := StrLaws.occ_length_le_len inside ⟨#[c1]⟩ 0 inside.length (inside.length + 1)
    unfold Builtin.Str.partsBetween
    simp only [List.length_map, List.length_zip, List.length_cons, List.length_append, List.length_singleton]
    omega
  exact Exc.assignL (Ev.meth (Ev.to (Ev.sliceS (lo := some 17) (hi := some (17 + (inside.length : Int))) (Ev.loc (x := "resp") (d := .str x) (by rfl) (by rfl) (by decide)) (.some (Ev.bin (Ev.loc (x := "left") (d := .int 16) (by rfl) (by rfl) (by decide)) Ev.int Op2.addInt)) (.some (Ev.loc (x := "right") (by rfl) (by rfl) (by decide))) (by omega)) (by rw [R.mid]))
    PySem.F.slot_str_split PySem.F.type_str_split (EvL.one (Ev.itemS (k := 17) (Ev.loc (x := "resp") (d := .str x) (by rfl) (by rfl) (by decide)) (Ev.bin (Ev.loc (x := "left") (d := .int 16) (by rfl) (by rfl) (by decide)) Ev.int Op2.addInt) (by decide) (by decide) R.one (fun o j => by rfl))) (Bi.split (by rfl) (by omega) e) (by rfl) (by rfl) (by decide) (by rfl)) (by rfl) (by rfl)
theorem split_len (x : Str) (c1 : Nat) : (Txt.split x ⟨#[c1]⟩).length ≤ x.length + 2 := by
  unfold Txt.split
  split
  · simp
  · split
    · simp
    · have h1 := StrLaws.occ_length_le_len x ⟨#[c1]⟩ 0 x.length (x.length + 1)
      unfold Builtin.Str.partsBetween
      simp only [List.length_map, List.length_zip, List.length_cons, List.length_append, List.length_singleton]
      omega
theorem parse_t7 (hlen : nsIn a.K mainGlobals "len" = some none) (R : Reply x inside c1 c2) : Ts a c (pV3 x inside c1 peer) (ifTest (pSt 7)) (((Txt.split inside ⟨#[c1]⟩).length : Int) != 5) := by
  have hi := R.ins
  have h1 := split_len inside c1
  exact (Ts.cmp (Ev.bi (Is.globB hlen PyProof.Rows.Boot.«len» (by decide) (by rfl) (by decide)) (Bi.lenL (by rw [List.length_map]; omega)) (EvL.one (Ev.loc (x := "parts") (d := .list ((Txt.split inside ⟨#[c1]⟩).map .str)) (by rfl) (by rfl) (by decide))) (by rfl)) Ev.int Op2.neInt).to (by rw [List.length_map])

variable (hI : IsFn a "parse229" f (sAt 5)) (hg : nsIn a.K mainGlobals "error_proto" = some (some (.ref C))) (hq : excIn a.K C [.type "Exception", .type "BaseException", .type "object"] "Exception.__new__" = true)
  (hlen : nsIn a.K mainGlobals "len" = some none) (hint : nsIn a.K mainGlobals "int" = some none)
include hI hg hq in
theorem parse_refused1 (R : Reply x inside c1 c2) (hc : c1 ≠ c2) {m : Nat} : FnX a (m + 1) (.ref f) [.str x, peer] (.ref C) (fun args => ∃ tk, args = [.str x tk]) := by
  refine hI.fnX (ρ' := pV2 x inside peer) ["resp", "peer"] (fun doc pm an cd ct => two_args fun v u => by rfl) (by rfl) (by rfl) (by rfl) (by rfl) fun c hc0 h0 _ => ?_
  refine Rz.cons (parse_s0 R) (Rz.cons (parse_s1 R) (Rz.cons parse_s2 (Rz.cons (parse_s3 R) (Rz.cons parse_s4 (Rz.here (Rzc.ifT ((parse_t5 R).to (by simpa using hc)) (Rz.here (Rzc.own hg hq PySem.F.excBase_Exception h0 (Ev.loc (x := "resp") (d := .str x) (by rfl) (by rfl) (by decide)) (by rfl) (by decide) (by rfl)))))))))
include hI hg hq hlen in
theorem parse_refused2 (R : Reply x inside c1 c1) (hn : (Txt.split inside ⟨#[c1]⟩).length ≠ 5) {m : Nat} : FnX a (m + 1) (.ref f) [.str x, peer] (.ref C) (fun args => ∃ tk, args = [.str x tk]) := by
  refine hI.fnX (ρ' := pV3 x inside c1 peer) ["resp", "peer"] (fun doc pm an cd ct => two_args fun v u => by rfl) (by rfl) (by rfl) (by rfl) (by rfl) fun c hc0 h0 _ => ?_
  refine Rz.cons (parse_s0 R) (Rz.cons (parse_s1 R) (Rz.cons parse_s2 (Rz.cons (parse_s3 R) (Rz.cons parse_s4 (Rz.cons (Exc.ifF ((parse_t5 R).to (by simp)) Exs.nil) (Rz.cons (parse_s6 R) (Rz.here (Rzc.ifT ((parse_t7 hlen R).to ?_)
    (Rz.here (Rzc.own hg hq PySem.F.excBase_Exception h0 (Ev.loc (x := "resp") (d := .str x) (by rfl) (by rfl) (by decide)) (by rfl) (by decide) (by rfl)))))))))))
  rw [bne_iff_ne]; omega
theorem get3 {xs : List Str} {p : Str} (h : xs[3]? = some p) : (xs.map PyData.str)[(3 : Int).toNat]? = some (.str p) := by
  rw [List.getElem?_map, show (3 : Int).toNat = 3 from rfl, h]; rfl
include hI hlen hint in
theorem parse_ok (R : Reply x inside c1 c1) (hn : (Txt.split inside ⟨#[c1]⟩).length = 5) {p hs tl : Str} {n : Int} (hp : (Txt.split inside ⟨#[c1]⟩)[3]? = some p) (hi : PySem.intText? p = some n) (hl : p.length ≤ 640) {m : Nat} :
    Fn a (m + 1) (.ref f) [.str x, .tuple [.str hs, .str tl]] (.tuple [.str hs, .int n]) := by
  refine hI.fn ["resp", "peer"] (fun doc pm an cd ct => two_args fun v u => by rfl) (by rfl) (by rfl) (by rfl) (by rfl) fun c hc0 h0 => ?_
  refine Exs.cons (parse_s0 (peer := .tuple [.str hs, .str tl]) R) (Exs.cons (parse_s1 R) (Exs.cons parse_s2 (Exs.cons (parse_s3 R) (Exs.cons parse_s4 (Exs.cons (Exc.ifF ((parse_t5 R).to (by simp)) Exs.nil) (Exs.cons (parse_s6 R) (Exs.cons (Exc.ifF ((parse_t7 hlen R).to (by rw [hn]; rfl)) Exs.nil) ?_)))))))
  refine Exs.cons (Exc.assignL (Ev.itemT (Ev.loc (x := "peer") (d := .tuple [.str hs, .str tl]) (by rfl) (by rfl) (by decide)) (Ev.int (i := 0)) (by decide) (by decide) (d := .str hs) (by rfl) (fun o j => by rfl)) (by rfl) (by rfl)) ?_
  refine Exs.cons (Exc.assignL (Ev.ty (Is.globB hint PyProof.Rows.Boot.«int» (by decide) (by rfl) (by decide)) (Bi.int hi hl) (EvL.one (Ev.itemL (Ev.loc (x := "parts") (d := .list ((Txt.split inside ⟨#[c1]⟩).map .str)) (by rfl) (by rfl) (by decide)) (Ev.int (i := 3)) (by decide) (by decide) (get3 hp) (fun o j => by rfl))) (by rfl)) (by rfl) (by rfl)) ?_
  exact Exs.ret (Exc.return (Ev.tuple (EvL.two (Ev.loc (x := "host") (d := .str hs) (by rfl) (by rfl) (by decide)) (Ev.loc (x := "port") (d := .int n) (by rfl) (by rfl) (by decide))) (by rfl) (Nat.le_of_ble_eq_true rfl)))
include hI hlen hint in
theorem parse_bad (R : Reply x inside c1 c1) (hn : (Txt.split inside ⟨#[c1]⟩).length = 5) {p hs tl : Str} (hp : (Txt.split inside ⟨#[c1]⟩)[3]? = some p) (hi : PySem.intText? p = none) (hl : p.length ≤ 640) (hr : (reprText p).length ≤ 100000) {m : Nat} :
    FnXC a (m + 1) (.ref f) [.str x, .tuple [.str hs, .str tl]] (.type "ValueError") (fun _ => True) := by
  refine hI.fnXC (ρ' := (("host" : Str), .str hs) :: pV3 x inside c1 (.tuple [.str hs, .str tl])) ["resp", "peer"] (fun doc pm an cd ct => two_args fun v u => by rfl) (by rfl) (by rfl) (by rfl) (by rfl) fun c hc0 h0 _ => ?_
  refine RzC.cons (parse_s0 (peer := .tuple [.str hs, .str tl]) R) (RzC.cons (parse_s1 R) (RzC.cons parse_s2 (RzC.cons (parse_s3 R) (RzC.cons parse_s4 (RzC.cons (Exc.ifF ((parse_t5 R).to (by simp)) Exs.nil) (RzC.cons (parse_s6 R) (RzC.cons (Exc.ifF ((parse_t7 hlen R).to (by rw [hn]; rfl)) Exs.nil) ?_)))))))
  refine RzC.cons (Exc.assignL (Ev.itemT (Ev.loc (x := "peer") (d := .tuple [.str hs, .str tl]) (by rfl) (by rfl) (by decide)) (Ev.int (i := 0)) (by decide) (by decide) (d := .str hs) (by rfl) (fun o j => by rfl)) (by rfl) (by rfl)) ?_
  exact RzC.here (RzcC.assign (RzeC.int hint (Ev.itemL (Ev.loc (x := "parts") (d := .list ((Txt.split inside ⟨#[c1]⟩).map .str)) (by rfl) (by rfl) (by decide)) (Ev.int (i := 3)) (by decide) (by decide) (get3 hp) (fun o j => by rfl)) h0 hi hl hr (by rfl) (by rfl)) (by rfl))
end
end Mine

end
section
open PySem PySem.Builtin PySem.W PyProof.Rows PySem.Calls PySem.Spec
set_option Elab.async false
set_option linter.unusedVariables false
set_option maxRecDepth 100000
namespace Mine
theorem tuple_plain {M : Model} {A : Around} {E : Value → Shared → Prop} {s : Shared} {es : List Expr} {env : Env} {k : Nat} {pos : Pos} {Q : Value → Shared → Prop} (hst : starEach es env = plainArgs es env)
    (h : wpAny M A (spliced (plainArgs es env)) (fun vs s' => wpAny M A (newTuple vs) Q E s') E s) : wpAny M A (eval (.Tuple es k pos) env) Q E s := Tuple_ (by rw [hst, backTo_plain]; exact h)
theorem list_plain {M : Model} {A : Around} {E : Value → Shared → Prop} {s : Shared} {es : List Expr} {env : Env} {pos : Pos} {Q : Value → Shared → Prop} (hst : starEach es env = plainArgs es env)
    (h : wpAny M A (spliced (plainArgs es env)) (fun vs s' => wpAny M A (newList vs) Q E s') E s) : wpAny M A (eval (.List es pos) env) Q E s := List_ (by rw [hst, backTo_plain]; exact h)
section
variable {a : Amb} {f fp C : Addr} {x : Str} {peer : PyData}
variable (hI : IsFn a "_law_read" f (sAt 26)) (hP : IsFn a "parse229" fp (sAt 5)) (hg : nsIn a.K mainGlobals "error_proto" = some (some (.ref C))) (hstr : nsIn a.K mainGlobals "str" = some none) (hve : nsIn a.K mainGlobals "ValueError" = some none)
  (hm1 : exmOne a.K (.ref C) (.ref C) = some true) (hm2 : exmOne a.K (.type "ValueError") (.ref C) = some false) (hm3 : exmOne a.K (.type "ValueError") (.type "ValueError") = some true)
  (hs1 : findIn a.K (.ref C) "__str__" = some (some (.builtin "BaseException.__str__"))) (hs2 : mroIn a.K C (.type "BaseException") = some true)

include hI hP hg hstr hm1 hs1 hs2 in
theorem read_refused {m : Nat} (hF : FnX a (m + 1) (.ref fp) [.str x, peer] (.ref C) (fun args => ∃ tk, args = [.str x tk])) : FnC a (m + 2) (.ref f) [.str x, peer] (.tuple [.str x, .str "refused", .str x]) := by
  refine hI.fnC ["reply", "peer"] (fun doc pm an cd ct => two_args fun v u => by rfl) (by rfl) (by rfl) (by rfl) (by rfl) fun c hc h0 he => ?_
  refine ExsC.of (Exs.ret (Exc.tryX he (Rz.here (Rzc.assign (Rze.fn hP hF h0 (EvL.two (Ev.loc (x := "reply") (d := .str x) (by rfl) (by rfl) (by decide)) (Ev.loc (x := "peer") (d := peer) (by rfl) (by rfl) (by decide))) (by omega) (by rfl) (by decide) (by rfl)) (by rfl)))
    (Hn.hitAs (fun c' => Is.globK hg (by rfl) (by decide)) hm1 (by rfl) (by rfl) fun c' hn' hq' henv s e E S T F => ?_)))
  refine wpAny_execs_cons (wpAny_Return_some (tuple_plain (by rfl) ?_))
  refine spliced_cons (Ev.then (d := .str x) (ρ := [(("peer" : Str), peer), ("reply", .str x)]) (Ev.loc (by rfl) (by rfl) (by decide)) S T fun v1 s1 q1 r1 S1 T1 => ?_)
  refine spliced_cons (Ev.then (d := .str "refused") Ev.str S1 T1 fun v2 s2 q2 r2 S2 T2 => ?_)
  refine spliced_cons (str_fault hstr S2 ((F.keep q1.heap S.fr).keep q2.heap S1.fr) hs1 hs2 (by rfl) (by rfl) (by decide) (by rfl) fun tk => spliced_nil ?_)
  have r : RdL (vw c'.X s2.heap) [v1, v2, .str x tk] [.str x, .str "refused", .str x] := .cons (r1.of q2.heap.seqv) (.cons r2 (.cons (.str _ _) .nil))
  refine wpAny_mono (newTuple_d (fs := c'.fs) S2.ok r (Nat.le_of_ble_eq_true rfl)) (fun v s3 ⟨q3, r3⟩ => ?_) fun _ _ z => z
  have S3 := S2.keep q3.heap
  obtain ⟨ml, hn, _⟩ := S3.loc
  exact ⟨((q1.trans q2).trans q3).x, ⟨v, rfl, r3⟩, ml, hn⟩

include hI hP hg hve hm2 hm3 in
theorem read_bad {m : Nat} (hF : FnXC a (m + 1) (.ref fp) [.str x, peer] (.type "ValueError") (fun _ => True)) : FnC a (m + 2) (.ref f) [.str x, peer] (.tuple [.str x, .str "no number"]) := by
  refine hI.fnC ["reply", "peer"] (fun doc pm an cd ct => two_args fun v u => by rfl) (by rfl) (by rfl) (by rfl) (by rfl) fun c hc h0 he => ?_
  refine ExsC.ret (ExcC.tryX he (RzC.here (RzcC.assign (RzeC.fn hP hF h0 (EvL.two (Ev.loc (x := "reply") (d := .str x) (by rfl) (by rfl) (by decide)) (Ev.loc (x := "peer") (d := peer) (by rfl) (by rfl) (by decide))) (by omega) (by rfl) (by decide) (by rfl)) (by rfl)))
    (Hn.miss (fun c' => Is.globK hg (by rfl) (by decide)) hm2 (Hn.hit (fun c' => Is.globB hve PyProof.Rows.Boot.«ValueError» (by decide) (by rfl) (by decide)) hm3 fun c' hn' hq' henv => ?_)))
  exact Exs.ret (Exc.return (Ev.tuple (EvL.two (Ev.loc (x := "reply") (d := .str x) (by rfl) (by rfl) (by decide)) Ev.str) (by rfl) (Nat.le_of_ble_eq_true rfl)))

include hI hP hstr in
theorem read_ok {m : Nat} {hs : Str} {n : Int} (hF : Fn a (m + 1) (.ref fp) [.str x, peer] (.tuple [.str hs, .int n])) (hn : n.natAbs.log2 < 1920) : FnC a (m + 2) (.ref f) [.str x, peer] (.tuple [.str x, .tuple [.str hs, .int n], .str (toString n)]) := by
  refine hI.fnC ["reply", "peer"] (fun doc pm an cd ct => two_args fun v u => by rfl) (by rfl) (by rfl) (by rfl) (by rfl) fun c hc h0 he => ?_
  refine ExsC.of (Exs.cons (Exc.tryN (Exs.cons (Exc.assignL (Ev.fn hP hF h0 (EvL.two (Ev.loc (x := "reply") (d := .str x) (by rfl) (by rfl) (by decide)) (Ev.loc (x := "peer") (d := peer) (by rfl) (by rfl) (by decide))) (by omega) (by rfl) (by decide) (by rfl)) (by rfl) (by rfl)) Exs.nil)) ?_)
  exact Exs.ret (Exc.return (Ev.tuple (EvL.cons (Ev.loc (x := "reply") (d := .str x) (by rfl) (by rfl) (by decide)) (EvL.two (Ev.loc (x := "told") (d := .tuple [.str hs, .int n]) (by rfl) (by rfl) (by decide))
    (Ev.ty (Is.globB hstr PyProof.Rows.Boot.«str» (by decide) (by rfl) (by decide)) (Bi.strI hn) (EvL.one (Ev.itemT (Ev.loc (x := "told") (d := .tuple [.str hs, .int n]) (by rfl) (by rfl) (by decide)) (Ev.int (i := 1)) (by decide) (by decide) (d := .int n) (by rfl) (fun o j => by rfl))) (by rfl)))) (by rfl) (Nat.le_of_ble_eq_true rfl)))
end
end Mine

end
section
open PySem PySem.Builtin PySem.W PyProof.Rows PySem.Calls PySem.Spec
set_option Elab.async false
set_option linter.unusedVariables false
set_option maxRecDepth 100000
namespace Mine
namespace Mp
theorem mro_map : mroOf (.type "map") = pure [.type "map", .type "object"] := by rw [mroOf_type]; kernel_rfl
theorem lookup_map_new : typeLookup (.type "map") "__new__" = pure (some (.builtin "map.__new__")) := by rw [typeLookup_type, builtinLookup_eq_fast]; kernel_rfl
theorem sub_map : isSubtype (.type "map") (.type "map") = pure true := by rw [isSubtype_type]; kernel_rfl
theorem slot_map_init : Slot "map" "__init__" "object.__init__" := .of (owner := "object") (n := "__init__") (by rw [typeLookup_type, builtinLookup_eq_fast]; kernel_rfl) (by decide +kernel) (by decide +kernel) (by decide +kernel)
    (by first | exact .inl (by decide +kernel) | exact .inr (by decide +kernel)) (by rw [isSubtype_type]; kernel_rfl)
theorem slot_map_next : Slot "map" "__next__" "map.__next__" := .of (owner := "map") (n := "__next__") (by rw [typeLookup_type, builtinLookup_eq_fast]; kernel_rfl) (by decide +kernel) (by decide +kernel) (by decide +kernel)
    (by first | exact .inl (by decide +kernel) | exact .inr (by decide +kernel)) (by rw [isSubtype_type]; kernel_rfl)
theorem slot_map_iter : Slot "map" "__iter__" "map.__iter__" := .of (owner := "map") (n := "__iter__") (by rw [typeLookup_type, builtinLookup_eq_fast]; kernel_rfl) (by decide +kernel) (by decide +kernel) (by decide +kernel)
    (by first | exact .inl (by decide +kernel) | exact .inr (by decide +kernel)) (by rw [isSubtype_type]; kernel_rfl)
theorem called_map : TypeCalled "map" "map.__new__" "object.__init__" :=
  ⟨by decide +kernel, by decide +kernel, ⟨_, _, mro_map⟩, madeBy_type mro_map lookup_map_new (by decide +kernel), by decide +kernel, sub_map, slot_map_init⟩
theorem typeCall_map_2 (a b : Value) : checkTypeCall "map" ⟨[a, b], []⟩ = pure () := by kernel_rfl
theorem newCall_map_2 (a b : Value) : checkBuiltinCall "map.__new__" ⟨[.type "map", a, b], []⟩ = pure () := by kernel_rfl
theorem entry_map_new : entryFor table "map.__new__" = some Builtin.«map.__new__» := entryFor_of_tree (by kernel_rfl)
theorem entry_map_next : entryFor table "map.__next__" = some Builtin.«map.__next__» := entryFor_of_tree (by kernel_rfl)
theorem args_map_next (a : Value) : argsOk "map.__next__" ⟨[a], []⟩ := by unfold argsOk; kernel_rfl
theorem args_map_iter (a : Value) : argsOk "map.__iter__" ⟨[a], []⟩ := by unfold argsOk; kernel_rfl
theorem map_no_len : typeLookup (.type "map") "__len__" = pure none := by rw [typeLookup_type, builtinLookup_eq_fast]; kernel_rfl
theorem map_no_hint : typeLookup (.type "map") "__length_hint__" = pure none := by rw [typeLookup_type, builtinLookup_eq_fast]; kernel_rfl
theorem entry_map_iter : entryFor table "map.__iter__" = some Builtin.«dict_keyiterator.__iter__» :=
  entryFor_alias (id' := "dict_keyiterator.__iter__") (by kernel_rfl) (by first | rfl | decide +kernel | (unfold String.splitOn; simp +decide [String.splitOnAux])) (by decide +kernel) (by kernel_rfl)
theorem isType_map : isType (.type "map") = pure true := by kernel_rfl
end Mp

/-- a map over a list, i items drawn -/
structure MapAt (h : Heap) (I tup it l ff : Addr) (i : Nat) : Prop where
  obj : ∃ o, h.get? I = some o ∧ o.cls = .type "map" ∧ o.data = .fields #[.ref tup, .ref ff]
  tp : ∃ o n, h.get? tup = some o ∧ o.data = .seq #[.ref it] n
  iter : h.IsListIter it l i
theorem MapAt.ty {s : Shared} {I tup it l ff : Addr} {i : Nat} (m : MapAt s.heap I tup it l ff i) : s.TypeIs (.ref I) "map" := let ⟨o, h1, h2, _⟩ := m.obj; ⟨o, h1, h2⟩
theorem MapAt.keep {H h h' : Heap} {fr : List Env} {I tup it l ff : Addr} {i : Nat} (m : MapAt h I tup it l ff i) (k : Keep (frAddrs fr) h h') (f : FrOk H h fr) : MapAt h' I tup it l ff i := by
  obtain ⟨⟨o, h1, h2, h3⟩, ⟨o2, n, g1, g2⟩, ⟨o3, k1, k2, k3⟩⟩ := m
  exact ⟨⟨o, k.exact f h1 (fun es n z => by rw [h3] at z; cases z), h2, h3⟩, ⟨o2, n, k.exact f g1 (fun es n z => by rw [g2] at z; cases z), g2⟩, ⟨o3, k.exact f k1 (fun es n z => by rw [k3] at z; cases z), k2, k3⟩⟩
section
variable {a : Amb} {frs : List Env} {X : List Addr} {A : Around} {I tup it l ff : Addr} {E : Value → Shared → Prop} {s : Shared} {vs : Array Value}
theorem map_next {i : Nat} {v : Value} {x : Str} {Q : Option Value → Shared → Prop} (hfs : ∀ {m : Nat} {x : Str}, Fn a (m + 1) (.ref ff) [.str x] (.str x)) (hfr : A.frames = some frs) (hh : A.handled = none) (hd : A.depth + 1 ≤ 800) (hu : A.units + 110 ≤ 9000)
    (ok : Ok a frs X s.heap) (T : 0 < s.toks) (hitX : it ∉ X) (hitH : a.H.get? it = none) (m : MapAt s.heap I tup it l ff i) (hl : s.heap.IsList l vs) (hx : vs[i]? = some v) (r : Rd (vw X s.heap) v (.str x))
    (hQ : ∀ v' s', (∃ s0, Heap.SameBut it s.heap s0.heap ∧ s0.gens = s.gens ∧ s0.os = s.os ∧ Kp (frAddrs frs) s0 s' ∧ Ok a frs X s0.heap) → 0 < s'.toks → MapAt s'.heap I tup it l ff (i + 1) → Rd (vw X s'.heap) v' (.str x) → Q (some v') s') : wpAny a.M A (pyNext (.ref I)) Q E s := by
  obtain ⟨⟨o, h1, h2, h3⟩, ⟨o2, n, g1, g2⟩, hit⟩ := id m
  unfold pyNext
  refine wpAny_bind (wpAny_attempt (wpAny_callSpecial?_slot (name := Str.ofString "__next__") m.ty Mp.slot_map_next (wpAny_call_entry Mp.slot_map_next m.ty Mp.entry_map_next ?_ (Mp.args_map_next _))))
  unfold Builtin.«map.__next__»
  refine wpAny_bind (m := slotArgs "__next__" 0 _) (wpAny_pure ?_)
  refine wpAny_bind (wpAny_field h1 h3 rfl ?_)
  refine wpAny_bind (wpAny_seqItems g1 g2 ?_)
  simp only [List.forIn_toArray, List.forIn_cons, List.forIn_nil]
  refine wpAny_bind (wpAny_bind (wpAny_bind (wpAny_holding ?_)))
  refine wpAny_nextOf_list_item hit hl hx fun h' hit' hs' => ?_
  obtain ⟨oi, hoi, hci, hdi⟩ := id hit
  have nI : I ≠ it := fun z => by rw [z, hoi] at h1; cases h1; rw [hci] at h2; exact absurd h2 (by decide)
  have nT : tup ≠ it := fun z => by rw [z, hoi] at g1; cases g1; rw [hdi] at g2; cases g2
  have keepB : ∀ b o, b ≠ it → s.heap.get? b = some o → h'.get? b = some o := fun b o nb e => (hs'.2 b nb).trans e
  have ok0 : Ok a frs X h' := by
    refine ⟨fun b o e => keepB b o (fun z => by rw [z, hitH] at e; cases e) (ok.base b o e), ⟨?_, fun b hb => ?_⟩, fun x hx => ?_⟩
    · have := ok.fr.ff
      refine frames_of (fun b ob e nf => ⟨ob, keepB b ob (fun z => by rw [z, hoi] at e; cases e; exact nf _ hdi) e, nf⟩) this
    · obtain ⟨ob, es, nn, e, d⟩ := ok.fr.dd b hb
      exact ⟨ob, es, nn, keepB b ob (fun z => by rw [z, hoi] at e; cases e; rw [hdi] at d; cases d) e, d⟩
    · obtain ⟨ob, e⟩ := ok.xs x hx
      exact ⟨ob, keepB x ob (fun z => hitX (by rw [← z]; exact hx)) e⟩
  have r0 : Rd (vw X h') v (.str x) := by obtain ⟨t, rfl⟩ := r.str_inv; exact .str _ _
  have m0 : MapAt h' I tup it l ff (i + 1) := ⟨⟨o, keepB I o nI h1, h2, h3⟩, ⟨o2, n, keepB tup o2 nT g1, g2⟩, hit'⟩
  refine wpAny_pure (wpAny_pure ?_)
  refine wpAny_bind (wpAny_field (keepB I o nI h1) h3 rfl ?_)
  refine wpAny_bind (wpAny_holding (wpAny_mono (wpAny_toks_of (n := 1) (s := { s with heap := h' }) T (wpAny_call (Q := fun v' s' => Kp (frAddrs frs) { s with heap := h' } s' ∧ Rd (vw X s'.heap) v' (.str x)) (E := fun _ _ => False) (codeAny_mono (hfs (m := 0) A.in1 frs X none { s with heap := h' } [v] rfl hfr hh (fun e z => by cases z) (by simpa using hd) (by simp; omega) ok0 (.cons r0 .nil) T) fun r s2 z => by obtain ⟨u, rfl, q2, r2⟩ := z; exact ⟨q2, r2⟩))) (fun v' s' z => ?_) fun _ _ z => z.2.elim))
  obtain ⟨T', q', r'⟩ := z
  refine wpAny_bind (m := letGo [v] [v']) ?_
  show wpAny _ _ (holding ([] ++ [v']) point >>= fun _ => pure ()) _ _ _
  refine wpAny_bind (wpAny_holding (wpAny_point (wpAny_pure (wpAny_pure ⟨v', rfl, wpAny_pure ?_⟩))))
  exact hQ v' s' ⟨{ s with heap := h' }, hs', rfl, rfl, q', ok0⟩ T' (m0.keep q'.heap ok0.fr) r'
/-- .. at its end -/
theorem map_end {i : Nat} {Q : Option Value → Shared → Prop} (hh : A.handled = none) (m : MapAt s.heap I tup it l ff i) (hl : s.heap.IsList l vs) (hx : vs[i]? = none)
    (hQ : ∀ h', Heap.ExtBut it s.heap h' → Q none { s with heap := h' }) : wpAny a.M A (pyNext (.ref I)) Q E s := by
  obtain ⟨⟨o, h1, h2, h3⟩, ⟨o2, n, g1, g2⟩, hit⟩ := id m
  unfold pyNext
  refine wpAny_bind (wpAny_attempt (wpAny_callSpecial?_slot (name := Str.ofString "__next__") m.ty Mp.slot_map_next (wpAny_call_entry Mp.slot_map_next m.ty Mp.entry_map_next ?_ (Mp.args_map_next _))))
  unfold Builtin.«map.__next__»
  refine wpAny_bind (m := slotArgs "__next__" 0 _) (wpAny_pure ?_)
  refine wpAny_bind (wpAny_field h1 h3 rfl ?_)
  refine wpAny_bind (wpAny_seqItems g1 g2 ?_)
  simp only [List.forIn_toArray, List.forIn_cons, List.forIn_nil]
  refine wpAny_bind (wpAny_bind (wpAny_bind (wpAny_holding ?_)))
  refine wpAny_nextOf_list_end (A := A.in1) hh hit hl hx fun h' e hs' ⟨oe, he, hce⟩ => ?_
  refine wpAny_bind (wpAny_isInstance (T := "StopIteration") (b := true) ⟨oe, he, hce⟩ isSubtype_stop ?_)
  exact wpAny_pure (hQ h' hs')

theorem Keep.but {fs : List Addr} {g h h' : Heap} {b₀ : Addr} (k : Keep fs g h) (n : g.get? b₀ = none) (hs : ∀ b o, b ≠ b₀ → h.get? b = some o → h'.get? b = some o) : Keep fs g h' := k.ext hs n
theorem str_items {h : Heap} {vs : List Value} {xs : List Str} (r : RdL h vs (xs.map .str)) {i : Nat} {x : Str} (hx : xs[i]? = some x) : ∃ t, vs[i]? = some (.str x t) := by
  obtain ⟨v, e, rv⟩ := r.get (i := i) (d := .str x) (by rw [List.getElem?_map, hx]; rfl)
  obtain ⟨t, rfl⟩ := rv.str_inv
  exact ⟨t, e⟩
/-- the texts so far -/
def Texts (acc : Array Value) (xs : List Str) : Prop := ∃ l, acc.toList = strValues l ∧ l.map (·.1) = xs
theorem Texts.push {acc : Array Value} {xs : List Str} {x : Str} {t : Tok} (h : Texts acc xs) : Texts (acc.push (.str x t)) (xs ++ [x]) := by
  obtain ⟨l, e1, e2⟩ := h
  refine ⟨l ++ [(x, t)], ?_, by rw [List.map_append, e2]; rfl⟩
  rw [Array.toList_push, e1]
  simp [strValues]
theorem Texts.size {acc : Array Value} {xs : List Str} (h : Texts acc xs) : acc.size = xs.length := by
  obtain ⟨l, e1, e2⟩ := h
  rw [← Array.length_toList, e1, ← e2]
  simp [strValues]
theorem extend_map {g : Heap} {S : Addr} {res : Value} {xs : List Str} {s₀ : Shared} {R : Result → Shared → Prop} (hfs : ∀ {m : Nat} {x : Str}, Fn a (m + 1) (.ref ff) [.str x] (.str x)) (hfr : A.frames = some frs) (hh : A.handled = none) (hd : A.depth + 1 ≤ 800) (hu : A.units + 120 ≤ 9000)
    (ok : Ok a frs X g) (hl : g.IsList l vs) (hr : RdL g vs.toList (xs.map .str)) (hsz : xs.length ≤ sizeLine) (nI : g.get? I = none) (nit : g.get? it = none) (nS : g.get? S = none) (nT : g.get? tup = none) (SI : S ≠ I) (Sit : S ≠ it) (ST : S ≠ tup) :
    ∀ (k i : Nat) (s : Shared) (acc : Array Value) (c : Nat), xs.length - i = k → i ≤ xs.length → Keep (frAddrs frs) g s.heap → 0 < s.toks → MapAt s.heap I tup it l ff i → s.heap.get? S = some { cls := .type "list", dict := none, data := .seq acc c, slots := #[] } → Texts acc (xs.take i) →
      s.gens = s₀.gens → s.os = s₀.os →
      (∀ s' acc' c', Keep (frAddrs frs) g s'.heap → 0 < s'.toks → s'.gens = s₀.gens → s'.os = s₀.os → s'.heap.get? S = some { cls := .type "list", dict := none, data := .seq acc' c', slots := #[] } → Texts acc' xs → R (.ok (.ret res)) s') →
      codeAny a.M A (.builtin "list.extend.loop" ⟨[.ref S, .ref I, res], []⟩) R s := by
  have hitH : a.H.get? it = none := by
    cases q : a.H.get? it with
    | none => rfl
    | some o => rw [ok.base it o q] at nit; cases nit
  have hitX : it ∉ X := fun m => by obtain ⟨o, e⟩ := ok.xs it m; rw [nit] at e; cases e
  have hlk : ∀ h, Keep (frAddrs frs) g h → h.IsList l vs := fun h k => by
    obtain ⟨o, ho, hc, n, hdd⟩ := hl
    exact ⟨o, k.exact ok.fr ho (fun es n z => by rw [hdd] at z; cases z), hc, n, hdd⟩
  intro k
  induction k with
  | zero =>
    intro i s acc c hk hi kp T m hS ht hg ho hR
    have hin : i = xs.length := by omega
    subst hin
    refine codeAny_builtin PySem.F.entry_extend_loop ?_
    rw [Around.under_plainId PySem.F.plain_extend_loop _]
    show wpAny _ A.in1 (pyNext (.ref I) >>= _) _ _ s
    refine wpAny_bind (map_end (a := a) (A := A.in1) hh m (hlk _ kp) ?_ fun h' he => ?_)
    · have := hr.length
      simp at this
      simp [this]
    · refine wpAny_pure (hR { s with heap := h' } acc c (kp.but nit he) T hg ho (he S _ Sit hS) ?_)
      rwa [List.take_length] at ht
  | succ k ih =>
    intro i s acc c hk hi kp T m hS ht hg ho hR
    have hlt : i < xs.length := by omega
    obtain ⟨t, hv⟩ := str_items hr (i := i) (x := xs[i]) (by simp [hlt])
    refine codeAny_builtin PySem.F.entry_extend_loop ?_
    rw [Around.under_plainId PySem.F.plain_extend_loop _]
    show wpAny _ A.in1 (pyNext (.ref I) >>= _) _ _ s
    have ok1 : Ok a frs X s.heap := ok.keep kp
    refine wpAny_bind (map_next (a := a) (A := A.in1) (frs := frs) (X := X) (x := xs[i]) hfs hfr hh (by simpa using hd) (by simp; omega) ok1 T hitX hitH m (hlk _ kp) (by simpa using hv) (.str _ _) fun v' s' ⟨s0, hs0, g0, o0, q', okk⟩ T' m' r' => ?_)
    obtain ⟨t', rfl⟩ := r'.str_inv
    have kp0 : Keep (frAddrs frs) g s0.heap := kp.but nit fun b o nb e => (hs0.2 b nb).trans e
    have kp' : Keep (frAddrs frs) g s'.heap := kp0.trans q'.heap
    have hS0 : s0.heap.get? S = some { cls := .type "list", dict := none, data := .seq acc c, slots := #[] } := (hs0.2 S Sit).trans hS
    have hS' := q'.heap.exact okk.fr hS0 (fun es n z => by cases z)
    show wpAny _ A.in1 (updateSeq S (·.push (.str xs[i] t')) >>= _) _ _ _
    refine wpAny_bind ?_
    refine wpAny_updateSeq hS' rfl (wpAny_pure ⟨plainId_quiet PySem.F.plain_extend_loop _, ih (i + 1) _ (acc.push (.str xs[i] t')) _ (by omega) hlt (kp'.but nS fun b o nb e => (Heap.get?_update_other _ _ (Ne.symm nb)).trans e) T' ?_ (Heap.get?_update_self _ hS' rfl) ?_ (q'.gens.trans (g0.trans hg)) (q'.os.trans (o0.trans ho)) hR⟩) ?_ ?_
    · obtain ⟨⟨o, h1, h2, h3⟩, ⟨o2, n, g1, g2⟩, ⟨o3, k1, k2, k3⟩⟩ := m'
      exact ⟨⟨o, (Heap.get?_update_other _ _ SI).trans h1, h2, h3⟩, ⟨o2, n, (Heap.get?_update_other _ _ ST).trans g1, g2⟩, ⟨o3, (Heap.get?_update_other _ _ Sit).trans k1, k2, k3⟩⟩
    · have := ht.push (x := xs[i]) (t := t')
      rwa [← List.take_succ_eq_append_getElem hlt] at this
    · rw [ht.size, List.length_take]; omega
    · show (acc.push _).size ≤ sizeLine + 1
      rw [Array.size_push, ht.size, List.length_take]; omega
end
end Mine

end
section
open PySem PySem.Builtin PySem.W PyProof.Rows PySem.Calls PySem.Spec
open AutoSeq1 (wpAny_loadPart')
set_option Elab.async false
set_option linter.unusedVariables false
set_option maxRecDepth 100000
namespace Mine
section
variable {prog : Program} {w : World} {A : Around} {E : Value → Shared → Prop} {s : Shared} {l ff : Addr} {vs : Array Value}
def iterObj (l : Addr) : Obj := { cls := .type "list_iterator", data := .fields #[.ref l, .int 0 0] }
def tupObj (it : Addr) : Obj := { cls := .type "tuple", data := .seq #[.ref it] }
def mapObj (tup ff : Addr) : Obj := { cls := .type "map", data := .fields #[.ref tup, .ref ff] }
def mapHeap (h : Heap) (l ff : Addr) : Heap := ((h.push (iterObj l)).push (tupObj h.objs.size)).push (mapObj (h.objs.size + 1) ff)
theorem args_init_3 (o a b : Value) : argsOk "object.__init__" ⟨[o, a, b], []⟩ := by unfold argsOk; kernel_rfl
theorem call_map {Q : Value → Shared → Prop} (hl : s.heap.IsList l vs) (h : Q (.ref (s.heap.objs.size + 2)) { s with heap := mapHeap s.heap l ff }) : wpAny (model prog w) A (call (.type "map") [.ref ff, .ref l]) Q E s := by
  refine callType_new Mp.called_map (by decide) (Mp.typeCall_map_2 _ _) (Mp.newCall_map_2 _ _) (fun obj => args_init_3 obj _ _) Mp.entry_map_new
    (S := fun A R s => s.heap.IsList l vs ∧ R (.ok (.ret (.ref (s.heap.objs.size + 2)))) { s with heap := mapHeap s.heap l ff }) (fun prog w A R s hs => ?_) ⟨hl, ⟨⟨_, by show (mapHeap s.heap l ff).get? _ = _; unfold mapHeap; rw [show s.heap.objs.size + 2 = ((s.heap.push (iterObj l)).push (tupObj s.heap.objs.size)).objs.size from by rw [Heap.size_push, Heap.size_push]]; exact Heap.get?_push_size _ rfl, rfl⟩, h⟩⟩
  obtain ⟨hl, hR⟩ := hs
  unfold Builtin.«map.__new__»
  refine wpAny_bind (m := SmallTypes.newClass "map" _) ?_
  unfold SmallTypes.newClass
  dsimp only
  refine wpAny_bind (wpAny_of_eq Mp.isType_map ?_)
  simp only [Bool.not_true, Bool.false_eq_true, if_false]
  refine wpAny_bind (wpAny_of_eq Mp.sub_map ?_)
  simp only [Bool.not_true, Bool.false_eq_true, if_false]
  refine wpAny_pure ?_
  dsimp only
  refine wpAny_bind (m := SmallTypes.refuseKeywords "map" _ _) (wpAny_pure ?_)
  show wpAny _ _ (SmallTypes.iterAll [.ref l] >>= _) _ _ _
  refine wpAny_bind ?_
  unfold SmallTypes.iterAll
  simp only [List.forIn_cons, List.forIn_nil]
  refine wpAny_bind (wpAny_bind (wpAny_bind (wpAny_holding (wpAny_pyIter_list hl ?_))))
  refine wpAny_pure (wpAny_pure (wpAny_pure ?_))
  refine wpAny_bind (wpAny_newObj_type ?_ (Nat.le_of_ble_eq_true rfl))
  refine wpAny_bind (m := SmallTypes.newRecord (.type "map") _) ?_
  unfold SmallTypes.newRecord
  dsimp only
  refine wpAny_newObj_type (wpAny_pure ?_)
  have e : ((s.heap.push (iterObj l)).push (tupObj s.heap.objs.size)).objs.size = s.heap.objs.size + 2 := by rw [Heap.size_push, Heap.size_push]
  have e1 : (s.heap.push (iterObj l)).objs.size = s.heap.objs.size + 1 := Heap.size_push ..
  have := hR
  unfold mapHeap at this
  rw [← e, ← e1] at this
  exact this
end

section
variable {a : Amb} {frs : List Env} {X : List Addr} {A : Around} {l ff : Addr} {E : Value → Shared → Prop} {s : Shared} {vs : Array Value} {xs : List Str}
theorem get_push_lt {h : Heap} {o o' : Obj} {b : Addr} (e : h.get? b = some o) : (h.push o').get? b = some o := Heap.get?_push_of_some _ e
theorem mapHeap_at (h : Heap) (l ff : Addr) : MapAt (mapHeap h l ff) (h.objs.size + 2) (h.objs.size + 1) h.objs.size l ff 0 := by
  have e1 : (h.push (iterObj l)).objs.size = h.objs.size + 1 := Heap.size_push ..
  have e2 : ((h.push (iterObj l)).push (tupObj h.objs.size)).objs.size = h.objs.size + 2 := by rw [Heap.size_push, Heap.size_push]
  refine ⟨⟨mapObj (h.objs.size + 1) ff, ?_, rfl, rfl⟩, ⟨tupObj h.objs.size, _, ?_, rfl⟩, ⟨iterObj l, ?_, rfl, rfl⟩⟩
  · unfold mapHeap; rw [← e2]; exact Heap.get?_push_size _ rfl
  · unfold mapHeap; rw [← e1]; exact get_push_lt (Heap.get?_push_size _ rfl)
  · unfold mapHeap; exact get_push_lt (get_push_lt (Heap.get?_push_size _ rfl))
theorem mapHeap_stays (h : Heap) (l ff : Addr) : h.StaysIn (mapHeap h l ff) := fun b o e => get_push_lt (get_push_lt (get_push_lt e))
theorem mapHeap_size (h : Heap) (l ff : Addr) : (mapHeap h l ff).objs.size = h.objs.size + 3 := by unfold mapHeap; rw [Heap.size_push, Heap.size_push, Heap.size_push]
theorem none_ge {h : Heap} {b : Addr} (hb : h.objs.size ≤ b) : h.get? b = none := by
  cases q : h.get? b with
  | none => rfl
  | some o => exact absurd (Heap.lt_size q) (Nat.not_lt.mpr hb)
theorem collect_map {Q : List Value → Shared → Prop} (hfs : ∀ {m : Nat} {x : Str}, Fn a (m + 1) (.ref ff) [.str x] (.str x)) (hfr : A.frames = some frs) (hh : A.handled = none) (hd : A.depth + 1 ≤ 800) (hu : A.units + 130 ≤ 9000)
    (ok : Ok a frs X s.heap) (T : 0 < s.toks) (hl : s.heap.IsList l vs) (hr : RdL s.heap vs.toList (xs.map .str)) (hsz : xs.length ≤ sizeLine)
    (hQ : ∀ s' acc, Kp (frAddrs frs) s s' → 0 < s'.toks → Texts acc xs → Q acc.toList s') : wpAny a.M A (collect (.ref (s.heap.objs.size + 2))) Q E { s with heap := mapHeap s.heap l ff } := by
  have m0 := mapHeap_at s.heap l ff
  have hsize := mapHeap_size s.heap l ff
  unfold collect
  refine wpAny_bind (wpAny_runValue (codeAny_builtin PySem.F.entry_proto_collect ?_))
  rw [Around.under_plainId PySem.F.plain_proto_collect _]
  show wpAny _ A.in1 (newList [] >>= fun l => again (.builtin "list.__iadd__" ⟨[l, .ref (s.heap.objs.size + 2)], []⟩)) _ _ _
  refine wpAny_bind (wpAny_newObj_type ?_)
  refine wpAny_pure ⟨plainId_quiet PySem.F.plain_list_iadd _, codeAny_builtin PySem.F.entry_list_iadd ?_⟩
  rw [Around.under_plainId PySem.F.plain_list_iadd _]
  show wpAny _ A.in1 (Builtin.List.listExtendWith (.ref (mapHeap s.heap l ff).objs.size) (.ref (s.heap.objs.size + 2)) (.ref (mapHeap s.heap l ff).objs.size)) _ _ _
  generalize hS : (mapHeap s.heap l ff).objs.size = S at *
  have hSI : S ≠ s.heap.objs.size + 2 := by omega
  have keep1 : ∀ b o, (mapHeap s.heap l ff).get? b = some o → ((mapHeap s.heap l ff).push { cls := .type "list", data := .seq ([] : List Value).toArray }).get? b = some o := fun b o e => get_push_lt e
  have m1 : MapAt ((mapHeap s.heap l ff).push { cls := .type "list", data := .seq ([] : List Value).toArray }) (s.heap.objs.size + 2) (s.heap.objs.size + 1) s.heap.objs.size l ff 0 := by
    obtain ⟨⟨o, h1, h2, h3⟩, ⟨o2, n, g1, g2⟩, ⟨o3, k1, k2, k3⟩⟩ := m0
    exact ⟨⟨o, keep1 _ _ h1, h2, h3⟩, ⟨o2, n, keep1 _ _ g1, g2⟩, ⟨o3, keep1 _ _ k1, k2, k3⟩⟩
  have hS₁ : ((mapHeap s.heap l ff).push { cls := .type "list", data := .seq ([] : List Value).toArray }).get? S = some { cls := .type "list", data := .seq ([] : List Value).toArray } := by rw [← hS]; exact Heap.get?_push_size _ rfl
  unfold Builtin.List.listExtendWith
  refine wpAny_bind (wpAny_typeOf (MapAt.ty (s := { s with heap := (mapHeap s.heap l ff).push { cls := .type "list", data := .seq ([] : List Value).toArray } }) m1) ?_)
  have h1 : Builtin.List.listSameRef (.ref S) (.ref (s.heap.objs.size + 2)) = false := by simp [Builtin.List.listSameRef, hSI]
  have h2 : (Value.type "map" == Value.type "list") = false := by decide
  have h3 : (Value.type "map" == Value.type "tuple") = false := by decide
  simp only [h1, h2, h3, Bool.or_false, Bool.false_eq_true, if_false]
  have hT1 := MapAt.ty (s := { s with heap := (mapHeap s.heap l ff).push { cls := .type "list", data := .seq ([] : List Value).toArray } }) m1
  refine wpAny_bind (wpAny_pyIter_slot hT1 Mp.slot_map_iter (wpAny_call_entry Mp.slot_map_iter hT1 Mp.entry_map_iter (show wpAny _ _ (ret (.ref (s.heap.objs.size + 2))) _ _ _ from wpAny_pure ⟨_, rfl, "map", _, hT1, Mp.slot_map_next.lookup, ?_⟩) (Mp.args_map_iter _)))
  refine wpAny_bind (wpAny_holding ?_)
  unfold Builtin.List.listLengthHint
  refine wpAny_bind (wpAny_specialOf hT1 Mp.map_no_len ?_)
  show wpAny _ A.in1 (specialOf (Value.ref (s.heap.objs.size + 2)) (Str.ofString "__length_hint__") >>= _) _ _ _
  refine wpAny_bind (wpAny_specialOf hT1 Mp.map_no_hint ?_)
  refine wpAny_pure ?_
  show wpAny _ A.in1 (rule "list.extend.makes-room" >>= fun _ => Builtin.List.listTouch (.ref S) >>= fun _ =>
    again (.builtin "list.extend.loop" ⟨[.ref S, .ref (s.heap.objs.size + 2), .ref S], []⟩)) _ _ _
  refine wpAny_bind (wpAny_rule ?_)
  refine wpAny_bind ?_
  show wpAny _ A.in1 (updateSeq S (·.push .none) >>= fun _ => updateSeq S (·.pop)) _ _ _
  refine wpAny_bind (wpAny_updateSeq hS₁ rfl ?_)
  have hS₂ := Heap.get?_update_self (Obj.mapSeq (·.push Value.none)) hS₁ rfl
  refine wpAny_updateSeq hS₂ rfl ?_
  have hS₃ := Heap.get?_update_self (Obj.mapSeq (·.pop)) hS₂ rfl
  have oth : ∀ b o, b ≠ S → ((mapHeap s.heap l ff).push { cls := .type "list", data := .seq ([] : List Value).toArray }).get? b = some o →
      ((((mapHeap s.heap l ff).push { cls := .type "list", data := .seq ([] : List Value).toArray }).update S (Obj.mapSeq (·.push Value.none))).update S (Obj.mapSeq (·.pop))).get? b = some o :=
    fun b o hb e => (Heap.get?_update_other _ _ (Ne.symm hb)).trans ((Heap.get?_update_other _ _ (Ne.symm hb)).trans e)
  have nS : s.heap.get? S = none := none_ge (by omega)
  have hSit : S ≠ s.heap.objs.size := by omega
  have hST : S ≠ s.heap.objs.size + 1 := by omega
  refine wpAny_pure ⟨plainId_quiet PySem.F.plain_extend_loop _, extend_map (a := a) (A := A) (frs := frs) (X := X) (g := s.heap) (s₀ := s) hfs hfr hh hd (by omega) ok hl hr hsz (none_ge (by omega)) (none_ge (Nat.le_refl _)) nS (none_ge (Nat.le_succ _)) hSI hSit hST
    xs.length 0 _ _ _ rfl (Nat.zero_le _) (.ofStays fun b o e => oth b o (fun z => by rw [z, nS] at e; cases e) (keep1 b o (mapHeap_stays s.heap l ff b o e))) T ?_ hS₃ ⟨[], rfl, rfl⟩ rfl rfl fun s' acc' c' kp T' hg ho hS' ht => ?_⟩
  · obtain ⟨⟨o, h1, h2, h3⟩, ⟨o2, n, g1, g2⟩, ⟨o3, k1, k2, k3⟩⟩ := m1
    exact ⟨⟨o, oth _ _ (Ne.symm hSI) h1, h2, h3⟩, ⟨o2, n, oth _ _ (by omega) g1, g2⟩, ⟨o3, oth _ _ (by omega) k1, k2, k3⟩⟩
  show wpAny _ A (load S >>= _) _ _ s'
  refine wpAny_bind (wpAny_load hS' ?_)
  exact wpAny_pure (hQ s' acc' ⟨kp, hg, ho⟩ T' ht)

theorem texts_rd {h : Heap} {acc : Array Value} {xs : List Str} (h' : Texts acc xs) : RdL h acc.toList (xs.map .str) := by
  obtain ⟨l, e1, e2⟩ := h'
  rw [e1, ← e2]; exact rdl_strs
theorem call_tuple_map (hfs : ∀ {m : Nat} {x : Str}, Fn a (m + 1) (.ref ff) [.str x] (.str x)) (hfr : A.frames = some frs) (hh : A.handled = none) (hd : A.depth + 1 ≤ 800) (hu : A.units + 140 ≤ 9000)
    (ok : Ok a frs X s.heap) (T : 0 < s.toks) (hl : s.heap.IsList l vs) (hr : RdL s.heap vs.toList (xs.map .str)) (hsz : xs.length ≤ sizeLine) :
    wpAny a.M A (call (.type "tuple") [.ref (s.heap.objs.size + 2)]) (fun v s' => Kp (frAddrs frs) s s' ∧ Rd (vw X s'.heap) v (.tuple (xs.map .str))) E { s with heap := mapHeap s.heap l ff } := by
  refine callType_codes (Q₁ := fun obj s₁ => s₁.TypeIs obj "tuple" ∧ (Kp (frAddrs frs) s s₁ ∧ Rd (vw X s₁.heap) obj (.tuple (xs.map .str)))) PySem.F.called_tuple (PySem.F.typeCall_tuple_1 _) PySem.F.entry_object_init ?_ fun obj s₁ h₁ =>
    ⟨h₁.1, PySem.F.args_object_init_2 obj _, object_init_meets PySem.F.called_tuple.init.lookup PySem.F.called_tuple.made (by decide) a.prog a.w A.in1 _ s₁ ⟨h₁.1, rfl, h₁.2⟩⟩
  refine codeAny_of_tree ?_
  show wpAny _ A.in1.in1 (do checkBuiltinCall "tuple.__new__" ⟨[.type "tuple", .ref (s.heap.objs.size + 2)], []⟩; again (.builtin "tuple.__new__" ⟨[.type "tuple", .ref (s.heap.objs.size + 2)], []⟩)) _ _ _
  refine wpAny_bind (wpAny_of_eq (PySem.F.newCall_tuple_1 _) (wpAny_pure ⟨plainId_quiet PySem.F.plain_tuple_new _, codeAny_builtin PySem.F.entry_tuple_new ?_⟩))
  rw [Around.under_plainId PySem.F.plain_tuple_new _]
  have hsub := sub_tuple_self
  have hinit := init_tuple_lookup
  have hmh := madeHere_tuple
  have hTI := MapAt.ty (s := { s with heap := mapHeap s.heap l ff }) (mapHeap_at s.heap l ff)
  wp_walk using wpAny_typeOf hTI, collect_map (a := a) (A := A.in1.in1) (frs := frs) (X := X) (xs := xs) (vs := vs) hfs hfr hh (by simpa using hd) (by simp; omega) ok T hl hr hsz
  intro s' acc kp T' ht
  show wpAny _ _ (Builtin.Tuple.tupleExact acc.toList.toArray >>= fun v => ret v) _ _ _
  unfold Builtin.Tuple.tupleExact
  refine wpAny_bind (wpAny_newObj_type ?_ (by show acc.toList.toArray.size ≤ sizeLine; simp only [Array.toArray_toList]; rw [ht.size]; exact hsz))
  refine wpAny_pure ?_
  refine ⟨⟨_, Heap.get?_push_size _ rfl, rfl⟩, kp.trans (Kp.push _ _), .tuple isTuple_push (ok.keep kp.heap).fresh (by simpa using texts_rd ht)⟩
end
section
variable {a : Amb} {sc : Scope} {c : Cx sc} {ρ : Vars}
/-- tuple(map(fspath, texts)) -/
theorem Ev.tupleMap {p1 p2 p3 pos1 pos2 : Pos} {e : Expr} {x : Str} {ff : Addr} {st : Stmt} {xs : List Str} (hF : IsFn a x ff st) (hfs : ∀ {m : Nat} {x : Str}, Fn a (m + 1) (.ref ff) [.str x] (.str x)) (ht : nsIn a.K mainGlobals "tuple" = some none) (hm : nsIn a.K mainGlobals "map" = some none)
    (h0 : c.hq = none) (hn : 2 ≤ c.n) (h : Ev a c ρ e (.list (xs.map .str))) (hsz : xs.length ≤ sizeLine) (h1 : sc.names.lookup ("tuple" : Str) = some .globalImplicit) (h2 : sc.names.lookup ("map" : Str) = some .globalImplicit) (h3 : sc.names.lookup x = some .globalImplicit)
    (hd3 : (x == ("__debug__" : Str)) = false) (hst1 : starEach [.Call (.Name "map" p2) [.Name x p3, e] [] pos2] c.env = plainArgs [.Call (.Name "map" p2) [.Name x p3, e] [] pos2] c.env) (hst2 : starEach [.Name x p3, e] c.env = plainArgs [.Name x p3, e] c.env) :
    Ev a c ρ (.Call (.Name "tuple" p1) [.Call (.Name "map" p2) [.Name x p3, e] [] pos2] [] pos1) (.tuple (xs.map .str)) := fun s E S T => by
  refine call_name (Is.globB ht PyProof.Rows.Boot.«tuple» (by decide) h1 (by decide)) hst1 S (PyProof.Rows.callWith_type (any_plain _ _) (evalArgs_any (spliced_cons ?_)))
  refine call_name (Is.globB hm PyProof.Rows.Boot.«map» (by decide) h2 (by decide)) hst2 S (PyProof.Rows.callWith_type (any_plain _ _) (evalArgs_any (spliced_cons (Is.globK (ρ := ρ) hF.glob h3 hd3 _ _ _ S (spliced_cons (h.then S T fun v s1 q1 r1 S1 T1 => spliced_nil ?_))))))
  obtain ⟨l, vs, rfl, hl, hx, rl⟩ := r1.list_inv
  refine call_map hl (spliced_nil ?_)
  have hd := c.hd
  have hu := c.hu
  refine wpAny_mono (call_tuple_map (a := a) (frs := c.frs) (X := c.X) hfs c.hfr (c.h0 h0) (by omega) (by omega) S1.ok T1 hl rl.out hsz) (fun v s2 ⟨q2, r2⟩ => ⟨q1.trans q2, r2⟩) fun _ _ z => z
end
end Mine

end
section
open PySem PySem.Builtin PySem.W PyProof.Rows PySem.Calls PySem.Spec
open AutoSeq1 (wpAny_loadPart')
open MeetsSeq
set_option Elab.async false
set_option linter.unusedVariables false
set_option maxRecDepth 100000
namespace Mine
/-- one list of texts before another -/
def ltS (x y : Str) : Bool := decide (x.cps.toList < y.cps.toList)
def ltL : List Str → List Str → Bool
  | [], [] => false
  | [], _ :: _ => true
  | _ :: _, [] => false
  | x :: xs, y :: ys => if x == y then ltL xs ys else ltS x y

def cmpAs (code : Nat) (xs ys : List Str) : Bool := if code = 0 then ltL xs ys else ltL ys xs
theorem texts_at {vs : Array Value} {xs : List Str} (h : Texts vs xs) {i : Nat} (hi : i < xs.length) : ∃ t, vs[i]? = some (.str xs[i] t) := by
  obtain ⟨t, e⟩ := str_items (h := ⟨#[], default⟩) (texts_rd h) (i := i) (x := xs[i]) (by simp [hi])
  exact ⟨t, by simpa using e⟩
section
variable {prog : Program} {w : World} {A : Around} {R : Result → Shared → Prop} {l b : Addr} {vs ws : Array Value} {xs ys : List Str}
set_option maxHeartbeats 8000000 in
theorem cmp_loop {code : Nat} (hcode : code = 0 ∨ code = 4) (hx : Texts vs xs) (hy : Texts ws ys) (k : Nat) :
    ∀ (i : Nat) (s : Shared), xs.length - i = k → i ≤ xs.length → i ≤ ys.length → s.heap.IsList l vs → s.heap.IsList b ws → R (.ok (.ret (.bool (cmpAs code (xs.drop i) (ys.drop i))))) s →
      codeAny (model prog w) A (.builtin "list.__eq__.loop" ⟨[.ref l, .ref b, rawInt i, rawInt code], []⟩) R s := by
  induction k with
  | zero =>
    intro i s hk hi1 hi2 hl hb h
    have hin : i = xs.length := by omega
    obtain ⟨⟨c1, d1, t1, sl1⟩, ho, hc, n, hd⟩ := hl
    obtain ⟨⟨c2, d2, t2, sl2⟩, ho2, hc2, n2, hd2⟩ := hb
    dsimp only at hc hd hc2 hd2
    subst hc hd hc2 hd2
    obtain ⟨hp, g, d, tk, os⟩ := s
    refine codeAny_builtin MeetsSeq3.entry_eq_loop ?_
    rw [Around.under_plainId MeetsSeq3.plain_eq_loop _]
    have hv : vs[((i : Nat) : Int).toNat]? = none := by simp [hx.size]; omega
    have hdx : xs.drop i = [] := by rw [hin]; exact List.drop_length
    rw [hdx] at h
    rcases hcode with rfl | rfl
    · wp_walk using wpAny_loadPart' ho, wpAny_loadPart' ho2
      rw [hv]
      wp_walk using wpAny_loadPart' ho, wpAny_loadPart' ho2
      show R (.ok (.ret (.bool (decide (vs.size < ws.size))))) _
      have e : cmpAs 0 [] (ys.drop i) = decide (vs.size < ws.size) := by
        rw [hx.size, hy.size]
        cases hq : ys.drop i with
        | nil => have := List.drop_eq_nil_iff.mp hq; unfold cmpAs; rw [if_pos rfl, ltL]; symm; rw [decide_eq_false_iff_not]; omega
        | cons y r => have : i < ys.length := by
                        have := congrArg List.length hq; simp at this; omega
                      unfold cmpAs; rw [if_pos rfl, ltL]; symm; rw [decide_eq_true_iff]; omega
      rw [← e]; exact h
    · wp_walk using wpAny_loadPart' ho, wpAny_loadPart' ho2
      rw [hv]
      wp_walk using wpAny_loadPart' ho, wpAny_loadPart' ho2
      show R (.ok (.ret (.bool (decide (vs.size > ws.size))))) _
      have e : cmpAs 4 [] (ys.drop i) = decide (vs.size > ws.size) := by
        rw [hx.size, hy.size]
        unfold cmpAs
        rw [if_neg (by decide)]
        cases hq : ys.drop i with
        | nil => rw [ltL]; symm; rw [decide_eq_false_iff_not]; omega
        | cons y r => have : i < ys.length := by
                        have := congrArg List.length hq; simp at this; omega
                      rw [ltL]; symm; rw [decide_eq_false_iff_not]; omega
      rw [← e]; exact h
  | succ k ih =>
    intro i s hk hi1 hi2 hl hb h
    have hlt : i < xs.length := by omega
    obtain ⟨t1', hv⟩ := texts_at hx hlt
    have hv' : vs[((i : Nat) : Int).toNat]? = some (.str xs[i] t1') := by simpa using hv
    have hdx : xs.drop i = xs[i] :: xs.drop (i + 1) := List.drop_eq_getElem_cons hlt
    rw [hdx] at h
    obtain ⟨⟨c1, d1, t1, sl1⟩, ho, hc, n, hd⟩ := id hl
    obtain ⟨⟨c2, d2, t2, sl2⟩, ho2, hc2, n2, hd2⟩ := id hb
    dsimp only at hc hd hc2 hd2
    subst hc hd hc2 hd2
    refine codeAny_builtin MeetsSeq3.entry_eq_loop ?_
    rw [Around.under_plainId MeetsSeq3.plain_eq_loop _]
    have hcast : ((i : Int) + 1) = ((i + 1 : Nat) : Int) := by push_cast; rfl
    by_cases hyl : i < ys.length
    · obtain ⟨t2', hw⟩ := texts_at hy hyl
      have hw' : ws[((i : Nat) : Int).toNat]? = some (.str ys[i] t2') := by simpa using hw
      have hdy : ys.drop i = ys[i] :: ys.drop (i + 1) := List.drop_eq_getElem_cons hyl
      rw [hdy] at h
      have again' : ∀ (hp : Heap) (g : Array GenState) (d : Drawn) (tk : Nat) (os : OsState), hp.IsList l vs → hp.IsList b ws → R (.ok (.ret (.bool (cmpAs code (xs.drop (i + 1)) (ys.drop (i + 1)))))) ⟨hp, g, d, tk, os⟩ →
          codeAny (model prog w) A (.builtin "list.__eq__.loop" ⟨[.ref l, .ref b, rawInt ((i : Int) + 1), rawInt code], []⟩) R ⟨hp, g, d, tk, os⟩ := fun hp g d tk os h1 h2 h3 => by
        rw [hcast]
        exact ih (i + 1) ⟨hp, g, d, tk, os⟩ (by omega) hlt hyl h1 h2 h3
      obtain ⟨hp, g, d, tk, os⟩ := s
      rcases hcode with rfl | rfl
      · wp_walk using wpAny_loadPart' ho, wpAny_loadPart' ho2
        rw [hv', hw']
        refine wpAny_bind (eqGives_str _ _ _ _ prog w _ _ _ _ ?_)
        cases hq : xs[i] == ys[i] with
        | true =>
          wp_walk
          refine ⟨plainId_quiet MeetsSeq3.plain_eq_loop _, again' hp g d tk os hl hb ?_⟩
          have e : cmpAs 0 (xs[i] :: xs.drop (i + 1)) (ys[i] :: ys.drop (i + 1)) = cmpAs 0 (xs.drop (i + 1)) (ys.drop (i + 1)) := by
            unfold cmpAs; rw [if_pos rfl, if_pos rfl, ltL, if_pos hq]
          rw [← e]; exact h
        | false =>
          wp_walk using wpAny_loadPart' ho, wpAny_loadPart' ho2
          rw [hv', hw']
          refine wpAny_bind (PyProof.Rows.lt_str (t := t1') (u := t2') ?_)
          wp_walk
          have e : cmpAs 0 (xs[i] :: xs.drop (i + 1)) (ys[i] :: ys.drop (i + 1)) = decide (xs[i].cps.toList < ys[i].cps.toList) := by
            unfold cmpAs; rw [if_pos rfl, ltL, if_neg (by rw [hq]; decide)]; rfl
          rw [← e]; exact h
      · wp_walk using wpAny_loadPart' ho, wpAny_loadPart' ho2
        rw [hv', hw']
        refine wpAny_bind (eqGives_str _ _ _ _ prog w _ _ _ _ ?_)
        cases hq : xs[i] == ys[i] with
        | true =>
          wp_walk
          refine ⟨plainId_quiet MeetsSeq3.plain_eq_loop _, again' hp g d tk os hl hb ?_⟩
          have hq' : (ys[i] == xs[i]) = true := by rw [beq_iff_eq] at hq ⊢; exact hq.symm
          have e : cmpAs 4 (xs[i] :: xs.drop (i + 1)) (ys[i] :: ys.drop (i + 1)) = cmpAs 4 (xs.drop (i + 1)) (ys.drop (i + 1)) := by
            unfold cmpAs; rw [if_neg (by decide), if_neg (by decide), ltL, if_pos hq']
          rw [← e]; exact h
        | false =>
          wp_walk using wpAny_loadPart' ho, wpAny_loadPart' ho2
          rw [hv', hw']
          refine wpAny_bind (PySem.P.gt_str (t := t1') (u := t2') ?_)
          wp_walk
          have hq' : ¬ (ys[i] == xs[i]) = true := by
            rw [beq_iff_eq]; intro z; rw [z] at hq; simp at hq
          have e : cmpAs 4 (xs[i] :: xs.drop (i + 1)) (ys[i] :: ys.drop (i + 1)) = decide (ys[i].cps.toList < xs[i].cps.toList) := by
            unfold cmpAs; rw [if_neg (by decide), ltL, if_neg hq']; rfl
          rw [← e]; exact h
    · have hw' : ws[((i : Nat) : Int).toNat]? = none := by simp [hy.size]; omega
      have hdy : ys.drop i = [] := List.drop_eq_nil_iff.mpr (by omega)
      rw [hdy] at h
      obtain ⟨hp, g, d, tk, os⟩ := s
      rcases hcode with rfl | rfl
      · wp_walk using wpAny_loadPart' ho, wpAny_loadPart' ho2
        rw [hv', hw']
        wp_walk using wpAny_loadPart' ho, wpAny_loadPart' ho2
        show R (.ok (.ret (.bool (decide (vs.size < ws.size))))) _
        have e : decide (vs.size < ws.size) = cmpAs 0 (xs[i] :: xs.drop (i + 1)) [] := by
          rw [hx.size, hy.size]; unfold cmpAs; rw [if_pos rfl, ltL, decide_eq_false_iff_not]; omega
        rw [e]; exact h
      · wp_walk using wpAny_loadPart' ho, wpAny_loadPart' ho2
        rw [hv', hw']
        wp_walk using wpAny_loadPart' ho, wpAny_loadPart' ho2
        show R (.ok (.ret (.bool (decide (vs.size > ws.size))))) _
        have e : decide (vs.size > ws.size) = cmpAs 4 (xs[i] :: xs.drop (i + 1)) [] := by
          rw [hx.size, hy.size]; unfold cmpAs; rw [if_neg (by decide), ltL, decide_eq_true_iff]; omega
        rw [e]; exact h
end

section
variable {prog : Program} {w : World} {A : Around} {E : Value → Shared → Prop} {s : Shared} {l b : Addr} {vs ws : Array Value} {xs ys : List Str}
theorem meets_lt (hx : Texts vs xs) (hy : Texts ws ys) : Meets (Builtin.«list.__lt__» ⟨[.ref l, .ref b], []⟩) (fun _ R s => s.heap.IsList l vs ∧ s.heap.IsList b ws ∧ R (.ok (.ret (.bool (ltL xs ys)))) s) := by
  intro prog w A R s ⟨hl, hb, h⟩
  have f3 := AutoSeq1.sub_list_list
  have hT := hb.typeIs
  refine wpAny_bind (m := slotArgs "__lt__" 1 _) (wpAny_pure ?_)
  refine wpAny_bind (wpAny_isInstance hT f3 ?_)
  exact wpAny_pure ⟨plainId_quiet MeetsSeq3.plain_eq_loop _, cmp_loop (.inl rfl) hx hy _ 0 s rfl (Nat.zero_le _) (Nat.zero_le _) hl hb (by simpa [cmpAs] using h)⟩
theorem meets_gt (hx : Texts vs xs) (hy : Texts ws ys) : Meets (Builtin.«list.__gt__» ⟨[.ref l, .ref b], []⟩) (fun _ R s => s.heap.IsList l vs ∧ s.heap.IsList b ws ∧ R (.ok (.ret (.bool (ltL ys xs)))) s) := by
  intro prog w A R s ⟨hl, hb, h⟩
  have f3 := AutoSeq1.sub_list_list
  have hT := hb.typeIs
  refine wpAny_bind (m := slotArgs "__gt__" 1 _) (wpAny_pure ?_)
  refine wpAny_bind (wpAny_isInstance hT f3 ?_)
  exact wpAny_pure ⟨plainId_quiet MeetsSeq3.plain_eq_loop _, cmp_loop (.inr rfl) hx hy _ 0 s rfl (Nat.zero_le _) (Nat.zero_le _) hl hb (by simpa [cmpAs] using h)⟩
theorem list_lt {Q : Value → Shared → Prop} (hx : Texts vs xs) (hy : Texts ws ys) (hl : s.heap.IsList l vs) (hb : s.heap.IsList b ws) (hu : A.units < cLine) (h : Q (.bool (ltL xs ys)) s) : wpAny (model prog w) A (richCompare .Lt (.ref l) (.ref b)) Q E s :=
  wpAny_richCompare_same_room (op := .Lt) (T := "list") hl.typeIs hb.typeIs PySem.F.slot_list_lt (call_meets PySem.F.slot_list_lt hl.typeIs PySem.F.entry_list_lt (PySem.F.args_list_lt_2 _ _) (meets_lt hx hy) ⟨hl, hb, (by simp), h⟩) hu
theorem list_gt {Q : Value → Shared → Prop} (hx : Texts vs xs) (hy : Texts ws ys) (hl : s.heap.IsList l vs) (hb : s.heap.IsList b ws) (hu : A.units < cLine) (h : Q (.bool (ltL ys xs)) s) : wpAny (model prog w) A (richCompare .Gt (.ref l) (.ref b)) Q E s :=
  wpAny_richCompare_same_room (op := .Gt) (T := "list") hl.typeIs hb.typeIs PySem.F.slot_list_gt (call_meets PySem.F.slot_list_gt hl.typeIs PySem.F.entry_list_gt (PySem.F.args_list_gt_2 _ _) (meets_gt hx hy) ⟨hl, hb, (by simp), h⟩) hu
end
end Mine

end
section
open PySem PySem.Builtin PySem.W PyProof.Rows PySem.Calls PySem.Spec
set_option Elab.async false
set_option linter.unusedVariables false
set_option maxRecDepth 100000
namespace Mine
/-- a row of texts -/
def Row (g : Heap) (v : Value) (r : List Str) : Prop := ∃ a us, v = .ref a ∧ g.IsList a us ∧ Texts us r
inductive Rows (g : Heap) : List Value → List (List Str) → Prop
  | nil : Rows g [] []
  | cons {v vs r rs} : Row g v r → Rows g vs rs → Rows g (v :: vs) (r :: rs)
theorem Rows.length {g : Heap} {vs : List Value} {rs : List (List Str)} (h : Rows g vs rs) : vs.length = rs.length := by induction h <;> simp [*]
theorem Rows.at {g : Heap} {vs : List Value} {rs : List (List Str)} (h : Rows g vs rs) {j : Nat} (hj : j < rs.length) : ∃ v, vs[j]? = some v ∧ Row g v rs[j] := by
  induction h generalizing j with
  | nil => simp at hj
  | cons r _ ih =>
    cases j with
    | zero => exact ⟨_, rfl, r⟩
    | succ j => obtain ⟨v, e, r'⟩ := ih (j := j) (by simpa using hj); exact ⟨v, by simpa using e, by simpa using r'⟩
section
variable {prog : Program} {w : World} {A : Around} {R : Result → Shared → Prop}

def minRow (r : List Str) (rows : List (List Str)) : List Str := rows.foldl (fun best r => if ltL r best = true then r else best) r
theorem min_loop {rows : List (List Str)} {g g' : Heap} {L it S : Addr} {vs : Array Value} (hsub : g'.StaysIn g) (hh : A.handled = none) (hu : A.units + 3 < cLine) (hl : g.IsList L vs) (hv : Rows g' vs.toList rows) (nit : g.get? it = none) (nS : g.get? S = none) (Sit : S ≠ it) :
    ∀ (k j : Nat) (s : Shared) (vb : Value) (c : Nat) (best : List Str), rows.length - j = k → j ≤ rows.length → g.StaysIn s.heap → s.heap.IsListIter it L j → Row g' vb best →
      s.heap.get? S = some { cls := .type "list", dict := none, data := .seq #[vb, vb] c, slots := #[] } →
      (∀ h' v, g.StaysIn h' → Row g' v (minRow best (rows.drop j)) → R (.ok (.ret v)) { s with heap := h' }) → codeAny (model prog w) A (.builtin "min.loop" ⟨[.ref it, .none, .ref S], []⟩) R s := by
  have hname : (toString "min" ++ toString ".loop" : String) = "min.loop" := by decide
  have hlk : ∀ h, g.StaysIn h → h.IsList L vs := fun h k => by obtain ⟨o, e, z⟩ := hl; exact ⟨o, k _ _ e, z⟩
  have hsz : vs.size = rows.length := by simpa using hv.length
  have butS : ∀ (h : Heap) (f : Obj → Obj), g.StaysIn h → g.StaysIn (h.update S f) := fun h f k b o e => (Heap.get?_update_other _ _ (fun z : S = b => by rw [← z, nS] at e; cases e)).trans (k b o e)
  intro k
  induction k with
  | zero =>
    intro j s vb c best hk hj kp hit hb hS hR
    have hin : j = rows.length := by omega
    refine codeAny_builtin PySem.F.entry_min_loop ?_
    rw [Around.under_plainId PySem.F.plain_min_loop _]
    show wpAny _ A.in1 (seqItems? (.ref S) >>= _) _ _ s
    refine wpAny_bind (wpAny_seqItems hS rfl ?_)
    show wpAny _ A.in1 (tryCatch (pyNext (.ref it)) _ >>= _) _ _ s
    refine wpAny_bind (wpAny_tryCatch (wpAny_pyNext_list_end (A := A.in1) hh hit (hlk _ kp) (by simp [hsz]; omega) fun h' he => ?_))
    have kp' : g.StaysIn h' := fun b o e => he b o (fun z => by rw [z, nit] at e; cases e) (kp b o e)
    have hS' := he S _ Sit hS
    show wpAny _ A.in1 (updateSeq S (fun _ => #[]) >>= _) _ _ _
    refine wpAny_bind ?_
    refine wpAny_updateSeq hS' rfl (wpAny_bind (wpAny_letGo (wpAny_pure ?_)))
    refine hR _ vb (butS _ _ kp') ?_
    rw [hin, List.drop_length]; exact hb
  | succ k ih =>
    intro j s vb c best hk hj kp hit hb hS hR
    have hlt : j < rows.length := by omega
    obtain ⟨v, hvj, hrow⟩ := hv.at hlt
    refine codeAny_builtin PySem.F.entry_min_loop ?_
    rw [Around.under_plainId PySem.F.plain_min_loop _]
    show wpAny _ A.in1 (seqItems? (.ref S) >>= _) _ _ s
    refine wpAny_bind (wpAny_seqItems hS rfl ?_)
    show wpAny _ A.in1 (tryCatch (pyNext (.ref it)) _ >>= _) _ _ s
    refine wpAny_bind (wpAny_tryCatch (wpAny_pyNext_list_item (A := A.in1) hit (hlk _ kp) (x := v) (by simpa using hvj) fun h' hit' hs' => ?_))
    have kp' : g.StaysIn h' := fun b o e => (hs'.2 b (fun z => by rw [z, nit] at e; cases e)).trans (kp b o e)
    have hS' := (hs'.2 S Sit).trans hS
    obtain ⟨a1, us1, rfl, hl1, ht1⟩ := hrow
    obtain ⟨a2, us2, rfl, hl2, ht2⟩ := id hb
    have hl1' : h'.IsList a1 us1 := by obtain ⟨o, e, z⟩ := hl1; exact ⟨o, kp' _ _ (hsub _ _ e), z⟩
    have hl2' : h'.IsList a2 us2 := by obtain ⟨o, e, z⟩ := hl2; exact ⟨o, kp' _ _ (hsub _ _ e), z⟩
    have hdj : rows.drop j = rows[j] :: rows.drop (j + 1) := List.drop_eq_getElem_cons hlt
    show wpAny _ A.in1 (tryCatch (holding [.ref a1, .ref a1] (richCompare .Lt (.ref a1) (.ref a2) >>= _)) _ >>= _) _ _ _
    refine wpAny_bind (wpAny_tryCatch (wpAny_holding (wpAny_bind (list_lt (A := A.in1) (s := { s with heap := h' }) ht1 ht2 hl1' hl2' (by simp; omega) ?_))))
    refine wpAny_bind (wpAny_holding (wpAny_truthy_bool ?_))
    refine wpAny_bind (wpAny_letGo (wpAny_pure ?_))
    cases hq : ltL rows[j] best with
    | true =>
      simp only [if_true]
      refine wpAny_bind ?_
      refine wpAny_updateSeq hS' rfl (wpAny_bind (wpAny_letGo ?_))
      rw [hname]
      refine wpAny_pure ⟨plainId_quiet PySem.F.plain_min_loop _, ih (j + 1) _ (.ref a1) _ rows[j] (by omega) hlt (butS _ _ kp') ?_ ⟨a1, us1, rfl, hl1, ht1⟩ (Heap.get?_update_self _ hS' rfl) fun h'' v' k'' r'' => ?_⟩
      · obtain ⟨o, e, z⟩ := hit'; exact ⟨o, (Heap.get?_update_other _ _ Sit).trans e, z⟩
      · refine hR h'' v' k'' ?_
        rw [hdj]; unfold minRow at r'' ⊢; rw [List.foldl_cons, if_pos hq]; exact r''
    | false =>
      simp only [Bool.false_eq_true, if_false]
      refine wpAny_bind (wpAny_letGo ?_)
      rw [hname]
      refine wpAny_pure ⟨plainId_quiet PySem.F.plain_min_loop _, ih (j + 1) _ (.ref a2) c best (by omega) hlt kp' hit' hb hS' fun h'' v' k'' r'' => ?_⟩
      refine hR h'' v' k'' ?_
      rw [hdj]; unfold minRow at r'' ⊢; rw [List.foldl_cons, if_neg (by rw [hq]; decide)]; exact r''

def maxRow (r : List Str) (rows : List (List Str)) : List Str := rows.foldl (fun best r => if ltL best r = true then r else best) r
theorem max_loop {rows : List (List Str)} {g g' : Heap} {L it S : Addr} {vs : Array Value} (hsub : g'.StaysIn g) (hh : A.handled = none) (hu : A.units + 3 < cLine) (hl : g.IsList L vs) (hv : Rows g' vs.toList rows) (nit : g.get? it = none) (nS : g.get? S = none) (Sit : S ≠ it) :
    ∀ (k j : Nat) (s : Shared) (vb : Value) (c : Nat) (best : List Str), rows.length - j = k → j ≤ rows.length → g.StaysIn s.heap → s.heap.IsListIter it L j → Row g' vb best →
      s.heap.get? S = some { cls := .type "list", dict := none, data := .seq #[vb, vb] c, slots := #[] } →
      (∀ h' v, g.StaysIn h' → Row g' v (maxRow best (rows.drop j)) → R (.ok (.ret v)) { s with heap := h' }) → codeAny (model prog w) A (.builtin "max.loop" ⟨[.ref it, .none, .ref S], []⟩) R s := by
  have hname : (toString "max" ++ toString ".loop" : String) = "max.loop" := by decide
  have hlk : ∀ h, g.StaysIn h → h.IsList L vs := fun h k => by obtain ⟨o, e, z⟩ := hl; exact ⟨o, k _ _ e, z⟩
  have hsz : vs.size = rows.length := by simpa using hv.length
  have butS : ∀ (h : Heap) (f : Obj → Obj), g.StaysIn h → g.StaysIn (h.update S f) := fun h f k b o e => (Heap.get?_update_other _ _ (fun z : S = b => by rw [← z, nS] at e; cases e)).trans (k b o e)
  intro k
  induction k with
  | zero =>
    intro j s vb c best hk hj kp hit hb hS hR
    have hin : j = rows.length := by omega
    refine codeAny_builtin PySem.F.entry_max_loop ?_
    rw [Around.under_plainId PySem.F.plain_max_loop _]
    show wpAny _ A.in1 (seqItems? (.ref S) >>= _) _ _ s
    refine wpAny_bind (wpAny_seqItems hS rfl ?_)
    show wpAny _ A.in1 (tryCatch (pyNext (.ref it)) _ >>= _) _ _ s
    refine wpAny_bind (wpAny_tryCatch (wpAny_pyNext_list_end (A := A.in1) hh hit (hlk _ kp) (by simp [hsz]; omega) fun h' he => ?_))
    have kp' : g.StaysIn h' := fun b o e => he b o (fun z => by rw [z, nit] at e; cases e) (kp b o e)
    have hS' := he S _ Sit hS
    show wpAny _ A.in1 (updateSeq S (fun _ => #[]) >>= _) _ _ _
    refine wpAny_bind ?_
    refine wpAny_updateSeq hS' rfl (wpAny_bind (wpAny_letGo (wpAny_pure ?_)))
    refine hR _ vb (butS _ _ kp') ?_
    rw [hin, List.drop_length]; exact hb
  | succ k ih =>
    intro j s vb c best hk hj kp hit hb hS hR
    have hlt : j < rows.length := by omega
    obtain ⟨v, hvj, hrow⟩ := hv.at hlt
    refine codeAny_builtin PySem.F.entry_max_loop ?_
    rw [Around.under_plainId PySem.F.plain_max_loop _]
    show wpAny _ A.in1 (seqItems? (.ref S) >>= _) _ _ s
    refine wpAny_bind (wpAny_seqItems hS rfl ?_)
    show wpAny _ A.in1 (tryCatch (pyNext (.ref it)) _ >>= _) _ _ s
    refine wpAny_bind (wpAny_tryCatch (wpAny_pyNext_list_item (A := A.in1) hit (hlk _ kp) (x := v) (by simpa using hvj) fun h' hit' hs' => ?_))
    have kp' : g.StaysIn h' := fun b o e => (hs'.2 b (fun z => by rw [z, nit] at e; cases e)).trans (kp b o e)
    have hS' := (hs'.2 S Sit).trans hS
    obtain ⟨a1, us1, rfl, hl1, ht1⟩ := hrow
    obtain ⟨a2, us2, rfl, hl2, ht2⟩ := id hb
    have hl1' : h'.IsList a1 us1 := by obtain ⟨o, e, z⟩ := hl1; exact ⟨o, kp' _ _ (hsub _ _ e), z⟩
    have hl2' : h'.IsList a2 us2 := by obtain ⟨o, e, z⟩ := hl2; exact ⟨o, kp' _ _ (hsub _ _ e), z⟩
    have hdj : rows.drop j = rows[j] :: rows.drop (j + 1) := List.drop_eq_getElem_cons hlt
    show wpAny _ A.in1 (tryCatch (holding [.ref a1, .ref a1] (richCompare .Gt (.ref a1) (.ref a2) >>= _)) _ >>= _) _ _ _
    refine wpAny_bind (wpAny_tryCatch (wpAny_holding (wpAny_bind (list_gt (A := A.in1) (s := { s with heap := h' }) ht1 ht2 hl1' hl2' (by simp; omega) ?_))))
    refine wpAny_bind (wpAny_holding (wpAny_truthy_bool ?_))
    refine wpAny_bind (wpAny_letGo (wpAny_pure ?_))
    cases hq : ltL best rows[j] with
    | true =>
      simp only [if_true]
      refine wpAny_bind ?_
      refine wpAny_updateSeq hS' rfl (wpAny_bind (wpAny_letGo ?_))
      rw [hname]
      refine wpAny_pure ⟨plainId_quiet PySem.F.plain_max_loop _, ih (j + 1) _ (.ref a1) _ rows[j] (by omega) hlt (butS _ _ kp') ?_ ⟨a1, us1, rfl, hl1, ht1⟩ (Heap.get?_update_self _ hS' rfl) fun h'' v' k'' r'' => ?_⟩
      · obtain ⟨o, e, z⟩ := hit'; exact ⟨o, (Heap.get?_update_other _ _ Sit).trans e, z⟩
      · refine hR h'' v' k'' ?_
        rw [hdj]; unfold maxRow at r'' ⊢; rw [List.foldl_cons, if_pos hq]; exact r''
    | false =>
      simp only [Bool.false_eq_true, if_false]
      refine wpAny_bind (wpAny_letGo ?_)
      rw [hname]
      refine wpAny_pure ⟨plainId_quiet PySem.F.plain_max_loop _, ih (j + 1) _ (.ref a2) c best (by omega) hlt kp' hit' hb hS' fun h'' v' k'' r'' => ?_⟩
      refine hR h'' v' k'' ?_
      rw [hdj]; unfold maxRow at r'' ⊢; rw [List.foldl_cons, if_neg (by rw [hq]; decide)]; exact r''

theorem min_first {rows : List (List Str)} {r0 : List Str} {g g' : Heap} {L it S : Addr} {vs : Array Value} {s : Shared} {c : Nat} (hsub : g'.StaysIn g) (hh : A.handled = none) (hu : A.units + 3 < cLine) (hl : g.IsList L vs) (hv : Rows g' vs.toList (r0 :: rows)) (nit : g.get? it = none) (nS : g.get? S = none) (Sit : S ≠ it)
    (kp : g.StaysIn s.heap) (hit : s.heap.IsListIter it L 0) (hS : s.heap.get? S = some { cls := .type "list", dict := none, data := .seq #[] c, slots := #[] })
    (hR : ∀ h' v, g.StaysIn h' → Row g' v (minRow r0 rows) → R (.ok (.ret v)) { s with heap := h' }) : codeAny (model prog w) A (.builtin "min.loop" ⟨[.ref it, .none, .ref S], []⟩) R s := by
  have hname : (toString "min" ++ toString ".loop" : String) = "min.loop" := by decide
  have hlk : s.heap.IsList L vs := by obtain ⟨o, e, z⟩ := hl; exact ⟨o, kp _ _ e, z⟩
  obtain ⟨v, hvj, hrow⟩ := hv.at (j := 0) (by simp)
  refine codeAny_builtin PySem.F.entry_min_loop ?_
  rw [Around.under_plainId PySem.F.plain_min_loop _]
  show wpAny _ A.in1 (seqItems? (.ref S) >>= _) _ _ s
  refine wpAny_bind (wpAny_seqItems hS rfl ?_)
  show wpAny _ A.in1 (tryCatch (pyNext (.ref it)) _ >>= _) _ _ s
  refine wpAny_bind (wpAny_tryCatch (wpAny_pyNext_list_item (A := A.in1) hit hlk (x := v) (by simpa using hvj) fun h' hit' hs' => ?_))
  have kp' : g.StaysIn h' := fun b o e => (hs'.2 b (fun z => by rw [z, nit] at e; cases e)).trans (kp b o e)
  have hS' := (hs'.2 S Sit).trans hS
  show wpAny _ A.in1 (updateSeq S (fun _ => #[v, v]) >>= _) _ _ _
  refine wpAny_bind ?_
  refine wpAny_updateSeq hS' rfl ?_
  rw [hname]
  refine wpAny_pure ⟨plainId_quiet PySem.F.plain_min_loop _, min_loop hsub hh hu hl hv nit nS Sit _ 1 _ v _ r0 rfl (by simp) (fun b o e => (Heap.get?_update_other _ _ (fun z : S = b => by rw [← z, nS] at e; cases e)).trans (kp' b o e)) ?_ hrow (Heap.get?_update_self _ hS' rfl) fun h'' v' k'' r'' => hR h'' v' k'' r''⟩
  obtain ⟨o, e, z⟩ := hit'; exact ⟨o, (Heap.get?_update_other _ _ Sit).trans e, z⟩

theorem max_first {rows : List (List Str)} {r0 : List Str} {g g' : Heap} {L it S : Addr} {vs : Array Value} {s : Shared} {c : Nat} (hsub : g'.StaysIn g) (hh : A.handled = none) (hu : A.units + 3 < cLine) (hl : g.IsList L vs) (hv : Rows g' vs.toList (r0 :: rows)) (nit : g.get? it = none) (nS : g.get? S = none) (Sit : S ≠ it)
    (kp : g.StaysIn s.heap) (hit : s.heap.IsListIter it L 0) (hS : s.heap.get? S = some { cls := .type "list", dict := none, data := .seq #[] c, slots := #[] })
    (hR : ∀ h' v, g.StaysIn h' → Row g' v (maxRow r0 rows) → R (.ok (.ret v)) { s with heap := h' }) : codeAny (model prog w) A (.builtin "max.loop" ⟨[.ref it, .none, .ref S], []⟩) R s := by
  have hname : (toString "max" ++ toString ".loop" : String) = "max.loop" := by decide
  have hlk : s.heap.IsList L vs := by obtain ⟨o, e, z⟩ := hl; exact ⟨o, kp _ _ e, z⟩
  obtain ⟨v, hvj, hrow⟩ := hv.at (j := 0) (by simp)
  refine codeAny_builtin PySem.F.entry_max_loop ?_
  rw [Around.under_plainId PySem.F.plain_max_loop _]
  show wpAny _ A.in1 (seqItems? (.ref S) >>= _) _ _ s
  refine wpAny_bind (wpAny_seqItems hS rfl ?_)
  show wpAny _ A.in1 (tryCatch (pyNext (.ref it)) _ >>= _) _ _ s
  refine wpAny_bind (wpAny_tryCatch (wpAny_pyNext_list_item (A := A.in1) hit hlk (x := v) (by simpa using hvj) fun h' hit' hs' => ?_))
  have kp' : g.StaysIn h' := fun b o e => (hs'.2 b (fun z => by rw [z, nit] at e; cases e)).trans (kp b o e)
  have hS' := (hs'.2 S Sit).trans hS
  show wpAny _ A.in1 (updateSeq S (fun _ => #[v, v]) >>= _) _ _ _
  refine wpAny_bind ?_
  refine wpAny_updateSeq hS' rfl ?_
  rw [hname]
  refine wpAny_pure ⟨plainId_quiet PySem.F.plain_max_loop _, max_loop hsub hh hu hl hv nit nS Sit _ 1 _ v _ r0 rfl (by simp) (fun b o e => (Heap.get?_update_other _ _ (fun z : S = b => by rw [← z, nS] at e; cases e)).trans (kp' b o e)) ?_ hrow (Heap.get?_update_self _ hS' rfl) fun h'' v' k'' r'' => hR h'' v' k'' r''⟩
  obtain ⟨o, e, z⟩ := hit'; exact ⟨o, (Heap.get?_update_other _ _ Sit).trans e, z⟩
end

def rowD (r : List Str) : PyData := .list (r.map .str)
theorem row_rd {h : Heap} {v : Value} {r : List Str} (x : Row h v r) : Rd h v (rowD r) := by
  obtain ⟨a, us, rfl, hl, ht⟩ := x
  exact Rd.list' hl (texts_rd ht)
theorem rows_of {h : Heap} : ∀ {vs : List Value} {rows : List (List Str)}, RdL h vs (rows.map rowD) → Rows h vs rows
  | vs, [], r => by rw [r.nil_inv]; exact .nil
  | vs, r0 :: rows, r => by
    obtain ⟨v, ws, rfl, r1, r2⟩ := r.cons_inv
    obtain ⟨a, us, rfl, hl, rl⟩ := r1.list_inv'
    obtain ⟨l, e, e2⟩ := rdl_strs_inv rl
    exact .cons ⟨a, us, rfl, hl, l, e, e2⟩ (rows_of r2)
section
variable {a : Amb} {sc : Scope} {c : Cx sc} {ρ : Vars}

theorem Bi.minL {r0 : List Str} {rows : List (List Str)} (h0 : c.hq = none) : Bi a c (.builtin "min") [.list ((r0 :: rows).map rowD)] (rowD (minRow r0 rows)) := fun s E vs b t r => by
  obtain ⟨v, ws, rfl, r1, r2⟩ := r.cons_inv
  rw [r2.nil_inv]
  obtain ⟨l, us, rfl, hl, hx, rl⟩ := r1.list_inv
  have hname : (toString "min" ++ toString ".loop" : String) = "min.loop" := by decide
  refine call_function_tree PySem.F.kind_min PySem.F.plain_min PySem.F.entry_min (PySem.F.args_min1 _) ?_
  show wpAny _ c.A.in1 (Builtin.Builtins.bindParams "min" ["key", "default"] 0 ⟨[], []⟩ >>= _) _ _ s
  refine wpAny_bind (wpAny_of_eq (show Builtin.Builtins.bindParams "min" ["key", "default"] 0 ⟨[], []⟩ = pure [none, none] from rfl) ?_)
  refine wpAny_bind (wpAny_pure ?_)
  refine wpAny_bind (wpAny_pyIter_list hl ?_)
  refine wpAny_bind (wpAny_newObj_type ?_)
  rw [hname]
  have e1 : (s.heap.push { cls := .type "list_iterator", data := .fields #[.ref l, .int 0 0] }).objs.size = s.heap.objs.size + 1 := Heap.size_push ..
  refine wpAny_pure ⟨plainId_quiet PySem.F.plain_min_loop _, min_first (g := s.heap) (g' := vw c.X s.heap) (it := s.heap.objs.size) (vw_stays _ _) (c.h0 h0) (by have := c.units_lt; omega) hl (rows_of rl) (none_at _) (none_ge (by rw [e1]; exact Nat.le_succ _)) (by rw [e1]; exact Nat.succ_ne_self _)
    (fun b o e => Heap.get?_push_of_some _ (Heap.get?_push_of_some _ e)) ⟨_, Heap.get?_push_of_some _ (Heap.get?_push_size _ rfl), rfl, rfl⟩ (Heap.get?_push_size _ rfl) fun h' v k' rr => ?_⟩
  have kk : Kp c.fs s { s with heap := h' } := ⟨.ofStays k', rfl, rfl⟩
  exact ⟨⟨kk.heap, rfl, rfl⟩, (row_rd rr).of kk.heap.seqv⟩

theorem Bi.maxL {r0 : List Str} {rows : List (List Str)} (h0 : c.hq = none) : Bi a c (.builtin "max") [.list ((r0 :: rows).map rowD)] (rowD (maxRow r0 rows)) := fun s E vs b t r => by
  obtain ⟨v, ws, rfl, r1, r2⟩ := r.cons_inv
  rw [r2.nil_inv]
  obtain ⟨l, us, rfl, hl, hx, rl⟩ := r1.list_inv
  have hname : (toString "max" ++ toString ".loop" : String) = "max.loop" := by decide
  refine call_function_tree PySem.F.kind_max PySem.F.plain_max PySem.F.entry_max (PySem.F.args_max1 _) ?_
  show wpAny _ c.A.in1 (Builtin.Builtins.bindParams "max" ["key", "default"] 0 ⟨[], []⟩ >>= _) _ _ s
  refine wpAny_bind (wpAny_of_eq (show Builtin.Builtins.bindParams "max" ["key", "default"] 0 ⟨[], []⟩ = pure [none, none] from rfl) ?_)
  refine wpAny_bind (wpAny_pure ?_)
  refine wpAny_bind (wpAny_pyIter_list hl ?_)
  refine wpAny_bind (wpAny_newObj_type ?_)
  rw [hname]
  have e1 : (s.heap.push { cls := .type "list_iterator", data := .fields #[.ref l, .int 0 0] }).objs.size = s.heap.objs.size + 1 := Heap.size_push ..
  refine wpAny_pure ⟨plainId_quiet PySem.F.plain_max_loop _, max_first (g := s.heap) (g' := vw c.X s.heap) (it := s.heap.objs.size) (vw_stays _ _) (c.h0 h0) (by have := c.units_lt; omega) hl (rows_of rl) (none_at _) (none_ge (by rw [e1]; exact Nat.le_succ _)) (by rw [e1]; exact Nat.succ_ne_self _)
    (fun b o e => Heap.get?_push_of_some _ (Heap.get?_push_of_some _ e)) ⟨_, Heap.get?_push_of_some _ (Heap.get?_push_size _ rfl), rfl, rfl⟩ (Heap.get?_push_size _ rfl) fun h' v k' rr => ?_⟩
  have kk : Kp c.fs s { s with heap := h' } := ⟨.ofStays k', rfl, rfl⟩
  exact ⟨⟨kk.heap, rfl, rfl⟩, (row_rd rr).of kk.heap.seqv⟩
end
end Mine

end
section
open PySem PySem.Builtin PySem.W PyProof.Rows PySem.Calls PySem.Spec
set_option Elab.async false
set_option linter.unusedVariables false
set_option maxRecDepth 100000
namespace Mine
section
variable {prog : Program} {w : World} {A : Around} {E : Value → Shared → Prop} {s : Shared}
def bI (b : Bool) : Int := if b then 1 else 0
theorem typeIs_bool' (s : Shared) (b : Bool) : s.TypeIs (.bool b) "bool" := rfl
theorem hash_bool {b : Bool} {Q : Int → Shared → Prop} (h : Q (hashInt (bI b)) { s with toks := s.toks + 1 }) : wpAny (model prog w) A (pyHash (.bool b)) Q E s := by
  have hr := rawHash_range (bI b)
  unfold pyHash
  have hv : [Value.bool b].any Value.onHeap = false := rfl
  refine wpAny_bind ?_
  rw [cRoomFor, if_neg (by rw [hv]; exact Bool.false_ne_true)]; refine wpAny_pure ?_
  refine wpAny_bind (wpAny_specialOf (typeIs_bool' s b) PySem.F.slot_bool_hash.lookup ?_)
  show wpAny _ _ (if (some (Value.builtin "int.__hash__") == some Value.none) = true then _ else _) Q E s
  rw [if_neg (by rw [beq_builtin_none]; exact Bool.false_ne_true)]
  refine wpAny_bind (wpAny_specialOf (typeIs_bool' s b) PySem.F.slot_bool_hash.lookup ?_)
  show wpAny _ _ (callSpecialIfBoundUnlessNone? (.bool b) "__hash__" _ >>= _) Q E s
  refine wpAny_bind (wpAny_callSpecialIfBoundUnlessNone?_slot (typeIs_bool' s b) PySem.F.slot_bool_hash
    (wpAny_call_entry PySem.F.slot_bool_hash (typeIs_bool' s b) entry_int_hash
      (show wpAny _ _ (do ret (← mkInt (rawHash (bI b)))) _ _ s from wpAny_ret_mkInt ?_) (args_int_hash _)))
  show wpAny _ _ (if (decide (-(2 : Int) ^ 63 ≤ rawHash (bI b)) && decide (rawHash (bI b) < 2 ^ 63)) = true then _ else _) Q E _
  rw [if_pos (by rw [decide_eq_true hr.1, decide_eq_true hr.2]; rfl)]
  exact wpAny_pure h

theorem eq_bool_bool {a b : Bool} {Q : Bool → Shared → Prop} (h : Q (decide (a = b)) s) : wpAny (model prog w) A (eqBool (.bool a) (.bool b)) Q E s := by
  unfold eqBool
  refine wpAny_holding ?_
  cases a <;> cases b
  · rw [if_pos (by rfl)]; exact wpAny_bind (wpAny_rule (wpAny_pure (by simpa using h)))
  · rw [if_neg (by decide)]
    refine wpAny_bind (wpAny_richCompare_same (op := .Eq) (T := "bool") (typeIs_bool' s _) (typeIs_bool' s _) PySem.F.slot_bool_eq (wpAny_call_entry PySem.F.slot_bool_eq (typeIs_bool' s _) entry_int_eq (show wpAny _ _ (ret (.bool false)) _ _ s from wpAny_pure ⟨_, rfl, by simp, wpAny_truthy_bool (by simpa using h)⟩) (args_int_eq _ _)))
  · rw [if_neg (by decide)]
    refine wpAny_bind (wpAny_richCompare_same (op := .Eq) (T := "bool") (typeIs_bool' s _) (typeIs_bool' s _) PySem.F.slot_bool_eq (wpAny_call_entry PySem.F.slot_bool_eq (typeIs_bool' s _) entry_int_eq (show wpAny _ _ (ret (.bool false)) _ _ s from wpAny_pure ⟨_, rfl, by simp, wpAny_truthy_bool (by simpa using h)⟩) (args_int_eq _ _)))
  · rw [if_pos (by rfl)]; exact wpAny_bind (wpAny_rule (wpAny_pure (by simpa using h)))
end

def isB : Bool → Value → Bool
  | b, .bool c => b == c
  | _, _ => false
theorem isB_shape {b : Bool} {v : Value} (h : isB b v = true) : v = .bool b := by
  cases v <;> simp_all [isB]
def boolKind (prog : Program) (w : World) : KeyKind prog w Bool where
  is := isB
  hash := fun b => hashInt (bI b)
  inj := fun v a b ha hb => by rw [isB_shape ha] at hb; (have := isB_shape hb; injection this)
  byValue := fun k v h => by rw [isB_shape h]; rfl
  pyHash := (fun hv h => by rw [isB_shape hv]; exact hash_bool h)
  eqBool := (fun hu hv h => by rw [isB_shape hu, isB_shape hv]; exact eq_bool_bool h)
  «strs» := (fun k x t v h => by simp [isB] at h)
end Mine

end
section
open PySem PySem.Builtin PySem.W PyProof.Rows PySem.Calls PySem.Spec
set_option Elab.async false
set_option linter.unusedVariables false
set_option maxRecDepth 100000
namespace Mine
def bes (f t : Bool) : Array (Int × Value) := ((if f then [((0 : Int), Value.bool false)] else []) ++ (if t then [((1 : Int), Value.bool true)] else [])).toArray
def bplace (f t : Bool) : Array Nat := ((if f then [0] else []) ++ (if t then [1] else [])).toArray
def btab (led f t : Bool) : SetTable := { mask := 7, place := bplace f t, dummies := #[], finger := 0, led := led, moves := 0, plain := true }
/-- a set of truths -/
def BSet (h : Heap) (D : Addr) (led f t : Bool) : Prop := ∃ ep, h.get? D = some { cls := .type "set", dict := none, data := .set (bes f t) ep (btab led f t), slots := #[] }
theorem BSet.type {s : Shared} {D : Addr} {led f t : Bool} (x : BSet s.heap D led f t) : s.TypeIs (.ref D) "set" := let ⟨ep, e⟩ := x; ⟨_, e, rfl⟩
theorem hash_bI (b : Bool) : hashInt (bI b) = bI b := by cases b <;> decide +kernel
theorem btab_fits (led f t : Bool) : (btab led f t).fits (bes f t).size = true := by cases led <;> cases f <;> cases t <;> decide +kernel
theorem bes_elems (prog : Program) (w : World) (f t : Bool) : ElemsOf (boolKind prog w) (bes f t).toList := by
  intro e he
  have : e = (0, .bool false) ∨ e = (1, .bool true) := by
    cases f <;> cases t <;> simp [bes] at he <;> first | exact .inl he | exact .inr he | exact he
  rcases this with rfl | rfl
  · exact ⟨⟨false, rfl, (hash_bI false).symm⟩, rfl⟩
  · exact ⟨⟨true, rfl, (hash_bI true).symm⟩, rfl⟩
theorem layNew_b (led f t b : Bool) (hf : b = false → f = false) (ht : b = true → t = false) : layNew (btab led f t) (bes f t) (bI b) (.bool b) = (bes (f || !b) (t || b), btab led (f || !b) (t || b), false, false) := by
  cases b
  · rw [hf rfl]; cases led <;> cases t <;> kernel_rfl
  · rw [ht rfl]; cases led <;> cases f <;> kernel_rfl
theorem btab_room (led f t : Bool) : (btab led f t).tooFull = false := by cases led <;> cases f <;> cases t <;> decide +kernel
section
variable {prog : Program} {w : World} {A : Around} {E : Value → Shared → Prop} {s : Shared} {D : Addr} {led f t : Bool}
theorem bset_scan {b : Bool} {ep : Nat} {adding : Bool} {Q : ScanMet → Shared → Prop} (he : s.heap.get? D = some { cls := .type "set", dict := none, data := .set (bes f t) ep (btab led f t), slots := #[] })
    (h1 : (if b then t else f) = true → ∀ j, Q (.found j) s) (h2 : (if b then t else f) = false → Q .absent s) : wpAny (model prog w) A (setScan D (.bool b) (bI b) adding (bes f t)) Q E s := by
  have := wpAny_setScan_of (E := E) (A := A) (s := s) (knd := boolKind prog w) (k := b) (x := .bool b) (adding := adding) (Q := Q) (by cases b <;> rfl) he rfl (btab_fits led f t) (bes_elems prog w f t)
  rw [show (boolKind prog w).hash b = bI b from hash_bI b] at this
  refine this ?_
  have key : (List.findIdx? (fun e => (boolKind prog w).is b e.2) (bes f t).toList).isSome = (if b then t else f) := by cases b <;> cases f <;> cases t <;> rfl
  cases q : List.findIdx? (fun e => (boolKind prog w).is b e.2) (bes f t).toList with
  | some j => exact h1 (by rw [← key, q]; rfl) _
  | none => exact h2 (by rw [← key, q]; rfl)
theorem bset_add {b : Bool} {Q : Value → Shared → Prop} (x : BSet s.heap D led f t) (h : ∀ h', Heap.SameBut D s.heap h' → BSet h' D led (f || !b) (t || b) → Q .none { s with heap := h', toks := s.toks + 1 }) :
    wpAny (model prog w) A (call (.builtin "set.add") [.ref D, .bool b]) Q E s := by
  obtain ⟨ep, he⟩ := id x
  refine wpAny_call_entry F.slot_set_add x.type F.entry_set_add ?_ (F.args_set_add_2 _ _)
  unfold Builtin.«set.add» Builtin.Frozenset.oneOther
  simp only [List.isEmpty_nil, bind_assoc]
  unfold Builtin.Frozenset.addrOf setAdd
  refine wpAny_bind (wpAny_pure ?_)
  refine wpAny_bind (wpAny_pure ?_)
  refine wpAny_bind ?_
  refine wpAny_holding ?_
  refine wpAny_bind (hash_bool ?_)
  rw [hash_bI]
  unfold setAddHashed setAddHashedIn
  refine wpAny_holding (wpAny_bind (wpAny_setState_of (s := { s with toks := s.toks + 1 }) he rfl (btab_fits led f t) ?_))
  dsimp only
  rw [show byScan (.bool b) (bes f t) = true from by cases b <;> cases f <;> cases t <;> decide +kernel]
  simp only [if_true]
  unfold setAddByScan
  refine wpAny_bind ?_
  refine wpAny_bind (wpAny_rule ?_)
  refine wpAny_bind (bset_scan (s := { s with toks := s.toks + 1 }) he (fun hin j => ?_) fun hout => ?_)
  · refine wpAny_pure (wpAny_pure ?_)
    show wpAny _ _ (ret Value.none) _ _ _
    refine wpAny_pure ⟨_, rfl, ?_⟩
    have := h s.heap (Heap.SameBut.refl D s.heap)
    refine this ?_
    have e1 : (f || !b) = f := by cases b <;> simp_all
    have e2 : (t || b) = t := by cases b <;> simp_all
    rw [e1, e2]; exact x
  · dsimp only
    rw [layNew_b led f t b (by rintro rfl; simpa using hout) (by rintro rfl; simpa using hout)]
    dsimp only
    refine wpAny_bind (show wpAny _ _ (pure ()) _ _ _ from wpAny_pure ?_)
    rw [if_pos (show (btab led (f || !b) (t || b)).plain = true from rfl)]
    refine wpAny_bind ?_
    rw [hashByValue_scannable 8 (show (Value.bool b).scannable = true from rfl)]
    refine wpAny_pure ?_
    rw [show plainKind (.bool b) = true from rfl]
    simp only [if_true]
    refine wpAny_bind (wpAny_storeSet_of (s := { s with toks := s.toks + 1 }) he rfl ?_ (by cases f <;> cases t <;> cases b <;> decide +kernel))
    rw [btab_room]
    simp only [Bool.and_false, Bool.false_eq_true, if_false]
    refine wpAny_pure (wpAny_pure ?_)
    show wpAny _ _ (ret Value.none) _ _ _
    refine wpAny_pure ⟨_, rfl, ?_⟩
    refine h _ (Heap.SameBut.update ..) ⟨ep + 1, ?_⟩
    have := Heap.get?_update_self (Obj.putSet (bes (f || !b) (t || b)) (btab led (f || !b) (t || b))) he (by rw [putSet_of _ _ rfl]; rfl)
    rw [putSet_of _ _ rfl] at this
    exact this
end
end Mine

end
section
open PySem PySem.Builtin PySem.W PyProof.Rows PySem.Calls PySem.Spec
set_option Elab.async false
set_option linter.unusedVariables false
set_option maxRecDepth 100000
namespace Mine
namespace St1
theorem entry_set_iter : entryFor table "set.__iter__" = some Builtin.«frozenset.__iter__» :=
  entryFor_alias (id' := "frozenset.__iter__") (by kernel_rfl) rfl (by decide +kernel) (by kernel_rfl)
theorem slot_next : Slot "set_iterator" "__next__" "set_iterator.__next__" := .of (owner := "set_iterator") (n := "__next__") (by rw [typeLookup_type, builtinLookup_eq_fast]; kernel_rfl) (by decide +kernel) (by decide +kernel) (by decide +kernel)
    (by first | exact .inl (by decide +kernel) | exact .inr (by decide +kernel)) (by rw [isSubtype_type]; kernel_rfl)
theorem entry_next : entryFor table "set_iterator.__next__" = some Builtin.«set_iterator.__next__» := entryFor_of_tree (by kernel_rfl)
theorem args_next (a : Value) : argsOk "set_iterator.__next__" ⟨[a], []⟩ := by unfold argsOk; kernel_rfl
end St1
def setIt (D : Addr) (p i n : Int) (ep : Nat) : Obj := { cls := .type "set_iterator", data := .fields #[rawInt p, rawInt i, .ref D, rawInt n, rawInt ep] }
section
variable {prog : Program} {w : World} {A : Around} {E : Value → Shared → Prop} {s : Shared} {D : Addr} {led f t : Bool}

theorem stop_raised {α : Type} {Q : α → Shared → Prop} (hh : A.handled = none) (h : ∀ h' e o, s.heap.StaysIn h' → h'.get? e = some o → o.cls = .type "StopIteration" → E (.ref e) { s with heap := h' }) :
    wpAny (model prog w) A (newExc (.type "StopIteration") [] >>= fun x => (raiseNew x : Sem α)) Q E s := by
  refine wpAny_bind ?_
  simp only [newExc, newTuple]
  refine wpAny_bind (wpAny_newObj_type ?_ (by size_fits))
  refine wpAny_bind (m := firstArgMember _ _) (wpAny_of_eq (a := Value.none) (by first | rfl | (simp only [firstArgMember]; rfl)) ?_)
  refine wpAny_newObj_type ?_ (by size_fits)
  exact wpAny_raiseNew_none hh (h _ _ _ (fun b o e => Heap.get?_push_of_some _ (Heap.get?_push_of_some _ e)) (Heap.get?_push_size _ rfl) rfl)

theorem set_iter {ep : Nat} {Q : Value → Shared → Prop} (he : s.heap.get? D = some { cls := .type "set", dict := none, data := .set (bes f t) ep (btab led f t), slots := #[] })
    (h : Q (.ref s.heap.objs.size) { s with heap := s.heap.push (setIt D 0 0 (bes f t).size ep) }) : wpAny (model prog w) A (pyIter (.ref D)) Q E s := by
  have ht : s.TypeIs (.ref D) "set" := ⟨_, he, rfl⟩
  refine wpAny_pyIter_slot ht F.slot_set_iter (wpAny_call_entry F.slot_set_iter ht St1.entry_set_iter ?_ (F.args_set_iter_1 _))
  unfold Builtin.«frozenset.__iter__»
  refine wpAny_bind (m := Builtin.Frozenset.slot0 "__iter__" _) (wpAny_bind (m := slotArgs "__iter__" 0 _) (wpAny_pure (wpAny_pure ?_)))
  refine wpAny_bind (m := Builtin.Frozenset.sizeOf D) (wpAny_bind (wpAny_setEntries_of he rfl (btab_fits led f t) (wpAny_pure ?_)))
  refine wpAny_bind (m := setDrawn D) (wpAny_bind (wpAny_setState_of he rfl (btab_fits led f t) ?_))
  dsimp only
  unfold setsByText
  refine wpAny_bind (wpAny_bind (wpAny_askSetting (wpAny_pure (wpAny_pure ?_))))
  show wpAny _ _ (if (!(model prog w).w.params.followText "set-order" && (!true && decide ((bes f t).size > 1))) = true then _ else _) _ _ _
  rw [show (!true && decide ((bes f t).size > 1)) = false from rfl, Bool.and_false, if_neg Bool.false_ne_true]
  refine wpAny_bind (wpAny_pure ?_)
  refine wpAny_bind (m := setEpoch D) (wpAny_bind (wpAny_setState_of he rfl (btab_fits led f t) (wpAny_pure ?_)))
  unfold newFields
  refine wpAny_bind (wpAny_newObj_type ?_ (by size_fits))
  refine wpAny_pure ⟨_, rfl, "set_iterator", _, ⟨_, Heap.get?_push_size _ rfl, rfl⟩, St1.slot_next.lookup, ?_⟩
  exact h

/-- what an iterator over a set of truths finds next -/
def nextOf (w : World) (D ep : Nat) (f t : Bool) (slot given : Nat) : Option (Value × Nat) :=
  if w.params.followText "set-order" = true then ((pickOrder (w.params.setOrder D ep) (bes f t))[given]?).map fun e => (e.2, slot)
  else match (bes f t)[SetTable.below (bplace f t) slot]?, (bplace f t)[SetTable.below (bplace f t) slot]? with
    | some (_, x), some j => some (x, j + 1)
    | _, _ => none
theorem next_eval {ep slot given : Nat} {Q : Option (Value × Nat) → Shared → Prop} (hled : led = !w.params.followText "set-order") (he : s.heap.get? D = some { cls := .type "set", dict := none, data := .set (bes f t) ep (btab led f t), slots := #[] })
    (h : Q (nextOf w D ep f t slot given) s) : wpAny (model prog w) A (setNext D slot given ep) Q E s := by
  unfold setNext
  refine wpAny_bind (wpAny_setState_of he rfl (btab_fits led f t) ?_)
  dsimp only
  unfold setsByText
  refine wpAny_bind (wpAny_bind (wpAny_askSetting (wpAny_pure ?_)))
  show wpAny _ _ (if w.params.followText "set-order" = true then _ else _) _ _ _
  unfold nextOf at h
  by_cases hq : w.params.followText "set-order" = true
  · rw [if_pos hq] at h
    rw [if_pos hq, if_neg (by simp)]
    unfold setWalk
    refine wpAny_bind (wpAny_bind (wpAny_setState_of he rfl (btab_fits led f t) ?_))
    dsimp only
    unfold setsByText
    refine wpAny_bind (wpAny_bind (wpAny_askSetting (wpAny_pure ?_)))
    show wpAny _ _ (if w.params.followText "set-order" = true then _ else _) _ _ _
    rw [if_pos hq]
    refine wpAny_bind (wpAny_askSetting (wpAny_pure (wpAny_pure ?_)))
    exact h
  · rw [if_neg hq] at h
    rw [if_neg hq]
    have hl : led = true := by rw [hled]; simpa using hq
    subst hl
    refine wpAny_of_eq ?_ h
    cases f <;> cases t <;> rfl

theorem nextOf_one {ep : Nat} (t : Bool) : ∃ p, nextOf w D ep (!t) t 0 0 = some (.bool t, p) ∧ nextOf w D ep (!t) t p 1 = none := by
  unfold nextOf
  by_cases hq : w.params.followText "set-order" = true
  · simp only [hq, if_true]
    refine ⟨0, ?_, ?_⟩
    · cases t <;> simp [pickOrder, pickOrder.go, bes, Nat.mod_one]
    · cases t <;> simp [pickOrder, pickOrder.go, bes, Nat.mod_one]
  · simp only [if_neg hq]
    cases t
    · exact ⟨1, by rfl, by rfl⟩
    · exact ⟨2, by rfl, by rfl⟩
theorem nextOf_two {ep : Nat} : ∃ v p x, nextOf w D ep true true 0 0 = some (v, p) ∧ nextOf w D ep true true p 1 = some x := by
  unfold nextOf
  by_cases hq : w.params.followText "set-order" = true
  · simp only [hq, if_true]
    have h0 : ((w.params.setOrder D ep) 0 % 2 = 0) ∨ ((w.params.setOrder D ep) 0 % 2 = 1) := by omega
    rcases h0 with h0 | h0
    · refine ⟨.bool false, 0, (.bool true, 0), ?_, ?_⟩ <;> simp [pickOrder, pickOrder.go, bes, Nat.mod_one, h0]
    · refine ⟨.bool true, 0, (.bool false, 0), ?_, ?_⟩ <;> simp [pickOrder, pickOrder.go, bes, Nat.mod_one, h0]
  · simp only [if_neg hq]
    exact ⟨_, _, _, by rfl, by rfl⟩

theorem it_next {ep p i : Nat} {I : Addr} {x : Value × Nat} {Q : Option Value → Shared → Prop} (hled : led = !w.params.followText "set-order") (he : s.heap.get? D = some { cls := .type "set", dict := none, data := .set (bes f t) ep (btab led f t), slots := #[] })
    (hi : s.heap.get? I = some (setIt D p i (bes f t).size ep)) (hx : nextOf w D ep f t p i = some x) (h : ∀ h', h'.get? I = some (setIt D x.2 ((i : Int) + 1) (bes f t).size ep) → (∀ b o, b ≠ I → s.heap.get? b = some o → h'.get? b = some o) → Q (some x.1) { s with heap := h' }) :
    wpAny (model prog w) A (pyNext (.ref I)) Q E s := by
  have ht : s.TypeIs (.ref I) "set_iterator" := ⟨_, hi, rfl⟩
  unfold pyNext
  refine wpAny_bind (wpAny_attempt (wpAny_callSpecial?_slot (name := Str.ofString "__next__") ht St1.slot_next (wpAny_call_entry St1.slot_next ht St1.entry_next ?_ (St1.args_next _))))
  unfold Builtin.«set_iterator.__next__»
  refine wpAny_bind (m := slotArgs "__next__" 0 _) (wpAny_pure ?_)
  refine wpAny_bind (wpAny_fieldsOf hi rfl ?_)
  show wpAny _ _ (setEntries D >>= _) _ _ _
  refine wpAny_bind (wpAny_setEntries_of he rfl (btab_fits led f t) ?_)
  rw [if_neg (by simp)]
  show wpAny _ _ (setNext D (Int.toNat p) (Int.toNat i) (Int.toNat ep) >>= _) _ _ _
  refine wpAny_bind (next_eval hled he ?_)
  simp only [Int.toNat_natCast]
  rw [hx]
  obtain ⟨v, q⟩ := x
  dsimp only
  refine wpAny_bind (wpAny_setField hi rfl (by simp) ?_)
  have h1 := Heap.get?_update_self (Obj.mapFields (·.setIfInBounds 0 (rawInt q))) hi (Obj.isFreed_of_fields (Obj.data_mapFields (o := setIt D p i (bes f t).size ep) rfl _))
  refine wpAny_bind (wpAny_setField (s := { s with heap := _ }) h1 rfl (by simp) ?_)
  have h2 := Heap.get?_update_self (Obj.mapFields (·.setIfInBounds 1 (rawInt ((i : Int) + 1)))) h1 (by rfl)
  refine wpAny_pure ⟨_, rfl, wpAny_pure (h _ h2 fun b o nb e => ?_)⟩
  exact (Heap.get?_update_other _ _ (Ne.symm nb)).trans ((Heap.get?_update_other _ _ (Ne.symm nb)).trans e)

theorem it_end {ep p i : Nat} {I : Addr} {Q : Option Value → Shared → Prop} (hh : A.handled = none) (hled : led = !w.params.followText "set-order") (he : s.heap.get? D = some { cls := .type "set", dict := none, data := .set (bes f t) ep (btab led f t), slots := #[] })
    (hi : s.heap.get? I = some (setIt D p i (bes f t).size ep)) (hx : nextOf w D ep f t p i = none) (h : ∀ h', (∀ b o, b ≠ I → s.heap.get? b = some o → h'.get? b = some o) → Q none { s with heap := h' }) :
    wpAny (model prog w) A (pyNext (.ref I)) Q E s := by
  have ht : s.TypeIs (.ref I) "set_iterator" := ⟨_, hi, rfl⟩
  unfold pyNext
  refine wpAny_bind (wpAny_attempt (wpAny_callSpecial?_slot (name := Str.ofString "__next__") ht St1.slot_next (wpAny_call_entry St1.slot_next ht St1.entry_next ?_ (St1.args_next _))))
  unfold Builtin.«set_iterator.__next__»
  refine wpAny_bind (m := slotArgs "__next__" 0 _) (wpAny_pure ?_)
  refine wpAny_bind (wpAny_fieldsOf hi rfl ?_)
  show wpAny _ _ (setEntries D >>= _) _ _ _
  refine wpAny_bind (wpAny_setEntries_of he rfl (btab_fits led f t) ?_)
  rw [if_neg (by simp)]
  show wpAny _ _ (setNext D (Int.toNat p) (Int.toNat i) (Int.toNat ep) >>= _) _ _ _
  refine wpAny_bind (next_eval hled he ?_)
  simp only [Int.toNat_natCast]
  rw [hx]
  dsimp only
  refine wpAny_bind (wpAny_setField hi rfl (by simp) ?_)
  refine stop_raised (A := A.in1) hh fun h' e o hs he' hc => ?_
  refine wpAny_bind (wpAny_isInstance (T := "StopIteration") (b := true) ⟨o, he', hc⟩ isSubtype_stop ?_)
  exact wpAny_pure (h _ fun b o nb e => hs b o ((Heap.get?_update_other _ _ (Ne.symm nb)).trans e))

theorem head_draw {v : Value} {rest : List Value} {it : Value} {Q : List Value → Shared → Prop} (h : wpAny (model prog w) A (pyNext it) (fun r s' => r = some v ∧ Q [v] s') E s) : wpAny (model prog w) A (draw it 1) Q E s := by
  unfold draw
  refine wpAny_bind (wpAny_mono h (fun r s' ⟨e, q⟩ => ?_) fun _ _ x => x)
  subst e
  dsimp only
  unfold draw
  exact wpAny_bind (wpAny_holding (wpAny_pure (wpAny_pure q)))
theorem iterable_set {Q : Bool → Shared → Prop} (ht : s.TypeIs (.ref D) "set") (h : Q false s) : wpAny (model prog w) A (notIterableAtAll (.ref D)) Q E s := by
  unfold notIterableAtAll
  refine wpAny_bind (wpAny_specialOf ht F.slot_set_iter.lookup ?_)
  exact wpAny_pure h
theorem unpack_one {b : Bool} {Q : List Value → Shared → Prop} (hh : A.handled = none) (hled : led = !w.params.followText "set-order") (x : BSet s.heap D led (!b) b) (h : ∀ h', s.heap.StaysIn h' → Q [.bool b] { s with heap := h' }) :
    wpAny (model prog w) A (unpackItems (.ref D) 1 none) Q E s := by
  obtain ⟨ep, he⟩ := id x
  unfold unpackItems
  refine wpAny_bind (iterable_set x.type ?_)
  rw [if_neg Bool.false_ne_true]
  refine wpAny_bind (wpAny_holding (set_iter he ?_))
  dsimp only
  obtain ⟨p, n1, n2⟩ := nextOf_one (w := w) (D := D) (ep := ep) b
  have nI : D ≠ s.heap.objs.size := fun z => by have := Heap.lt_size he; rw [← z] at this; exact Nat.lt_irrefl _ this
  refine wpAny_bind (wpAny_holding (head_draw (v := .bool b) (rest := []) (it_next (p := 0) (i := 0) hled (Heap.get?_push_of_some _ he) (Heap.get?_push_size _ rfl) n1 fun h1 hI hk => ⟨rfl, ?_⟩)))
  rw [if_neg (by simp)]
  have he1 := hk D _ nI (Heap.get?_push_of_some (setIt D 0 0 (bes (!b) b).size ep) he)
  refine wpAny_bind (wpAny_holding (it_end (s := { s with heap := h1 }) (i := 1) hh hled he1 hI n2 fun h2 hk2 => ?_))
  rw [if_neg (by simp)]
  refine wpAny_pure (h _ fun c o e => ?_)
  have nc : c ≠ s.heap.objs.size := Nat.ne_of_lt (Heap.lt_size e)
  exact hk2 c o nc (hk c o nc (Heap.get?_push_of_some _ e))
theorem unpack_two {Q : List Value → Shared → Prop} (hh : A.handled = none) (hled : led = !w.params.followText "set-order") (x : BSet s.heap D led true true)
    (h : ∀ h' e tk, s.heap.StaysIn h' → Xc s.heap h' e (.type "ValueError") (fun _ => True) .none none → E (.ref e) { s with heap := h', toks := tk }) :
    wpAny (model prog w) A (unpackItems (.ref D) 1 none) Q E s := by
  obtain ⟨ep, he⟩ := id x
  unfold unpackItems
  refine wpAny_bind (iterable_set x.type ?_)
  rw [if_neg Bool.false_ne_true]
  refine wpAny_bind (wpAny_holding (set_iter he ?_))
  dsimp only
  obtain ⟨v, p, y, n1, n2⟩ := nextOf_two (w := w) (D := D) (ep := ep)
  have nI : D ≠ s.heap.objs.size := fun z => by have := Heap.lt_size he; rw [← z] at this; exact Nat.lt_irrefl _ this
  refine wpAny_bind (wpAny_holding (head_draw (v := v) (rest := []) (it_next (p := 0) (i := 0) hled (Heap.get?_push_of_some _ he) (Heap.get?_push_size _ rfl) n1 fun h1 hI hk => ⟨rfl, ?_⟩)))
  rw [if_neg (by simp)]
  have he1 := hk D _ nI (Heap.get?_push_of_some (setIt D 0 0 (bes true true).size ep) he)
  refine wpAny_bind (wpAny_holding (it_next (s := { s with heap := h1 }) (i := 1) hled he1 hI n2 fun h2 hI2 hk2 => ?_))
  rw [if_pos (by rfl)]
  have st : s.heap.StaysIn h2 := fun c o e => by
    have nc : c ≠ s.heap.objs.size := Nat.ne_of_lt (Heap.lt_size e)
    exact hk2 c o nc (hk c o nc (Heap.get?_push_of_some _ e))
  refine wpAny_bind (wpAny_rule (wpAny_bind ?_))
  unfold raiseErrorMade
  refine wpAny_bind (wpAny_mkStr (wpAny_bind (wpAny_newExc_plain plainExc_ValueError (fun h' e hx => wpAny_raiseNew_none hh ?_))) ?_)
  · refine h _ _ _ (fun c o q => hx.keeps c o (st c o q)) ((Xc.made hx.of trivial).less fun c q => ?_)
    cases z : s.heap.get? c with
    | none => rfl
    | some o => rw [st c o z] at q; cases q
  · decide +kernel
end
end Mine

end
section
open PySem PySem.Builtin PySem.W PyProof.Rows PySem.Calls PySem.Spec
set_option Elab.async false
set_option linter.unusedVariables false
set_option maxRecDepth 100000
namespace Mine
theorem compTurn_set (elt target iter : Expr) (scope : Scope) (pos : Pos) (it acc : Value) (env : Env) :
    compTurn (.SetComp elt [⟨target, iter, [], 0⟩] scope pos) 0 it acc env = (standAt iter.pos >>= fun _ => pyNext it >>= fun r => match r with
      | none => pure (.done .next)
      | some v => letOwnedTupleGo target it v >>= fun _ => assign target env v >>= fun _ =>
        (eval elt env >>= fun x => standAt elt.pos >>= fun _ => call (.builtin "set.add") [acc, x] >>= fun _ => pure ()) >>= fun _ =>
          again (.compLoop (.SetComp elt [⟨target, iter, [], 0⟩] scope pos) 0 it acc env)) := by rfl
section
variable {prog : Program} {w : World} {A : Around} {E : Value → Shared → Prop} {s : Shared} {R : Result → Shared → Prop}
theorem codeAny_compStart_set {elt target iter ifs rest scope pos it acc env}
    (h0 : codeAny (model prog w) A (.compLoop (.SetComp elt (⟨target, iter, ifs, 0⟩ :: rest) scope pos) 0 it acc env) R s)
    (h : wpAny (model prog w) A (pyIter it) (fun it' s' => codeAny (model prog w) A (.compLoop (.SetComp elt (⟨target, iter, ifs, 0⟩ :: rest) scope pos) 0 it' acc env) R s')
      (notedBy (model prog w) A env fun x s' => R (.error x) s') s) :
    codeAny (model prog w) A (.compStart (.SetComp elt (⟨target, iter, ifs, 0⟩ :: rest) scope pos) 0 it acc env) R s := by
  refine codeAny_of_tree ?_
  show wpAny _ _ ((compStart (.SetComp elt (⟨target, iter, ifs, 0⟩ :: rest) scope pos) 0 it acc env).onRaise (fun x => do noteFrame x env; standAt theWindowsPlace)) _ _ s
  refine wpAny_notedAt ?_
  unfold compStart
  show wpAny _ _ (ask >>= _) _ _ s
  refine wpAny_bind (wpAny_askSetting (wpAny_ite ?_))
  split
  · exact wpAny_pure (And.intro rfl h0)
  · refine wpAny_bind (wpAny_rule ?_)
    show wpAny _ _ (standAt iter.pos >>= _) _ _ s
    exact wpAny_bind (wpAny_standAt (wpAny_bind (wpAny_mono h (fun it' s' h' => wpAny_pure (And.intro rfl h')) fun _ _ x => x)))
theorem newSet_b {Q : Value → Shared → Prop} (h : Q (.ref s.heap.objs.size) { s with heap := s.heap.push { cls := .type "set", dict := none, data := .set (bes false false) 0 (btab (!w.params.followText "set-order") false false) } }) : wpAny (model prog w) A (newSet (.type "set")) Q E s := by
  unfold newSet setsByText
  refine wpAny_bind (wpAny_bind (wpAny_askSetting (wpAny_pure ?_)))
  dsimp only
  simp only [newObj]
  exact wpAny_bind (wpAny_alloc (wpAny_pure h))
end
section
variable {a : Amb} {sc : Scope} {c : Cx sc} {ρ : Vars}
abbrev Amb.led (a : Amb) : Bool := !a.w.params.followText "set-order"
theorem any_take_succ {ds : List PyData} {i : Nat} {d : PyData} {p : PyData → Bool} (hd : ds[i]? = some d) : (ds.take (i + 1)).any p = ((ds.take i).any p || p d) := by
  rw [List.take_succ, hd]; simp
/-- the turns of a set comprehension over truths -/
theorem comp_loopS {elt iter tg : Expr} {scope : Scope} {pos : Pos} {C D it : Addr} {IS : Nat → Heap → Prop} {ds : List PyData} {g : PyData → Bool} {bs : PyData → Vars} {s1 s : Shared}
    {R : Result → Shared → Prop} {m : Str → Option Value} (hk : scope.kind = .function) (hf : ∀ x ∈ scope.names, x.2 = .free → (c.env.cells.lookup x.1).isSome = true) (hc : ∀ x ∈ scope.names, x.2 ≠ .cell)
    (S : St a c s1.heap ρ) (I₀ : Iter a c.A c.hq (vw c.X s1.heap) it ds IS) (hD : s1.heap.get? D = none) (hC : s1.heap.get? C = none) (hit : s1.heap.get? it = none) (hDC : D ≠ C) (hDit : D ≠ it) (hCit : C ≠ it)
    (hin : ∀ c' : Cx (relabelS scope sc), c'.n = c.n → c'.hq = c.hq → ∀ d ∈ ds, AsL a c' tg d (bs d) ∧ Ev a c' (bs d ++ capt scope sc ρ) elt (.bool (g d)))
    (k : Kp c.fs s1 s) (T : 0 < s.toks) (st : IS 0 s.heap) (hn : s.heap.Ns C m) (hl : BSet s.heap D a.led false false)
    (hR : ∀ s' m', Kp c.fs s1 s' → 0 < s'.toks → s'.heap.Ns C m' → BSet s'.heap D a.led (ds.any fun d => !g d) (ds.any g) → R (.ok .next) s') :
    codeAny a.M c.A (.compLoop (.SetComp elt [⟨tg, iter, [], 0⟩] scope pos) 0 (.ref it) (.ref D) (compEnvC scope (clo c.env scope.names []) C c.env)) R s := by
  refine codeAny_loop rfl (fun j s' => ∃ i m', i ≤ ds.length ∧ j = ds.length + 1 - i ∧ Kp c.fs s1 s' ∧ 0 < s'.toks ∧ IS i s'.heap ∧ s'.heap.Ns C m' ∧ BSet s'.heap D a.led ((ds.take i).any fun d => !g d) ((ds.take i).any g))
    ?_ (ds.length + 1) ⟨0, m, Nat.zero_le _, rfl, k, T, st, hn, by simpa using hl⟩
  rintro j s2 ⟨i, m', hi, rfl, k2, T2, st2, hn2, hl2⟩
  show wpAny _ c.A ((compTurn (.SetComp elt [⟨tg, iter, [], 0⟩] scope pos) 0 (.ref it) (.ref D) (compEnvC scope (clo c.env scope.names []) C c.env)).onRaise (fun x => do noteFrame x (compEnvC scope (clo c.env scope.names []) C c.env); theTreesLotGoes x)) _ _ s2
  refine wpAny_noted ?_
  rw [compTurn_set]
  refine wpAny_bind (wpAny_standAt (wpAny_bind ?_))
  have gk : GK (vw c.X s1.heap) s2.heap := (k2.heap.gk S.fr).vw
  obtain ⟨ep, hoD⟩ := id hl2
  obtain ⟨oC, esC, epC, hoC, hdC, _⟩ := id hn2
  by_cases hlt : i < ds.length
  · obtain ⟨d, hd⟩ : ∃ d, ds[i]? = some d := ⟨ds[i], by simp [hlt]⟩
    have hmem : d ∈ ds := List.mem_of_getElem? hd
    refine I₀.next' hd st2 gk T2 fun v s3 T3 rv st3 ext3 g3 o3 => ?_
    dsimp only
    refine wpAny_bind (I₀.own (i + 1) _ _ _ tg v st3 ?_)
    have k3 : Keep c.fs s1.heap s3.heap := k2.heap.ext ext3 hit
    have hn3 : s3.heap.Ns C m' := hn2.at' fun o e => ext3 C o hCit e
    have hD3 := ext3 D _ hDit hoD
    have hC3 := ext3 C oC hCit hoC
    obtain ⟨oi, vi, hoi2, hdi2⟩ := I₀.fld _ _ st2
    obtain ⟨oi, vi, hoi, hdi⟩ := I₀.fld _ _ st3
    let c' : Cx (relabelS scope sc) := compCx c scope C D hk hf
    have S3 : St a c' s3.heap (capt scope sc ρ) := compSt hc S k3 hn3 hD hC hD3
    obtain ⟨hAs, hEl⟩ := hin c' rfl rfl d hmem
    have rv3 : Rd (vw c'.X s3.heap) v d := rv.of (seq_new k3 hD)
    refine wpAny_bind (wpAny_mono (wpAny_toks_of (n := 1) T3 (hAs _ s3 _ v S3 T3 rv3)) (fun _ s4 ⟨T4, q4, S4⟩ => ?_) fun _ _ x => x.2)
    have k4 : Keep c.fs s1.heap s4.heap := KpL.from (c := c') k3 q4 hC
    have st4 : IS (i + 1) s4.heap := I₀.loc _ _ _ st3 fun o e => KpL.exact (c := c') q4 S3.fr e (Ne.symm hCit) fun es n z => by rw [hoi] at e; cases e; rw [hdi] at z; cases z
    have hD4 := KpL.exact (c := c') q4 S3.fr hD3 hDC fun es n z => by cases z
    obtain ⟨ml4, hn4, _⟩ := S4.loc
    refine wpAny_bind (wpAny_bind (hEl.then (c := c') S4 T4 fun y s6 q6 r6 S6 T6 => ?_))
    have k6 : Keep c.fs s1.heap s6.heap := k4.trans q6.heap
    obtain ⟨oi5, vi5, hoi5, hdi5⟩ := I₀.fld _ _ st4
    have st6 : IS (i + 1) s6.heap := I₀.loc _ _ _ st4 fun o e => q6.heap.exact S4.fr e fun es n z => by rw [hoi5] at e; cases e; rw [hdi5] at z; cases z
    have hD6 := q6.heap.exact S4.fr hD4 fun es n z => by cases z
    have hn6 := q6.heap.up.ns hn4
    have gen6 : s6.gens = s1.gens := q6.gens.trans (q4.gens.trans (g3.trans k2.gens))
    have os6 : s6.os = s1.os := q6.os.trans (q4.os.trans (o3.trans k2.os))
    rw [r6.bool_inv]
    refine wpAny_bind (wpAny_standAt ?_)
    refine wpAny_bind (wpAny_mono (wpAny_toks_of (n := 1) T6 (bset_add (Q := fun v s' => ∃ h', s'.heap = h' ∧ s'.gens = s6.gens ∧ s'.os = s6.os ∧ BSet h' D a.led (((ds.take i).any fun d => !g d) || !g d) (((ds.take i).any g) || g d) ∧ Heap.SameBut D s6.heap h') (E := fun _ _ => False) ⟨ep, hD6⟩ (fun h' hs' hl' => ⟨h', rfl, rfl, rfl, hl', hs'⟩))) (fun _ s7 ⟨T7, h7, e7, g7, o7, hl7, hs7⟩ => ?_) fun _ _ x => x.2.elim)
    subst e7
    have ext7 : ∀ b o, b ≠ D → s6.heap.get? b = some o → s7.heap.get? b = some o := fun b o nb e => (hs7.2 b nb).trans e
    refine wpAny_pure (wpAny_pure ⟨rfl, ds.length + 1 - (i + 1), by omega, i + 1, _, hlt, rfl, ⟨k6.ext ext7 hD, g7.trans gen6, o7.trans os6⟩, T7, I₀.loc _ _ _ st6 fun o e => ext7 it o (Ne.symm hDit) e,
        hn6.at' fun o e => ext7 C o (Ne.symm hDC) e, ?_⟩)
    rw [any_take_succ hd, any_take_succ hd]; exact hl7
  · have hie : i = ds.length := by omega
    subst hie
    refine I₀.done' st2 gk (fun e q => (S.hld e q).keep k2.heap S.fr) T2 fun s3 T3 ext3 g3 o3 => wpAny_pure ?_
    refine hR _ m' ⟨k2.heap.ext ext3 hit, g3.trans k2.gens, o3.trans k2.os⟩ T3 (hn2.at' fun o e => ext3 C o hCit e) ⟨ep, ?_⟩
    rw [List.take_length] at hoD
    exact ext3 D _ hDit hoD

/-- a set comprehension over truths -/
theorem eval_setComp {elt iter tg : Expr} {scope : Scope} {pos : Pos} {ds : List PyData} {g : PyData → Bool} {bs : PyData → Vars} {s : Shared} {Q : Value → Shared → Prop} {E : Value → Shared → Prop}
    (hi : EvI a c ρ iter ds) (hk : scope.kind = .function) (hc : ∀ x ∈ scope.names, x.2 ≠ .cell) (hfree : ∀ x ∈ scope.names, x.2 = .free → sc.names.lookup x.1 = some .cell)
    (hnames : ∀ x ∈ scope.names, x.2 = .local → scope.names.lookup x.1 = some .local) (hs : ∀ x, foldedSetIterable iter c.env x = pure x)
    (hin : ∀ c' : Cx (relabelS scope sc), c'.n = c.n → c'.hq = c.hq → ∀ d ∈ ds, AsL a c' tg d (bs d) ∧ Ev a c' (bs d ++ capt scope sc ρ) elt (.bool (g d)))
    (S : St a c s.heap ρ) (T : 0 < s.toks)
    (fin : ∀ s' D, Kp c.fs s s' → St a c s'.heap ρ → BSet s'.heap D a.led (ds.any fun d => !g d) (ds.any g) → Q (.ref D) s') :
    wpAny a.M c.A (eval (.SetComp elt [⟨tg, iter, [], 0⟩] scope pos) c.env) Q E s := by
  have hf : ∀ x ∈ scope.names, x.2 = .free → (c.env.cells.lookup x.1).isSome = true := fun x hx e => by
    obtain ⟨ad, v, e1, _⟩ := S.cel x.1 (hfree x hx e)
    rw [e1]; rfl
  show wpAny a.M c.A (comprehension (.SetComp elt [⟨tg, iter, [], 0⟩] scope pos) scope c.env _ (newSet (.type "set")) false (eval iter c.env) none) Q E s
  refine wpAny_comprehension_free (use := none) (g := ⟨tg, iter, [], 0⟩) (gs := []) rfl hs (closureFor_eq hf) hk hnames ?_
  refine hi.then S T fun x s1 q1 S1 T1 hit => hit _ _ fun it s2 IS T2 stay2 nit st2 I₀ g2 o2 => ?_
  refine newSet_b (wpAny_newFunctionEnv hc (by intro y hy; simp at hy) (fun h4 hns4 hsb4 => ?_) hk)
  dsimp only at hns4 hsb4 ⊢
  have hsz2 : (s2.heap.push { cls := .type "set", dict := none, data := .set (bes false false) 0 (btab a.led false false) }).objs.size = s2.heap.objs.size + 1 := Heap.size_push ..
  generalize hCC : (s2.heap.push { cls := .type "set", dict := none, data := .set (bes false false) 0 (btab a.led false false) }).objs.size = C at hns4 hsb4 hsz2 ⊢
  have stay4 : s2.heap.StaysIn h4 := fun b o e => by
    have hb := Heap.lt_size e
    refine hsb4.extBut b o (fun z => ?_) (Heap.get?_push_of_some _ (Heap.get?_push_of_some _ e))
    rw [z, hsz2] at hb; exact Nat.lt_irrefl _ (Nat.lt_of_succ_lt hb)
  have hDC : s2.heap.objs.size ≠ C := by rw [hsz2]; exact Nat.ne_of_lt (Nat.lt_succ_self _)
  have hD1 : s1.heap.get? s2.heap.objs.size = none := by
    cases q : s1.heap.get? s2.heap.objs.size with
    | none => rfl
    | some o => exact absurd (Heap.lt_size (stay2 _ o q)) (Nat.lt_irrefl _)
  have hC1 : s1.heap.get? C = none := by
    cases q : s1.heap.get? C with
    | none => rfl
    | some o => exact absurd (Heap.lt_size (stay2 _ o q)) (fun z => by rw [hsz2] at z; exact Nat.lt_irrefl _ (Nat.lt_of_succ_lt z))
  obtain ⟨oi, vi, hoi, hdi⟩ := I₀.fld _ _ st2
  have hlti : it < s2.heap.objs.size := Heap.lt_size hoi
  have hl4 : BSet h4 s2.heap.objs.size a.led false false := ⟨0, hsb4.extBut _ _ hDC (Heap.get?_push_of_some _ (Heap.get?_push_size _ rfl))⟩
  have k4 : Kp c.fs s1 { s2 with heap := h4, toks := s2.toks + ([] : List (Str × Value)).length } := ⟨.ofStays fun b o e => stay4 b o (stay2 b o e), g2, o2⟩
  have loop : codeAny a.M c.A (.compLoop (.SetComp elt [⟨tg, iter, [], 0⟩] scope pos) 0 (.ref it) (.ref s2.heap.objs.size) (compEnvC scope (clo c.env scope.names []) C c.env))
      (compPost a.M c.A E none Q (.ref s2.heap.objs.size) C) { s2 with heap := h4, toks := s2.toks + ([] : List (Str × Value)).length } := by
    refine comp_loopS hk hf hc S1 I₀ hD1 hC1 nit hDC (Nat.ne_of_gt hlti) (by rw [hsz2]; exact Nat.ne_of_gt (Nat.lt_succ_of_lt hlti)) hin k4 (Nat.lt_of_lt_of_le T2 (Nat.le_add_right _ _)) (I₀.loc _ _ _ st2 fun o e => stay4 it o e) hns4 hl4 fun s' m' k5 T5 hn5 hl5 => ?_
    obtain ⟨oC, es, ep, hoC, hdC, _⟩ := id hn5
    refine ⟨m', hn5, fun h' hs' => ?_⟩
    have ext : ∀ b o, b ≠ C → s'.heap.get? b = some o → h'.get? b = some o := fun b o nb e => (hs'.2 b nb).trans e
    obtain ⟨ep', eD⟩ := hl5
    have k6 : Kp c.fs s1 { s' with heap := h' } := ⟨k5.heap.ext ext hC1, k5.gens, k5.os⟩
    exact fin _ _ (q1.trans k6) (S1.keep k6.heap) ⟨ep', ext _ _ hDC eD⟩
  exact codeAny_compStart_set loop (I₀.self 0 _ _ _ (I₀.loc _ _ _ st2 fun o e => stay4 it o e) loop)

section
variable {elt iter tg : Expr} {scope : Scope} {pos spos tpos ipos : Pos} {k : Nat} {x : Str} {ds : List PyData} {g : PyData → Bool} {bs : PyData → Vars}
    (hi : EvI a c ρ iter ds) (hk : scope.kind = .function) (hc : ∀ x ∈ scope.names, x.2 ≠ .cell) (hfree : ∀ x ∈ scope.names, x.2 = .free → sc.names.lookup x.1 = some .cell)
    (hnames : ∀ x ∈ scope.names, x.2 = .local → scope.names.lookup x.1 = some .local) (hs : ∀ x, foldedSetIterable iter c.env x = pure x)
    (hin : ∀ c' : Cx (relabelS scope sc), c'.n = c.n → c'.hq = c.hq → ∀ d ∈ ds, AsL a c' tg d (bs d) ∧ Ev a c' (bs d ++ capt scope sc ρ) elt (.bool (g d)))
    (h0 : c.hq = none) (hx : sc.names.lookup x = some .local) (hsw : swapsWithSole [.Tuple [.Name x ipos] k tpos] (.SetComp elt [⟨tg, iter, [], 0⟩] scope pos) spos.line c.env = pure false)
include hi hk hc hfree hnames hs hin h0 hx hsw
theorem Exc.sole {b : Bool} (hb : ∀ d ∈ ds, g d = b) (hne : ds ≠ []) : Exc a c ρ (.Assign [.Tuple [.Name x ipos] k tpos] (.SetComp elt [⟨tg, iter, [], 0⟩] scope pos) spos) (.next ((x, .bool b) :: ρ)) := fun s E S T => by
  refine Assign_Tuple (eval_setComp hi hk hc hfree hnames hs hin S T fun s' D q' S' hD => ?_) hsw (by rfl)
  rw [arm_assign_Tuple]
  refine wpAny_bind (wpAny_standAt ?_)
  unfold unpack
  show wpAny _ _ (holding [.ref D] (unpackItems (.ref D) 1 none) >>= _) _ _ _
  obtain ⟨d0, r, rfl⟩ := List.exists_cons_of_ne_nil hne
  have e1 : ((d0 :: r).any fun d => !g d) = !b := by
    cases b with
    | true => simp only [Bool.not_true, List.any_eq_false]; intro d hd; rw [hb d hd]; decide
    | false => simp only [Bool.not_false, List.any_eq_true]; exact ⟨d0, List.mem_cons_self .., by rw [hb d0 (List.mem_cons_self ..)]; rfl⟩
  have e2 : ((d0 :: r).any g) = b := by
    cases b with
    | true => simp only [List.any_eq_true]; exact ⟨d0, List.mem_cons_self .., hb d0 (List.mem_cons_self ..)⟩
    | false => simp only [List.any_eq_false]; intro d hd; rw [hb d hd]; decide
  rw [e1, e2] at hD
  refine wpAny_bind (wpAny_holding (unpack_one (c.h0 h0) rfl hD fun h' st => ?_))
  show wpAny _ _ (do holding [] (assign (.Name x ipos) c.env (.bool b)); assignInOrder [] []) _ _ _
  have kk : Kp c.fs s' { s' with heap := h' } := ⟨.ofStays st, rfl, rfl⟩
  refine wpAny_bind (wpAny_holding (wpAny_assign_Name (store_local hx (S'.keep kk.heap) (.bool b) fun s3 q3 S3 => ?_)))
  exact wpAny_pure ⟨(q'.trans kk).x.trans q3, rfl, S3⟩
theorem Rzc.sole (h1 : ∃ d ∈ ds, g d = true) (h2 : ∃ d ∈ ds, g d = false) : Rzc a c ρ (.Assign [.Tuple [.Name x ipos] k tpos] (.SetComp elt [⟨tg, iter, [], 0⟩] scope pos) spos) (.type "ValueError") (fun _ => True) ρ := fun s E S T hE => by
  refine Assign_Tuple (wpAny_mono (wpAny_toks_of (n := 1) T (eval_setComp (Q := fun v s' => ∃ D, v = .ref D ∧ Kp c.fs s s' ∧ St a c s'.heap ρ ∧ BSet s'.heap D a.led (ds.any fun d => !g d) (ds.any g)) (E := fun _ _ => False) hi hk hc hfree hnames hs hin S T fun s' D q' S' hD => ⟨D, rfl, q', S', hD⟩)) (fun v s' ⟨T', D, ev, q', S', hD⟩ => ?_) fun _ _ z => z.2.elim) hsw (by rfl)
  subst ev
  rw [arm_assign_Tuple]
  refine wpAny_bind (wpAny_standAt ?_)
  unfold unpack
  show wpAny _ _ (holding [.ref D] (unpackItems (.ref D) 1 none) >>= _) _ _ _
  have e1 : (ds.any fun d => !g d) = true := by
    obtain ⟨d, m, q⟩ := h2
    simp only [List.any_eq_true]; exact ⟨d, m, by rw [q]; rfl⟩
  have e2 : ds.any g = true := by
    obtain ⟨d, m, q⟩ := h1
    simp only [List.any_eq_true]; exact ⟨d, m, q⟩
  rw [e1, e2] at hD
  refine wpAny_bind (wpAny_holding (wpAny_mono (wpAny_toks_of (n := 1) T' (unpack_two (Q := fun _ _ => False) (E := fun v s3 => ∃ e, v = .ref e ∧ Kp c.fs s' s3 ∧ Xc s'.heap s3.heap e (.type "ValueError") (fun _ => True) .none none) (c.h0 h0) rfl hD fun h' e tk st x => ⟨e, rfl, ⟨.ofStays st, rfl, rfl⟩, x⟩)) (fun _ _ z => z.2.elim) fun v s3 ⟨T3, e, ev, k3, x3⟩ => ?_))
  subst ev
  exact hE e s3 ⟨(q'.trans k3).x, S'.keep k3.heap, none, .inl rfl, x3.less (Kp.there (fs := []) q' S.fr)⟩ T3
end
end
end Mine

end
section
open PySem PySem.Builtin PySem.W PyProof.Rows PySem.Calls PySem.Spec
set_option Elab.async false
set_option linter.unusedVariables false
set_option maxRecDepth 100000
namespace Mine
section
variable {a : Amb} {sc : Scope} {c : Cx sc} {ρ : Vars}
theorem boot_enumerate : bootBuiltins "enumerate" = some (.type "enumerate") := by first | exact PyProof.Rows.Boot.«enumerate» | decide +kernel
theorem KeepF.but2 {g h h' : Heap} {fs : List Addr} {e it : Addr} {vs1 vs2 : Array Value} {o1 o2 : Obj} (k : ∀ b o, b ≠ e → b ≠ it → h.get? b = some o → h'.get? b = some o) (g1 : g.get? e = none) (g2 : g.get? it = none)
    (h1 : h.get? e = some o1) (d1 : o1.data = .fields vs1) (h2 : h.get? it = some o2) (d2 : o2.data = .fields vs2) : KeepF g fs h h' := fun b o eb cc => by
  have n1 : b ≠ e := fun z => by subst z; rw [h1] at eb; cases eb; exact cc.elim (fun q => q _ d1) (fun q => q g1)
  have n2 : b ≠ it := fun z => by subst z; rw [h2] at eb; cases eb; exact cc.elim (fun q => q _ d2) (fun q => q g2)
  exact ⟨fun _ => k b o n1 n2 eb, fun _ => ⟨o.slots, k b o n1 n2 eb⟩⟩
/-- a loop over an enumerate, left by a break or at its end -/
theorem Exc.forEnum {xi xc : Str} {pi pc pt p1 p2 pos : Pos} {kk : Nat} {lst : Expr} {xs : List PyData} {body : List Stmt} (ρs : Nat → Vars) (k : Nat) {ρe : Vars} (h0 : c.hq = none) (hen : nsIn a.K mainGlobals "enumerate" = some none)
    (hl : Ev a c ρ lst (.list xs)) (hρ : ρs 0 = ρ) (hxi : sc.names.lookup xi = some .local) (hxc : sc.names.lookup xc = some .local) (hen' : sc.names.lookup ("enumerate" : Str) = some .globalImplicit) (hst : starEach [lst] c.env = plainArgs [lst] c.env)
    (hfs : ∀ x, foldedSetIterable (.Call (.Name "enumerate" p1) [lst] [] p2) c.env x = pure x) (hk : k ≤ xs.length)
    (turn : ∀ i d, i < k → xs[i]? = some d → Exs a c ((xc, d) :: (xi, .int i) :: ρs i) body (.next (ρs (i + 1))))
    (fin : (k = xs.length ∧ ρe = ρs k) ∨ ∃ d, xs[k]? = some d ∧ Exs a c ((xc, d) :: (xi, .int k) :: ρs k) body (.brk ρe)) :
    Exc a c ρ (.For (.Tuple [.Name xi pi, .Name xc pc] kk pt) (.Call (.Name "enumerate" p1) [lst] [] p2) body [] pos) (.next ρe) := fun s E S T => by
  refine wpAny_For (call_name (Is.globB hen boot_enumerate (by decide) hen' (by decide)) hst S (PyProof.Rows.callWith_type (any_plain _ _) (evalArgs_any (spliced_cons (hl.then S T fun v s1 q1 r1 S1 T1 => spliced_nil ?_))))) hfs
  obtain ⟨l, vs, rfl, hL, hx', rl⟩ := r1.list_inv
  refine call_enumerate_list hL fun h2 he hit hz keep2 => ?_
  have gI : s.heap.get? s1.heap.objs.size = none := Kp.there (fs := []) q1 S.fr _ (none_at _)
  have gE : s.heap.get? (s1.heap.objs.size + 1) = none := Kp.there (fs := []) q1 S.fr _ (none_ge (Nat.le_succ _))
  generalize hI : s1.heap.objs.size = I at he hit hz gI gE ⊢
  generalize hEe : I + 1 = e at he gE ⊢
  have nEI : e ≠ I := by omega
  have k2 : Kp c.fs s1 { s1 with heap := h2 } := ⟨.ofStays keep2, rfl, rfl⟩
  have hlv : (vw c.X s1.heap).IsList l vs := by obtain ⟨o, e, z⟩ := hL; exact ⟨o, hideAll_get _ e hx', z⟩
  have hsz : vs.size = xs.length := by simpa using rl.length
  refine wpAny_pyIter_enum he ?_
  refine codeAny_forLoop_any (fun n s' => ∃ i old, i ≤ k ∧ n = xs.length + 1 - i ∧ KpX c s s' ∧ St a c s'.heap (ρs i) ∧ 0 < s'.toks ∧ IsEnum s'.heap e I (i : Nat) old ∧ s'.heap.IsListIter I l i ∧ GK (vw c.X s1.heap) s'.heap) ?_ (xs.length + 1)
    ⟨0, .none, Nat.zero_le _, rfl, (q1.trans k2).x, by rw [hρ]; exact S1.keep k2.heap, T1, he, hit, fun b o us n e d => keep2 b o (of_hideAll _ e)⟩
  rintro n s3 ⟨i, old, hi, rfl, q3, S3, T3, he3, hit3, gk3⟩
  have hl3 : s3.heap.IsList l vs := by obtain ⟨o, e, hc, m, hd⟩ := hlv; exact ⟨o, gk3 _ _ _ _ e hd, hc, m, hd⟩
  by_cases hlt : i < xs.length
  · obtain ⟨d, hd⟩ : ∃ d, xs[i]? = some d := ⟨xs[i], by simp [hlt]⟩
    obtain ⟨v, hv, rv⟩ := rl.get hd
    refine wpAny_pyNext_enum_item he3 hit3 hl3 (by simpa using hv) nEI fun h4 heo hit4 ht4 hz4 keep4 => ?_
    refine wpAny_letOwnedTupleGo_enum heo fun h5 he5 hs5 => ?_
    replace hs5 : Heap.SameBut e h4 h5 := hs5
    have nTE : s3.heap.objs.size ≠ e := Nat.ne_of_gt (Heap.lt_size he3)
    have ht5 := (hs5.2 _ nTE).trans ht4
    obtain ⟨oi, hoi, hci, hdi⟩ := id hit3
    have k5 : KeepF s.heap c.fs s3.heap h5 := KeepF.but2 (fun b o n1 n2 eb => (hs5.2 b n1).trans (keep4 b o n1 n2 eb)) gE gI he3 rfl hoi hdi
    have S5 : St a c h5 (ρs i) := S.keepF S3 k5
    have q5 : KpX c s { s3 with heap := h5, toks := s3.toks + 1 } := let z := q3.keepF S k5; ⟨z.heap, z.gens, z.os⟩
    have hit5 : h5.IsListIter I l (i + 1) := by obtain ⟨o, e', z⟩ := hit4; exact ⟨o, (hs5.2 I (Ne.symm nEI)).trans e', z⟩
    have gk5 : GK (vw c.X s1.heap) h5 := fun b o us n eb db => by
      have e3 := gk3 b o us n eb db
      refine (hs5.2 b fun z => ?_).trans (keep4 b o (fun z => ?_) (fun z => ?_) e3)
      · rw [z, he3] at e3; cases e3; cases db
      · rw [z, he3] at e3; cases e3; cases db
      · rw [z, hoi] at e3; cases e3; rw [hdi] at db; cases db
    have tX : s3.heap.objs.size ∉ c.X := S3.ok.fresh
    have rt : Rd (vw c.X h5) (.ref s3.heap.objs.size) (.tuple [.int i, d]) := by
      refine .tuple ⟨_, ht5, rfl, _, rfl⟩ tX (.cons (.int _ _) (.cons (rv.of fun b o us n eb db => ?_) .nil))
      have nb : b ∉ c.X := fun m => by rw [hideAll_none _ m] at eb; cases eb
      exact ⟨o.slots, hideAll_get _ (gk5 b o us n eb db) nb⟩
    refine wpAny_mono (wpAny_toks_of (n := 1) (s := { s3 with heap := h5, toks := s3.toks + 1 }) (Nat.succ_pos _) (AsL.pair h0 hxi hxc (ρs i) { s3 with heap := h5, toks := s3.toks + 1 } _ _ S5 (Nat.succ_pos _) rt)) (fun _ s6 ⟨T6, q6, S6⟩ => ?_) fun _ _ x => x.2
    by_cases hik : i < k
    · refine (turn i d hik hd).then S6 T6 fun fl s7 q7 ⟨e7, S7⟩ T7 => ?_
      subst e7
      have q57 : KpX c { s3 with heap := h5, toks := s3.toks + 1 } s7 := q6.x.trans q7
      refine ⟨xs.length + 1 - (i + 1), by omega, i + 1, v, hik, rfl, q5.trans q57, S7, T7, ?_, ?_, fun b o us n eb db => (q57.gk S5) b o us n (gk5 b o us n eb db) db⟩
      · have := q57.exact S5 he5 (fun es n z => by cases z) (fun v z => by cases z)
        rwa [show ((i : Int) + 1) = ((i + 1 : Nat) : Int) from by push_cast; rfl] at this
      · obtain ⟨o, e', z1, z2⟩ := hit5
        exact ⟨o, q57.exact S5 e' (fun es n z => by rw [z2] at z; cases z) (fun v z => by rw [z2] at z; cases z), z1, z2⟩
    · have hik' : i = k := by omega
      subst hik'
      rcases fin with ⟨z, _⟩ | ⟨d', hd', hb⟩
      · omega
      · rw [hd] at hd'; cases hd'
        refine hb.then S6 T6 fun fl s7 q7 ⟨e7, S7⟩ T7 => ?_
        subst e7
        exact ⟨(q5.trans q6.x).trans q7, rfl, S7⟩
  · have hie : i = xs.length := by omega
    subst hie
    have hkk : k = xs.length := by omega
    refine wpAny_pyNext_enum_end (c.h0 h0) he3 hit3 hl3 (by simp [hsz]) fun h4 ext4 => ?_
    obtain ⟨oi, hoi, hci, hdi⟩ := id hit3
    have k4 : KeepF s.heap c.fs s3.heap h4 := KeepF.but2 (e := e) (fun b o n1 n2 eb => ext4 b o n2 eb) gE gI he3 rfl hoi hdi
    rcases fin with ⟨z, z2⟩ | ⟨d', hd', hb⟩
    · subst z2
      rw [z]
      exact wpAny_execs_nil ⟨q3.keepF S k4, rfl, S.keepF S3 k4⟩
    · rw [hkk] at hd'; simp at hd'
end
end Mine

end
section
open PySem PySem.Builtin PySem.W PyProof.Rows PySem.Calls PySem.Spec
set_option Elab.async false
set_option linter.unusedVariables false
set_option maxRecDepth 100000
namespace Mine
section
variable {M : Model} {A : Around} {E : Value → Shared → Prop} {s : Shared} {env : Env}
theorem exc_from {e : Addr} {cls c : String} {fs : Array Value} {Q : Value → Shared → Prop} (F : ExcRaiseFacts cls) (he : s.heap.get? e = some { cls := .type cls, data := .fields fs }) (h : Q (.ref e) s) : wpAny M A (excFromValue (.ref e) c) Q E s := by
  obtain ⟨hp, g, d, tk, os⟩ := s
  have hsub := F.isExc
  have hmeta := F.plainMeta
  unfold excFromValue
  repeat (first | refine wpAny_loadPart he ?_ | wp_step)
  exact h
theorem isType_exc {e : Addr} {cls : String} {fs : Array Value} {Q : Bool → Shared → Prop} (F : ExcRaiseFacts cls) (he : s.heap.get? e = some { cls := .type cls, data := .fields fs }) (h : Q false s) : wpAny M A (isType (.ref e)) Q E s := by
  obtain ⟨hp, g, d, tk, os⟩ := s
  have hsub := F.isExc
  have hmeta := F.plainMeta
  repeat (first | refine wpAny_loadPart he ?_ | wp_step)
  exact h
theorem raised_inst {e : Addr} {cls : String} {fs : Array Value} {Q : Value → Shared → Prop} (F : ExcRaiseFacts cls) (he : s.heap.get? e = some { cls := .type cls, data := .fields fs }) (h : Q (.ref e) s) : wpAny M A (raisedInstance (.ref e)) Q E s := by
  obtain ⟨hp, g, d, tk, os⟩ := s
  have hsub := F.isExc
  have hmeta := F.plainMeta
  unfold raisedInstance
  repeat (first | refine wpAny_loadPart he ?_ | wp_step)
  exact h
end
section
variable {prog : Program} {w : World} {A : Around} {E : Value → Shared → Prop} {s : Shared} {env : Env}
theorem raiseStmt_fromNone {x cz : Sem Value} {e1 : Addr} {Q : Flow → Shared → Prop} (hh : A.handled = some (.ref e1))
    (h : wpAny (model prog w) A x (fun v s₁ => ∃ e t, v = .ref e ∧ e1 ≠ e ∧ HeldAt e1 s₁.heap ∧ s₁.heap.get? e = some { cls := .type "ValueError", data := .fields #[.ref t, .none, .none, .none, .bool false, .none] } ∧
      wpAny (model prog w) A cz (fun c s₂ => c = .none ∧ s₂ = s₁) (fun _ _ => False) s₁ ∧
      ∀ h', (∀ b o, b ≠ e → s₁.heap.get? b = some o → h'.get? b = some o) → (∃ o, h'.get? e = some o ∧ o.cls = .type "ValueError" ∧ o.data = .fields #[.ref t, .none, .ref e1, .none, .bool true, .none]) → E (.ref e) { s₁ with heap := h' }) E s) :
    wpAny (model prog w) A (raiseStmt env (some x) (some cz)) Q E s := by
  unfold raiseStmt
  refine wpAny_bind (wpAny_mono h (fun v s₁ h₁ => ?_) fun _ _ x => x)
  obtain ⟨e, t, rfl, ne, held, he, hc, hE⟩ := h₁
  refine wpAny_bind (wpAny_holding (wpAny_mono hc (fun c s₂ ⟨e1, e2⟩ => ?_) fun _ _ x => x.elim))
  subst e1 e2
  refine wpAny_bind (wpAny_pure ?_)
  refine wpAny_bind (wpAny_holding (exc_from PySem.F.excRaise_ValueError he ?_))
  dsimp only
  rw [if_pos (show (Value.none == Value.none) = true from rfl)]
  refine wpAny_bind (wpAny_pure ?_)
  refine wpAny_bind (wpAny_setField he rfl (by simp) ?_)
  have h1 := Heap.get?_update_self (Obj.mapFields (·.setIfInBounds 3 Value.none)) he (by rfl)
  refine wpAny_bind (wpAny_setField (s := { s₂ with heap := _ }) h1 rfl (by simp) ?_)
  have h2 := Heap.get?_update_self (Obj.mapFields (·.setIfInBounds 4 (Value.bool true))) h1 (by rfl)
  refine wpAny_bind (isType_exc PySem.F.excRaise_ValueError h2 ?_)
  rw [if_neg Bool.false_ne_true]
  refine wpAny_bind (raised_inst PySem.F.excRaise_ValueError h2 ?_)
  refine wpAny_bind (m := setFlight (.ref e) none) ?_
  unfold setFlight
  refine wpAny_bind (wpAny_field h2 rfl (x := .none) (by simp) ?_)
  rw [if_neg (by decide)]
  refine wpAny_pure ?_
  have old : ∀ b o, b ≠ e → s₂.heap.get? b = some o → ((s₂.heap.update e (Obj.mapFields (·.setIfInBounds 3 Value.none))).update e (Obj.mapFields (·.setIfInBounds 4 (Value.bool true)))).get? b = some o := fun b o nb eb =>
    (Heap.get?_update_other _ _ (Ne.symm nb)).trans ((Heap.get?_update_other _ _ (Ne.symm nb)).trans eb)
  refine raise_held (q := some e1) hh (fun y hy => ?_) (fun y hy => ?_) h2 (vs := #[.ref t, .none, .none, .none, .bool true, .none]) (by simp [Obj.mapFields]) (by simp) fun h' o' hs he' hc' hd' => hE h' (fun b o nb eb => (hs.2 b nb).trans (old b o nb eb)) ⟨o', he', hc', ?_⟩
  · cases hy
    obtain ⟨o, vs, z1, z2⟩ := held
    exact ⟨o, vs, old _ _ ne z1, z2⟩
  · cases hy; exact ne
  · rw [hd']; unfold behind; simp
end
end Mine

end
section
open PySem PySem.Builtin PySem.W PyProof.Rows PySem.Calls PySem.Spec
set_option Elab.async false
set_option linter.unusedVariables false
set_option maxRecDepth 100000
namespace Mine
section
variable {a : Amb} {sc : Scope} {c : Cx sc} {ρ ρ₀ : Vars} {cls ct : Value} {P : List Value → Prop}
/-- as Rz, with whatever context -/
def RzU (a : Amb) (c : Cx sc) (ρ : Vars) (ss : List Stmt) (cls : Value) (P : List Value → Prop) (ρ' : Vars) : Prop :=
  ∀ (s : Shared) (E : Value → Shared → Prop), St a c s.heap ρ → 0 < s.toks → (∀ e s' ct, Rp a c cls P ct ρ' s e s' → 0 < s'.toks → E (.ref e) s') → wpAny a.M c.A (execs ss c.env) (fun _ _ => False) E s
def RzcU (a : Amb) (c : Cx sc) (ρ : Vars) (st : Stmt) (cls : Value) (P : List Value → Prop) (ρ' : Vars) : Prop :=
  ∀ (s : Shared) (E : Value → Shared → Prop), St a c s.heap ρ → 0 < s.toks → (∀ e s' ct, Rp a c cls P ct ρ' s e s' → 0 < s'.toks → E (.ref e) s') → wpAny a.M c.A (exec st c.env) (fun _ _ => False) E s
def FnXU (a : Amb) (n : Nat) (f : Value) (ds : List PyData) (cls : Value) (P : List Value → Prop) : Prop :=
  ∀ (A : Around) (frs : List Env) (X : List Addr) (s : Shared) (vs : List Value), A.frames = some frs → A.handled = none → A.depth + n ≤ 800 → A.units + 100 * n ≤ 9000 → Ok a frs X s.heap → RdL (vw X s.heap) vs ds → 0 < s.toks →
    codeAny a.M A (.call f ⟨vs, []⟩) (fun r s' => ∃ e ct, r = .error (.ref e) ∧ Kp (frAddrs frs) s s' ∧ Xc s.heap s'.heap e cls P ct (some .none)) s
theorem RzU.here {st : Stmt} {rest : List Stmt} {ρ' : Vars} (h : RzcU a c ρ st cls P ρ') : RzU a c ρ (st :: rest) cls P ρ' := fun s E S T hE =>
  wpAny_execs_cons (wpAny_mono (h s E S T hE) (fun _ _ x => x.elim) fun _ _ x => x)
theorem RzU.cons {st : Stmt} {rest : List Stmt} {ρ1 ρ' : Vars} (h1 : Exc a c ρ st (.next ρ1)) (h2 : RzU a c ρ1 rest cls P ρ') : RzU a c ρ (st :: rest) cls P ρ' := fun s E S T hE =>
  wpAny_execs_cons (h1.then S T fun fl s1 q1 ⟨e1, S1⟩ T1 => by subst e1; exact h2 s1 E S1 T1 fun e s' ct r T' => hE e s' ct (r.shift q1 S S1) T')

theorem to_handlerU {s0 s1 : Shared} {e : Addr} {E : Value → Shared → Prop} {Q : Shared → Prop} {ρ' : Vars} (he : c.env = c.fe) (S0 : St a c s0.heap ρ₀) (r : Rp a c cls P ct ρ' s0 e s1) (T : 0 < s1.toks)
    (k : ∀ s3, KpX c s0 s3 → St a c s3.heap ρ' → 0 < s3.toks → Xc s0.heap s3.heap e cls P ct (some .none) → Q s3) :
    wpAny a.M c.A (noteFrame (.ref e) c.env) (fun _ s2 => wpAny a.M c.A (setFlight (.ref e) none) (fun _ s3 => Q s3) E s2) E s1 := by
  obtain ⟨fl, hfl, xc⟩ := r.xc
  have step2 : ∀ (h2 : Heap) (f : Value), KeepF s0.heap c.fs s1.heap h2 → Xc s0.heap h2 e cls P ct (some f) → wpAny a.M c.A (setFlight (.ref e) none) (fun _ s3 => Q s3) E { s1 with heap := h2 } := fun h2 f k2 x2 => by
    refine flight_step (s := { s1 with heap := h2 }) (fs := c.fs) (f := none) x2 fun h3 k3 x3 => ?_
    exact k _ (r.kp.keepF S0 (k2.trans k3)) (S0.keepF r.st (k2.trans k3)) T x3
  have hfr : c.A.frames = some (c.env :: c.fo) := by rw [he]; exact c.hfr
  have hff : s1.heap.FunFrames a.H (c.env :: c.fo) := by rw [he]; exact r.st.fr.ff
  obtain ⟨L, hL⟩ : ∃ L, c.env.frame = some L := by
    obtain ⟨_, ⟨L, o, hf, _⟩, _⟩ := hff
    exact ⟨L, hf⟩
  rcases hfl with q | q | ⟨L', hL', q⟩
  · subst q
    exact note_step (base := a.H) hfr hff hL (.inl rfl) xc fun h2 k2 x2 => step2 h2 _ (by rw [he] at k2; exact k2) x2
  · subst q
    exact note_step (base := a.H) hfr hff hL (.inr rfl) xc fun h2 k2 x2 => step2 h2 _ (by rw [he] at k2; exact k2) x2
  · subst q
    exact note_again hL' xc (step2 s1.heap _ .refl xc)
theorem Xc.mark1 {g h : Heap} {e : Addr} {f : Value} (x : Xc g h e cls P ct (some f)) : ∃ oe vs T, h.get? e = some oe ∧ oe.data = .fields vs ∧ vs[1]? = some (.ref T) := by
  obtain ⟨oe, vs, t, args, e1, e2, e3, e4, e5, e6, e7, e8⟩ := x.there
  rcases e8 with ⟨z, _⟩ | ⟨T, oT, ts, f', z1, z2, _⟩
  · cases z
  · exact ⟨oe, vs, T, e1, e3, z2⟩

/-- raise ValueError(text) from None, while e1 is handled -/
theorem raise_mix {e1 : Addr} {msg : Str} {np p0 cpos p1 pos : Pos} {k0 k1 : Nat} {s : Shared} {E : Value → Shared → Prop} (hq : c.hq = some e1) (S : St a c s.heap ρ) (T : 0 < s.toks) (hve : nsIn a.K mainGlobals "ValueError" = some none)
    (hx : sc.names.lookup ("ValueError" : Str) = some .globalImplicit) (hE : ∀ e s', Kp c.fs s s' → Xc s.heap s'.heap e (.type "ValueError") (fun args => ∃ tk, args = [.str msg tk]) (.ref e1) none → 0 < s'.toks → E (.ref e) s') :
    wpAny a.M c.A (exec (.Raise (some (.Call (.Name "ValueError" np) [.Constant (.str msg) k0 p0] [] cpos)) (some (.Constant .none k1 p1)) pos) c.env) (fun _ _ => False) E s := by
  refine wpAny_mono (wpAny_toks_of (n := 1) T (?_ : wpAny a.M c.A _ (fun _ _ => False) (fun v s' => ∃ e, v = .ref e ∧ Kp c.fs s s' ∧ Xc s.heap s'.heap e (.type "ValueError") (fun args => ∃ tk, args = [.str msg tk]) (.ref e1) none) s)) (fun _ _ z => z.2.elim) fun v s' ⟨T', e, ev, k', x'⟩ => by subst ev; exact hE e s' k' x' T'
  rw [arm_exec_Raise]
  refine wpAny_bind (wpAny_standAt (raiseStmt_fromNone (e1 := e1) (by rw [c.hh, hq]; rfl) ?_))
  refine wpAny_bind (call_name (Is.globB hve PyProof.Rows.Boot.«ValueError» (by decide) hx (by decide)) (by rfl) S (PyProof.Rows.callWith_type (any_plain _ _) ((EvL.one (Ev.str (x := msg) (k := k0) (pos := p0))).args S T fun vs s1 q1 r1 S1 T1 => ?_)))
  obtain ⟨v, ws, rfl, r2, r3⟩ := r1.cons_inv
  cases r3.nil_inv
  obtain ⟨t, rfl⟩ := r2.str_inv
  obtain ⟨hp, g, d, tk, os⟩ := s1
  refine wpAny_call_exc PySem.F.excCall_ValueError fun h' e hm => ?_
  obtain ⟨tt, ht, ht0, ht1⟩ := hm.there
  refine wpAny_bind (wpAny_standAt (wpAny_pure ⟨e, tt, rfl, ?_, ?_, ht, ?_, ?_⟩))
  · intro z
    obtain ⟨o, vs, z1, _⟩ := S1.hld e1 hq
    rw [z] at z1; rw [hm.new] at z1; cases z1
  · obtain ⟨o, vs, z1, z2⟩ := S1.hld e1 hq
    exact ⟨o, vs, hm.keeps _ _ z1, z2⟩
  · exact wpAny_bind (wpAny_pure (wpAny_bind (wpAny_standAt (wpAny_pure ⟨rfl, rfl⟩))))
  · rintro h2 keep2 ⟨o, z1, z2, z3⟩
    have st : Heap.StaysIn hp h2 := fun b o eb => keep2 b o (fun z => by rw [z, hm.new] at eb; cases eb) (hm.keeps b o eb)
    have kk : Kp c.fs (⟨hp, g, d, tk, os⟩ : Shared) ⟨h2, g, d, tk, os⟩ := ⟨.ofStays st, rfl, rfl⟩
    refine ⟨e, rfl, q1.trans kk, ?_⟩
    have nb : ∀ b, h2.get? b = none → s.heap.get? b = none := fun b z => Kp.there (fs := []) (q1.trans kk) S.fr b z
    refine ⟨Kp.there (fs := []) q1 S.fr e hm.new, nb, o, _, tt, [.str msg t], z1, z2, z3, rfl, ?_, ⟨t, rfl⟩, rfl, .inl ⟨rfl, rfl⟩⟩
    have nte : tt ≠ e := fun z => by
      rw [z, ht] at ht1
      have q := congrArg Obj.data (Option.some.inj ht1)
      cases q
    exact ⟨_, _, keep2 tt _ nte ht1, rfl, rfl⟩

/-- a try whose body raises, whose clause raises anew -/
theorem RzcU.tryInner {body : List Stmt} {msg : Str} {P0 : List Value → Prop} {np tp p0 cpos p1 rpos hp pos : Pos} {k0 k1 : Nat} {ρ1 : Vars} (he : c.env = c.fe) (hve : nsIn a.K mainGlobals "ValueError" = some none) (hm : exmOne a.K (.type "ValueError") (.type "ValueError") = some true)
    (hx : sc.names.lookup ("ValueError" : Str) = some .globalImplicit) (h : Rz a c ρ body (.type "ValueError") P0 ρ1) :
    RzcU a c ρ (.Try body [.ExceptHandler (some (.Name "ValueError" tp)) none [.Raise (some (.Call (.Name "ValueError" np) [.Constant (.str msg) k0 p0] [] cpos)) (some (.Constant .none k1 p1)) rpos] hp] [] [] pos) (.type "ValueError") (fun args => ∃ tk, args = [.str msg tk]) ρ1 := fun s E S T hE => by
  rw [arm_exec_Try]
  refine wpAny_bind (wpAny_standAt (wpAny_tryStmt_except (wpAny_mono (h s (fun v s1 => ∃ e, v = .ref e ∧ Rp a c (.type "ValueError") P0 .none ρ1 s e s1 ∧ 0 < s1.toks) S T fun e s1 r T1 => ⟨e, rfl, r, T1⟩) (fun _ _ x => x.elim) fun v s1 ⟨e, ev, r, T1⟩ => ?_)))
  subst ev
  refine to_handlerU (Q := fun s3 => wpAny a.M c.A (handleBy (.ref e) c.env _) _ E s3) he S r T1 fun s3 q3 S3 T3 x => ?_
  refine wpAny_handleBy_cons (codeAny_handlers_test ?_) (by intro z; cases z)
  refine Is.globB (c := c.held e) hve PyProof.Rows.Boot.«ValueError» (by decide) hx (by decide) s3 _ _ (S3.held x.held) ?_
  refine (exm_one S3.kIn x.ty hm).here ?_
  refine codeAny_handlers_suite ?_
  refine flight_step (fs := c.fs) (f := none) x fun h4 k4 x4 => ?_
  have S4 : St a c h4 ρ1 := S.keepF S3 k4
  have q4 : KpX c s { s3 with heap := h4 } := q3.keepF S k4
  refine wpAny_execs_cons (wpAny_mono (raise_mix (c := c.held e) (s := { s3 with heap := h4 }) (E := fun v s5 => ∃ e2, v = .ref e2 ∧ Kp c.fs { s3 with heap := h4 } s5 ∧ Xc h4 s5.heap e2 (.type "ValueError") (fun args => ∃ tk, args = [.str msg tk]) (.ref e) none ∧ 0 < s5.toks) rfl (S4.held x4.held) T3 hve hx fun e2 s5 k5 x5 T5 => ⟨e2, rfl, k5, x5, T5⟩) (fun _ _ z => z.elim) fun v s5 ⟨e2, ev, k5, x5, T5⟩ => ?_)
  subst ev
  have S5 : St a c s5.heap ρ1 := S4.keep k5.heap
  have q5 : KpX c s s5 := q4.trans k5.x
  have x5' := x5.less (fun b z => q4.there S S4 b z)
  have hfr : (c.held e).A.frames = some (c.env :: c.fo) := by rw [he]; exact c.hfr
  have hff : s5.heap.FunFrames a.H (c.env :: c.fo) := by rw [he]; exact S5.fr.ff
  obtain ⟨L, hL⟩ : ∃ L, c.env.frame = some L := by
    obtain ⟨_, ⟨L, o, hf, _⟩, _⟩ := hff
    exact ⟨L, hf⟩
  unfold notedBy
  refine note_step (base := a.H) hfr hff hL (.inl rfl) x5' fun h6 k6 x6 => ?_
  dsimp only
  unfold cameBackBy
  obtain ⟨oe, vs, T', z1, z2, z3⟩ := x6.mark1
  refine wpAny_bind (wpAny_field (s := { s5 with heap := h6 }) z1 z2 z3 ?_)
  rw [if_neg (show ¬ ((Value.ref T' == Value.none) = true) from by simp)]
  refine flight_step (s := { s5 with heap := h6 }) (fs := c.fs) x6 fun h7 k7 x7 => ?_
  have k67 : KeepF s.heap c.fs s5.heap h7 := by rw [he] at k6; exact k6.trans k7
  refine hE e2 _ (.ref e) ⟨q5.keepF S k67, S.keepF S5 k67, _, .inr (.inr ⟨L, hL, rfl⟩), ?_⟩ T5
  rw [hL] at x7
  exact x7

theorem name_globB {A : Around} {x : Str} {pos : Pos} {v : Value} {s : Shared} {E : Value → Shared → Prop} {Q : Value → Shared → Prop} (e : nsIn a.K mainGlobals x = some none) (hv : bootBuiltins x = some v) (hn : x ≠ "__name__") (hx : sc.names.lookup x = some .globalImplicit) (hd : (x == ("__debug__" : Str)) = false)
    (b : a.H.StaysIn s.heap) (q : Q v s) : wpAny a.M A (eval (.Name x pos) c.env) Q E s := by
  refine Name_function_global c.kind (by rw [c.kindOf]; exact hx) (loadGlobal_builtin (mg := a.mg) (mb := a.mb) ?_ (mg_none_of a.hK a.hT.g e) ?_ ((a.hT.builtins x hn).trans hv) q) hd
  · rw [c.hg]; exact a.hT.g.keeps b
  · rw [c.hb]; exact a.hT.b.keeps b

/-- a try whose body raises what its one clause, of two classes, does not name -/
theorem RzcU.tryPass {body suite : List Stmt} {x1 x2 : Str} {c1 c2 : Value} {n1 n2 tp hp pos : Pos} {kk : Nat} {ρ' : Vars} (he : c.env = c.fe) (g1 : nsIn a.K mainGlobals x1 = some none) (v1 : bootBuiltins x1 = some c1) (m1 : x1 ≠ "__name__") (l1 : sc.names.lookup x1 = some .globalImplicit) (d1 : (x1 == ("__debug__" : Str)) = false)
    (g2 : nsIn a.K mainGlobals x2 = some none) (v2 : bootBuiltins x2 = some c2) (m2 : x2 ≠ "__name__") (l2 : sc.names.lookup x2 = some .globalImplicit) (d2 : (x2 == ("__debug__" : Str)) = false) (hst : starEach [.Name x1 n1, .Name x2 n2] c.env = plainArgs [.Name x1 n1, .Name x2 n2] c.env)
    (hm : exmAny a.K cls [c1, c2] = some false) (h : RzU a c ρ body cls P ρ') :
    RzcU a c ρ (.Try body [.ExceptHandler (some (.Tuple [.Name x1 n1, .Name x2 n2] kk tp)) none suite hp] [] [] pos) cls P ρ' := fun s E S T hE => by
  rw [arm_exec_Try]
  refine wpAny_bind (wpAny_standAt (wpAny_tryStmt_except (wpAny_mono (h s (fun v s1 => ∃ e ct, v = .ref e ∧ Rp a c cls P ct ρ' s e s1 ∧ 0 < s1.toks) S T fun e s1 ct r T1 => ⟨e, ct, rfl, r, T1⟩) (fun _ _ x => x.elim) fun v s1 ⟨e, ct, ev, r, T1⟩ => ?_)))
  subst ev
  refine to_handlerU (Q := fun s3 => wpAny a.M c.A (handleBy (.ref e) c.env _) _ E s3) he S r T1 fun s3 q3 S3 T3 x => ?_
  refine wpAny_handleBy_cons (codeAny_handlers_test (Tuple_ ?_)) (by intro z; cases z)
  rw [hst, backTo_plain]
  refine spliced_cons (name_globB (c := c) g1 v1 m1 l1 d1 S3.base (spliced_cons (name_globB (c := c) g2 v2 m2 l2 d2 S3.base (spliced_nil ?_))))
  refine wpAny_newObj_type ?_ (by size_fits)
  have st : s3.heap.StaysIn (s3.heap.push { cls := .type "tuple", data := .seq [c1, c2].toArray }) := fun b o eb => Heap.get?_push_of_some _ eb
  have kk : Kp c.fs s3 { s3 with heap := s3.heap.push { cls := .type "tuple", data := .seq [c1, c2].toArray } } := Kp.push _ _
  have S4 := S3.keep kk.heap
  refine (exm_tup2 S4.kIn (x.ty.keeps st) (Heap.get?_push_size _ rfl) hm).here ?_
  simp only [Bool.false_eq_true, if_false]
  refine wpAny_handleBy_nil ?_
  have x4 : Xc s.heap (s3.heap.push { cls := .type "tuple", data := .seq [c1, c2].toArray }) e cls P ct (some .none) := by
    obtain ⟨n, nb, oe, vs, t, args, e1, e2, e3, e4, ⟨ot, nn, f1, f2, f3⟩, e6, e7, e8⟩ := x
    refine ⟨n, fun b z => nb b ?_, oe, vs, t, args, st _ _ e1, e2, e3, e4, ⟨ot, nn, st _ _ f1, f2, f3⟩, e6, e7, e8.imp_right ?_⟩
    · cases q : s3.heap.get? b with
      | none => rfl
      | some o => rw [st b o q] at z; cases z
    · rintro ⟨T', oT, ts, f, z1, z2, z3, z4, z5, z6⟩
      exact ⟨T', oT, ts, f, z1, z2, z3, z4, st _ _ z5, z6⟩
  unfold PySem.passOn
  obtain ⟨oe, vs, T', z1, z2, z3⟩ := x4.mark1
  refine wpAny_bind (wpAny_field z1 z2 z3 ?_)
  rw [if_neg (show ¬ ((Value.ref T' == Value.none) = true) from by simp)]
  obtain ⟨L, hL⟩ : ∃ L, c.env.frame = some L := by
    have hff : s3.heap.FunFrames a.H (c.env :: c.fo) := by rw [he]; exact S3.fr.ff
    obtain ⟨_, ⟨L, o, hf, _⟩, _⟩ := hff
    exact ⟨L, hf⟩
  refine wpAny_bind (flight_step (s := { s3 with heap := _ }) (fs := c.fs) x4 fun h7 k7 x7 => wpAny_throw ?_)
  have q4 : KpX c s { s3 with heap := s3.heap.push { cls := .type "tuple", data := .seq [c1, c2].toArray } } := q3.trans kk.x
  refine hE e _ ct ⟨q4.keepF S k7, S.keepF S4 k7, _, .inr (.inr ⟨L, hL, rfl⟩), ?_⟩ T3
  rw [hL] at x7
  exact x7
end
section
variable {a : Amb}
theorem FnXU.body {cls : Value} {P : List Value → Prop} {n : Nat} {f : Addr} {o : Obj} {nm : Str} {ps : Arguments} {body : List Stmt} {scp : Scope} {doc pm cd ct : Value} {an : Option Addr} {ds : List PyData} {ρ' : Vars} (names : List Str)
    (ho : a.K.lookup f = some o) (hd : o.data = .func (fnOf nm nm ps body scp .none .none doc pm an cd ct)) (hc : codeIn a.K cd nm = true)
    (hb : ∀ vs : List Value, vs.length = ds.length → bindArgs (fnOf nm nm ps body scp .none .none doc pm an cd ct) ⟨vs, []⟩ = pure (names.zip vs))
    (hkinds : (names.all fun x => scp.names.lookup x == some .local || scp.names.lookup x == some .cell) = true)
    (hco : scp.isCoroutine = false) (hgen : scp.isGenerator = false) (hk : scp.kind = .function)
    (h : ∀ c : Cx scp, c.n = n → c.hq = none → c.env = c.fe → RzU a c (names.zip ds).reverse body cls P ρ') : FnXU a (n + 1) (.ref f) ds cls P := by
  intro A frs X s vs hfr hh hdp hun hok hvs htk
  have hst := hok.base
  have hff := hok.fr
  refine codeAny_call_function (by unfold recursionLimit; omega) (hst f o (a.hK _ _ ho)) hd hco hgen rfl (codeRec_of (a.hK.keeps hst) hc) ?_
  rw [hb vs hvs.length]
  refine wpAny_pure ?_
  have kin : ∀ (k : Nat), ∀ x ∈ names.zip vs, scp.names.lookup x.1 = some .local ∨ (scp.names.lookup x.1 = some .cell ∧ ((cellsFrom k scp.names []).lookup x.1).isSome = true) := fun k x hx => by
    have := List.all_eq_true.mp hkinds x.1 (List.of_mem_zip hx).1
    rcases Bool.or_eq_true_iff.mp this with q | q
    · exact .inl (by simpa using q)
    · have q' : scp.names.lookup x.1 = some .cell := by simpa using q
      exact .inr ⟨q', cellsFrom_some _ _ _ (.inl q')⟩
  refine wpAny_mono (wpAny_toks_of (n := 1) htk (wpAny_newFunctionEnv_cells (Q := fun env s' => env = newEnv scp s.heap.objs.size mainGlobals (cellsFrom (s.heap.objs.size + 1) scp.names []) (nm ++ ".<locals>.") (some f) cd none builtinsNs ∧
    InCallC s env.locals (bindL env.kindOf (names.zip vs) fun _ => none) env.cells (bindC env.kindOf (names.zip vs) fun _ => none) s') hk (kin _) fun env he s' x => ⟨he, x⟩)) (fun env s' ⟨T, he, x⟩ => ?_) fun _ _ x => x.2
  subst he
  obtain ⟨h', tk, hs', hkeep⟩ := x.done
  have hlim : s'.heap.NoLimit := (a.hT.nolimit.keeps hst).keeps x.toInCall.keep
  refine ⟨hlim, codeAny_func ?_⟩
  have hnewL : a.H.get? s.heap.objs.size = none := hst.fresh
  have hfrm : FrOk a.H s'.heap (newEnv scp s.heap.objs.size mainGlobals (cellsFrom (s.heap.objs.size + 1) scp.names []) (nm ++ ".<locals>.") (some f) cd none builtinsNs :: frs) := by
    obtain ⟨oL, es, ep, hL, hLd, _⟩ := x.toInCall.ns
    have hff' := hff.keep (Keep.ofStays (fs := []) x.toInCall.keep)
    refine ⟨⟨by show scp.kind ≠ .module; rw [hk]; decide, ⟨_, oL, rfl, hnewL, hL, fun vs q => by rw [hLd] at q; cases q⟩, hff'.ff⟩, fun b hb => ?_⟩
    rcases List.mem_cons.mp hb with q | q
    · rw [q]; exact ⟨oL, es, ep, hL, hLd⟩
    · exact hff'.dd b q
  let c : Cx scp := {
    A := A.deeper (newEnv scp s.heap.objs.size mainGlobals (cellsFrom (s.heap.objs.size + 1) scp.names []) (nm ++ ".<locals>.") (some f) cd none builtinsNs)
    env := newEnv scp s.heap.objs.size mainGlobals (cellsFrom (s.heap.objs.size + 1) scp.names []) (nm ++ ".<locals>.") (some f) cd none builtinsNs
    fe := newEnv scp s.heap.objs.size mainGlobals (cellsFrom (s.heap.objs.size + 1) scp.names []) (nm ++ ".<locals>.") (some f) cd none builtinsNs
    fo := frs
    n := n
    X := X
    hfr := Around.frames_deeper hfr
    hgen := hgen
    hco := hco
    hfb := rfl
    hfg := rfl
    hff := rfl
    hq := none
    hh := hh
    hd := by rw [depth_deeper]; omega
    hu := by rw [units_deeper]; omega
    hsc := rfl
    hk := hk
    hinj := pair_inj x.apart
    hg := rfl
    hb := rfl }
  have S : St a c s'.heap (names.zip ds).reverse := by
    refine ⟨⟨fun b o e => x.toInCall.keep b o (hst b o e), hfrm, fun y hy => let ⟨o, e⟩ := hok.xs y hy; ⟨o, x.toInCall.keep y o e⟩⟩, hnewL, ⟨_, x.toInCall.ns, fun y dy hy hq => ?_⟩, fun y hy => ?_, fun e z => by cases z⟩
    · obtain ⟨v, e1, e2⟩ := zip_lookup names vs ds hvs hq
      refine ⟨v, ?_, e2.of (Keep.ofStays (fs := []) x.toInCall.keep).seqv⟩
      rw [bindL_eq (by exact hy), e1]; rfl
    · have hsome := cellsFrom_some (x := y) scp.names (s.heap.objs.size + 1) [] (.inl hy)
      obtain ⟨ad, hadl⟩ := Option.isSome_iff_exists.mp hsome
      refine ⟨ad, _, hadl, ?_, x.cell y ad hadl, fun dy hq => ?_⟩
      · have := x.above y ad (mem_of_lookup hadl)
        cases q : a.H.get? ad with
        | none => rfl
        | some o' => exact absurd (Heap.lt_size (hst ad o' q)) (Nat.lt_asymm this)
      · obtain ⟨v, e1, e2⟩ := zip_lookup names vs ds hvs hq
        refine ⟨v, ?_, e2.of (Keep.ofStays (fs := []) x.toInCall.keep).seqv⟩
        rw [bindC_eq (by show List.lookup y scp.names ≠ _; rw [hy]; decide), e1]; rfl
  refine wpAny_mono (h c rfl rfl rfl s' (fun v s2 => ∃ e ct, v = .ref e ∧ Rp a c cls P ct ρ' s' e s2) S T fun e s2 ct r _ => ⟨e, ct, rfl, r⟩) (fun _ _ x => x.elim) fun v s2 ⟨e, ctx, ev, r⟩ => ?_
  subst ev
  obtain ⟨fl, hfl, xc⟩ := r.xc
  have fin : ∀ (h2 : Heap), KeepF s'.heap c.fs s2.heap h2 → Xc s'.heap h2 e cls P ctx (some .none) → ∃ e' ct, (Except.error (Value.ref e) : Result) = .error (.ref e') ∧ Kp (frAddrs frs) s { s2 with heap := h2 } ∧ Xc s.heap h2 e' cls P ct (some .none) := fun h2 k2 x2 => by
    refine ⟨e, ctx, rfl, ⟨fun b o eb => ?_, r.kp.gens.trans (by rw [hs']), r.kp.os.trans (by rw [hs'])⟩, x2.less fun b z => ?_⟩
    · have ne : b ≠ s.heap.objs.size := Nat.ne_of_lt (Heap.lt_size eb)
      have nc : ∀ y, scp.names.lookup y = some .cell → (cellsFrom (s.heap.objs.size + 1) scp.names []).lookup y ≠ some b := fun y _ hm =>
        absurd (Heap.lt_size eb) (Nat.lt_asymm (x.above y b (mem_of_lookup hm)))
      have := (r.kp.keepF S k2).heap b o (x.toInCall.keep b o eb) ne nc
      refine ⟨fun nm => this.1 fun hm => ?_, fun m nf => this.2 (List.mem_cons_of_mem _ m) nf⟩
      rcases List.mem_cons.mp hm with q | q
      · exact ne q
      · exact nm q
    · cases q : s.heap.get? b with
      | none => rfl
      | some o => rw [x.toInCall.keep b o q] at z; cases z
  unfold leaving
  have hlast : ∀ (s3 : Shared), KeepF s'.heap c.fs s2.heap s3.heap → s3.gens = s2.gens → s3.os = s2.os → (∃ f, Xc s'.heap s3.heap e cls P ctx (some f)) → wpAny a.M c.A (setFlight (.ref e) none) (fun _ s'' => ∃ e' ct, (Except.error (Value.ref e) : Result) = .error (.ref e') ∧ Kp (frAddrs frs) s s'' ∧ Xc s.heap s''.heap e' cls P ct (some .none)) (fun e' s'' => ∃ e'' ct, (Except.error e' : Result) = .error (.ref e'') ∧ Kp (frAddrs frs) s s'' ∧ Xc s.heap s''.heap e'' cls P ct (some .none)) s3 := fun s3 k3 g3 o3 ⟨f, x3⟩ => by
    refine flight_step (fs := c.fs) (f := none) x3 fun h2 k2 x2 => ?_
    obtain ⟨e', ct', z1, z2, z3⟩ := fin h2 (k3.trans k2) x2
    exact ⟨e', ct', z1, ⟨z2.heap, g3.trans z2.gens, o3.trans z2.os⟩, z3⟩
  rcases hfl with q | q | ⟨L, hL, q⟩
  · subst q
    exact wpAny_bind (note_step (base := a.H) (L := s.heap.objs.size) c.hfr r.st.fr.ff rfl (.inl rfl) xc fun h3 k3 x3 => hlast { s2 with heap := h3 } k3 rfl rfl ⟨_, x3⟩)
  · subst q
    exact wpAny_bind (note_step (base := a.H) (L := s.heap.objs.size) c.hfr r.st.fr.ff rfl (.inr rfl) xc fun h3 k3 x3 => hlast { s2 with heap := h3 } k3 rfl rfl ⟨_, x3⟩)
  · subst q
    refine wpAny_bind (note_again hL xc ?_)
    exact hlast s2 .refl rfl rfl ⟨_, xc⟩

theorem IsFn.fnXU {a : Amb} {cls : Value} {P : List Value → Prop} {x : Str} {f : Addr} {st : Stmt} {n : Nat} {ds : List PyData} {ρ' : Vars} (hI : IsFn a x f st) (names : List Str)
    (hb : ∀ (doc pm : Value) (an : Option Addr) (cd ct : Value) (vs : List Value), vs.length = ds.length → bindArgs (fnOf (fdName st) (fdName st) (fdPs st) (fdBody st) (fdScope st) .none .none doc pm an cd ct) ⟨vs, []⟩ = pure (names.zip vs))
    (hkinds : (names.all fun x => (fdScope st).names.lookup x == some .local || (fdScope st).names.lookup x == some .cell) = true)
    (hco : (fdScope st).isCoroutine = false) (hgen : (fdScope st).isGenerator = false) (hk : (fdScope st).kind = .function)
    (h : ∀ c : Cx (fdScope st), c.n = n → c.hq = none → c.env = c.fe → RzU a c (names.zip ds).reverse (fdBody st) cls P ρ') : FnXU a (n + 1) (.ref f) ds cls P := by
  obtain ⟨o, pm, cd, doc, an, ct, e2, e3, e4⟩ := hI.obj
  exact FnXU.body names e2 e3 e4 (hb doc pm an cd ct) hkinds hco hgen hk h
end
end Mine

end
section
open PySem PySem.Builtin PySem.W PyProof.Rows PySem.Calls PySem.Spec
set_option Elab.async false
set_option linter.unusedVariables false
set_option maxRecDepth 100000
namespace Mine

theorem join_mem_len (sep : Str) : ∀ (l : List Str) (p : Str), p ∈ l → p.length ≤ (Str.join sep l).length
  | [], _, h => nomatch h
  | [x], p, h => by rw [List.mem_singleton.mp h]; exact Nat.le_refl _
  | x :: y :: r, p, h => by
    show p.length ≤ (x ++ sep ++ Str.join sep (y :: r)).length
    rw [Str.length_append, Str.length_append]
    rcases List.mem_cons.mp h with rfl | h
    · omega
    · have := join_mem_len sep (y :: r) p h; omega
theorem split_mem_len {x y p : Str} (h : p ∈ Txt.split x y) : p.length ≤ x.length := by
  have := join_mem_len y _ p h
  rwa [StrLaws.join_split] at this

def strOf : PyData → Str
  | .str x => x
  | _ => Str.empty
def keepC (x : Str) : Bool := x.length != 0 && x != "."
def splitD (x : Str) : PyData := .list ((Txt.split x "/").map .str)
def rowC (x : Str) : List Str := (Txt.split x "/").filter keepC
def cSt (i : Nat) : Stmt := ((fdBody (sAt 21))[i]?).getD (.Pass ⟨0, 0, 0, 0⟩)
def tryBody : Stmt → List Stmt
  | .Try b _ _ _ _ => b
  | _ => []
def tSt (i : Nat) : Stmt := ((tryBody (cSt 3))[i]?).getD (.Pass ⟨0, 0, 0, 0⟩)
def cV0 (xs : List Str) : Vars := [("paths", .list (xs.map .str))]
def cV1 (xs : List Str) : Vars := ("paths", .tuple (xs.map .str)) :: cV0 xs
def cV2 (xs : List Str) : Vars := ("curdir", .str ".") :: ("sep", .str "/") :: cV1 xs
def cV3 (xs : List Str) : Vars := ("split_paths", .list (xs.map splitD)) :: cV2 xs

section
variable {a : Amb} {ff : Addr} {c : Cx (fdScope (sAt 21))} {xs : List Str}
theorem cp_s0 (hF : IsFn a "fspath" ff (sAt 14)) (hfs : ∀ {m : Nat} {x : Str}, Fn a (m + 1) (.ref ff) [.str x] (.str x)) (ht : nsIn a.K mainGlobals "tuple" = some none) (hm : nsIn a.K mainGlobals "map" = some none) (h0 : c.hq = none) (hn : 2 ≤ c.n) (hsz : xs.length ≤ 10) :
    Exc a c (cV0 xs) (cSt 0) (.next (cV1 xs)) :=
  Exc.assignL (Ev.tupleMap hF hfs ht hm h0 hn (Ev.loc (x := "paths") (d := .list (xs.map .str)) (by rfl) (by rfl) (by decide)) (by rw [sizeLine_eq]; omega) (by rfl) (by rfl) (by rfl) (by decide) (by rfl) (by rfl)) (by rfl) (by rfl)
theorem cp_s1 (hne : xs ≠ []) (hsz : xs.length ≤ 10) : Exc a c (cV1 xs) (cSt 1) (.next (cV1 xs)) := by
  have hl : xs.length ≠ 0 := fun z => hne (List.eq_nil_of_length_eq_zero z)
  refine Exc.ifF ((Ts.not ((Ts.ev (Ev.loc (x := "paths") (d := .tuple (xs.map .str)) (by rfl) (by rfl) (by decide)) (Tr.tuple (by rw [List.length_map]; omega)) (fun _ => by rfl)).to (b' := true) ?_)).to rfl) Exs.nil
  rw [List.length_map]; simpa using hl
theorem cp_s2 (hi : nsIn a.K mainGlobals "isinstance" = some none) (hb : nsIn a.K mainGlobals "bytes" = some none) (hne : xs ≠ []) : Exc a c (cV1 xs) (cSt 2) (.next (cV2 xs)) := by
  obtain ⟨x0, r, rfl⟩ := List.exists_cons_of_ne_nil hne
  exact Exc.ifF (Ts.notBytes (x := x0) hi hb (Ev.itemT (Ev.loc (x := "paths") (d := .tuple ((x0 :: r).map .str)) (by rfl) (by rfl) (by decide)) (Ev.int (i := 0)) (by decide) (by decide) (d := .str x0) (by rfl) (fun o j => by rfl)) (by rfl) (by rfl) (by rfl))
    (Exs.cons (Exc.assignC Ev.str (by rfl) (by rfl)) (Exs.cons (Exc.assignC Ev.str (by rfl) (by rfl)) Exs.nil))

def fSplit (d : PyData) : PyData := splitD (strOf d)
theorem tb_s0 (h0 : c.hq = none) (hsz : xs.length ≤ 10) (hlen : ∀ x ∈ xs, x.length ≤ 1000) : Exc a c (cV2 xs) (tSt 0) (.next (cV3 xs)) := by
  have e : ((xs.map PyData.str).filter (fun _ => true)).map fSplit = xs.map splitD := by
    rw [List.filter_eq_self.mpr (fun _ _ => rfl), List.map_map]; rfl
  unfold cV3
  rw [← e]
  refine Exc.assignComp (bs := fun d => [("path", d)]) (p := fun _ => true) (f := fSplit) (by rfl) (by rw [c.env_eq]; rfl) (EvI.tuple h0 (Ev.loc (x := "paths") (d := .tuple (xs.map .str)) (by rfl) (by rfl) (by decide))) (by rfl) (by decide) (by decide) (by decide) (fun _ => by rfl) (by rw [List.length_map, sizeLine_eq]; omega) fun c' hc' hq' d hd => ?_
  obtain ⟨x, hx, rfl⟩ := List.mem_map.mp hd
  have hlx := hlen x hx
  refine ⟨AsL.name (by rfl), TsAll.nil, fun _ => ?_⟩
  refine Ev.meth (x := x) (Ev.loc (x := "path") (by rfl) (by rfl) (by decide)) PySem.F.slot_str_split PySem.F.type_str_split (EvL.one (Ev.cell (x := "sep") (d := .str "/") (by rfl) (by rfl) (by decide))) (Bi.split (by rfl) (by rw [sizeLine_eq]; omega) ?_) (by rfl) (by rfl) (by decide) (by rfl)
  have h1 := StrLaws.occ_length_le_len x "/" 0 x.length (x.length + 1)
  unfold Builtin.Str.partsBetween
  rw [sizeLine_eq]
  simp only [List.length_map, List.length_zip, List.length_cons, List.length_append]
  omega

def fStarts (d : PyData) : Bool := Txt.startswith (strOf d) "/"
theorem mem_strs {xs : List Str} {q : PyData → Bool} {p : Str → Bool} (h : ∀ x, q (.str x) = p x) {b : Bool} : (∃ x ∈ xs, p x = b) → ∃ d ∈ xs.map PyData.str, q d = b := fun ⟨x, hx, e⟩ => ⟨.str x, List.mem_map.mpr ⟨x, hx, rfl⟩, (h x).trans e⟩
theorem tb_s1_ok (h0 : c.hq = none) {b : Bool} (hb : ∀ x ∈ xs, Txt.startswith x "/" = b) (hne : xs ≠ []) : Exc a c (cV3 xs) (tSt 1) (.next (("isabs", .bool b) :: cV3 xs)) := by
  refine Exc.tryN (Exs.cons (Exc.sole (bs := fun d => [("p", d)]) (g := fStarts) (EvI.tuple h0 (Ev.loc (x := "paths") (d := .tuple (xs.map .str)) (by rfl) (by rfl) (by decide))) (by rfl) (by decide) (by decide) (by decide) (fun _ => by rfl) (fun c' hc' hq' d hd => ?_) h0 (by rfl) (by rw [c.env_eq]; rfl) (b := b) (fun d hd => ?_) (by simpa using hne)) Exs.nil)
  · obtain ⟨x, hx, rfl⟩ := List.mem_map.mp hd
    exact ⟨AsL.name (by rfl), Ev.meth (x := x) (Ev.loc (x := "p") (by rfl) (by rfl) (by decide)) PySem.F.slot_str_startswith PySem.F.type_str_startswith (EvL.one (Ev.cell (x := "sep") (d := .str "/") (by rfl) (by rfl) (by decide))) Bi.starts (by rfl) (by rfl) (by decide) (by rfl)⟩
  · obtain ⟨x, hx, rfl⟩ := List.mem_map.mp hd
    exact hb x hx
theorem tb_s1_mix (he : c.env = c.fe) (h0 : c.hq = none) (hve : nsIn a.K mainGlobals "ValueError" = some none) (hm3 : exmOne a.K (.type "ValueError") (.type "ValueError") = some true) (h1 : ∃ x ∈ xs, Txt.startswith x "/" = true) (h2 : ∃ x ∈ xs, Txt.startswith x "/" = false) :
    RzcU a c (cV3 xs) (tSt 1) (.type "ValueError") (fun args => ∃ tk, args = [.str "Can't mix absolute and relative paths" tk]) (cV3 xs) := by
  refine RzcU.tryInner (ρ1 := cV3 xs) (P0 := fun _ => True) he hve hm3 (by rfl) (Rz.here (Rzc.sole (bs := fun d => [("p", d)]) (g := fStarts) (EvI.tuple h0 (Ev.loc (x := "paths") (d := .tuple (xs.map .str)) (by rfl) (by rfl) (by decide))) (by rfl) (by decide) (by decide) (by decide) (fun _ => by rfl) (fun c' hc' hq' d hd => ?_) h0 (x := "isabs") (by rfl) (by rw [c.env_eq]; rfl) (mem_strs (fun _ => rfl) h1) (mem_strs (fun _ => rfl) h2)))
  obtain ⟨x, hx, rfl⟩ := List.mem_map.mp hd
  exact ⟨AsL.name (by rfl), Ev.meth (x := x) (Ev.loc (x := "p") (by rfl) (by rfl) (by decide)) PySem.F.slot_str_startswith PySem.F.type_str_startswith (EvL.one (Ev.cell (x := "sep") (d := .str "/") (by rfl) (by rfl) (by decide))) Bi.starts (by rfl) (by rfl) (by decide) (by rfl)⟩

theorem Ts.and {sc : Scope} {c : Cx sc} {ρ : Vars} {e1 e2 : Expr} {pos : Pos} {b1 b2 : Bool} (h1 : Ts a c ρ e1 b1) (h2 : b1 = true → Ts a c ρ e2 b2) : Ts a c ρ (.BoolOp .And [e1, e2] pos) (b1 && b2) := by
  cases b1 with
  | true => exact Ts.andT h1 (h2 rfl)
  | false => exact Ts.andF h1
def dKeep : PyData → Bool
  | .str x => keepC x
  | _ => false
def fRow : PyData → PyData
  | .list ys => .list (ys.filter dKeep)
  | d => d
def cV4 (xs : List Str) (b : Bool) : Vars := ("isabs", .bool b) :: cV3 xs
def cV5 (xs : List Str) (b : Bool) : Vars := ("split_paths", .list ((xs.map rowC).map rowD)) :: cV4 xs b
theorem fRow_split (x : Str) : fRow (splitD x) = rowD (rowC x) := by
  show PyData.list _ = PyData.list _
  rw [filter_strs (p := keepC) (fun _ => rfl)]; rfl
theorem split_cnt (x : Str) : (Txt.split x "/").length ≤ x.length + 2 := split_len x 47
theorem tb_s2 (hsz : xs.length ≤ 10) (hlen : ∀ x ∈ xs, x.length ≤ 1000) {b : Bool} : Exc a c (cV4 xs b) (tSt 2) (.next (cV5 xs b)) := by
  have e : ((xs.map splitD).filter (fun _ => true)).map fRow = (xs.map rowC).map rowD := by
    rw [List.filter_eq_self.mpr (fun _ _ => rfl), List.map_map, List.map_map]
    exact List.map_congr_left fun x _ => fRow_split x
  unfold cV5
  rw [← e]
  refine Exc.assignComp (bs := fun d => [("s", d)]) (p := fun _ => true) (f := fRow) (by rfl) (by rw [c.env_eq]; rfl) (EvI.list (Ev.loc (x := "split_paths") (d := .list (xs.map splitD)) (by rfl) (by rfl) (by decide))) (by rfl) (by decide) (by decide) (by decide) (fun _ => by rfl) (by rw [List.length_map, sizeLine_eq]; omega) fun c' hc' hq' d hd => ?_
  obtain ⟨x, hx, rfl⟩ := List.mem_map.mp hd
  have hlx := hlen x hx
  have hcx := split_cnt x
  refine ⟨AsL.name (by rfl), TsAll.nil, fun _ => ?_⟩
  refine Ev.to (Ev.comp (ds := (Txt.split x "/").map .str) (bs := fun d => [("c", d)]) (p := dKeep) (f := id) (EvI.list (Ev.loc (x := "s") (d := splitD x) (by rfl) (by rfl) (by decide))) (by rfl) (by decide) (by decide) (by decide) (fun _ => by rfl) (by rw [List.length_map, sizeLine_eq]; omega) fun c2 hc2 hq2 d hd => ?_) ?_
  · obtain ⟨p, hp, rfl⟩ := List.mem_map.mp hd
    have hlp := split_mem_len hp
    refine ⟨AsL.name (by rfl), TsAll.one (Ts.and (b2 := p != ".") (Ts.ev (Ev.loc (x := "c") (d := .str p) (by rfl) (by rfl) (by decide)) (Tr.str (by omega)) (fun _ => by rfl)) fun _ => Ts.cmp (Ev.loc (x := "c") (d := .str p) (by rfl) (by rfl) (by decide)) (Ev.cell (x := "curdir") (d := .str ".") (by rfl) (by rfl) (by decide)) Op2.neStr), fun _ => Ev.loc (x := "c") (by rfl) (by rfl) (by decide)⟩
  · rw [List.map_id]; rfl
end
end Mine

end
section
open PySem PySem.Builtin PySem.W PyProof.Rows PySem.Calls PySem.Spec
set_option Elab.async false
set_option linter.unusedVariables false
set_option maxRecDepth 100000
namespace Mine
def sepB (b : Bool) : Str := if b = true then ("/" : Str) else ("" : Str)
theorem minRow_mem : ∀ (rows : List (List Str)) (r : List Str), minRow r rows ∈ r :: rows
  | [], r => List.mem_cons_self ..
  | r1 :: rows, r => by
    unfold minRow
    rw [List.foldl_cons]
    split
    · rcases List.mem_cons.mp (minRow_mem rows r1) with h | h
      · rw [show List.foldl _ r1 rows = r1 from h]; simp
      · exact List.mem_cons_of_mem _ (List.mem_cons_of_mem _ h)
    · rcases List.mem_cons.mp (minRow_mem rows r) with h | h
      · rw [show List.foldl _ r rows = r from h]; simp
      · exact List.mem_cons_of_mem _ (List.mem_cons_of_mem _ h)
theorem rowC_len (x : Str) : (rowC x).length ≤ x.length + 2 := Nat.le_trans (List.length_filter_le _ _) (split_cnt x)
theorem rowC_mem {x p : Str} (h : p ∈ rowC x) : p.length ≤ x.length := split_mem_len (List.mem_filter.mp h).1
section
variable {a : Amb} {ff : Addr} {c : Cx (fdScope (sAt 21))} {xs : List Str} {b : Bool} {r0 s1 s2 : List Str} {rows : List (List Str)}
def cV6 (xs : List Str) (b : Bool) (s1 s2 : List Str) : Vars := ("common", rowD s1) :: ("s2", rowD s2) :: ("s1", rowD s1) :: cV5 xs b
theorem get_row {r : List Str} {i : Nat} {y : Str} (h : r[i]? = some y) : (r.map PyData.str)[((i : Nat) : Int).toNat]? = some (.str y) := by
  rw [List.getElem?_map, Int.toNat_natCast, h]; rfl
theorem tb_test {k : Nat} {x y : Str} {ρ : Vars} (h1 : ρ.lookup ("c" : Str) = some (.str x)) (h2 : ρ.lookup ("s2" : Str) = some (rowD s2)) (h3 : ρ.lookup ("i" : Str) = some (.int k)) (hk : k < 100000) (hy : s2[k]? = some y) {p1 p2 p3 p4 p5 : Pos} :
    Ts a c ρ (.Compare (.Name "c" p1) [.NotEq] [.Subscript (.Name "s2" p2) (.Name "i" p3) p4] p5) (x != y) :=
  Ts.cmp (Ev.loc (x := "c") (d := .str x) (by rfl) h1 (by decide)) (Ev.itemL (Ev.loc (x := "s2") (d := rowD s2) (by rfl) h2 (by decide)) (Ev.loc (x := "i") (d := .int k) (by rfl) h3 (by decide)) (by omega) (by omega) (get_row hy) (fun o j => by rfl)) Op2.neStr

theorem Exc.weak {sc : Scope} {c : Cx sc} {ρ : Vars} {st : Stmt} {ρ1 ρ2 : Vars} (h : Exc a c ρ st (.next ρ1)) (k : ∀ y d, ρ2.lookup y = some d → ρ1.lookup y = some d) : Exc a c ρ st (.next ρ2) := fun s E S T =>
  h.then S T fun fl s1 q1 ⟨e, S1⟩ _ => ⟨q1, e, S1.sub k⟩
theorem Exs.weakB {sc : Scope} {c : Cx sc} {ρ : Vars} {ss : List Stmt} {ρ1 ρ2 : Vars} (h : Exs a c ρ ss (.brk ρ1)) (k : ∀ y d, ρ2.lookup y = some d → ρ1.lookup y = some d) : Exs a c ρ ss (.brk ρ2) := fun s E S T =>
  h.then S T fun fl s1 q1 ⟨e, S1⟩ _ => ⟨q1, e, S1.sub k⟩
theorem sub_under {x : Str} {d : PyData} {ρ1 ρ2 : Vars} (k : ∀ y d, ρ2.lookup y = some d → ρ1.lookup y = some d) : ∀ y d', ((x, d) :: ρ2).lookup y = some d' → ((x, d) :: ρ1).lookup y = some d' := fun y d' e => by
  rw [List.lookup_cons] at e ⊢
  cases q : y == x with
  | true => rw [q] at e; exact e
  | false => rw [q] at e; exact k y d' e
theorem tb_for (h0 : c.hq = none) (hen : nsIn a.K mainGlobals "enumerate" = some none) {k : Nat} (hl1 : s1.length ≤ 2000) (hk : k ≤ s1.length) (h1 : ∀ i, i < k → s2[i]? = s1[i]?) (h2 : k = s1.length ∨ ∃ x y, s1[k]? = some x ∧ s2[k]? = some y ∧ x ≠ y) :
    Exc a c (cV6 xs b s1 s2) (tSt 6) (.next (("common", rowD (s1.take k)) :: cV6 xs b s1 s2)) := by
  have main : ∀ ρe, ((k = (s1.map PyData.str).length ∧ ρe = cV6 xs b s1 s2) ∨ ∃ d, (s1.map PyData.str)[k]? = some d ∧ Exs a c (("c", d) :: ("i", .int k) :: cV6 xs b s1 s2) _ (.brk ρe)) → Exc a c (cV6 xs b s1 s2) (tSt 6) (.next ρe) := fun ρe fin => by
    refine Exc.forEnum (fun _ => cV6 xs b s1 s2) k h0 hen (Ev.loc (x := "s1") (d := rowD s1) (by rfl) (by rfl) (by decide)) rfl (by rfl) (by rfl) (by rfl) (by rfl) (fun _ => by rfl) (by rw [List.length_map]; exact hk) (fun i d hi hd => ?_) fin
    rw [List.getElem?_map] at hd
    obtain ⟨x, hx, rfl⟩ := Option.map_eq_some_iff.mp hd
    have hy : s2[i]? = some x := (h1 i hi).trans hx
    refine Exs.cons (Exc.ifF ((tb_test (s2 := s2) (x := x) (y := x) (k := i) (by rfl) (by rfl) (by rfl) (by omega) hy).to (by simp)) Exs.nil) ?_
    exact Exs.weak Exs.nil fun y d hy => (sub_one (by rfl) y d (sub_one (by rfl) y d hy))
  rcases h2 with rfl | ⟨x, y, hx, hy, ne⟩
  · refine Exc.weak (main _ (.inl ⟨by rw [List.length_map], rfl⟩)) fun y d hy => ?_
    rw [List.take_length, List.lookup_cons] at hy
    unfold cV6 at hy ⊢
    rw [List.lookup_cons]
    cases q : y == "common" with
    | true => rw [q] at hy; exact hy
    | false => rw [q] at hy; simp only at hy; rw [List.lookup_cons, q] at hy; exact hy
  · have hlt : k < s1.length := (List.getElem?_eq_some_iff.mp hx).1
    refine main _ (.inr ⟨.str x, by rw [List.getElem?_map, hx]; rfl, ?_⟩)
    refine Exs.brk (Exc.ifT ((tb_test (s2 := s2) (x := x) (y := y) (k := k) (by rfl) (by rfl) (by rfl) (by omega) hy).to (by simpa using ne)) ?_)
    refine Exs.weakB (Exs.cons (Exc.assignL (d := rowD (s1.take k)) (Ev.to (Ev.sliceL (lo := none) (hi := some (k : Int)) (Ev.loc (x := "s1") (d := rowD s1) (by rfl) (by rfl) (by decide)) .none (.some (Ev.loc (x := "i") (d := .int k) (by rfl) (by rfl) (by decide))) (by rw [List.length_map, sizeLine_eq]; omega)) ?_) (by rfl) (by rfl)) (Exs.brk Exc.break)) (sub_under fun y d hy => sub_one (by rfl) y d (sub_one (by rfl) y d hy))
    rw [cut_upto _ (by omega), Int.toNat_natCast, ← List.map_take]; rfl

theorem cp_ok {f : Addr} (hI : IsFn a "commonpath" f (sAt 21)) (hF : IsFn a "fspath" ff (sAt 14)) (hfs : ∀ {m : Nat} {x : Str}, Fn a (m + 1) (.ref ff) [.str x] (.str x)) (ht : nsIn a.K mainGlobals "tuple" = some none) (hm : nsIn a.K mainGlobals "map" = some none)
    (hi : nsIn a.K mainGlobals "isinstance" = some none) (hby : nsIn a.K mainGlobals "bytes" = some none) (hmin : nsIn a.K mainGlobals "min" = some none) (hmax : nsIn a.K mainGlobals "max" = some none) (hen : nsIn a.K mainGlobals "enumerate" = some none)
    (hsz : xs.length ≤ 10) (hlen : ∀ x ∈ xs, x.length ≤ 1000) (hb : ∀ x ∈ xs, Txt.startswith x "/" = b) (hr : xs.map rowC = r0 :: rows) {k : Nat} (hk : k ≤ (minRow r0 rows).length) (h1 : ∀ i, i < k → (maxRow r0 rows)[i]? = (minRow r0 rows)[i]?)
    (h2 : k = (minRow r0 rows).length ∨ ∃ x y, (minRow r0 rows)[k]? = some x ∧ (maxRow r0 rows)[k]? = some y ∧ x ≠ y) {m : Nat} :
    Fn a (m + 3) (.ref f) [.list (xs.map .str)] (.str (sepB b ++ Txt.join "/" ((minRow r0 rows).take k))) := by
  have hne : xs ≠ [] := fun z => by rw [z] at hr; cases hr
  have hmem : minRow r0 rows ∈ xs.map rowC := by rw [hr]; exact minRow_mem rows r0
  obtain ⟨x0, hx0, ex0⟩ := List.mem_map.mp hmem
  have hl0 := hlen x0 hx0
  have hl1 : (minRow r0 rows).length ≤ 1002 := by rw [← ex0]; have := rowC_len x0; omega
  have hall : ∀ p ∈ (minRow r0 rows).take k, p.length ≤ 1000 := fun p hp => by
    have := List.mem_of_mem_take hp
    rw [← ex0] at this
    exact Nat.le_trans (rowC_mem this) hl0
  have hcnt : ((minRow r0 rows).take k).length ≤ 1002 := by rw [List.length_take]; omega
  refine hI.fn ["paths"] (fun doc pm an cd ct => one_arg fun v => by rfl) (by rfl) (by rfl) (by rfl) (by rfl) fun c hc0 h0 => ?_
  refine Exs.cons (cp_s0 hF hfs ht hm h0 (by omega) hsz) (Exs.cons (cp_s1 hne hsz) (Exs.cons (cp_s2 hi hby hne) (Exs.ret (Exc.tryN ?_))))
  refine Exs.cons (tb_s0 h0 hsz hlen) (Exs.cons (tb_s1_ok h0 hb hne) (Exs.cons (tb_s2 (b := b) hsz hlen) ?_))
  refine Exs.cons (Exc.assignL (Ev.bi (Is.globB hmin PyProof.Rows.Boot.«min» (by decide) (by rfl) (by decide)) (Bi.minL (r0 := r0) (rows := rows) h0) (EvL.one (Ev.loc (x := "split_paths") (by rfl) (by rw [← hr]; rfl) (by decide))) (by rfl)) (by rfl) (by rfl)) ?_
  refine Exs.cons (Exc.assignL (Ev.bi (Is.globB hmax PyProof.Rows.Boot.«max» (by decide) (by rfl) (by decide)) (Bi.maxL (r0 := r0) (rows := rows) h0) (EvL.one (Ev.loc (x := "split_paths") (by rfl) (by rw [← hr]; rfl) (by decide))) (by rfl)) (by rfl) (by rfl)) ?_
  refine Exs.cons (Exc.assignL (d := rowD (minRow r0 rows)) (Ev.loc (x := "s1") (by rfl) (by rfl) (by decide)) (by rfl) (by rfl)) ?_
  refine Exs.cons (tb_for (xs := xs) (b := b) h0 hen (by omega) hk h1 h2) ?_
  refine Exs.cons (Exc.assignL (d := .str (sepB b)) (Ev.ite (x := b) (Ts.ev (Ev.loc (x := "isabs") (d := .bool b) (by rfl) (by rfl) (by decide)) Tr.bool (fun _ => by rfl)) (fun hb' => ?_) (fun hb' => ?_)) (by rfl) (by rfl)) ?_
  · subst hb'; exact Ev.cell (x := "sep") (d := .str "/") (by rfl) (by rfl) (by decide)
  · subst hb'
    exact Ev.to (Ev.sliceS (x := "/") (lo := none) (hi := some 0) (Ev.cell (x := "sep") (d := .str "/") (by rfl) (by rfl) (by decide)) .none (.some Ev.int) (by decide)) (by rfl)
  have hj : JoinOk ("/" : Str) ((minRow r0 rows).take k) = true := joinOk_of (n := 1000) (by decide) hall (Nat.le_trans (Nat.mul_le_mul_right _ hcnt) (by decide))
  have hjl := join_len (sep := ("/" : Str)) (n := 1000) (by decide) hall
  refine Exs.ret (Exc.return (Ev.bin (Ev.loc (x := "prefix") (d := .str (sepB b)) (by rfl) (by rfl) (by decide)) (Ev.meth (Ev.cell (x := "sep") (d := .str "/") (by rfl) (by rfl) (by decide)) PySem.F.slot_str_join PySem.F.type_str_join
    (EvL.one (Ev.loc (x := "common") (d := rowD ((minRow r0 rows).take k)) (by rfl) (by rfl) (by decide))) (Bi.join hj) (by rfl) (by rfl) (by decide) (by rfl)) (Op2.addStr ?_)))
  have e1 : (sepB b).length ≤ 1 := by cases b <;> decide
  have e2 : ((minRow r0 rows).take k).length * (1000 + 1) ≤ 1002 * 1001 := Nat.mul_le_mul_right _ hcnt
  rw [sizeLine_eq]; omega

theorem cp_mix {f : Addr} (hI : IsFn a "commonpath" f (sAt 21)) (hF : IsFn a "fspath" ff (sAt 14)) (hfs : ∀ {m : Nat} {x : Str}, Fn a (m + 1) (.ref ff) [.str x] (.str x)) (ht : nsIn a.K mainGlobals "tuple" = some none) (hm : nsIn a.K mainGlobals "map" = some none)
    (hi : nsIn a.K mainGlobals "isinstance" = some none) (hby : nsIn a.K mainGlobals "bytes" = some none) (hve : nsIn a.K mainGlobals "ValueError" = some none) (hm3 : exmOne a.K (.type "ValueError") (.type "ValueError") = some true)
    (hte : nsIn a.K mainGlobals "TypeError" = some none) (hae : nsIn a.K mainGlobals "AttributeError" = some none) (hm4 : exmAny a.K (.type "ValueError") [.type "TypeError", .type "AttributeError"] = some false)
    (hsz : xs.length ≤ 10) (hlen : ∀ x ∈ xs, x.length ≤ 1000) (h1 : ∃ x ∈ xs, Txt.startswith x "/" = true) (h2 : ∃ x ∈ xs, Txt.startswith x "/" = false) {m : Nat} :
    FnXU a (m + 3) (.ref f) [.list (xs.map .str)] (.type "ValueError") (fun args => ∃ tk, args = [.str "Can't mix absolute and relative paths" tk]) := by
  have hne : xs ≠ [] := fun z => by obtain ⟨x, hx, _⟩ := h1; rw [z] at hx; cases hx
  refine hI.fnXU (ρ' := cV3 xs) ["paths"] (fun doc pm an cd ct => one_arg fun v => by rfl) (by rfl) (by rfl) (by rfl) (by rfl) fun c hc0 h0 he => ?_
  refine RzU.cons (cp_s0 hF hfs ht hm h0 (by omega) hsz) (RzU.cons (cp_s1 hne hsz) (RzU.cons (cp_s2 hi hby hne) (RzU.here (RzcU.tryPass he hte PyProof.Rows.Boot.«TypeError» (by decide) (by rfl) (by decide) hae PyProof.Rows.Boot.«AttributeError» (by decide) (by rfl) (by decide) (by rfl) hm4 ?_))))
  exact RzU.cons (tb_s0 h0 hsz hlen) (RzU.here (tb_s1_mix he h0 hve hm3 h1 h2))
end
end Mine

end
section
open PySem PySem.Builtin PySem.W PyProof.Rows PySem.Calls PySem.Spec
set_option Elab.async false
set_option linter.unusedVariables false
set_option maxRecDepth 100000
namespace Mine
section
variable {a : Amb} {sc : Scope} {c : Cx sc} {ρ ρ₀ : Vars} {cls ct : Value} {P : List Value → Prop}
theorem store_anyA {A : Around} {x : Str} {v : Value} {s : Shared} {E : Value → Shared → Prop} {Q : Unit → Shared → Prop} (hx : sc.names.lookup x = some .local) (hr : ρ.lookup x = none) (S : St a c s.heap ρ)
    (k : ∀ s' ml, KpL c s s' → St a c s'.heap ρ → s'.heap.Ns c.env.locals ml → ml x = some v → Q () s') : wpAny a.M A (storeName c.env x v) Q E s := by
  obtain ⟨ml, hn, hv⟩ := S.loc
  refine wpAny_storeName_local (by rw [c.kindOf]; exact hx) hn (fun h' hn' hs => k _ _ (KpL.same hs) (S.storeAny hn hv hx hr hn' hs) hn' (by simp)) ?_
  rw [c.kind]; rfl
/-- as Hn, with whatever context -/
def HnU (a : Amb) (c : Cx sc) (ρ : Vars) (hs : List ExceptHandler) (cls : Value) (P : List Value → Prop) (d : PyData) : Prop :=
  ∀ (s0 s : Shared) (ρ₀ : Vars) (e : Addr) (ct : Value) (E : Value → Shared → Prop), St a c s0.heap ρ₀ → KpX c s0 s → St a c s.heap ρ → 0 < s.toks → Xc s0.heap s.heap e cls P ct (some .none) →
    wpAny a.M c.A (handleBy (.ref e) c.env hs) (fun fl s' => KpX c s0 s' ∧ RPost a c (.ret d) fl s') E s
theorem Exc.tryXU {body : List Stmt} {h₀ : ExceptHandler} {hs : List ExceptHandler} {pos : Pos} {d : PyData} {ρ' : Vars} (he : c.env = c.fe) (h : RzU a c ρ body cls P ρ') (hn : HnU a c ρ' (h₀ :: hs) cls P d) : Exc a c ρ (.Try body (h₀ :: hs) [] [] pos) (.ret d) := fun s E S T => by
  rw [arm_exec_Try]
  refine wpAny_bind (wpAny_standAt (wpAny_tryStmt_except (wpAny_mono (h s (fun v s1 => ∃ e ct, v = .ref e ∧ Rp a c cls P ct ρ' s e s1 ∧ 0 < s1.toks) S T fun e s1 ct r T1 => ⟨e, ct, rfl, r, T1⟩) (fun _ _ x => x.elim) fun v s1 ⟨e, ct, ev, r, T1⟩ => ?_)))
  subst ev
  exact to_handlerU he S r T1 fun s3 q3 S3 T3 x3 => hn s s3 ρ e ct E S q3 S3 T3 x3

theorem RzcU.assign {x : Str} {p2 p pos cpos : Pos} {y : Str} {es : List Expr} {f : Addr} {st : Stmt} {n : Nat} {ds : List PyData} (hI : IsFn a y f st) (hF : FnXU a n (.ref f) ds cls P) (h0 : c.hq = none) (hs : EvL a c ρ es ds) (hn : n ≤ c.n)
    (hx : sc.names.lookup y = some .globalImplicit) (hd : (y == ("__debug__" : Str)) = false) (hst : starEach es c.env = plainArgs es c.env) (hsw : swapsWith (.Call (.Name y p2) es [] cpos) (some (.Name x p)) pos.line c.env = pure false) :
    RzcU a c ρ (.Assign [.Name x p] (.Call (.Name y p2) es [] cpos) pos) cls P ρ := fun s E S T hE => by
  refine wpAny_Assign_Name (call_name (Is.globK hI.glob hx hd) hst S ?_) hsw
  obtain ⟨o, pm, cd, doc, an, ct, e2, e3, e4⟩ := hI.obj
  refine callWith_function (o := o) (fd := fnOf (fdName st) (fdName st) (fdPs st) (fdBody st) (fdScope st) .none .none doc pm an cd ct) (hs.args S T fun vs s1 q1 r1 S1 T1 => ⟨⟨S1.kIn _ _ e2, e3⟩, wpAny_mono (wpAny_toks_of (n := 1) T1 (wpAny_call (Q := fun _ _ => False) (E := fun v s' => ∃ e ct, v = .ref e ∧ Rp a c cls P ct ρ s e s') ?_)) (fun _ _ x => x.2.elim) fun v s' x => ?_⟩)
  · refine codeAny_mono (hF c.A c.frs c.X s1 vs c.hfr (c.h0 h0) (by have := c.hd; omega) (by have := c.hu; omega) S1.ok r1 T1) fun r s2 z => ?_
    obtain ⟨e, ct', rfl, q2, x2⟩ := z
    exact ⟨e, ct', rfl, (q1.trans q2).x, S1.keep q2.heap, _, .inr (.inl rfl), x2.less (Kp.there (fs := []) q1 S.fr)⟩
  · obtain ⟨T', e, ct', rfl, r⟩ := x
    exact hE e s' ct' r T'

/-- except ValueError as n: return [str(n)] -/
theorem HnU.strList {n msg : Str} {tp p1 p2 cpos lpos rpos pos : Pos} (hve : nsIn a.K mainGlobals "ValueError" = some none) (hstr : nsIn a.K mainGlobals "str" = some none) (hm : exmOne a.K (.type "ValueError") (.type "ValueError") = some true)
    (hx1 : sc.names.lookup ("ValueError" : Str) = some .globalImplicit) (hx2 : sc.names.lookup ("str" : Str) = some .globalImplicit) (hl : sc.names.lookup n = some .local) (hr0 : ρ.lookup n = none) (hd : (n == ("__debug__" : Str)) = false)
    (hst : starEach [.Name n p2] c.env = plainArgs [.Name n p2] c.env) (hst2 : starEach [.Call (.Name "str" p1) [.Name n p2] [] cpos] c.env = plainArgs [.Call (.Name "str" p1) [.Name n p2] [] cpos] c.env) :
    HnU a c ρ [.ExceptHandler (some (.Name "ValueError" tp)) (some n) [.Return (some (.List [.Call (.Name "str" p1) [.Name n p2] [] cpos] lpos)) rpos] pos] (.type "ValueError") (fun args => ∃ tk, args = [.str msg tk]) (.list [.str msg]) := fun s0 s ρ₀ e ct E S0 q S T x => by
  refine wpAny_handleBy_cons (codeAny_handlers_test ?_) (by intro z; cases z)
  refine name_globB (c := c) hve PyProof.Rows.Boot.«ValueError» (by decide) hx1 (by decide) S.base ?_
  refine (exm_one S.kIn x.ty hm).here ?_
  refine codeAny_handlers_suite_as ?_
  refine flight_step (fs := c.fs) (f := none) x fun h3 k3 x3 => ?_
  have S3 : St a c h3 ρ := S0.keepF S k3
  have q3 : KpX c s0 { s with heap := h3 } := q.keepF S0 k3
  refine wpAny_with_toks (n := 1) T (store_anyA (s := { s with heap := h3 }) hl hr0 S3 fun s4 ml q4 S4 hn4 hx4 T4 => ?_)
  obtain ⟨oL, es, ep, hL, hLd, _⟩ := (show ∃ o es ep, h3.get? c.env.locals = some o ∧ o.data = .dict es ep ∧ True from by
    obtain ⟨ml3, ⟨o, es, ep, h1, h2, _⟩, _⟩ := S3.loc
    exact ⟨o, es, ep, h1, h2, trivial⟩)
  have f4 : FaultAt s4.heap e (.type "ValueError") msg := by
    obtain ⟨oe, vs, t, tk, e1, e2, e3, e4, ⟨ot, m, g1, g2, g3⟩⟩ := x3.fault
    exact ⟨oe, vs, t, tk, KpL.exact q4 S3.fr e1 (fun z => by rw [z, hL] at e1; cases e1; rw [hLd] at e3; cases e3) (fun es n z => by rw [e3] at z; cases z), e2, e3, e4,
      ⟨ot, m, KpL.exact q4 S3.fr g1 (fun z => by rw [z, hL] at g1; cases g1; rw [hLd] at g3; cases g3) (fun es n z => by rw [g3] at z; cases z), g2, g3⟩⟩
  obtain ⟨oe, vs, t, tk, e1, e2, e3, e4, e5⟩ := f4
  refine wpAny_execs_cons (wpAny_Return_some (list_plain hst2 (spliced_cons (PyProof.Rows.Call_ (name_globB (c := c) hstr PyProof.Rows.Boot.«str» (by decide) hx2 (by decide) S4.base ?_)))))
  rw [hst, backTo_plain]
  refine PyProof.Rows.callWith_type (any_plain _ _) (evalArgs_any (spliced_cons (wpAny_Name (wpAny_loadName_local c.kind (by rw [c.kindOf]; exact hl) hn4 hx4 (spliced_nil ?_)) hd)))
  refine PySem.P.str_of_exc_one (A := c.A.mark (some (.ref e))) PySem.F.excStr_ValueError (show c.A.units + 2 < cLine from by have := c.units_lt; omega) ⟨oe, vs, e1, e2, e3, e4⟩ e5 ?_
  refine spliced_nil ?_
  refine wpAny_mono (newList_d (fs := c.fs) S4.ok (vs := [.str msg tk]) (ds := [.str msg]) (.cons (.str _ _) .nil) (Nat.le_of_ble_eq_true rfl)) (fun v s5 ⟨q5, r5⟩ => ?_) fun _ _ z => z
  have S5 := S4.keep q5.heap
  obtain ⟨ml5, hn5, _⟩ := S5.loc
  refine wpAny_nameGoes (by rw [c.kindOf]; exact hl) hn5 (by rw [c.kind]; rfl) fun h6 m6 hn6 hs6 => ?_
  obtain ⟨o5, es5, ep5, hL5, hLd5, _⟩ := hn5
  refine ⟨(q3.trans (q4.x.trans q5.x)).trans ⟨fun b o eb nb nc => ?_, rfl, rfl⟩, v, rfl, r5.of (seq_sameBut hs6 hL5 fun vs n z => by rw [hLd5] at z; cases z)⟩
  exact ⟨fun _ => (hs6.2 b nb).trans eb, fun _ _ => ⟨o.slots, (hs6.2 b nb).trans eb⟩⟩
end
section
variable {a : Amb} {f fc : Addr} {xs : List Str}
theorem told_mix (hI : IsFn a "_law_told" f (sAt 27)) (hC : IsFn a "commonpath" fc (sAt 21)) (hve : nsIn a.K mainGlobals "ValueError" = some none) (hstr : nsIn a.K mainGlobals "str" = some none) (hm : exmOne a.K (.type "ValueError") (.type "ValueError") = some true) {m : Nat} {msg : Str}
    (hF : FnXU a (m + 3) (.ref fc) [.list (xs.map .str)] (.type "ValueError") (fun args => ∃ tk, args = [.str msg tk])) : Fn a (m + 4) (.ref f) [.list (xs.map .str)] (.list [.str msg]) := by
  obtain ⟨o, pm, cd, doc, an, ct, e2, e3, e4⟩ := hI.obj
  refine FnG.bodyE (ds' := [.list (xs.map .str)]) ["paths"] e2 e3 e4 (fun A frs X s E vs hok hvs => ?_) (by rfl) (by rfl) (by rfl) (by rfl) fun c hc h0 he => ?_
  · obtain ⟨v1, ws, rfl, r1, r2⟩ := hvs.cons_inv
    rw [r2.nil_inv]
    exact wpAny_pure ⟨[v1], rfl, fun _ _ e => e, rfl, rfl, .cons r1 .nil⟩
  · exact Exs.ret (Exc.tryXU he (RzU.here (RzcU.assign hC hF h0 (EvL.one (Ev.loc (x := "paths") (d := .list (xs.map .str)) (by rfl) (by rfl) (by decide))) (by omega) (by rfl) (by decide) (by rfl) (by rfl)))
      (HnU.strList hve hstr hm (by rfl) (by rfl) (by rfl) (by rfl) (by decide) (by rfl) (by rfl)))
end
end Mine

end
section
open PySem PySem.Builtin PySem.W PyProof.Rows PySem.Calls PySem.Spec
set_option Elab.async false
set_option linter.unusedVariables false
set_option maxRecDepth 100000
namespace Mine
section
variable {a : Amb} {sc : Scope} {c : Cx sc} {ρ : Vars}
theorem Ev.replace2 {o : Expr} {apos pos p1 p2 : Pos} {k1 k2 : Nat} {x y z : Str} (ho : Ev a c ρ o (.str x)) (hyz : (y == z) = false) (hb : x.length + (x.length + 1) * z.length ≤ 16777216)
    (hbase : attributeBase o "replace" c.env (eval o c.env) = eval o c.env) (hline : (apos.endLine == pos.line) = true) :
    Ev a c ρ (.Call (.Attribute o "replace" apos) [.Constant (.str y) k1 p1, .Constant (.str z) k2 p2] [] pos) (.str (Txt.replace x y z)) := fun s E S T => by
  refine wpAny_Call_method_lateS hbase (by rfl) hline (ho.then S T fun v s1 q1 r1 S1 T1 => ?_)
  obtain ⟨t, rfl⟩ := r1.str_inv
  refine ⟨"str", "str.replace", PySem.F.plainAttrs_str, PySem.F.slot_str_replace, PySem.F.type_str_replace, typeIs_str _ _ _, (fun _ e => nomatch e), ?_⟩
  have hst : starEach [Expr.Constant (.str y) k1 p1, .Constant (.str z) k2 p2] c.env = plainArgs [Expr.Constant (.str y) k1 p1, .Constant (.str z) k2 p2] c.env := by rfl
  rw [hst, backTo_plain]
  refine callWith_builtin (any_plain _ _) (evalArgs_any (spliced_cons (show wpAny _ _ (mkText y) _ _ _ from wpAny_mkText (spliced_cons (show wpAny _ _ (mkText z) _ _ _ from wpAny_mkText (spliced_nil ?_))))))
  refine SC.replace (by show s1.toks ≠ 0; exact Nat.pos_iff_ne_zero.mp T1) (by show s1.toks + 1 ≠ 0; exact Nat.succ_ne_zero _) (by show s1.toks ≠ s1.toks + 1; exact Nat.ne_of_lt (Nat.lt_succ_self _)) hyz hb fun t' k => ⟨?_, .str _ _⟩
  exact ⟨q1.heap, q1.gens, q1.os⟩
end
section
variable {a : Amb} {f fc fsp fj fr fy : Addr} {xs : List Str} {cp h t : Str}
def toldTexts (cp : Str) : List Str := [joinS cp "", Txt.replace (joinS cp "") "/" " ", joinS cp " "]
theorem join_len_eq {s1 s2 : Str} (hs : s1.length = s2.length) : ∀ l : List Str, (Str.join s1 l).length = (Str.join s2 l).length
  | [] => rfl
  | [x] => rfl
  | x :: y :: r => by
    show (x ++ s1 ++ Str.join s1 (y :: r)).length = (x ++ s2 ++ Str.join s2 (y :: r)).length
    rw [Str.length_append, Str.length_append, Str.length_append, Str.length_append, hs, join_len_eq hs (y :: r)]
theorem replace_len (x : Str) : (Txt.replace x "/" " ").length = x.length := by
  rw [show ("/" : Str) = ⟨#[47]⟩ from rfl, StrLaws.replace_one, join_len_eq (s2 := ⟨#[47]⟩) (by decide), StrLaws.join_split]
theorem joinS_len (x y : Str) : (joinS x y).length ≤ x.length + y.length + 1 := by
  unfold joinS
  have e : ("/" : Str).length = 1 := by decide
  split
  · omega
  · split
    · rw [Str.length_append]; omega
    · rw [Str.length_append, Str.length_append, e]; omega
theorem told_ok (hI : IsFn a "_law_told" f (sAt 27)) (hC : IsFn a "commonpath" fc (sAt 21)) (hSp : IsFn a "split" fsp (sAt 20)) (hJ : IsFn a "join" fj (sAt 19)) (hR : IsFn a "_law_read" fr (sAt 26)) (hY : IsFn a "_law_reply" fy (sAt 25)) {m : Nat} (hcp : cp.length ≤ 10000)
    (hF : Fn a (m + 3) (.ref fc) [.list (xs.map .str)] (.str cp)) (hS : ∀ {m : Nat}, Fn a (m + 2) (.ref fsp) [.str cp] (.tuple [.str h, .str t])) (hj : ∀ {m : Nat} {y : Str}, y.length ≤ 100000 → Fn a (m + 2) (.ref fj) [.str cp, .str y] (.str (joinS cp y)))
    (hy : ∀ {m : Nat} {x : Str}, x.length ≤ 100000 → FnG (fun _ => True) a (m + 1) (.ref fy) [.str x] (.str (replyS x))) {rd : Str → PyData} (hr : ∀ {m : Nat}, ∀ x ∈ toldTexts cp, FnC a (m + 2) (.ref fr) [.str (replyS x), .tuple [.str h, .str t]] (rd x)) :
    FnC a (m + 4) (.ref f) [.list (xs.map .str)] (.list (.tuple [.str h, .str t] :: (toldTexts cp).map rd)) := by
  have e0 : ("" : Str).length = 0 := by decide
  have e1 : (" " : Str).length = 1 := by decide
  have hj0 := joinS_len cp ""
  have hj1 := joinS_len cp " "
  have hrl := replace_len (joinS cp "")
  have htl : ∀ x ∈ toldTexts cp, x.length ≤ 100000 := fun x hx => by
    simp only [toldTexts, List.mem_cons, List.not_mem_nil, or_false] at hx
    rcases hx with rfl | rfl | rfl <;> omega
  refine hI.fnC ["paths"] (fun doc pm an cd ct => one_arg fun v => by rfl) (by rfl) (by rfl) (by rfl) (by rfl) fun c hc h0 he => ?_
  refine ExsC.cons (ExcC.of (Exc.tryN (Exs.cons (Exc.assignL (Ev.fn hC hF h0 (EvL.one (Ev.loc (x := "paths") (d := .list (xs.map .str)) (by rfl) (by rfl) (by decide))) (by omega) (by rfl) (by decide) (by rfl)) (by rfl) (by rfl)) Exs.nil))) ?_
  refine ExsC.cons (ExcC.of (Exc.assignC (Ev.fn hSp (hS (m := 0)) h0 (EvL.one (Ev.loc (x := "common") (d := .str cp) (by rfl) (by rfl) (by decide))) (by omega) (by rfl) (by decide) (by rfl)) (by rfl) (by rfl))) ?_
  refine ExsC.cons (ExcC.of (Exc.assignL (Ev.fn hJ (hj (m := 0) (y := "") (by decide)) h0 (EvL.two (Ev.loc (x := "common") (d := .str cp) (by rfl) (by rfl) (by decide)) Ev.str) (by omega) (by rfl) (by decide) (by rfl)) (by rfl) (by rfl))) ?_
  refine ExsC.cons (ExcC.of (Exc.assignL (d := .list ((toldTexts cp).map .str)) (Ev.list (EvL.cons (Ev.loc (x := "inside") (d := .str (joinS cp "")) (by rfl) (by rfl) (by decide)) (EvL.two
    (Ev.replace2 (Ev.loc (x := "inside") (d := .str (joinS cp "")) (by rfl) (by rfl) (by decide)) (by decide) (by rw [e1]; omega) (by rfl) (by rfl))
    (Ev.fn hJ (hj (m := 0) (y := " ") (by decide)) h0 (EvL.two (Ev.loc (x := "common") (d := .str cp) (by rfl) (by rfl) (by decide)) Ev.str) (by omega) (by rfl) (by decide) (by rfl)))) (by rfl) (Nat.le_of_ble_eq_true rfl)) (by rfl) (by rfl))) ?_
  refine ExsC.ret (ExcC.return (EvC.bin (d2 := .list ((toldTexts cp).map rd)) (EvC.of (Ev.list (EvL.one (Ev.cell (x := "peer") (d := .tuple [.str h, .str t]) (by rfl) (by rfl) (by decide))) (by rfl) (Nat.le_of_ble_eq_true rfl))) ?_ (Op2.addL (Nat.le_of_ble_eq_true rfl))))
  have ef : (((toldTexts cp).map PyData.str).filter (fun _ => true)).map (fun d => rd (strOf d)) = (toldTexts cp).map rd := by
    rw [List.filter_eq_self.mpr (fun _ _ => rfl), List.map_map]; rfl
  rw [← ef]
  refine EvC.comp (p := fun _ => true) (f := fun d => rd (strOf d)) (bs := fun d => [("text", d)]) (EvI.list (Ev.loc (x := "texts") (d := .list ((toldTexts cp).map .str)) (by rfl) (by rfl) (by decide))) (by rfl) (by decide) (by decide) (by decide) (fun _ => by rfl) (Nat.le_of_ble_eq_true rfl) fun c' hc' hq' d hd => ?_
  obtain ⟨x, hx, rfl⟩ := List.mem_map.mp hd
  refine ⟨AsL.name (by rfl), TsAll.nil, fun _ => ?_⟩
  exact EvC.fn hR (hr (m := 0) x hx) (by rw [hq', h0]) (EvL.two (Ev.fn hY (hy (m := 0) (htl x hx)) trivial (EvL.one (Ev.loc (x := "text") (d := .str x) (by rfl) (by rfl) (by decide))) (by omega) (by rfl) (by decide) (by rfl)) (Ev.cell (x := "peer") (d := .tuple [.str h, .str t]) (by rfl) (by rfl) (by decide))) (by omega) (by rfl) (by decide) (by rfl)
end
end Mine

end
section
open PySem PySem.Builtin PySem.W PyProof.Rows PySem.Calls PySem.Spec
set_option Elab.async false
set_option linter.unusedVariables false
set_option maxRecDepth 100000
namespace Mine
section
variable {a : Amb} {sc : Scope} {c : Cx sc} {ρ : Vars} {D : Addr} {nm : Str} {acc : List PyData}
/-- the same frame, one list hidden from its names -/
abbrev Cx.hide (c : Cx sc) (D : Addr) : Cx sc := { c with X := D :: c.X }
/-- a list D, that the name nm bears, filled so far with acc -/
structure Acc (a : Amb) {sc : Scope} (c : Cx sc) (D : Addr) (nm : Str) (ρ : Vars) (acc : List PyData) (h : Heap) : Prop where
  st : St a (c.hide D) h ρ
  nm : ∃ ml, h.Ns c.env.locals ml ∧ ml nm = some (.ref D)
  ls : ∃ vs, h.PlainList D vs ∧ RdL (vw (D :: c.X) h) vs.toList acc
  new : a.H.get? D = none
theorem Acc.keep {h h' : Heap} (x : Acc a c D nm ρ acc h) (k : Keep c.fs h h') : Acc a c D nm ρ acc h' where
  st := x.st.keep k
  nm := let ⟨ml, hn, e⟩ := x.nm; ⟨ml, k.up.ns hn, e⟩
  ls := by
    obtain ⟨vs, ⟨n, hp⟩, r⟩ := x.ls
    exact ⟨vs, ⟨n, k.exact x.st.fr hp fun es n z => by cases z⟩, r.of k.seqv⟩
  new := x.new
/-- the hidden list may turn -/
theorem St.extD {h h' : Heap} {o o' : Obj} {us us' : Array Value} {n n' : Nat} (S : St a (c.hide D) h ρ) (k : ∀ b o, b ≠ D → h.get? b = some o → h'.get? b = some o) (hH : a.H.get? D = none) (ho : h.get? D = some o) (hd : o.data = .seq us n) (ho' : h'.get? D = some o') (hd' : o'.data = .seq us' n') : St a (c.hide D) h' ρ := by
  have sk : SeqKeep (vw (D :: c.X) h) (vw (D :: c.X) h') := .vw fun b o us n eb nb _ => ⟨o.slots, k b o (fun z => nb (by rw [z]; exact List.mem_cons_self ..)) eb⟩
  refine ⟨⟨fun b o e => k b o (fun z => by rw [z, hH] at e; cases e) (S.base b o e), frOk_of (fun b ob e nf => ?_) (fun b ob es n e q => ?_) S.fr, fun x hx => ?_⟩, S.new, ?_, fun x hx => ?_, fun e q => ?_⟩
  · by_cases z : b = D
    · subst z; exact ⟨_, ho', fun vs q => by rw [hd'] at q; cases q⟩
    · exact ⟨ob, k b ob z e, nf⟩
  · exact ⟨ob, es, n, k b ob (fun z => by subst z; rw [ho] at e; cases e; rw [hd] at q; cases q) e, q⟩
  · by_cases z : x = D
    · subst z; exact ⟨_, ho'⟩
    · obtain ⟨ob, e⟩ := S.ok.xs x hx; exact ⟨ob, k x ob z e⟩
  · obtain ⟨ml, hn, hv⟩ := S.loc
    refine ⟨ml, hn.at' fun o1 e => k _ o1 (fun z => ?_) e, fun x d hx e => let ⟨v, e1, r⟩ := hv x d hx e; ⟨v, e1, r.of sk⟩⟩
    obtain ⟨oL, es, ep, hL, hLd, _⟩ := hn
    have hL' : h.get? c.env.locals = some oL := hL
    have z' : c.env.locals = D := z
    rw [z', ho] at hL'; cases hL'; rw [hd] at hLd; cases hLd
  · obtain ⟨ad, v, e1, e0, ⟨o1, e2, e2'⟩, e3⟩ := S.cel x hx
    exact ⟨ad, v, e1, e0, ⟨o1, k ad o1 (fun z => by subst z; rw [ho] at e2; cases e2; rw [hd] at e2'; cases e2') e2, e2'⟩, fun d q => let ⟨u, z1, z2⟩ := e3 d q; ⟨u, z1, z2.of sk⟩⟩
  · obtain ⟨o1, vs, e1, e2, e3⟩ := S.hld e q
    exact ⟨o1, vs, k e o1 (fun z => by subst z; rw [ho] at e1; cases e1; rw [hd] at e2; cases e2) e1, e2, e3⟩
/-- all kept but D -/
structure KpA (fs : List Addr) (D : Addr) (s s' : Shared) : Prop where
  heap : ∀ b o, s.heap.get? b = some o → b ≠ D → (b ∉ fs → s'.heap.get? b = some o) ∧ (b ∈ fs → (∀ vs, o.data ≠ .fields vs) → ∃ sl, s'.heap.get? b = some { o with slots := sl })
  gens : s'.gens = s.gens
  os : s'.os = s.os
theorem Kp.kpA {fs : List Addr} {s s' : Shared} (k : Kp fs s s') : KpA fs D s s' := ⟨fun b o e _ => k.heap b o e, k.gens, k.os⟩
theorem KpA.trans {fs : List Addr} {s₁ s₂ s₃ : Shared} (x : KpA fs D s₁ s₂) (y : KpA fs D s₂ s₃) : KpA fs D s₁ s₃ := ⟨fun b o e n1 => by
    refine ⟨fun n => (y.heap b o ((x.heap b o e n1).1 n) n1).1 n, fun m nf => ?_⟩
    obtain ⟨sl, q⟩ := (x.heap b o e n1).2 m nf
    obtain ⟨sl', q'⟩ := (y.heap b _ q n1).2 m nf
    exact ⟨sl', q'⟩, y.gens.trans x.gens, y.os.trans x.os⟩
/-- what a suite does with the list: it appends o, or nothing -/
def AppT (a : Amb) {sc : Scope} (c : Cx sc) (D : Addr) (nm : Str) (ρ : Vars) (body : List Stmt) (o : Option PyData) : Prop :=
  ∀ (s : Shared) (E : Value → Shared → Prop) (acc : List PyData), Acc a c D nm ρ acc s.heap → 0 < s.toks → acc.length ≤ 100000 →
    wpAny a.M c.A (execs body c.env) (fun fl s' => fl = .next ∧ KpA c.fs D s s' ∧ Acc a c D nm ρ (acc ++ o.toList) s'.heap) E s
theorem AppT.ite {t : Expr} {body : List Stmt} {pos : Pos} {b : Bool} {o : Option PyData} (ht : Ts a (c.hide D) ρ t b) (hb : b = true → AppT a c D nm ρ body o) (hf : b = false → o = none) : AppT a c D nm ρ [.If t body [] pos] o := fun s E acc X T hl => by
  refine wpAny_execs_cons (wpAny_If (ht.then (c := c.hide D) X.st T fun s1 q1 S1 T1 => ?_))
  cases b with
  | true =>
    rw [if_pos rfl]
    refine wpAny_mono (hb rfl s1 E acc (X.keep q1.heap) T1 hl) (fun fl s2 ⟨e, q2, X2⟩ => ?_) fun _ _ x => x
    subst e
    exact wpAny_execs_nil ⟨rfl, q1.kpA.trans q2, X2⟩
  | false =>
    rw [if_neg Bool.false_ne_true]
    refine wpAny_execs_nil (wpAny_execs_nil ⟨rfl, q1.kpA, ?_⟩)
    rw [hf rfl]
    simpa using X.keep q1.heap
theorem AppT.append {np ap cp ep : Pos} {e : Expr} {d : PyData} (hl : sc.names.lookup nm = some .local) (hd : (nm == ("__debug__" : Str)) = false) (h : Ev a (c.hide D) ρ e d) (hst : starEach [e] c.env = plainArgs [e] c.env) (hline : (ap.endLine == cp.line) = true)
    (hbase : attributeBase (.Name nm np) "append" c.env (eval (.Name nm np) c.env) = eval (.Name nm np) c.env) (hi : interactive c.env = false) (hs : swapsWith (.Call (.Attribute (.Name nm np) "append" ap) [e] [] cp) none ep.line c.env = pure false) :
    AppT a c D nm ρ [.Expr (.Call (.Attribute (.Name nm np) "append" ap) [e] [] cp) ep] (some d) := fun s E acc X T hlen => by
  obtain ⟨ml, hn, hml⟩ := X.nm
  refine wpAny_execs_cons (wpAny_Expr_any (wpAny_Call_method_lateS hbase ?_ hline (wpAny_Name (wpAny_loadName_local c.kind (by rw [c.kindOf]; exact hl) hn hml ?_) hd)) hi hs)
  · rw [hst, backTo_plain, all_plain]; simp [backToKw, keywordEach]
  obtain ⟨vs, ⟨n, hp⟩, r⟩ := X.ls
  refine ⟨"list", "list.append", PySem.F.plainAttrs_list, PySem.F.slot_list_append, PySem.F.type_list_append, ⟨_, hp, rfl⟩, (fun b e => by cases e; exact ⟨_, hp, rfl⟩), ?_⟩
  rw [hst, backTo_plain]
  refine callWith_builtin (any_plain _ _) ((EvL.one h).args (c := c.hide D) X.st T fun us s1 q1 r1 S1 T1 => ?_)
  obtain ⟨v, ws, rfl, r2, r3⟩ := r1.cons_inv
  cases r3.nil_inv
  have X1 := X.keep q1.heap
  obtain ⟨vs1, hp1, rr1⟩ := X1.ls
  have hsz : vs1.size ≤ sizeLine := by
    have := rr1.length
    simp only [Array.length_toList] at this
    rw [sizeLine_eq, this]; omega
  refine wpAny_list_append_plain hp1 (fun h' hp' hs' => ?_) hsz
  have ext : ∀ b o, b ≠ D → s1.heap.get? b = some o → h'.get? b = some o := fun b o nb eb => (hs'.2 b nb).trans eb
  have sk : SeqKeep (vw (D :: c.X) s1.heap) (vw (D :: c.X) h') := .vw fun b o us n eb nb _ => ⟨o.slots, ext b o (fun z => nb (by rw [z]; exact List.mem_cons_self ..)) eb⟩
  obtain ⟨n1, hpp⟩ := id hp1
  obtain ⟨n2, hpp'⟩ := id hp'
  have S2 : St a (c.hide D) h' ρ := X1.st.extD ext X1.new hpp rfl hpp' rfl
  refine wpAny_execs_nil ⟨rfl, q1.kpA.trans ⟨fun b o eb nb => ⟨fun _ => ext b o nb eb, fun _ _ => ⟨o.slots, ext b o nb eb⟩⟩, rfl, rfl⟩, S2, ?_, ?_, X1.new⟩
  · obtain ⟨ml1, hn1, e1⟩ := X1.nm
    refine ⟨ml1, hn1.sameBut hs' fun z => ?_, e1⟩
    obtain ⟨oL, es, ep, hL, hLd, _⟩ := hn1
    rw [z, hpp] at hL; cases hL; cases hLd
  · exact ⟨_, hp', by simpa using (rr1.of sk).append (.cons (r2.of sk) .nil)⟩
end
end Mine

end
section
open PySem PySem.Builtin PySem.W PyProof.Rows PySem.Calls PySem.Spec
set_option Elab.async false
set_option linter.unusedVariables false
set_option maxRecDepth 100000
namespace Mine
section
variable {a : Amb} {sc : Scope} {c : Cx sc} {ρ : Vars} {D : Addr} {nm : Str} {acc : List PyData}
/-- all kept but the frame's own parts and D -/
structure KpXD {sc : Scope} (c : Cx sc) (D : Addr) (s s' : Shared) : Prop where
  heap : ∀ b o, s.heap.get? b = some o → b ≠ D → b ≠ c.env.locals → (∀ x, sc.names.lookup x = some .cell → c.env.cells.lookup x ≠ some b) → (b ∉ c.fs → s'.heap.get? b = some o) ∧ (b ∈ c.fs → (∀ vs, o.data ≠ .fields vs) → ∃ sl, s'.heap.get? b = some { o with slots := sl })
  gens : s'.gens = s.gens
  os : s'.os = s.os
theorem KpXD.refl (s : Shared) : KpXD c D s s := ⟨fun _ o e _ _ _ => ⟨fun _ => e, fun _ _ => ⟨o.slots, e⟩⟩, rfl, rfl⟩
theorem KpXD.trans {s₁ s₂ s₃ : Shared} (x : KpXD c D s₁ s₂) (y : KpXD c D s₂ s₃) : KpXD c D s₁ s₃ :=
  ⟨fun b o e n0 n1 n2 => by
    refine ⟨fun n => (y.heap b o ((x.heap b o e n0 n1 n2).1 n) n0 n1 n2).1 n, fun m nf => ?_⟩
    obtain ⟨sl, q⟩ := (x.heap b o e n0 n1 n2).2 m nf
    obtain ⟨sl', q'⟩ := (y.heap b _ q n0 n1 n2).2 m nf
    exact ⟨sl', q'⟩, y.gens.trans x.gens, y.os.trans x.os⟩
theorem KpA.xd {s s' : Shared} (k : KpA c.fs D s s') : KpXD c D s s' := ⟨fun b o e n0 _ _ => k.heap b o e n0, k.gens, k.os⟩
theorem Kp.xd {s s' : Shared} (k : Kp c.fs s s') : KpXD c D s s' := ⟨fun b o e _ _ _ => k.heap b o e, k.gens, k.os⟩
theorem KpXD.ext {s s2 s3 : Shared} {it : Addr} (k : KpXD c D s s2) (n : s.heap.get? it = none) (e : ∀ b o, b ≠ it → s2.heap.get? b = some o → s3.heap.get? b = some o) (hg : s3.gens = s2.gens) (ho : s3.os = s2.os) : KpXD c D s s3 :=
  ⟨fun b o q n0 n1 n2 => by
    have ne : b ≠ it := fun z => by rw [z, n] at q; cases q
    obtain ⟨z1, z2⟩ := k.heap b o q n0 n1 n2
    exact ⟨fun m => e b o ne (z1 m), fun m nf => let ⟨sl, z⟩ := z2 m nf; ⟨sl, e b _ ne z⟩⟩, hg.trans k.gens, ho.trans k.os⟩
theorem Acc.ext {h h' : Heap} {it : Addr} (X : Acc a c D nm ρ acc h) (e : ∀ b o, b ≠ it → h.get? b = some o → h'.get? b = some o) (hH : a.H.get? it = none) (hfs : it ∉ c.fs) (hX : it ∉ D :: c.X) (hloc : it ≠ c.env.locals)
    (hdat : ∀ o, h.get? it = some o → (∀ v, o.data ≠ .cell v) ∧ (∀ vs n, o.data ≠ .seq vs n)) (hq : ∀ y, c.hq = some y → y ≠ it) : Acc a c D nm ρ acc h' where
  st := X.st.ext2 e hH hfs hX hloc hdat hq
  nm := let ⟨ml, hn, q⟩ := X.nm; ⟨ml, hn.at' fun o z => e _ o (Ne.symm hloc) z, q⟩
  ls := by
    obtain ⟨vs, ⟨n, hp⟩, r⟩ := X.ls
    refine ⟨vs, ⟨n, e _ _ (fun z => hX (by rw [← z]; exact List.mem_cons_self ..)) hp⟩, r.of (.vw fun b o us n eb nb d => ⟨o.slots, e b o (fun z => by subst z; exact (hdat o eb).2 us n d) eb⟩)⟩
  new := X.new
theorem Acc.sub {h : Heap} {ρ ρ' : Vars} (X : Acc a c D nm ρ acc h) (k : ∀ y d, ρ'.lookup y = some d → ρ.lookup y = some d) : Acc a c D nm ρ' acc h := ⟨X.st.sub k, X.nm, X.ls, X.new⟩

/-- storing a cell, beside a hidden list -/
theorem store_cellA {x : Str} {v : Value} {d : PyData} {s : Shared} {E : Value → Shared → Prop} {Q : Unit → Shared → Prop} (hx : sc.names.lookup x = some .cell) (X : Acc a c D nm ρ acc s.heap) (r : Rd (vw (D :: c.X) s.heap) v d)
    (k : ∀ s', KpXD c D s s' → Acc a c D nm ((x, d) :: ρ) acc s'.heap → (∀ b o, s.heap.get? b = some o → (∀ v, o.data ≠ .cell v) → s'.heap.get? b = some o) → Q () s') : wpAny a.M c.A (storeName c.env x v) Q E s := by
  have S := X.st
  obtain ⟨ad, w, e1, e0, e2, e3⟩ := S.cel x hx
  obtain ⟨oc, hoc, hoc'⟩ := id e2
  obtain ⟨vs, ⟨nD, hp⟩, rD⟩ := X.ls
  have nDad : D ≠ ad := fun z => by rw [← z, hp] at hoc; cases hoc; cases hoc'
  refine wpAny_storeName_cell c.kind (by rw [c.kindOf]; exact hx) e1 e2 fun h' hc' hs => ?_
  obtain ⟨oc2, hoc2, hoc2'⟩ := id hc'
  have sk : SeqKeep (vw (D :: c.X) s.heap) (vw (D :: c.X) h') := seq_sameBut hs hoc fun vs n q => by rw [hoc'] at q; cases q
  have hL : c.env.locals ≠ ad := fun z => by
    obtain ⟨ml, ⟨oL, es, ep, hL, hLd, _⟩, _⟩ := X.nm
    rw [z, hoc] at hL; cases hL; rw [hLd] at hoc'; cases hoc'
  refine k _ ⟨fun b o e _ _ nm => ?_, rfl, rfl⟩ ⟨⟨ok_sameBut S.ok hs e0 hoc hoc2 (fun vs z => by rw [hoc2'] at z; cases z) (fun es n q => by rw [hoc'] at q; cases q), S.new, ?_, fun y hy => ?_, fun e q => (S.hld e q).but (fun b o nb eb => (hs.2 b nb).trans eb) hoc fun vs z => by rw [hoc'] at z; cases z⟩, ?_, ?_, X.new⟩ fun b o eb nc => ?_
  · have q : b ≠ ad := fun z => nm x hx (by rw [z]; exact e1)
    rw [show (({ s with heap := h' } : Shared).heap.get? b) = h'.get? b from rfl, hs.2 b q]; exact ⟨fun _ => e, fun _ _ => ⟨o.slots, e⟩⟩
  · obtain ⟨ml, hn, hv⟩ := S.loc
    refine ⟨ml, hn.sameBut hs hL, fun y dy hy hq => ?_⟩
    have yx : y ≠ x := fun z => by rw [z, hx] at hy; cases hy
    rw [lookup_cons_ne yx] at hq
    obtain ⟨u, z1, z2⟩ := hv y dy hy hq
    exact ⟨u, z1, z2.of sk⟩
  · by_cases q : y = x
    · subst q
      refine ⟨ad, _, e1, e0, hc', fun dy hq => ?_⟩
      rw [lookup_cons_eq] at hq
      cases hq
      exact ⟨v, rfl, r.of sk⟩
    · obtain ⟨ad', w', z1, z0, z2, z3⟩ := S.cel y hy
      have ne : ad' ≠ ad := fun z => q (c.hinj x y ad e1 (by rw [← z]; exact z1))
      refine ⟨ad', w', z1, z0, z2.sameBut hs ne, fun dy hq => ?_⟩
      rw [lookup_cons_ne q] at hq
      obtain ⟨u, k1, k2⟩ := z3 dy hq
      exact ⟨u, k1, k2.of sk⟩
  · obtain ⟨ml, hn, e⟩ := X.nm
    exact ⟨ml, hn.sameBut hs hL, e⟩
  · exact ⟨vs, ⟨nD, (hs.2 D nDad).trans hp⟩, rD.of sk⟩
  · exact (hs.2 b fun z => by rw [z, hoc] at eb; cases eb; exact nc _ hoc').trans eb

theorem take_filterMap {ds : List PyData} {i : Nat} {d : PyData} {g : PyData → Option PyData} (hd : ds[i]? = some d) : (ds.take (i + 1)).filterMap g = (ds.take i).filterMap g ++ (g d).toList := by
  rw [List.take_add_one, hd, List.filterMap_append]
  cases h : g d <;> simp [h]
/-- a loop that fills a list -/
theorem accum_for {x : Str} {px pos : Pos} {iter : Expr} {body : List Stmt} {ds : List PyData} {g : PyData → Option PyData} {s0 : Shared} {E : Value → Shared → Prop} {Q : Flow → Shared → Prop} (hx : sc.names.lookup x = some .cell) (hρ : ρ.lookup x = none)
    (hi : EvI a (c.hide D) ρ iter ds) (X : Acc a c D nm ρ [] s0.heap) (T : 0 < s0.toks) (hfs : ∀ x, foldedSetIterable iter c.env x = pure x) (hsz : ds.length ≤ 100000)
    (turn : ∀ d, d ∈ ds → AppT a c D nm ((x, d) :: ρ) body (g d)) (fin : ∀ s3, KpXD c D s0 s3 → Acc a c D nm ρ (ds.filterMap g) s3.heap → Q .next s3) : wpAny a.M c.A (exec (.For (.Name x px) iter body [] pos) c.env) Q E s0 := by
  refine for_run (c := c.hide D) (fun i s' => KpXD c D s0 s' ∧ Acc a c D nm ρ ((ds.take i).filterMap g) s'.heap) hi X.st T hfs (fun s1 q1 T1 => ⟨Kp.xd (c := c) q1, by simpa using X.keep q1.heap⟩) (fun i it s2 s3 nit ⟨o, vs, hoi, hdi⟩ ⟨k2, X2⟩ ext g3 o3 => ?_) (fun i s3 ⟨_, X3⟩ => X3.st.hld)
    (fun s1 i d v it s3 q1 nit ⟨oi, vi, hoi, hdi⟩ hd ⟨k3, X3⟩ T3 rv gk3 => ?_) (fun s3 ⟨k3, X3⟩ => fin s3 k3 (by rwa [List.take_length] at X3)) (fun it v => by rfl)
  · obtain ⟨n1, n2, n3, n4⟩ := X.st.new_not nit
    exact ⟨k2.ext nit ext g3 o3, X2.ext ext n1 n2 n3 n4 (fun o' e => by rw [hoi] at e; cases e; exact ⟨(fun v z => by rw [hdi] at z; cases z), (fun ws n z => by rw [hdi] at z; cases z)⟩) (X.st.new_held nit)⟩
  · have rv3 : Rd (vw (D :: c.X) s3.heap) v d := rv.of fun b o vs n e db => by
      have nb : b ∉ D :: c.X := fun m => by rw [hideAll_none _ m] at e; cases e
      exact ⟨o.slots, hideAll_get _ (gk3 b o vs n e db) nb⟩
    refine wpAny_assign_Name (wpAny_with_toks (n := 1) T3 (store_cellA (c := c) hx X3 rv3 fun s4 q4 X4 ex4 T4 => ?_))
    have hlen : ((ds.take i).filterMap g).length ≤ 100000 := Nat.le_trans (List.length_filterMap_le _ _) (by rw [List.length_take]; omega)
    refine wpAny_mono (wpAny_toks_of (n := 1) T4 (turn d (List.mem_of_getElem? hd) s4 _ _ X4 T4 hlen)) (fun fl s5 ⟨T5, e5, q5, X5⟩ => ?_) fun _ _ x => x.2
    subst e5
    have ex5 : ∀ b o, b ≠ D → s4.heap.get? b = some o → (∀ es n, o.data ≠ .dict es n) → s5.heap.get? b = some o := fun b o nb eb nd => (q5.heap b o eb nb).1 fun m => by
      obtain ⟨o', es, n, e', d⟩ := X4.st.fr.dd b m
      rw [eb] at e'; cases e'; exact nd es n d
    obtain ⟨n1, n2, n3, n4⟩ := X.st.new_not nit
    refine ⟨⟨k3.trans (q4.trans q5.xd), ?_⟩, T5, fun o e => ?_, fun b o vs n eb db => ?_⟩
    · rw [take_filterMap hd]; exact X5.sub (sub_one hρ)
    · refine ex5 it o (fun z => n3 (by rw [z]; exact List.mem_cons_self ..)) (ex4 it o e fun v z => ?_) fun es n z => ?_
      · rw [hoi] at e; cases e; rw [hdi] at z; cases z
      · rw [hoi] at e; cases e; rw [hdi] at z; cases z
    · have nb : b ∉ D :: c.X := fun m => by rw [hideAll_none _ m] at eb; cases eb
      exact ex5 b o (fun z => nb (by rw [z]; exact List.mem_cons_self ..)) (ex4 b o (gk3 b o vs n eb db) fun v z => by rw [db] at z; cases z) fun es n z => by rw [db] at z; cases z

/-- a list begun, and a loop that fills it -/
theorem Exs.accum {x : Str} {p1 p2 pos1 px pos : Pos} {iter : Expr} {body rest : List Stmt} {ds : List PyData} {g : PyData → Option PyData} {r : Res} (hnm : sc.names.lookup nm = some .local) (hnρ : ρ.lookup nm = none) (hx : sc.names.lookup x = some .cell) (hρ : ρ.lookup x = none)
    (hsw : swapsWith (.List [] p2) (some (.Name nm p1)) pos1.line c.env = pure false) (hfs : ∀ x, foldedSetIterable iter c.env x = pure x) (hsz : ds.length ≤ 100000)
    (hi : ∀ c' : Cx sc, c'.n = c.n → c'.hq = c.hq → c'.env = c.env → EvI a c' ρ iter ds) (turn : ∀ D d, d ∈ ds → AppT a c D nm ((x, d) :: ρ) body (g d))
    (hr : Exs a c ((nm, .list (ds.filterMap g)) :: ρ) rest r) : Exs a c ρ (.Assign [.Name nm p1] (.List [] p2) pos1 :: .For (.Name x px) iter body [] pos :: rest) r := fun s E S T => by
  refine wpAny_execs_cons (wpAny_Assign_Name (list_plain (by rfl) (spliced_nil (wpAny_newObj_type ?_))) hsw)
  have nD := none_at s.heap
  generalize hDD : s.heap.objs.size = D at nD ⊢
  obtain ⟨n1, n2, n3, n4⟩ := S.new_not nD
  have hp : (s.heap.push { cls := .type "list", data := .seq ([] : List Value).toArray }).get? D = some { cls := .type "list", data := .seq #[] } := by rw [← hDD]; exact Heap.get?_push_size _ rfl
  have kk : Keep c.fs s.heap (s.heap.push { cls := .type "list", data := .seq ([] : List Value).toArray }) := .push _ _
  have S1 := S.keep kk
  have S1' : St a (c.hide D) (s.heap.push { cls := .type "list", data := .seq ([] : List Value).toArray }) ρ := by
    have sk := seq_new (X := c.X) kk nD
    refine ⟨⟨S1.base, S1.fr, fun y hy => ?_⟩, S1.new, ?_, fun y hy => ?_, S1.hld⟩
    · rcases List.mem_cons.mp hy with z | z
      · rw [z]; exact ⟨_, hp⟩
      · exact S1.ok.xs y z
    · obtain ⟨ml, hn, hv⟩ := S.loc
      exact ⟨ml, kk.up.ns hn, fun x d hx e => let ⟨v, e1, r⟩ := hv x d hx e; ⟨v, e1, r.of sk⟩⟩
    · obtain ⟨ad, v, e1, e0, e2, e3⟩ := S.cel y hy
      exact ⟨ad, v, e1, e0, isCell_up kk.up e2, fun d q => let ⟨u, z1, z2⟩ := e3 d q; ⟨u, z1, z2.of sk⟩⟩
  refine wpAny_with_toks (n := 1) T (store_any (c := c.hide D) (s := { s with heap := _ }) hnm hnρ S1' fun s2 ml q2 S2 hn2 hm2 T2 => ?_)
  have hp2 : s2.heap.get? D = some { cls := .type "list", data := .seq #[] } := KpL.exact (c := c.hide D) q2 S1'.fr hp n4 fun es n z => by cases z
  have X2 : Acc a c D nm ρ [] s2.heap := ⟨S2, ⟨ml, hn2, hm2⟩, ⟨#[], ⟨0, hp2⟩, .nil⟩, n1⟩
  have q02 : KpX c s s2 := by
    have k1 : KpL c s { s with heap := s.heap.push { cls := .type "list", data := .seq ([] : List Value).toArray } } := Kp.l ⟨kk, rfl, rfl⟩
    have k2 : KpL c { s with heap := s.heap.push { cls := .type "list", data := .seq ([] : List Value).toArray } } s2 := ⟨q2.heap, q2.gens, q2.os⟩
    exact (k1.trans k2).x
  refine wpAny_execs_cons (wpAny_mono (wpAny_toks_of (n := 1) T2 (accum_for (Q := fun fl s3 => fl = .next ∧ KpXD c D s2 s3 ∧ Acc a c D nm ρ (ds.filterMap g) s3.heap) hx hρ (hi (c.hide D) rfl rfl rfl) X2 T2 hfs hsz (fun d hd => turn D d hd) fun s3 k3 X3 => ⟨rfl, k3, X3⟩)) (fun fl s3 ⟨T3, e3, k3, X3⟩ => ?_) fun _ _ z => z.2)
  subst e3
  dsimp only
  have q03 : KpX c s s3 := ⟨fun b o e z1 z2 => by
    have nb : b ≠ D := fun z => by rw [z, nD] at e; cases e
    obtain ⟨y1, y2⟩ := q02.heap b o e z1 z2
    refine ⟨fun m => (k3.heap b o (y1 m) nb z1 z2).1 m, fun m nf => ?_⟩
    obtain ⟨sl, w⟩ := y2 m nf
    obtain ⟨sl', w'⟩ := (k3.heap b _ w nb z1 z2).2 m nf
    exact ⟨sl', w'⟩, k3.gens.trans q02.gens, k3.os.trans q02.os⟩
  have S3 : St a c s3.heap ((nm, .list (ds.filterMap g)) :: ρ) := by
    have Y := X3.st
    have sk : SeqKeep (vw (D :: c.X) s3.heap) (vw c.X s3.heap) := .less
    obtain ⟨vs, ⟨nn, hp3⟩, rr⟩ := X3.ls
    refine ⟨⟨Y.base, Y.fr, fun y hy => Y.ok.xs y (List.mem_cons_of_mem _ hy)⟩, Y.new, ?_, fun y hy => ?_, Y.hld⟩
    · obtain ⟨ml, hn, e⟩ := X3.nm
      obtain ⟨ml', hn', hv⟩ := Y.loc
      have hmm : ml' = ml := by
        obtain ⟨o1, es1, ep1, g1, g2, _, g3⟩ := id hn
        obtain ⟨o2, es2, ep2, k1, k2, _, k3⟩ := id hn'
        have k1' : s3.heap.get? c.env.locals = some o2 := k1
        rw [g1] at k1'; cases k1'
        rw [g2] at k2; cases k2
        exact funext fun z => (k3 z).symm.trans (g3 z)
      subst hmm
      refine ⟨_, hn', fun y d hy hq => ?_⟩
      by_cases q : y = nm
      · subst q
        rw [lookup_cons_eq] at hq
        cases hq
        exact ⟨_, e, .list ⟨_, hp3, rfl, _, rfl⟩ n3 (rr.of sk)⟩
      · rw [lookup_cons_ne q] at hq
        obtain ⟨v, e1, r1⟩ := hv y d hy hq
        exact ⟨v, e1, r1.of sk⟩
    · obtain ⟨ad, v, e1, e0, e2, e3⟩ := Y.cel y hy
      have q : y ≠ nm := fun z => by rw [z, hnm] at hy; cases hy
      refine ⟨ad, v, e1, e0, e2, fun d hq => ?_⟩
      rw [lookup_cons_ne q] at hq
      obtain ⟨u, z1, z2⟩ := e3 d hq
      exact ⟨u, z1, z2.of sk⟩
  exact hr.then S3 T3 fun fl s4 q4 r4 T4 => ⟨q03.trans q4, r4⟩
end
end Mine

end
section
open PySem PySem.Builtin PySem.W PyProof.Rows PySem.Calls PySem.Spec
set_option Elab.async false
set_option linter.unusedVariables false
set_option maxRecDepth 100000
namespace Mine
theorem execs_app (env : Env) (rest : List Stmt) : ∀ ss : List Stmt, execs (ss ++ rest) env = execs ss env >>= fun f => match f with | .next => execs rest env | f => pure f
  | [] => by rw [List.nil_append, PySem.execs_nil]; rfl
  | st :: ss => by
    rw [List.cons_append, PySem.execs_cons, PySem.execs_cons, bind_assoc]
    congr 1
    funext f
    cases f with
    | next => exact execs_app env rest ss
    | cont => rfl
    | brk => rfl
    | ret v => rfl
section
variable {a : Amb} {sc : Scope} {c : Cx sc} {ρ : Vars}
theorem ExsC.two {s1 s2 : Stmt} {rest : List Stmt} {ρ' : Vars} {r : Res} (h : Exs a c ρ [s1, s2] (.next ρ')) (hr : ExsC a c ρ' rest r) : ExsC a c ρ (s1 :: s2 :: rest) r := fun s E S T => by
  show wpC a.M c.A (execs ([s1, s2] ++ rest) c.env) _ E s
  rw [execs_app]
  refine wpC.bind (wpC.of (h.then S T fun fl s1 q1 ⟨e1, S1⟩ T1 => ?_))
  subst e1
  exact hr.then S1 T1 fun fl s2 q2 r2 _ => ⟨q1.trans q2, r2⟩

theorem Ev.neg1 {k : Nat} {p1 p2 : Pos} {i : Int} : Ev a c ρ (.UnaryOp .USub (.Constant (.int i) k p1) p2) (.int (-i)) := fun s E S T => by
  refine UnaryOp_ ((Ev.int (a := a) (c := c) (ρ := ρ) (i := i)).then S T fun v s1 q1 r1 S1 T1 => ?_)
  obtain ⟨t, rfl⟩ := r1.int_inv
  exact neg_int ⟨q1.tok _, .int _ _⟩
theorem EvI.range1 {p1 p2 : Pos} {e : Expr} {n : Nat} (h0 : c.hq = none) (hr : nsIn a.K mainGlobals "range" = some none) (h : Ev a c ρ e (.int n)) (hn : n ≤ 1000000) (hx : sc.names.lookup ("range" : Str) = some .globalImplicit) (hst : starEach [e] c.env = plainArgs [e] c.env) :
    EvI a c ρ (.Call (.Name "range" p1) [e] [] p2) ((List.range n).map fun (i : Nat) => .int (0 + (i : Int) * 1)) := fun s E S T => by
  refine call_name (Is.globB hr PyProof.Rows.Boot.«range» (by decide) hx (by decide)) hst S (PyProof.Rows.callWith_type (any_plain _ _) (evalArgs_any (spliced_cons (h.then S T fun v s1 q1 r1 S1 T1 => spliced_nil ?_))))
  obtain ⟨t, rfl⟩ := r1.int_inv
  refine call_range_1 ?_
  have kk : Kp c.fs s1 { s1 with heap := s1.heap.push { cls := .type "range", data := .fields #[.int 0 s1.toks, .int n t, .int 1 (s1.toks + 1)] }, toks := s1.toks + 1 + 1 } := ⟨.push _ _, rfl, rfl⟩
  refine ⟨q1.trans kk, fun E => ?_⟩
  refine wpAny_pyIter_range (IsRange.new ..) (small_one (by omega) (by omega) (by omega) (by omega)) ?_
  have hsz : Builtin.Range.rangeSize 0 n 1 = (n : Int) := by rw [rangeSize_one]; split <;> omega
  have I := Iter.range (a := a) (A := c.A) (g := vw c.X (s1.heap.push { cls := .type "range", data := .fields #[.int 0 s1.toks, .int n t, .int 1 (s1.toks + 1)] })) (it := (s1.heap.push { cls := .type "range", data := .fields #[.int 0 s1.toks, .int n t, .int 1 (s1.toks + 1)] }).objs.size) (lo := 0) (n := n) (c.h0 h0)
  refine ⟨_, _, rfl, fun b o e => Heap.get?_push_of_some _ e, none_at _, ?_, (by rw [h0]; exact I), rfl, rfl⟩
  have := Heap.get?_push_size (s1.heap.push { cls := .type "range", data := .fields #[.int 0 s1.toks, .int n t, .int 1 (s1.toks + 1)] }) (o := { cls := .type "range_iterator", data := .fields #[rawInt 0, rawInt (Builtin.Range.rangeSize 0 n 1), rawInt 1] }) rfl
  rw [hsz] at this ⊢
  simpa [IsRangeIter] using this
theorem EvI.range2 {p1 p2 : Pos} {e1 e : Expr} {lo n : Nat} (h0 : c.hq = none) (hr : nsIn a.K mainGlobals "range" = some none) (h1 : Ev a c ρ e1 (.int lo)) (h : Ev a c ρ e (.int ((lo + n : Nat) : Int))) (hlo : lo ≤ 1000000) (hn : n ≤ 1000000) (hx : sc.names.lookup ("range" : Str) = some .globalImplicit) (hst : starEach [e1, e] c.env = plainArgs [e1, e] c.env) :
    EvI a c ρ (.Call (.Name "range" p1) [e1, e] [] p2) ((List.range n).map fun (i : Nat) => .int ((lo : Int) + (i : Int) * 1)) := fun s E S T => by
  refine call_name (Is.globB hr PyProof.Rows.Boot.«range» (by decide) hx (by decide)) hst S (PyProof.Rows.callWith_type (any_plain _ _) ((EvL.two h1 h).args S T fun vs s1 q1 r1 S1 T1 => ?_))
  obtain ⟨v1, ws, rfl, r2, r3⟩ := r1.cons_inv
  obtain ⟨v2, ws, rfl, r4, r5⟩ := r3.cons_inv
  cases r5.nil_inv
  obtain ⟨t, rfl⟩ := r2.int_inv
  obtain ⟨u, rfl⟩ := r4.int_inv
  refine call_range_2 ?_
  have kk : Kp c.fs s1 { s1 with heap := s1.heap.push { cls := .type "range", data := .fields #[.int lo t, .int ((lo + n : Nat) : Int) u, .int 1 s1.toks] }, toks := s1.toks + 1 } := ⟨.push _ _, rfl, rfl⟩
  refine ⟨q1.trans kk, fun E => ?_⟩
  refine wpAny_pyIter_range (IsRange.new ..) (small_one (by omega) (by omega) (by omega) (by omega)) ?_
  have hsz : Builtin.Range.rangeSize lo ((lo + n : Nat) : Int) 1 = (n : Int) := by rw [rangeSize_one]; split <;> omega
  have I := Iter.range (a := a) (A := c.A) (g := vw c.X (s1.heap.push { cls := .type "range", data := .fields #[.int lo t, .int ((lo + n : Nat) : Int) u, .int 1 s1.toks] })) (it := (s1.heap.push { cls := .type "range", data := .fields #[.int lo t, .int ((lo + n : Nat) : Int) u, .int 1 s1.toks] }).objs.size) (lo := lo) (n := n) (c.h0 h0)
  refine ⟨_, _, rfl, fun b o e => Heap.get?_push_of_some _ e, none_at _, ?_, (by rw [h0]; exact I), rfl, rfl⟩
  have := Heap.get?_push_size (s1.heap.push { cls := .type "range", data := .fields #[.int lo t, .int ((lo + n : Nat) : Int) u, .int 1 s1.toks] }) (o := { cls := .type "range_iterator", data := .fields #[rawInt lo, rawInt (Builtin.Range.rangeSize lo ((lo + n : Nat) : Int) 1), rawInt 1] }) rfl
  rw [hsz] at this ⊢
  simpa [IsRangeIter] using this
end
/-! texts of everyday signs; data of them -/
def Asc (x : Str) : Prop := ∀ k ∈ x.cps.toList, k < 128
theorem Asc.ok {x : Str} (h : Asc x) : PyData.strOk x = true := by
  unfold PyData.strOk
  rw [← Array.all_toList, List.all_eq_true]
  intro k hk
  have := h k hk
  simp; omega
theorem Asc.append {x y : Str} (hx : Asc x) (hy : Asc y) : Asc (x ++ y) := fun k hk => by
  rw [show (x ++ y).cps = x.cps ++ y.cps from rfl, Array.toList_append] at hk
  rcases List.mem_append.mp hk with h | h
  · exact hx k h
  · exact hy k h
theorem lay_strs : ∀ {xs : List Str}, (∀ x ∈ xs, Asc x) → PyData.canLayAll0 (xs.map .str) = true
  | [], _ => rfl
  | x :: xs, h => by
    rw [List.map_cons, PyData.canLayAll0, PyData.canLay0, (h x (List.mem_cons_self ..)).ok, lay_strs fun y hy => h y (List.mem_cons_of_mem _ hy)]; rfl
theorem depth_strs : ∀ xs : List Str, PyData.depthAll (xs.map .str) = 0
  | [] => rfl
  | x :: xs => by rw [List.map_cons, PyData.depthAll, depth_strs xs, PyData.depth]; rfl
theorem lay_row {r : List Str} (h : ∀ x ∈ r, Asc x) : (rowD r).canLay0 = true := by unfold rowD; rw [PyData.canLay0]; exact lay_strs h
theorem depth_row (r : List Str) : (rowD r).depth = 1 := by unfold rowD; rw [PyData.depth, depth_strs]
theorem eqv_strs : ∀ xs ys : List Str, PyData.eqvAll (xs.map .str) (ys.map .str) = (xs == ys)
  | [], [] => rfl
  | [], y :: ys => by rw [List.map_cons, List.map_nil, PyData.eqvAll]; rfl
  | x :: xs, [] => by rw [List.map_cons, List.map_nil, PyData.eqvAll]; rfl
  | x :: xs, y :: ys => by rw [List.map_cons, List.map_cons, PyData.eqvAll, PyData.eqv, eqv_strs xs ys]; rfl
theorem eqv_row (xs ys : List Str) : PyData.eqv (rowD xs) (rowD ys) = (xs == ys) := by unfold rowD; rw [PyData.eqv, eqv_strs]
theorem lay_rows : ∀ {rs : List (List Str)}, (∀ r ∈ rs, ∀ x ∈ r, Asc x) → PyData.canLayAll0 (rs.map rowD) = true
  | [], _ => rfl
  | r :: rs, h => by
    rw [List.map_cons, PyData.canLayAll0, lay_row (h r (List.mem_cons_self ..)), lay_rows fun y hy => h y (List.mem_cons_of_mem _ hy)]; rfl
theorem depth_rows : ∀ rs : List (List Str), PyData.depthAll (rs.map rowD) ≤ 1
  | [] => by rw [List.map_nil, PyData.depthAll]; omega
  | r :: rs => by rw [List.map_cons, PyData.depthAll, depth_row]; have := depth_rows rs; omega
end Mine

end
section
open PySem PySem.Builtin PySem.W PyProof.Rows PySem.Calls PySem.Spec
set_option Elab.async false
set_option linter.unusedVariables false
set_option maxRecDepth 100000
namespace Mine
def rootS (x : Str) : Bool := Txt.slice x none (some 1) == "/"
def rootL (xs : List Str) : List Str := xs.filter rootS
def dRoot : PyData → Bool
  | .str x => rootS x
  | _ => false
def dSt (i : Nat) : Stmt := ((fdBody (sAt 28))[i]?).getD (.Pass ⟨0, 0, 0, 0⟩)
def dV0 (xs : List Str) (rs : List (List Str)) : Vars := [("rows", .list (rs.map rowD)), ("paths", rowD xs)]
def dV1 (xs : List Str) (rs : List (List Str)) : Vars := ("rooted", rowD (rootL xs)) :: dV0 xs rs
theorem Ts.or {a : Amb} {sc : Scope} {c : Cx sc} {ρ : Vars} {e1 e2 : Expr} {pos : Pos} {b1 b2 : Bool} (h1 : Ts a c ρ e1 b1) (h2 : b1 = false → Ts a c ρ e2 b2) : Ts a c ρ (.BoolOp .Or [e1, e2] pos) (b1 || b2) := by
  cases b1 with
  | true => exact Ts.orT h1
  | false => exact Ts.orF h1 (h2 rfl)
section
variable {a : Amb} {c : Cx (fdScope (sAt 28))} {xs : List Str} {rs : List (List Str)}
theorem due_s0 (hsz : xs.length ≤ 10) (hlen : ∀ x ∈ xs, x.length ≤ 1000) : Exc a c (dV0 xs rs) (dSt 0) (.next (dV1 xs rs)) := by
  have e : ((xs.map PyData.str).filter dRoot).map _root_.id = (rootL xs).map PyData.str := by rw [List.map_id, filter_strs (p := rootS) fun _ => rfl]; rfl
  unfold dV1 rowD
  rw [← e]
  refine Exc.assignComp (bs := fun d => [("path", d)]) (p := dRoot) (f := _root_.id) (by rfl) (by rw [c.env_eq]; rfl) (EvI.list (Ev.loc (x := "paths") (d := rowD xs) (by rfl) (by rfl) (by decide))) (by rfl) (by decide) (by decide) (by decide) (fun _ => by rfl) (by rw [List.length_map, sizeLine_eq]; omega) fun c' hc' hq' d hd => ?_
  obtain ⟨x, hx, rfl⟩ := List.mem_map.mp hd
  have hlx := hlen x hx
  exact ⟨AsL.name (by rfl), TsAll.one (Ts.cmp (Ev.sliceS (x := x) (lo := none) (hi := some 1) (Ev.loc (x := "path") (by rfl) (by rfl) (by decide)) .none (.some Ev.int) (by rw [sizeLine_eq]; omega)) Ev.str Op2.eqStr), fun _ => Ev.loc (x := "path") (by rfl) (by rfl) (by decide)⟩

variable (hA : ∀ x ∈ xs, Asc x)
theorem root_asc (hA : ∀ x ∈ xs, Asc x) : ∀ x ∈ rootL xs, Asc x := fun x hx => hA x (List.mem_filter.mp hx).1
theorem nil_row : PyData.list [] = rowD [] := rfl
include hA in
theorem due_t1 {ρ : Vars} (h1 : ρ.lookup ("rooted" : Str) = some (rowD (rootL xs))) {p1 p2 p3 : Pos} : Ts a c ρ (.Compare (.Name "rooted" p1) [.NotEq] [.List [] p2] p3) (!(rootL xs == [])) :=
  (Ts.cmp (Ev.loc (x := "rooted") (by rfl) h1 (by decide)) (Ev.list EvL.nil (by rfl) (Nat.zero_le _)) (Op2.neD (lay_row (root_asc hA)) (by rw [nil_row]; exact lay_row (fun _ h => nomatch h)) (by rw [depth_row]; omega))).to (by rw [nil_row, eqv_row])
include hA in
theorem due_s1_no (hm : rootL xs = [] ∨ rootL xs = xs) : Exc a c (dV1 xs rs) (dSt 1) (.next (dV1 xs rs)) := by
  refine Exc.ifF ((Ts.and (due_t1 hA (by rfl)) fun _ => Ts.cmp (Ev.loc (x := "rooted") (d := rowD (rootL xs)) (by rfl) (by rfl) (by decide)) (Ev.loc (x := "paths") (d := rowD xs) (by rfl) (by rfl) (by decide)) (Op2.neD (lay_row (root_asc hA)) (lay_row hA) (by rw [depth_row]; omega))).to ?_) Exs.nil
  rw [eqv_row]
  rcases hm with h | h
  · rw [h]; rfl
  · rw [h]; simp
include hA in
theorem due_mix {f : Addr} (hI : IsFn a "_law_due" f (sAt 28)) (hsz : xs.length ≤ 10) (hlen : ∀ x ∈ xs, x.length ≤ 1000) (h1 : rootL xs ≠ []) (h2 : rootL xs ≠ xs) {m : Nat} :
    Fn a (m + 1) (.ref f) [rowD xs, .list (rs.map rowD)] (.list [.str "Can't mix absolute and relative paths"]) := by
  refine hI.fn ["paths", "rows"] (fun doc pm an cd ct => two_args fun v u => by rfl) (by rfl) (by rfl) (by rfl) (by rfl) fun c hc h0 => ?_
  refine Exs.cons (due_s0 hsz hlen) (Exs.ret (Exc.ifT ((Ts.and (due_t1 hA (by rfl)) fun _ => Ts.cmp (Ev.loc (x := "rooted") (d := rowD (rootL xs)) (by rfl) (by rfl) (by decide)) (Ev.loc (x := "paths") (d := rowD xs) (by rfl) (by rfl) (by decide)) (Op2.neD (lay_row (root_asc hA)) (lay_row hA) (by rw [depth_row]; omega))).to ?_)
    (Exs.ret (Exc.return (Ev.list (EvL.one Ev.str) (by rfl) (Nat.le_of_ble_eq_true rfl))))))
  rw [eqv_row]
  simp [h1, h2]
end
end Mine

end
section
open PySem PySem.W PyProof.Rows PySem.Calls PySem.Spec
set_option Elab.async false
set_option linter.unusedVariables false
set_option maxRecDepth 100000
namespace Mine
/-- all rows begin as r0 does, up to its name k -/
def agree (r0 : List Str) (rs : List (List Str)) (k : Nat) : Bool := rs.all fun r => r.take (k + 1) == r0.take (k + 1)
def namesL (r0 : List Str) (rs : List (List Str)) : List Str := (List.range r0.length).filterMap fun k => if agree r0 rs k = true then some (r0.getD k Str.empty) else none
def gName (r0 : List Str) (rs : List (List Str)) : PyData → Option PyData
  | .int k => if agree r0 rs k.toNat = true then some (.str (r0.getD k.toNat Str.empty)) else none
  | _ => none
def pRow (r0 : List Str) (k : Nat) : PyData → Bool
  | .list ys => !(PyData.eqv (.list (ys.take (k + 1))) (rowD (r0.take (k + 1))))
  | _ => false
theorem pRow_row (r0 r : List Str) (k : Nat) : pRow r0 k (rowD r) = !(r.take (k + 1) == r0.take (k + 1)) := by
  show (!(PyData.eqv (.list ((r.map PyData.str).take (k + 1))) (rowD (r0.take (k + 1))))) = _
  rw [← List.map_take, show PyData.list ((r.take (k + 1)).map .str) = rowD (r.take (k + 1)) from rfl, eqv_row]
theorem filter_rows (r0 : List Str) (k : Nat) : ∀ rs : List (List Str), (rs.map rowD).filter (pRow r0 k) = (rs.filter fun r => !(r.take (k + 1) == r0.take (k + 1))).map rowD
  | [] => rfl
  | r :: rs => by
    rw [List.map_cons, List.filter_cons, pRow_row, List.filter_cons, filter_rows r0 k rs]
    split <;> rfl
theorem eqv_nil (rs : List (List Str)) : PyData.eqv (.list (rs.map rowD)) (.list []) = rs.isEmpty := by
  rw [PyData.eqv]
  cases rs with
  | nil => rfl
  | cons r rs => rw [List.map_cons, PyData.eqvAll]; rfl
theorem isEmpty_filter {α : Type} (p : α → Bool) : ∀ l : List α, (l.filter fun x => !p x).isEmpty = l.all p
  | [] => rfl
  | x :: l => by
    rw [List.filter_cons, List.all_cons, ← isEmpty_filter p l]
    cases p x <;> simp
theorem filterMap_same {α β : Type} {f g : α → Option β} : ∀ {l : List α}, (∀ x ∈ l, f x = g x) → l.filterMap f = l.filterMap g
  | [], _ => rfl
  | x :: l, h => by
    rw [List.filterMap_cons, List.filterMap_cons, h x (List.mem_cons_self ..), filterMap_same fun y hy => h y (List.mem_cons_of_mem _ hy)]
theorem gName_int (r0 : List Str) (rs : List (List Str)) (i : Int) : gName r0 rs (.int i) = if agree r0 rs i.toNat = true then some (.str (r0.getD i.toNat Str.empty)) else none := rfl
theorem names_data (r0 : List Str) (rs : List (List Str)) : ((List.range r0.length).map fun (i : Nat) => PyData.int (0 + (i : Int) * 1)).filterMap (gName r0 rs) = (namesL r0 rs).map .str := by
  unfold namesL
  rw [List.filterMap_map, List.map_filterMap]
  refine filterMap_same fun k _ => ?_
  show gName r0 rs (.int (0 + (k : Int) * 1)) = _
  have e : (0 + (k : Int) * 1).toNat = k := by omega
  rw [gName_int, e]
  cases agree r0 rs k <;> rfl
section
variable {a : Amb} {c : Cx (fdScope (sAt 28))} {xs : List Str} {rs : List (List Str)} {r0 : List Str} {rr : List (List Str)}
def dV3 (xs : List Str) (rs : List (List Str)) (ns : List Str) : Vars := ("names", rowD ns) :: dV1 xs rs
theorem due_names (h0 : c.hq = none) (hlen : nsIn a.K mainGlobals "len" = some none) (hrange : nsIn a.K mainGlobals "range" = some none) (he : rs = r0 :: rr) (hsz : rs.length ≤ 10) (hr : ∀ r ∈ rs, r.length ≤ 100 ∧ ∀ x ∈ r, Asc x) :
    Exs a c (dV1 xs rs) [dSt 2, dSt 3] (.next (dV3 xs rs (namesL r0 rs))) := by
  have hr0 := hr r0 (by rw [he]; exact List.mem_cons_self ..)
  have hg : (rs.map rowD)[(0 : Int).toNat]? = some (rowD r0) := by rw [he]; rfl
  have e := names_data r0 rs
  unfold dV3 rowD
  rw [← e]
  refine Exs.accum (x := "k") (by rfl) (by rfl) (by rfl) (by rfl) (by rfl) (fun _ => by rfl) (by rw [List.length_map, List.length_range]; omega) (fun c' hc' hq' he' => ?_) (fun D d hd => ?_) Exs.nil
  · refine EvI.range1 (hq'.trans h0) hrange (Ev.to (Ev.bi (Is.globB hlen PyProof.Rows.Boot.«len» (by decide) (by rfl) (by decide)) (Bi.lenL (xs := r0.map .str) (by rw [List.length_map]; omega)) (EvL.one (Ev.itemL (Ev.cell (x := "rows") (d := .list (rs.map rowD)) (by rfl) (by rfl) (by decide)) (Ev.int (i := 0)) (by decide) (by decide) hg (fun o j => by rfl))) (by rfl)) (by rw [List.length_map])) (by omega) (by rfl) (by rfl)
  · obtain ⟨k, hk, rfl⟩ := List.mem_map.mp hd
    have hk' : k < r0.length := List.mem_range.mp hk
    have ek : (0 + (k : Int) * 1) = (k : Int) := by omega
    rw [ek]
    have egn : gName r0 rs (.int (k : Int)) = if agree r0 rs k = true then some (.str (r0.getD k Str.empty)) else none := by rw [gName_int, Int.toNat_natCast]
    rw [egn]
    refine AppT.ite (b := agree r0 rs k) ?_ (fun hb => ?_) (fun hb => by rw [if_neg (by rw [hb]; decide)])
    · have ef : ((rs.map rowD).filter (pRow r0 k)).map id = (rs.filter fun r => !(r.take (k + 1) == r0.take (k + 1))).map rowD := by rw [List.map_id, filter_rows]
      refine (Ts.cmp (Ev.to (Ev.comp (bs := fun d => [("row", d)]) (p := pRow r0 k) (f := id) (EvI.list (Ev.cell (x := "rows") (d := .list (rs.map rowD)) (by rfl) (by rfl) (by decide))) (by rfl) (by decide) (by decide) (by decide) (fun _ => by rfl) (by rw [List.length_map, sizeLine_eq]; omega) fun c' hc' hq' d hd => ?_) (by rw [ef])) (Ev.list EvL.nil (by rfl) (Nat.zero_le _)) (Op2.eqD ?_ ?_ ?_)).to ?_
      · obtain ⟨r, hrm, rfl⟩ := List.mem_map.mp hd
        have hrl := hr r hrm
        refine ⟨AsL.name (by rfl), TsAll.one ((Ts.cmp (d1 := rowD (r.take (k + 1))) (d2 := rowD (r0.take (k + 1))) (Ev.to (Ev.sliceL (lo := none) (hi := some ((k : Int) + 1)) (Ev.loc (x := "row") (d := rowD r) (by rfl) (by rfl) (by decide)) .none (.some (Ev.bin (Ev.cell (x := "k") (d := .int k) (by rfl) (by rfl) (by decide)) Ev.int Op2.addInt)) (by rw [List.length_map, sizeLine_eq]; omega)) ?_)
          (Ev.to (Ev.sliceL (lo := none) (hi := some ((k : Int) + 1)) (Ev.itemL (Ev.cell (x := "rows") (d := .list (rs.map rowD)) (by rfl) (by rfl) (by decide)) (Ev.int (i := 0)) (by decide) (by decide) hg (fun o j => by rfl)) .none (.some (Ev.bin (Ev.cell (x := "k") (d := .int k) (by rfl) (by rfl) (by decide)) Ev.int Op2.addInt)) (by rw [List.length_map, sizeLine_eq]; omega)) ?_)
          (Op2.neD (lay_row fun x hx => hrl.2 x (List.mem_of_mem_take hx)) (lay_row fun x hx => hr0.2 x (List.mem_of_mem_take hx)) (by rw [depth_row]; omega))).to ?_), fun _ => Ev.loc (x := "row") (by rfl) (by rfl) (by decide)⟩
        · rw [cut_upto _ (by omega), show ((k : Int) + 1).toNat = k + 1 from by omega, ← List.map_take]; rfl
        · rw [cut_upto _ (by omega), show ((k : Int) + 1).toNat = k + 1 from by omega, ← List.map_take]; rfl
        · rw [eqv_row, pRow_row]
      · rw [PyData.canLay0]; exact lay_rows fun r hrm => (hr r (List.mem_filter.mp hrm).1).2
      · rw [PyData.canLay0]; rfl
      · rw [PyData.depth]; have := depth_rows (rs.filter fun r => !(r.take (k + 1) == r0.take (k + 1))); omega
      · rw [eqv_nil, isEmpty_filter]; rfl
    · rw [if_pos hb]
      refine AppT.append (by rfl) (by decide) (Ev.itemL (Ev.itemL (Ev.cell (x := "rows") (d := .list (rs.map rowD)) (by rfl) (by rfl) (by decide)) (Ev.int (i := 0)) (by decide) (by decide) hg (fun o j => by rfl)) (Ev.cell (x := "k") (d := .int k) (by rfl) (by rfl) (by decide)) (by omega) (by omega) ?_ (fun o j => by rfl)) (by rfl) (by rfl) (by rfl) (by rw [c.env_eq]; rfl) (by rfl)
      rw [Int.toNat_natCast, List.getElem?_map]
      simp [hk']
end
end Mine

end
section
open PySem PySem.W PyProof.Rows PySem.Calls PySem.Spec
set_option Elab.async false
set_option linter.unusedVariables false
set_option maxRecDepth 100000
namespace Mine
def markS (b : Bool) (m : Str) : Str := if b = true then m else ("" : Str)
def textS (b : Bool) (ns : List Str) (m : Str) : Str := markS b m ++ Txt.join "" (ns.map fun x => x ++ m)
def gText (b : Bool) (ns : List Str) : PyData → Option PyData
  | .str m => some (.str (textS b ns m))
  | _ => none
def addM (m : Str) : PyData → PyData
  | .str x => .str (x ++ m)
  | d => d
def rootB (xs : List Str) : Bool := !(rootL xs == [])
theorem map_addM (m : Str) (ns : List Str) : ((ns.map PyData.str).filter (fun _ => true)).map (addM m) = (ns.map fun x => x ++ m).map .str := by
  rw [List.filter_eq_self.mpr (fun _ _ => rfl), List.map_map, List.map_map]; rfl
section
variable {a : Amb} {c : Cx (fdScope (sAt 28))} {xs : List Str} {rs : List (List Str)} {ns : List Str}
def textsL (b : Bool) (ns : List Str) : List Str := [textS b ns "/", textS b ns " "]
def dV5 (xs : List Str) (rs : List (List Str)) (ns : List Str) : Vars := ("texts", rowD (textsL (rootB xs) ns)) :: dV3 xs rs ns
theorem markS_len (b : Bool) (m : Str) : (markS b m).length ≤ m.length := by cases b <;> simp [markS]; exact Nat.zero_le _
theorem textS_len {b : Bool} {m : Str} (hm : m.length ≤ 1) (hn : ns.length ≤ 100) (hx : ∀ x ∈ ns, x.length ≤ 100) : (textS b ns m).length ≤ 11000 := by
  have h1 := markS_len b m
  have h2 := join_len (sep := ("" : Str)) (texts := ns.map fun x => x ++ m) (n := 101) (by decide) fun t ht => by
    obtain ⟨x, hx', rfl⟩ := List.mem_map.mp ht
    rw [Str.length_append]; have := hx x hx'; omega
  unfold textS
  rw [Str.length_append]
  rw [List.length_map] at h2
  have : ns.length * (101 + 1) ≤ 100 * 102 := Nat.mul_le_mul_right _ hn
  omega
theorem due_texts (hA : ∀ x ∈ xs, Asc x) (hn : ns.length ≤ 100) (hx : ∀ x ∈ ns, x.length ≤ 100) : Exs a c (dV3 xs rs ns) [dSt 4, dSt 5] (.next (dV5 xs rs ns)) := by
  have sz := sizeLine_eq
  have e : ([("/" : Str), (" " : Str)].map PyData.str).filterMap (gText (rootB xs) ns) = (textsL (rootB xs) ns).map .str := rfl
  unfold dV5 rowD
  rw [← e]
  refine Exs.accum (x := "mark") (by rfl) (by rfl) (by rfl) (by rfl) (by rfl) (fun _ => by rfl) (Nat.le_of_ble_eq_true rfl) (fun c' hc' hq' he' => EvI.list (Ev.list (EvL.two Ev.str Ev.str) (by rfl) (Nat.le_of_ble_eq_true rfl))) (fun D d hd => ?_) Exs.nil
  obtain ⟨m, rfl, hm⟩ : ∃ m : Str, d = .str m ∧ m.length ≤ 1 := by
    rcases List.mem_cons.mp hd with rfl | hd
    · exact ⟨_, rfl, by decide⟩
    · rw [List.mem_singleton.mp hd]; exact ⟨_, rfl, by decide⟩
  show AppT a c D "texts" _ _ (some (.str (textS (rootB xs) ns m)))
  have hjl := join_len (sep := ("" : Str)) (texts := ns.map fun x => x ++ m) (n := 101) (by decide) fun t ht => by
    obtain ⟨x, hx', rfl⟩ := List.mem_map.mp ht
    rw [Str.length_append]; have := hx x hx'; omega
  rw [List.length_map] at hjl
  have hcnt : ns.length * (101 + 1) ≤ 100 * 102 := Nat.mul_le_mul_right _ hn
  have hml := markS_len (rootB xs) m
  refine AppT.append (by rfl) (by decide) (Ev.bin (d1 := .str (markS (rootB xs) m)) (d2 := .str (Txt.join "" (ns.map fun x => x ++ m))) (Ev.ite (x := rootB xs) (due_t1 (c := c.hide D) hA (by rfl)) (fun hb => ?_) (fun hb => ?_))
    (Ev.meth Ev.str PySem.F.slot_str_join PySem.F.type_str_join (EvL.one (Ev.to (Ev.comp (bs := fun d => [("name", d)]) (p := fun _ => true) (f := addM m) (EvI.list (Ev.loc (x := "names") (d := rowD ns) (by rfl) (by rfl) (by decide))) (by rfl) (by decide) (by decide) (by decide) (fun _ => by rfl) (by rw [List.length_map]; omega) fun c' hc' hq' d hd => ?_) (by rw [map_addM]))) (Bi.join ?_) (by rfl) (by rfl) (by decide) (by rfl)) (Op2.addStr (by omega))) (by rfl) (by rfl) (by rfl) (by rw [c.env_eq]; rfl) (by rfl)
  · rw [hb]; exact Ev.cell (x := "mark") (d := .str m) (by rfl) (by rfl) (by decide)
  · rw [hb]; exact Ev.str
  · obtain ⟨x, hx', rfl⟩ := List.mem_map.mp hd
    have hxl := hx x hx'
    exact ⟨AsL.name (by rfl), TsAll.nil, fun _ => Ev.bin (Ev.loc (x := "name") (d := .str x) (by rfl) (by rfl) (by decide)) (Ev.cell (x := "mark") (d := .str m) (by rfl) (by rfl) (by decide)) (Op2.addStr (by omega))⟩
  · refine joinOk_of (n := 101) (by decide) (fun t ht => ?_) (by rw [List.length_map]; omega)
    obtain ⟨x, hx', rfl⟩ := List.mem_map.mp ht
    rw [Str.length_append]; have := hx x hx'; omega
end
end Mine

end
section
open PySem PySem.W PyProof.Rows PySem.Calls PySem.Spec
set_option Elab.async false
set_option linter.unusedVariables false
set_option maxRecDepth 100000
namespace Mine
theorem base_const {k : Const} {n : Nat} {p : Pos} {name : Str} {env : Env} {whole : Sem Value} : attributeBase (.Constant k n p) name env whole = whole := rfl
theorem cut_map {α β : Type} (f : α → β) (xs : List α) (lo hi : Option Int) : cut (xs.map f) lo hi = (cut xs lo hi).map f := by
  unfold cut
  rw [List.length_map, List.map_take, List.map_drop]
theorem cut_mem {α : Type} {xs : List α} {lo hi : Option Int} {x : α} (h : x ∈ cut xs lo hi) : x ∈ xs := List.mem_of_mem_drop (List.mem_of_mem_take h)
theorem cut_len {α : Type} (xs : List α) (lo hi : Option Int) : (cut xs lo hi).length ≤ xs.length := by
  unfold cut
  rw [List.length_take, List.length_drop]; omega
def hostS (b : Bool) (ns : List Str) : Str := markS b "/" ++ Txt.join "/" (cut ns none (some (-1)))
def tailN (ns : List Str) : Str := Txt.join "" (cut ns (some (-1)) none)
def peerD (b : Bool) (ns : List Str) : PyData := .tuple [.str (hostS b ns), .str (tailN ns)]
def refT (t : Str) : PyData := .tuple [.str (replyS t), .str "refused", .str (replyS t)]
def noT (t : Str) : PyData := .tuple [.str (replyS t), .str "no number"]
def okT (h : Str) (n : Int) (t : Str) : PyData := .tuple [.str (replyS t), .tuple [.str h, .int n], .str (toString n)]
def allT (b : Bool) (ns : List Str) : List Str := textsL b ns ++ [textS b ns "/" ++ " "]
section
variable {a : Amb} {c : Cx (fdScope (sAt 28))} {xs : List Str} {rs : List (List Str)} {ns : List Str} {fy : Addr}
def dV6 (xs : List Str) (rs : List (List Str)) (ns : List Str) : Vars := ("peer", peerD (rootB xs) ns) :: dV5 xs rs ns
def dV7 (xs : List Str) (rs : List (List Str)) (ns : List Str) : Vars := ("refused", .list ((allT (rootB xs) ns).map refT)) :: dV6 xs rs ns
theorem slice_names {ρ : Vars} (hv : ρ.lookup ("names" : Str) = some (rowD ns)) (hn : ns.length ≤ 100) {l u : Option Expr} {p1 p2 p3 : Pos} {lo hi : Option Int} (h1 : Part a c ρ l lo) (h2 : Part a c ρ u hi) : Ev a c ρ (.Subscript (.Name "names" p1) (.Slice l u Option.none p2) p3) (.list ((cut ns lo hi).map .str)) :=
  Ev.to (Ev.sliceL (Ev.loc (x := "names") (d := rowD ns) (by rfl) hv (by decide)) h1 h2 (by rw [List.length_map, sizeLine_eq]; omega)) (by rw [cut_map])
set_option maxHeartbeats 4000000 in
theorem due_s6 (hA : ∀ x ∈ xs, Asc x) (hn : ns.length ≤ 100) (hx : ∀ x ∈ ns, x.length ≤ 100) : Exc a c (dV5 xs rs ns) (dSt 6) (.next (dV6 xs rs ns)) := by
  have sz := sizeLine_eq
  have hm1 := markS_len (rootB xs) "/"
  have e1 : ("/" : Str).length = 1 := by decide
  have all : ∀ lo hi, ∀ x ∈ cut ns lo hi, x.length ≤ 100 := fun lo hi x h => hx x (cut_mem h)
  have cnt : ∀ lo hi, (cut ns lo hi).length * (100 + 1) ≤ 100 * 101 := fun lo hi => Nat.mul_le_mul_right _ (Nat.le_trans (cut_len ns lo hi) hn)
  have j1 := join_len (sep := ("/" : Str)) (n := 100) (by decide) (all none (some (-1)))
  have c1 := cnt none (some (-1))
  have c2 := cnt (some (-1)) none
  unfold dV6 peerD hostS tailN
  have hj1 : JoinOk ("/" : Str) (cut ns none (some (-1))) = true := joinOk_of (n := 100) (by decide) (all _ _) (by omega)
  have hj2 : JoinOk ("" : Str) (cut ns (some (-1)) none) = true := joinOk_of (n := 100) (by decide) (all _ _) (by omega)
  refine Exc.assignC ?_ (by rfl) (by rfl)
  refine Ev.tuple (EvL.two ?_ ?_) (by rfl) (Nat.le_of_ble_eq_true rfl)
  · refine Ev.bin (d1 := .str (markS (rootB xs) "/")) (d2 := .str (Txt.join "/" (cut ns none (some (-1))))) ?_ ?_ (Op2.addStr (by omega))
    · refine Ev.ite (x := rootB xs) (due_t1 hA (by rfl)) (fun hb => ?_) (fun hb => ?_)
      · rw [hb]; exact Ev.str
      · rw [hb]; exact Ev.str
    · refine Ev.meth Ev.str PySem.F.slot_str_join PySem.F.type_str_join (EvL.one (slice_names (lo := none) (hi := some (-1)) (by rfl) hn .none (.some Ev.neg1))) (Bi.join hj1) base_const (by rfl) (by decide) (by rfl)
  · refine Ev.meth Ev.str PySem.F.slot_str_join PySem.F.type_str_join (EvL.one (slice_names (lo := some (-1)) (hi := none) (by rfl) hn (.some Ev.neg1) .none)) (Bi.join hj2) base_const (by rfl) (by decide) (by rfl)
theorem allT_len (b : Bool) (hn : ns.length ≤ 100) (hx : ∀ x ∈ ns, x.length ≤ 100) : ∀ t ∈ allT b ns, t.length ≤ 12000 := fun t ht => by
  have h1 := textS_len (b := b) (m := "/") (by decide) hn hx
  have h2 := textS_len (b := b) (m := " ") (by decide) hn hx
  have e1 : (" " : Str).length = 1 := by decide
  simp only [allT, textsL, List.cons_append, List.nil_append, List.mem_cons, List.not_mem_nil, or_false] at ht
  rcases ht with rfl | rfl | rfl
  · omega
  · omega
  · rw [Str.length_append]; omega
theorem map_fst {f : Str → PyData} (ts : List Str) : ((ts.map PyData.str).filter (fun _ => true)).map (fun d => f (strOf d)) = ts.map f := by
  rw [List.filter_eq_self.mpr (fun _ _ => rfl), List.map_map]; rfl
variable (hY : IsFn a "_law_reply" fy (sAt 25)) (hy : ∀ {m : Nat} {x : Str}, x.length ≤ 100000 → FnG (fun _ => True) a (m + 1) (.ref fy) [.str x] (.str (replyS x)))
include hY hy in
theorem due_s7 (hc1 : 1 ≤ c.n) (hn : ns.length ≤ 100) (hx : ∀ x ∈ ns, x.length ≤ 100) : Exc a c (dV6 xs rs ns) (dSt 7) (.next (dV7 xs rs ns)) := by
  have sz := sizeLine_eq
  have ht := allT_len (rootB xs) hn hx
  have h1 := textS_len (b := rootB xs) (m := "/") (by decide) hn hx
  have e1 : (" " : Str).length = 1 := by decide
  unfold dV7
  rw [← map_fst (f := refT) (allT (rootB xs) ns)]
  refine Exc.assignComp (bs := fun d => [("text", d)]) (p := fun _ => true) (f := fun d => refT (strOf d)) (by rfl) (by rw [c.env_eq]; rfl) (EvI.list (Ev.to (Ev.bin (Ev.loc (x := "texts") (d := rowD (textsL (rootB xs) ns)) (by rfl) (by rfl) (by decide))
    (Ev.list (EvL.one (Ev.bin (Ev.itemL (Ev.loc (x := "texts") (d := rowD (textsL (rootB xs) ns)) (by rfl) (by rfl) (by decide)) (Ev.int (i := 0)) (by decide) (by decide) (d := .str (textS (rootB xs) ns "/")) (by rfl) (fun o j => by rfl)) Ev.str (Op2.addStr (by omega)))) (by rfl) (Nat.le_of_ble_eq_true rfl)) (Op2.addL (Nat.le_of_ble_eq_true rfl))) (by rfl))) (by rfl) (by decide) (by decide) (by decide) (fun _ => by rfl) (Nat.le_of_ble_eq_true rfl) fun c' hc' hq' d hd => ?_
  obtain ⟨x, hx', rfl⟩ := List.mem_map.mp hd
  have hxl := ht x hx'
  refine ⟨AsL.name (by rfl), TsAll.nil, fun _ => ?_⟩
  exact Ev.tuple (EvL.cons (Ev.fn hY (hy (m := 0) (x := x) (by omega)) trivial (EvL.one (Ev.loc (x := "text") (d := .str x) (by rfl) (by rfl) (by decide))) (by omega) (by rfl) (by decide) (by rfl))
    (EvL.two Ev.str (Ev.fn hY (hy (m := 0) (x := x) (by omega)) trivial (EvL.one (Ev.loc (x := "text") (d := .str x) (by rfl) (by rfl) (by decide))) (by omega) (by rfl) (by decide) (by rfl)))) (by rfl) (Nat.le_of_ble_eq_true rfl)
end
end Mine

end
section
open PySem PySem.W PyProof.Rows PySem.Calls PySem.Spec
set_option Elab.async false
set_option linter.unusedVariables false
set_option maxRecDepth 100000
namespace Mine
section
variable {a : Amb} {xs : List Str} {rs : List (List Str)} {ns : List Str} {fy f : Addr} {r0 : List Str} {rr : List (List Str)}
section
variable {c : Cx (fdScope (sAt 28))}
/-- the eight statements ahead of the branches -/
theorem due_head (h0 : c.hq = none) (hc1 : 1 ≤ c.n) (hlen : nsIn a.K mainGlobals "len" = some none) (hrange : nsIn a.K mainGlobals "range" = some none) (hY : IsFn a "_law_reply" fy (sAt 25)) (hy : ∀ {m : Nat} {x : Str}, x.length ≤ 100000 → FnG (fun _ => True) a (m + 1) (.ref fy) [.str x] (.str (replyS x)))
    (hA : ∀ x ∈ xs, Asc x) (hsz : xs.length ≤ 10) (hxl : ∀ x ∈ xs, x.length ≤ 1000) (hm : rootL xs = [] ∨ rootL xs = xs) (he : rs = r0 :: rr) (hsr : rs.length ≤ 10) (hr : ∀ r ∈ rs, r.length ≤ 100 ∧ ∀ x ∈ r, Asc x) (en : namesL r0 rs = ns) (hn : ns.length ≤ 100) (hx : ∀ x ∈ ns, x.length ≤ 100)
    {rest : List Stmt} {r : Res} (k : ExsC a c (dV7 xs rs ns) rest r) : ExsC a c (dV0 xs rs) (dSt 0 :: dSt 1 :: dSt 2 :: dSt 3 :: dSt 4 :: dSt 5 :: dSt 6 :: dSt 7 :: rest) r := by
  subst en
  exact ExsC.cons (ExcC.of (due_s0 hsz hxl)) (ExsC.cons (ExcC.of (due_s1_no hA hm)) (ExsC.two (due_names h0 hlen hrange he hsr hr) (ExsC.two (due_texts hA hn hx) (ExsC.cons (ExcC.of (due_s6 hA hn hx)) (ExsC.cons (ExcC.of (due_s7 hY hy hc1 hn hx)) k)))))
theorem due_t8 (hlen : nsIn a.K mainGlobals "len" = some none) (hA : ∀ x ∈ xs, Asc x) (hn : ns.length ≤ 100) : Ts a c (dV7 xs rs ns) (ifTest (dSt 8)) ((rootL xs == []) || ((ns.length : Int) != 3)) :=
  Ts.or ((Ts.cmp (Ev.loc (x := "rooted") (d := rowD (rootL xs)) (by rfl) (by rfl) (by decide)) (Ev.list EvL.nil (by rfl) (Nat.zero_le _)) (Op2.eqD (lay_row (root_asc hA)) (by rw [nil_row]; exact lay_row (fun _ h => nomatch h)) (by rw [depth_row]; omega))).to (by rw [nil_row, eqv_row]))
    fun _ => (Ts.cmp (Ev.bi (Is.globB hlen PyProof.Rows.Boot.«len» (by decide) (by rfl) (by decide)) (Bi.lenL (xs := ns.map .str) (by rw [List.length_map]; omega)) (EvL.one (Ev.loc (x := "names") (d := rowD ns) (by rfl) (by rfl) (by decide))) (by rfl)) Ev.int Op2.neInt).to (by rw [List.length_map])
end
section
variable (hI : IsFn a "_law_due" f (sAt 28)) (hlen : nsIn a.K mainGlobals "len" = some none) (hrange : nsIn a.K mainGlobals "range" = some none) (hY : IsFn a "_law_reply" fy (sAt 25)) (hy : ∀ {m : Nat} {x : Str}, x.length ≤ 100000 → FnG (fun _ => True) a (m + 1) (.ref fy) [.str x] (.str (replyS x)))
    (hA : ∀ x ∈ xs, Asc x) (hsz : xs.length ≤ 10) (hxl : ∀ x ∈ xs, x.length ≤ 1000) (hm : rootL xs = [] ∨ rootL xs = xs) (he : rs = r0 :: rr) (hsr : rs.length ≤ 10) (hr : ∀ r ∈ rs, r.length ≤ 100 ∧ ∀ x ∈ r, Asc x) (en : namesL r0 rs = ns) (hn : ns.length ≤ 100) (hx : ∀ x ∈ ns, x.length ≤ 100)
include hI hlen hrange hY hy hA hsz hxl hm he hsr hr en hn hx
theorem due_ref (h3 : rootL xs = [] ∨ ns.length ≠ 3) {m : Nat} : FnC a (m + 2) (.ref f) [rowD xs, .list (rs.map rowD)] (.list (peerD (rootB xs) ns :: (allT (rootB xs) ns).map refT)) := by
  refine hI.fnC ["paths", "rows"] (fun doc pm an cd ct => two_args fun v u => by rfl) (by rfl) (by rfl) (by rfl) (by rfl) fun c hc h0 hev => ?_
  refine due_head (fy := fy) h0 (by omega) hlen hrange hY hy hA hsz hxl hm he hsr hr en hn hx ?_
  refine ExsC.of (Exs.ret (Exc.ifT ((due_t8 hlen hA hn).to ?_) (Exs.ret (Exc.return (Ev.bin (Ev.list (EvL.one (Ev.cell (x := "peer") (d := peerD (rootB xs) ns) (by rfl) (by rfl) (by decide))) (by rfl) (Nat.le_of_ble_eq_true rfl)) (Ev.loc (x := "refused") (d := .list ((allT (rootB xs) ns).map refT)) (by rfl) (by rfl) (by decide)) (Op2.addL (Nat.le_of_ble_eq_true rfl)))))))
  rcases h3 with h | h
  · rw [h]; rfl
  · have : ((ns.length : Int) != 3) = true := by rw [bne_iff_ne]; omega
    rw [this, Bool.or_true]

theorem due_bad (hint : nsIn a.K mainGlobals "int" = some none) (hve : nsIn a.K mainGlobals "ValueError" = some none) (hm3 : exmOne a.K (.type "ValueError") (.type "ValueError") = some true) (h3 : rootL xs ≠ []) (h4 : ns.length = 3) {p : Str} (hp : ns[2]? = some p) (hi : PySem.intText? p = none) (hl : p.length ≤ 640) (hrp : (reprText p).length ≤ 100000) {m : Nat} :
    FnC a (m + 2) (.ref f) [rowD xs, .list (rs.map rowD)] (.list (peerD (rootB xs) ns :: ((textsL (rootB xs) ns).map noT ++ ((allT (rootB xs) ns).map refT).drop 2))) := by
  refine hI.fnC ["paths", "rows"] (fun doc pm an cd ct => two_args fun v u => by rfl) (by rfl) (by rfl) (by rfl) (by rfl) fun c hc h0 hev => ?_
  refine due_head (fy := fy) h0 (by omega) hlen hrange hY hy hA hsz hxl hm he hsr hr en hn hx ?_
  have ht : ∀ t ∈ textsL (rootB xs) ns, t.length ≤ 12000 := fun t h => allT_len (rootB xs) hn hx t (List.mem_append_left _ h)
  refine ExsC.cons (ExcC.of (Exc.ifF ((due_t8 hlen hA hn).to ?_) Exs.nil)) ?_
  · rw [h4]; simpa using h3
  refine ExsC.ret (ExcC.tryX hev (RzC.here (RzcC.assign (RzeC.int hint (Ev.itemL (Ev.loc (x := "names") (d := rowD ns) (by rfl) (by rfl) (by decide)) (Ev.int (i := 2)) (by decide) (by decide) (d := .str p) (by rw [List.getElem?_map]; show Option.map PyData.str ns[2]? = _; rw [hp]; rfl) (fun o j => by rfl)) h0 hi hl hrp (by rfl) (by rfl)) (by rfl)))
    (Hn.hit (fun c' => Is.globB hve PyProof.Rows.Boot.«ValueError» (by decide) (by rfl) (by decide)) hm3 fun c' hn' hq' henv => ?_))
  refine Exs.ret (Exc.return (Ev.bin (d1 := .list (peerD (rootB xs) ns :: (textsL (rootB xs) ns).map noT)) (d2 := .list (((allT (rootB xs) ns).map refT).drop 2)) (Ev.bin (d2 := .list ((textsL (rootB xs) ns).map noT)) (Ev.list (EvL.one (Ev.cell (x := "peer") (d := peerD (rootB xs) ns) (by rfl) (by rfl) (by decide))) (by rfl) (Nat.le_of_ble_eq_true rfl)) ?_ (Op2.addL (Nat.le_of_ble_eq_true rfl)))
    (Ev.to (Ev.sliceL (lo := some 2) (hi := none) (Ev.loc (x := "refused") (d := .list ((allT (rootB xs) ns).map refT)) (by rfl) (by rfl) (by decide)) (.some Ev.int) .none (Nat.le_of_ble_eq_true rfl)) (by rfl)) (Op2.addL (Nat.le_of_ble_eq_true rfl))))
  rw [← map_fst (f := noT) (textsL (rootB xs) ns)]
  refine Ev.comp (bs := fun d => [("text", d)]) (p := fun _ => true) (f := fun d => noT (strOf d)) (EvI.list (Ev.loc (x := "texts") (d := rowD (textsL (rootB xs) ns)) (by rfl) (by rfl) (by decide))) (by rfl) (by decide) (by decide) (by decide) (fun _ => by rfl) (Nat.le_of_ble_eq_true rfl) fun c2 hc2 hq2 d hd => ?_
  obtain ⟨x, hx', rfl⟩ := List.mem_map.mp hd
  have hxl' := ht x hx'
  refine ⟨AsL.name (by rfl), TsAll.nil, fun _ => ?_⟩
  exact Ev.tuple (EvL.two (Ev.fn hY (hy (m := 0) (x := x) (by omega)) trivial (EvL.one (Ev.loc (x := "text") (d := .str x) (by rfl) (by rfl) (by decide))) (by omega) (by rfl) (by decide) (by rfl)) Ev.str) (by rfl) (Nat.le_of_ble_eq_true rfl)

theorem due_ok (hint : nsIn a.K mainGlobals "int" = some none) (hstr : nsIn a.K mainGlobals "str" = some none) (h3 : rootL xs ≠ []) (h4 : ns.length = 3) {p : Str} {n : Int} (hp : ns[2]? = some p) (hi : PySem.intText? p = some n) (hl : p.length ≤ 640) (hlg : n.natAbs.log2 < 1920) {m : Nat} :
    FnC a (m + 2) (.ref f) [rowD xs, .list (rs.map rowD)] (.list (peerD (rootB xs) ns :: ((textsL (rootB xs) ns).map (okT (hostS (rootB xs) ns) n) ++ ((allT (rootB xs) ns).map refT).drop 2))) := by
  refine hI.fnC ["paths", "rows"] (fun doc pm an cd ct => two_args fun v u => by rfl) (by rfl) (by rfl) (by rfl) (by rfl) fun c hc h0 hev => ?_
  refine due_head (fy := fy) h0 (by omega) hlen hrange hY hy hA hsz hxl hm he hsr hr en hn hx ?_
  have ht : ∀ t ∈ textsL (rootB xs) ns, t.length ≤ 12000 := fun t h => allT_len (rootB xs) hn hx t (List.mem_append_left _ h)
  refine ExsC.cons (ExcC.of (Exc.ifF ((due_t8 hlen hA hn).to ?_) Exs.nil)) ?_
  · rw [h4]; simpa using h3
  refine ExsC.of (Exs.cons (Exc.tryN (Exs.cons (Exc.assignC (Ev.ty (Is.globB hint PyProof.Rows.Boot.«int» (by decide) (by rfl) (by decide)) (Bi.int hi hl) (EvL.one (Ev.itemL (Ev.loc (x := "names") (d := rowD ns) (by rfl) (by rfl) (by decide)) (Ev.int (i := 2)) (by decide) (by decide) (d := .str p) (by rw [List.getElem?_map]; show Option.map PyData.str ns[2]? = _; rw [hp]; rfl) (fun o j => by rfl))) (by rfl)) (by rfl) (by rfl)) Exs.nil)) ?_)
  refine Exs.ret (Exc.return (Ev.bin (d1 := .list (peerD (rootB xs) ns :: (textsL (rootB xs) ns).map (okT (hostS (rootB xs) ns) n))) (d2 := .list (((allT (rootB xs) ns).map refT).drop 2)) (Ev.bin (d2 := .list ((textsL (rootB xs) ns).map (okT (hostS (rootB xs) ns) n))) (Ev.list (EvL.one (Ev.cell (x := "peer") (d := peerD (rootB xs) ns) (by rfl) (by rfl) (by decide))) (by rfl) (Nat.le_of_ble_eq_true rfl)) ?_ (Op2.addL (Nat.le_of_ble_eq_true rfl)))
    (Ev.to (Ev.sliceL (lo := some 2) (hi := none) (Ev.loc (x := "refused") (d := .list ((allT (rootB xs) ns).map refT)) (by rfl) (by rfl) (by decide)) (.some Ev.int) .none (Nat.le_of_ble_eq_true rfl)) (by rfl)) (Op2.addL (Nat.le_of_ble_eq_true rfl))))
  rw [← map_fst (f := okT (hostS (rootB xs) ns) n) (textsL (rootB xs) ns)]
  refine Ev.comp (bs := fun d => [("text", d)]) (p := fun _ => true) (f := fun d => okT (hostS (rootB xs) ns) n (strOf d)) (EvI.list (Ev.loc (x := "texts") (d := rowD (textsL (rootB xs) ns)) (by rfl) (by rfl) (by decide))) (by rfl) (by decide) (by decide) (by decide) (fun _ => by rfl) (Nat.le_of_ble_eq_true rfl) fun c2 hc2 hq2 d hd => ?_
  obtain ⟨x, hx', rfl⟩ := List.mem_map.mp hd
  have hxl' := ht x hx'
  refine ⟨AsL.name (by rfl), TsAll.nil, fun _ => ?_⟩
  exact Ev.tuple (EvL.cons (Ev.fn hY (hy (m := 0) (x := x) (by omega)) trivial (EvL.one (Ev.loc (x := "text") (d := .str x) (by rfl) (by rfl) (by decide))) (by omega) (by rfl) (by decide) (by rfl))
    (EvL.two (Ev.tuple (EvL.two (Ev.itemT (Ev.cell (x := "peer") (d := peerD (rootB xs) ns) (by rfl) (by rfl) (by decide)) (Ev.int (i := 0)) (by decide) (by decide) (d := .str (hostS (rootB xs) ns)) (by rfl) (fun o j => by rfl)) (Ev.cell (x := "port") (d := .int n) (by rfl) (by rfl) (by decide))) (by rfl) (Nat.le_of_ble_eq_true rfl))
      (Ev.ty (Is.globB hstr PyProof.Rows.Boot.«str» (by decide) (by rfl) (by decide)) (Bi.strI hlg) (EvL.one (Ev.cell (x := "port") (d := .int n) (by rfl) (by rfl) (by decide))) (by rfl)))) (by rfl) (Nat.le_of_ble_eq_true rfl)
end
end
end Mine

end
section
open PySem PySem.W PyProof.Rows PySem.Calls PySem.Spec
set_option Elab.async false
set_option linter.unusedVariables false
set_option maxRecDepth 100000
namespace Mine
def drawnL (ns : List Int) : List Int := if (ns.take 4).length != 0 then ns.take 4 else [264, 78, 541]
def trunkL (ns : List Int) : List Str := [1, 7, 49, 343, 2401].map fun k => pieceS ((drawnL ns).sum.fdiv k)
def madeD (ns : List Int) (x : Int) : PyData := .tuple [.str (pathS x (trunkL ns)), rowD (rowL x (trunkL ns))]
def pathsN (ns : List Int) (k : Nat) : List Str := ((drawnL ns).take k).map fun x => pathS x (trunkL ns)
def rowsN (ns : List Int) (k : Nat) : List (List Str) := ((drawnL ns).take k).map fun x => rowL x (trunkL ns)
def fTrunk (ns : List Int) : PyData → PyData
  | .int k => .str (pieceS ((drawnL ns).sum.fdiv k))
  | d => d
def fMade (ns : List Int) : PyData → PyData
  | .int x => madeD ns x
  | d => d
def fstD : PyData → PyData
  | .tuple (x :: _) => x
  | d => d
def sndD : PyData → PyData
  | .tuple [_, y] => y
  | d => d
theorem drawnL_len (ns : List Int) : (drawnL ns).length ≤ 4 ∧ (drawnL ns).length ≠ 0 := by
  unfold drawnL
  split
  · rename_i h
    have h' : (ns.take 4).length ≠ 0 := by simpa using h
    have : (ns.take 4).length ≤ 4 := by rw [List.length_take]; omega
    exact ⟨this, h'⟩
  · decide
theorem ExsC.weak {a : Amb} {sc : Scope} {c : Cx sc} {ρ : Vars} {ss : List Stmt} {ρ1 ρ2 : Vars} (h : ExsC a c ρ ss (.next ρ1)) (k : ∀ y d, ρ2.lookup y = some d → ρ1.lookup y = some d) : ExsC a c ρ ss (.next ρ2) := fun s E S T =>
  h.then S T fun fl s1 q1 ⟨e, S1⟩ _ => ⟨q1, e, S1.sub k⟩
theorem ExsC.nil {a : Amb} {sc : Scope} {c : Cx sc} {ρ : Vars} : ExsC a c ρ [] (.next ρ) := ExsC.of Exs.nil
def lSt (i : Nat) : Stmt := ((fdBody (sAt 29))[i]?).getD (.Pass ⟨0, 0, 0, 0⟩)
section
variable {a : Amb} {c : Cx (fdScope (sAt 29))} {ns : List Int} {f fp fpa ft fd : Addr}
def lV0 (ns : List Int) : Vars := [("script", .list (ns.map .int))]
def lV1 (ns : List Int) : Vars := ("drawn", .list ((drawnL ns).map .int)) :: lV0 ns
def lV2 (ns : List Int) : Vars := ("total", .int (drawnL ns).sum) :: lV1 ns
def lV3 (ns : List Int) : Vars := ("trunk", rowD (trunkL ns)) :: lV2 ns
def lV4 (ns : List Int) : Vars := ("made", .list ((drawnL ns).map (madeD ns))) :: lV3 ns
theorem law_s0 (hn : ns.length ≤ 63) : Exc a c (lV0 ns) (lSt 0) (.next (lV1 ns)) := by
  have sz := sizeLine_eq
  have hv : Ev a c (lV0 ns) _ (.list ((ns.take 4).map .int)) := Ev.to (Ev.sliceL (lo := none) (hi := some 4) (Ev.loc (x := "script") (pos := ⟨198, 12, 198, 18⟩) (d := .list (ns.map .int)) (by rfl) (by rfl) (by decide)) .none (.some (Ev.int (k := 0) (pos := ⟨198, 20, 198, 21⟩))) (p := ⟨198, 19, 198, 21⟩) (pos := ⟨198, 12, 198, 22⟩) (by rw [List.length_map]; omega)) (by rw [cut_upto _ (by decide), ← List.map_take]; rfl)
  have htr : Tr a c (.list ((ns.take 4).map .int)) ((ns.take 4).length != 0) := by
    have := Tr.list (a := a) (c := c) (xs := (ns.take 4).map .int) (by rw [List.length_map, List.length_take]; omega)
    rwa [List.length_map] at this
  unfold lV1 drawnL
  cases h : ((ns.take 4).length != 0) with
  | true =>
    rw [h] at htr
    exact Exc.assignL (Ev.orT hv htr) (by rfl) (by rfl)
  | false =>
    rw [h] at htr
    exact Exc.assignL (Ev.orF hv htr (Ev.list (EvL.cons Ev.int (EvL.two Ev.int Ev.int)) (by rfl) (Nat.le_of_ble_eq_true rfl))) (by rfl) (by rfl)
theorem law_s1 (h0 : c.hq = none) (hsum : nsIn a.K mainGlobals "sum" = some none) : Exc a c (lV1 ns) (lSt 1) (.next (lV2 ns)) :=
  Exc.assignC (Ev.bi (Is.globB hsum PyProof.Rows.Boot.«sum» (by decide) (by rfl) (by decide)) (Bi.sum h0) (EvL.one (Ev.loc (x := "drawn") (d := .list ((drawnL ns).map .int)) (by rfl) (by rfl) (by decide))) (by rfl)) (by rfl) (by rfl)
theorem law_s2 (h0 : c.hq = none) (hc1 : 1 ≤ c.n) (hP : IsFn a "_law_piece" fp (sAt 23)) (hp : ∀ {m : Nat} {n : Int}, Fn a (m + 1) (.ref fp) [.int n] (.str (pieceS n))) : Exc a c (lV2 ns) (lSt 2) (.next (lV3 ns)) := by
  have e : (([1, 7, 49, 343, 2401] : List Int).map PyData.int |>.filter fun _ => true).map (fTrunk ns) = (trunkL ns).map .str := rfl
  unfold lV3 rowD
  rw [← e]
  refine Exc.assignC (Ev.comp (bs := fun d => [("k", d)]) (p := fun _ => true) (f := fTrunk ns) (EvI.list (Ev.list (EvL.cons Ev.int (EvL.cons Ev.int (EvL.cons Ev.int (EvL.two Ev.int Ev.int)))) (by rfl) (Nat.le_of_ble_eq_true rfl))) (by rfl) (by decide) (by decide) (by decide) (fun _ => by rfl) (Nat.le_of_ble_eq_true rfl) fun c' hc' hq' d hd => ?_) (by rfl) (by rw [c.env_eq]; rfl)
  have hd' : d ∈ ([1, 7, 49, 343, 2401] : List Int).map PyData.int := hd
  obtain ⟨k, hkm, rfl⟩ := List.mem_map.mp hd'
  have hk : k ≠ 0 := by rintro rfl; revert hkm; decide
  refine ⟨AsL.name (by rfl), TsAll.nil, fun _ => ?_⟩
  exact Ev.fn hP (hp (m := 0)) (hq'.trans h0) (EvL.one (Ev.bin (Ev.cell (x := "total") (d := .int (drawnL ns).sum) (by rfl) (by rfl) (by decide)) (Ev.loc (x := "k") (d := .int k) (by rfl) (by rfl) (by decide)) (Op2.divInt hk))) (by omega) (by rfl) (by decide) (by rfl)
theorem law_s3 (h0 : c.hq = none) (hc1 : 2 ≤ c.n) (hP : IsFn a "_law_path" fpa (sAt 24)) (hp : ∀ {m : Nat} {x : Int}, Fn a (m + 2) (.ref fpa) [.int x, rowD (trunkL ns)] (madeD ns x)) : Exc a c (lV3 ns) (lSt 3) (.next (lV4 ns)) := by
  have hl := (drawnL_len ns).1
  have e : (((drawnL ns).map PyData.int).filter fun _ => true).map (fMade ns) = (drawnL ns).map (madeD ns) := by
    rw [List.filter_eq_self.mpr (fun _ _ => rfl), List.map_map]; rfl
  unfold lV4
  rw [← e]
  refine Exc.assignComp (bs := fun d => [("x", d)]) (p := fun _ => true) (f := fMade ns) (by rfl) (by rw [c.env_eq]; rfl) (EvI.list (Ev.loc (x := "drawn") (d := .list ((drawnL ns).map .int)) (by rfl) (by rfl) (by decide))) (by rfl) (by decide) (by decide) (by decide) (fun _ => by rfl) (by rw [List.length_map, sizeLine_eq]; omega) fun c' hc' hq' d hd => ?_
  obtain ⟨x, hx, rfl⟩ := List.mem_map.mp hd
  refine ⟨AsL.name (by rfl), TsAll.nil, fun _ => ?_⟩
  exact Ev.fn hP (hp (m := 0) (x := x)) (hq'.trans h0) (EvL.two (Ev.loc (x := "x") (d := .int x) (by rfl) (by rfl) (by decide)) (Ev.cell (x := "trunk") (d := rowD (trunkL ns)) (by rfl) (by rfl) (by decide))) (by omega) (by rfl) (by decide) (by rfl)
end
end Mine

end
section
open PySem PySem.W PyProof.Rows PySem.Calls PySem.Spec
set_option Elab.async false
set_option linter.unusedVariables false
set_option maxRecDepth 100000
namespace Mine
section
variable {a : Amb} {ns : List Int} {f fp fpa ft fd : Addr}
/-- the one claim of the law, size by size -/
def SizeOk (a : Amb) (ft fd : Addr) (ns : List Int) (k : Nat) : Prop := ∃ d : PyData, d.canLay0 = true ∧ d.depth ≤ 100 ∧ (∀ m, FnC a (m + 4) (.ref ft) [rowD (pathsN ns k)] d) ∧ ∀ m, FnC a (m + 2) (.ref fd) [rowD (pathsN ns k), .list ((rowsN ns k).map rowD)] d
section
variable {c : Cx (fdScope (sAt 29))}
theorem made_cut (ns : List Int) (k : Nat) : cut ((drawnL ns).map (madeD ns)) none (some ((1 : Int) + (k : Int) * 1)) = ((drawnL ns).take (k + 1)).map (madeD ns) := by
  rw [cut_upto _ (by omega), show ((1 : Int) + (k : Int) * 1).toNat = k + 1 from by omega, ← List.map_take]
theorem paths_eq (ns : List Int) (k : Nat) : ((((drawnL ns).take k).map (madeD ns)).filter fun _ => true).map fstD = (pathsN ns k).map .str := by
  rw [List.filter_eq_self.mpr (fun _ _ => rfl), List.map_map, pathsN, List.map_map]; rfl
theorem rows_eq (ns : List Int) (k : Nat) : ((((drawnL ns).take k).map (madeD ns)).filter fun _ => true).map sndD = (rowsN ns k).map rowD := by
  rw [List.filter_eq_self.mpr (fun _ _ => rfl), List.map_map, rowsN, List.map_map]; rfl
def bPair (d : PyData) : Vars := [("row", sndD d), ("path", fstD d)]
theorem pair_in {scp : Scope} {c' : Cx scp} (h0 : c'.hq = none) (hx : scp.names.lookup ("path" : Str) = some .local) (hy : scp.names.lookup ("row" : Str) = some .local) {d : PyData} {k : Nat} {kk : Nat} {p q pos : Pos} (hd : d ∈ ((drawnL ns).take k).map (madeD ns)) :
    AsL a c' (.Tuple [.Name "path" p, .Name "row" q] kk pos) d (bPair d) := by
  obtain ⟨x, hx', rfl⟩ := List.mem_map.mp hd
  exact AsL.pair h0 hx hy
def forBody : Stmt → List Stmt
  | .For _ _ b _ _ => b
  | _ => []
theorem law_turn (h0 : c.hq = none) (hc : 4 ≤ c.n) (hT : IsFn a "_law_told" ft (sAt 27)) (hD : IsFn a "_law_due" fd (sAt 28)) {k : Nat} (hk : k < (drawnL ns).length) (H : SizeOk a ft fd ns (k + 1)) :
    ExsC a c (("size", .int ((1 : Int) + (k : Int) * 1)) :: lV4 ns) (forBody (lSt 4)) (.next (lV4 ns)) := by
  obtain ⟨d, d1, d2, d3, d4⟩ := H
  have hl := (drawnL_len ns).1
  have hsrc : ∀ {sc : Scope} {c : Cx sc} {ρ : Vars} {p1 p2 p3 p4 : Pos}, sc.names.lookup ("made" : Str) = some .local → sc.names.lookup ("size" : Str) = some .local → ρ.lookup ("made" : Str) = some (.list ((drawnL ns).map (madeD ns))) → ρ.lookup ("size" : Str) = some (.int ((1 : Int) + (k : Int) * 1)) →
      EvI a c ρ (.Subscript (.Name "made" p1) (.Slice none (some (.Name "size" p2)) none p3) p4) (((drawnL ns).take (k + 1)).map (madeD ns)) := fun h1 h2 h3 h4 =>
    EvI.list (Ev.to (Ev.sliceL (lo := none) (hi := some _) (Ev.loc (x := "made") h1 h3 (by decide)) .none (.some (Ev.loc (x := "size") h2 h4 (by decide))) (by rw [List.length_map, sizeLine_eq]; omega)) (by rw [made_cut]))
  have hsz : (((drawnL ns).take (k + 1)).map (madeD ns)).length ≤ sizeLine := by rw [List.length_map, List.length_take, sizeLine_eq]; omega
  have hop : Op2 a c (compareOp .NotEq) d d (.bool false) := by
    have := Op2.neD (a := a) (c := c) d1 d1 d2
    rwa [PySem.SeqAt.eqv_refl d d1] at this
  refine ExsC.weak (ExsC.cons (ρ' := ("paths", rowD (pathsN ns (k + 1))) :: ("size", .int ((1 : Int) + (k : Int) * 1)) :: lV4 ns) (ExcC.of ?_) (ExsC.cons (ExcC.skip (TsC.cmp ?_ ?_ hop)) ExsC.nil)) fun y d hy => sub_one (by rfl) y d (sub_one (by rfl) y d hy)
  · unfold rowD
    rw [← paths_eq]
    refine Exc.assignComp (bs := bPair) (p := fun _ => true) (f := fstD) (by rfl) (by rw [c.env_eq]; rfl) (hsrc (by rfl) (by rfl) (by rfl) (by rfl)) (by rfl) (by decide) (by decide) (by decide) (fun _ => by rfl) hsz fun c' hc' hq' d hd => ?_
    refine ⟨pair_in (hq'.trans h0) (by rfl) (by rfl) hd, TsAll.nil, fun _ => Ev.loc (x := "path") (by rfl) (by rfl) (by decide)⟩
  · obtain ⟨n', hn'⟩ : ∃ n', c.n = n' + 4 := ⟨c.n - 4, by omega⟩
    exact EvC.fn hT (d3 0) h0 (EvL.one (Ev.loc (x := "paths") (d := rowD (pathsN ns (k + 1))) (by rfl) (by rfl) (by decide))) (by omega) (by rfl) (by decide) (by rfl)
  · refine EvC.fn hD (d4 0) h0 (EvL.two (Ev.loc (x := "paths") (d := rowD (pathsN ns (k + 1))) (by rfl) (by rfl) (by decide)) ?_) (by omega) (by rfl) (by decide) (by rfl)
    rw [← rows_eq]
    refine Ev.comp (bs := bPair) (p := fun _ => true) (f := sndD) (hsrc (by rfl) (by rfl) (by rfl) (by rfl)) (by rfl) (by decide) (by decide) (by decide) (fun _ => by rfl) hsz fun c' hc' hq' d hd => ?_
    refine ⟨pair_in (hq'.trans h0) (by rfl) (by rfl) hd, TsAll.nil, fun _ => Ev.loc (x := "row") (by rfl) (by rfl) (by decide)⟩
end
theorem law_fn (hI : IsFn a "law" f (sAt 29)) (hT : IsFn a "_law_told" ft (sAt 27)) (hD : IsFn a "_law_due" fd (sAt 28)) (hP : IsFn a "_law_piece" fp (sAt 23)) (hPa : IsFn a "_law_path" fpa (sAt 24)) (hsum : nsIn a.K mainGlobals "sum" = some none) (hlen : nsIn a.K mainGlobals "len" = some none) (hrange : nsIn a.K mainGlobals "range" = some none)
    (hp : ∀ {m : Nat} {n : Int}, Fn a (m + 1) (.ref fp) [.int n] (.str (pieceS n))) (hpa : ∀ {m : Nat} {x : Int}, Fn a (m + 2) (.ref fpa) [.int x, rowD (trunkL ns)] (madeD ns x)) (hn : ns.length ≤ 63) (H : ∀ k, 1 ≤ k → k ≤ (drawnL ns).length → SizeOk a ft fd ns k) {m : Nat} :
    FnC a (m + 5) (.ref f) [.list (ns.map .int)] (.bool true) := by
  have hl := (drawnL_len ns).1
  refine hI.fnC ["script"] (fun doc pm an cd ct => one_arg fun v => by rfl) (by rfl) (by rfl) (by rfl) (by rfl) fun c hc h0 he => ?_
  refine ExsC.cons (ExcC.of (law_s0 hn)) (ExsC.cons (ExcC.of (law_s1 h0 hsum)) (ExsC.cons (ExcC.of (law_s2 h0 (by omega) hP hp)) (ExsC.cons (ExcC.of (law_s3 h0 (by omega) hPa hpa)) (ExsC.cons (ρ' := lV4 ns) ?_ (ExsC.of (Exs.ret (Exc.return Ev.bool)))))))
  refine ExcC.forL (ds := (List.range (drawnL ns).length).map fun (i : Nat) => .int (((1 : Nat) : Int) + (i : Int) * 1)) (fun _ => lV4 ns) (fun d => [("size", d)]) rfl ?_ (fun _ => by rfl) rfl (fun i d hd => As.nameL (by rfl)) (fun i d hd => ?_) (fun it v => by rfl)
  · refine EvI.range2 h0 hrange Ev.int (Ev.to (Ev.bin (Ev.bi (Is.globB hlen PyProof.Rows.Boot.«len» (by decide) (by rfl) (by decide)) (Bi.lenL (xs := (drawnL ns).map (madeD ns)) (by rw [List.length_map]; omega)) (EvL.one (Ev.loc (x := "made") (d := .list ((drawnL ns).map (madeD ns))) (by rfl) (by rfl) (by decide))) (by rfl)) Ev.int Op2.addInt) ?_) (by omega) (by omega) (by rfl) (by rfl)
    rw [List.length_map]
    congr 1
    push_cast
    omega
  · have hi : i < (drawnL ns).length := by
      have := (List.getElem?_eq_some_iff.mp hd).1
      simpa using this
    have hd' : d = .int ((1 : Int) + (i : Int) * 1) := by
      have := (List.getElem?_eq_some_iff.mp hd).2
      simpa using this.symm
    subst hd'
    exact law_turn h0 (by omega) hT hD hi (H (i + 1) (by omega) hi)
end
end Mine

end
section
open PySem PySem.NumText
set_option Elab.async false
set_option linter.unusedVariables false
namespace Mine
/-! the size of a number read from a short text -/
theorem step_small {p q : Array Nat × Bool} {c : Nat} (h : NumText.step 10 p c = some q) (hp : ∀ d ∈ p.1.toList, d < 10) : ∀ d ∈ q.1.toList, d < 10 := by
  unfold NumText.step at h
  repeat' split at h
  all_goals first
    | (cases h; exact hp)
    | (rename_i d _ hd
       cases h
       intro e he
       rw [Array.toList_push] at he
       rcases List.mem_append.mp he with he | he
       · exact hp e he
       · rw [List.mem_singleton.mp he]; exact hd)
    | cases h
theorem fold_small : ∀ (cs : List Nat) {p q : Array Nat × Bool}, cs.foldlM (NumText.step 10) p = some q → (∀ d ∈ p.1.toList, d < 10) → ∀ d ∈ q.1.toList, d < 10
  | [], p, q, h, hp => by cases (Option.some.inj h : p = q); exact hp
  | c :: cs, p, q, h, hp => by
    rw [List.foldlM_cons] at h
    cases hs : NumText.step 10 p c with
    | none => rw [hs] at h; exact absurd h (by simp)
    | some p' =>
      rw [hs] at h
      exact fold_small cs h (step_small hs hp)
theorem worth_bound : ∀ (l : List Nat) (acc : Nat), (∀ d ∈ l, d < 10) → l.foldl (fun acc d => acc * 10 + d) acc < (acc + 1) * 10 ^ l.length
  | [], acc, _ => by simp
  | d :: l, acc, h => by
    rw [List.foldl_cons]
    have h1 := worth_bound l (acc * 10 + d) fun e he => h e (List.mem_cons_of_mem _ he)
    have h2 := h d (List.mem_cons_self ..)
    rw [List.length_cons, Nat.pow_succ]
    have h3 : (acc * 10 + d + 1) * 10 ^ l.length ≤ ((acc + 1) * 10) * 10 ^ l.length := Nat.mul_le_mul_right _ (by omega)
    have h4 : (acc + 1) * 10 * 10 ^ l.length = (acc + 1) * (10 ^ l.length * 10) := by rw [Nat.mul_assoc, Nat.mul_comm 10]
    omega
theorem int_small {x : Str} {n : Int} (h : PySem.intText? x = some n) (hl : x.length ≤ 20) : n.natAbs.log2 < 1920 := by
  have key : n.natAbs < 10 ^ 20 := by
    unfold PySem.intText? at h
    split at h
    · split at h
      · rename_i ds hds
        split at h
        · have hn := Option.some.inj h
          have hsz : ds.size ≤ 20 := Nat.le_trans (digits_size hds) (Nat.le_trans (core_length _) (Nat.le_trans (seen_length x) hl))
          have hsm : ∀ d ∈ ds.toList, d < 10 := by
            unfold digits? at hds
            cases hf : (core (numSeenOf x)).foldlM (NumText.step 10) ((#[] : Array Nat), false) with
            | none => rw [hf] at hds; exact absurd hds (by simp)
            | some q =>
              rw [hf] at hds
              have h2 : (if q.2 = true then some q.1 else none) = some ds := hds
              have := fold_small _ hf (fun d hd => nomatch hd)
              split at h2
              · cases h2; exact this
              · cases h2
          have hw := worth_bound ds.toList 0 hsm
          have hp : 10 ^ ds.toList.length ≤ 10 ^ 20 := Nat.pow_le_pow_right (by decide) (by simpa using hsz)
          have e : n.natAbs = ds.toList.foldl (fun acc d => acc * 10 + d) 0 := by
            rw [← hn]
            unfold worth
            rw [← Array.foldl_toList]
            split
            · rw [Int.natAbs_neg, Int.natAbs_natCast]
            · rw [Int.natAbs_natCast]
          rw [e]; omega
        · cases h
      · cases h
    · cases h
  by_cases hz : n.natAbs = 0
  · rw [hz]; decide
  · exact Nat.lt_of_lt_of_le ((Nat.log2_lt (k := 70) hz).mpr (Nat.lt_of_lt_of_le key (by decide))) (by decide)
end Mine

end
section
open PySem
set_option Elab.async false
set_option linter.unusedVariables false
namespace Mine
/-! rows of names, in their order -/
theorem str_ext {x y : Str} (h : x.cps.toList = y.cps.toList) : x = y := by
  cases x; cases y; simp at h; rw [h]
theorem ltS_irr (x : Str) : ltS x x = false := by unfold ltS; rw [decide_eq_false_iff_not]; exact List.lt_irrefl _
theorem ltS_trans {x y z : Str} (h1 : ltS x y = true) (h2 : ltS y z = true) : ltS x z = true := by
  unfold ltS at *; rw [decide_eq_true_iff] at *; exact List.lt_trans h1 h2
theorem ltS_tri {x y : Str} (h1 : ltS x y = false) (h2 : ltS y x = false) : x = y := by
  unfold ltS at *; rw [decide_eq_false_iff_not] at *
  exact str_ext (List.le_antisymm (List.not_lt.mp h2) (List.not_lt.mp h1))
theorem ltL_cons (x y : Str) (xs ys : List Str) : ltL (x :: xs) (y :: ys) = if x == y then ltL xs ys else ltS x y := by rw [ltL]
theorem ltL_irr : ∀ xs : List Str, ltL xs xs = false
  | [] => rfl
  | x :: xs => by rw [ltL_cons, if_pos (by simp)]; exact ltL_irr xs
theorem ltL_trans : ∀ {xs ys zs : List Str}, ltL xs ys = true → ltL ys zs = true → ltL xs zs = true
  | [], [], _, h, _ => by cases h
  | [], _ :: _, [], _, h => by cases h
  | [], _ :: _, _ :: _, _, _ => rfl
  | _ :: _, [], _, h, _ => by cases h
  | _ :: _, _ :: _, [], _, h => by cases h
  | x :: xs, y :: ys, z :: zs, h1, h2 => by
    rw [ltL_cons] at h1 h2 ⊢
    by_cases e1 : x = y
    · subst e1
      rw [if_pos (by simp)] at h1
      by_cases e2 : x = z
      · subst e2
        rw [if_pos (by simp)] at h2 ⊢
        exact ltL_trans h1 h2
      · have : ¬ (x == z) = true := by simpa using e2
        rw [if_neg this] at h2 ⊢; exact h2
    · have n1 : ¬ (x == y) = true := by simpa using e1
      rw [if_neg n1] at h1
      by_cases e2 : y = z
      · subst e2
        rw [if_neg n1]; exact h1
      · have n2 : ¬ (y == z) = true := by simpa using e2
        rw [if_neg n2] at h2
        have h3 := ltS_trans h1 h2
        by_cases e3 : x = z
        · subst e3; rw [ltS_irr] at h3; cases h3
        · rw [if_neg (by simpa using e3)]; exact h3
/-- what lies between two rows with a common beginning begins so too -/
theorem between : ∀ (k : Nat) {a r b : List Str}, ltL r a = false → ltL b r = false → a.take k = b.take k → k ≤ a.length → k ≤ b.length → r.take k = a.take k
  | 0, _, _, _, _, _, _, _, _ => by simp
  | k + 1, [], _, _, _, _, _, h, _ => by simp at h
  | k + 1, _ :: _, _, [], _, _, _, _, h => by simp at h
  | k + 1, x :: a, [], y :: b, h, _, _, _, _ => by cases h
  | k + 1, x :: a, z :: r, y :: b, h1, h2, h3, h4, h5 => by
    rw [List.take_succ_cons, List.take_succ_cons] at h3
    injection h3 with e h3
    subst e
    rw [ltL_cons] at h1 h2
    by_cases e : z = x
    · subst e
      rw [if_pos (by simp)] at h1 h2
      rw [List.take_succ_cons, List.take_succ_cons, between k h1 h2 h3 (by simpa using h4) (by simpa using h5)]
    · rw [if_neg (by simpa using e)] at h1
      rw [if_neg (by simpa using fun q : x = z => e q.symm)] at h2
      exact absurd (ltS_tri h1 h2) e
theorem min_le : ∀ (rows : List (List Str)) (r : List Str) (P : List Str → Prop), (∀ x, P x → ltL x r = false) → (∀ x, x = r ∨ x ∈ rows ∨ P x → ltL x (minRow r rows) = false)
  | [], r, P, hP, x, hx => by
    rcases hx with rfl | h | h
    · exact ltL_irr x
    · cases h
    · exact hP x h
  | r1 :: rows, r, P, hP, x, hx => by
    unfold minRow
    rw [List.foldl_cons]
    by_cases h : ltL r1 r = true
    · rw [if_pos h]
      refine min_le rows r1 (fun x => x = r ∨ P x) (fun y hy => ?_) x ?_
      · cases q : ltL y r1 with
        | false => rfl
        | true =>
          have := ltL_trans q h
          rcases hy with rfl | hy
          · rw [ltL_irr] at this; cases this
          · rw [hP y hy] at this; cases this
      · rcases hx with h | h | h
        · exact .inr (.inr (.inl h))
        · rcases List.mem_cons.mp h with h | h
          · exact .inl h
          · exact .inr (.inl h)
        · exact .inr (.inr (.inr h))
    · rw [if_neg h]
      refine min_le rows r (fun x => x = r1 ∨ P x) (fun y hy => ?_) x ?_
      · rcases hy with rfl | hy
        · simpa using h
        · exact hP y hy
      · rcases hx with h | h | h
        · exact .inl h
        · rcases List.mem_cons.mp h with h | h
          · exact .inr (.inr (.inl h))
          · exact .inr (.inl h)
        · exact .inr (.inr (.inr h))
theorem max_ge : ∀ (rows : List (List Str)) (r : List Str) (P : List Str → Prop), (∀ x, P x → ltL r x = false) → (∀ x, x = r ∨ x ∈ rows ∨ P x → ltL (maxRow r rows) x = false)
  | [], r, P, hP, x, hx => by
    rcases hx with rfl | h | h
    · exact ltL_irr x
    · cases h
    · exact hP x h
  | r1 :: rows, r, P, hP, x, hx => by
    unfold maxRow
    rw [List.foldl_cons]
    by_cases h : ltL r r1 = true
    · rw [if_pos h]
      refine max_ge rows r1 (fun x => x = r ∨ P x) (fun y hy => ?_) x ?_
      · cases q : ltL r1 y with
        | false => rfl
        | true =>
          have := ltL_trans h q
          rcases hy with rfl | hy
          · rw [ltL_irr] at this; cases this
          · rw [hP y hy] at this; cases this
      · rcases hx with h | h | h
        · exact .inr (.inr (.inl h))
        · rcases List.mem_cons.mp h with h | h
          · exact .inl h
          · exact .inr (.inl h)
        · exact .inr (.inr (.inr h))
    · rw [if_neg h]
      refine max_ge rows r (fun x => x = r1 ∨ P x) (fun y hy => ?_) x ?_
      · rcases hy with rfl | hy
        · simpa using h
        · exact hP y hy
      · rcases hx with h | h | h
        · exact .inl h
        · rcases List.mem_cons.mp h with h | h
          · exact .inr (.inr (.inl h))
          · exact .inr (.inl h)
        · exact .inr (.inr (.inr h))
theorem maxRow_mem : ∀ (rows : List (List Str)) (r : List Str), maxRow r rows ∈ r :: rows
  | [], r => List.mem_cons_self ..
  | r1 :: rows, r => by
    unfold maxRow
    rw [List.foldl_cons]
    split
    · rcases List.mem_cons.mp (maxRow_mem rows r1) with h | h
      · rw [show List.foldl _ r1 rows = r1 from h]; simp
      · exact List.mem_cons_of_mem _ (List.mem_cons_of_mem _ h)
    · rcases List.mem_cons.mp (maxRow_mem rows r) with h | h
      · rw [show List.foldl _ r rows = r from h]; simp
      · exact List.mem_cons_of_mem _ (List.mem_cons_of_mem _ h)
/-- the length of the common beginning -/
def common : List Str → List Str → Nat
  | x :: xs, y :: ys => if x = y then common xs ys + 1 else 0
  | _, _ => 0
theorem common_le : ∀ xs ys : List Str, common xs ys ≤ xs.length ∧ common xs ys ≤ ys.length
  | [], ys => by simp [common]
  | _ :: _, [] => by simp [common]
  | x :: xs, y :: ys => by
    have := common_le xs ys
    unfold common
    split
    · simp; omega
    · simp
theorem common_take : ∀ xs ys : List Str, xs.take (common xs ys) = ys.take (common xs ys)
  | [], ys => by simp [common]
  | _ :: _, [] => by simp [common]
  | x :: xs, y :: ys => by
    unfold common
    split
    · rename_i h; subst h; rw [List.take_succ_cons, List.take_succ_cons, common_take xs ys]
    · simp
theorem common_end : ∀ xs ys : List Str, ltL ys xs = false → common xs ys = xs.length ∨ ∃ x y, xs[common xs ys]? = some x ∧ ys[common xs ys]? = some y ∧ x ≠ y
  | [], ys, _ => .inl (by simp [common])
  | _ :: _, [], h => by cases h
  | x :: xs, y :: ys, h => by
    unfold common
    by_cases e : x = y
    · subst e
      rw [if_pos rfl]
      rw [ltL_cons, if_pos (by simp)] at h
      rcases common_end xs ys h with q | ⟨u, v, q1, q2, q3⟩
      · exact .inl (by simp [q])
      · exact .inr ⟨u, v, by simpa using q1, by simpa using q2, q3⟩
    · rw [if_neg e]
      exact .inr ⟨x, y, by simp, by simp, e⟩
theorem take_get {α : Type} {xs ys : List α} {k i : Nat} (h : xs.take k = ys.take k) (hi : i < k) : xs[i]? = ys[i]? := by
  have := congrArg (fun l => l[i]?) h
  simpa [List.getElem?_take, hi] using this
theorem filterMap_take {xs : List Str} {k : Nat} {p : Nat → Bool} (hk : k ≤ xs.length) (hp : ∀ j, j < xs.length → (p j = true ↔ j < k)) :
    ((List.range xs.length).filterMap fun j => if p j = true then some (xs.getD j Str.empty) else none) = xs.take k := by
  have key : ∀ n, n ≤ xs.length → ((List.range n).filterMap fun j => if p j = true then some (xs.getD j Str.empty) else none) = xs.take (min n k) := by
    intro n
    induction n with
    | zero => intro _; simp
    | succ n ih =>
      intro hn
      rw [List.range_succ, List.filterMap_append, ih (by omega)]
      by_cases h : n < k
      · have e : p n = true := (hp n (by omega)).mpr h
        have e1 : min n k = n := by omega
        have e2 : min (n + 1) k = n + 1 := by omega
        rw [e1, e2, List.take_succ]
        simp [e, List.getD_eq_getElem?_getD]
        rw [List.getElem?_eq_getElem (by omega)]
        simp
      · have e : ¬ p n = true := fun z => h ((hp n (by omega)).mp z)
        have e1 : min n k = k := by omega
        have e2 : min (n + 1) k = k := by omega
        rw [e1, e2]
        simp [e]
  rw [key xs.length (Nat.le_refl _), Nat.min_eq_right hk]
/-- what commonpath takes is what the law asks -/
theorem names_eq (r0 : List Str) (rr : List (List Str)) : namesL r0 (r0 :: rr) = (minRow r0 rr).take (common (minRow r0 rr) (maxRow r0 rr)) ∧ ltL (maxRow r0 rr) (minRow r0 rr) = false := by
  have hmn : ∀ r ∈ r0 :: rr, ltL r (minRow r0 rr) = false := fun r hr => min_le rr r0 (fun _ => False) (fun _ h => h.elim) r (by rcases List.mem_cons.mp hr with h | h; exact .inl h; exact .inr (.inl h))
  have hmx : ∀ r ∈ r0 :: rr, ltL (maxRow r0 rr) r = false := fun r hr => max_ge rr r0 (fun _ => False) (fun _ h => h.elim) r (by rcases List.mem_cons.mp hr with h | h; exact .inl h; exact .inr (.inl h))
  have hmem1 := minRow_mem rr r0
  have hmem2 := maxRow_mem rr r0
  generalize hA : minRow r0 rr = A at hmn hmem1 ⊢
  generalize hB : maxRow r0 rr = B at hmx hmem2 ⊢
  have hBA : ltL B A = false := hmx A hmem1
  refine ⟨?_, hBA⟩
  have hc := common_le A B
  have ht := common_take A B
  have hpre : ∀ r ∈ r0 :: rr, ∀ j, j ≤ common A B → r.take j = A.take j := fun r hr j hj => by
    refine between j (hmn r hr) (hmx r hr) ?_ (by omega) (by omega)
    have := congrArg (List.take j) ht
    rwa [List.take_take, List.take_take, Nat.min_eq_left hj] at this
  have h0 := hpre r0 (List.mem_cons_self ..) _ (Nat.le_refl _)
  have hlen : common A B ≤ r0.length := by
    have := congrArg List.length h0
    rw [List.length_take, List.length_take] at this
    omega
  rw [← h0]
  unfold namesL
  refine filterMap_take hlen fun j hj => ⟨fun h => ?_, fun h => ?_⟩
  · unfold agree at h
    rw [List.all_eq_true] at h
    have ea : A.take (j + 1) = r0.take (j + 1) := by have := h A hmem1; simpa using this
    have eb : B.take (j + 1) = r0.take (j + 1) := by have := h B hmem2; simpa using this
    have la : j + 1 ≤ A.length := by
      have := congrArg List.length ea
      rw [List.length_take, List.length_take] at this; omega
    rcases common_end A B hBA with q | ⟨x, y, q1, q2, q3⟩
    · omega
    · by_cases z : j < common A B
      · exact z
      · exfalso
        have := take_get (ea.trans eb.symm) (i := common A B) (by omega)
        rw [q1, q2] at this
        exact q3 (Option.some.inj this)
  · unfold agree
    rw [List.all_eq_true]
    intro r hr
    have := hpre r hr (j + 1) (by omega)
    have := this.trans (hpre r0 (List.mem_cons_self ..) (j + 1) (by omega)).symm
    simpa using this
end Mine

end
section
open PySem PySem.StrLaws
set_option Elab.async false
set_option linter.unusedVariables false
namespace Mine
/-! texts as rows of signs -/
theorem cs_len (x : Str) : x.cps.toList.length = x.length := by simp [Str.length]
theorem cs_app (a b : Str) : (a ++ b).cps.toList = a.cps.toList ++ b.cps.toList := PyProof.Rows.cps_toList_append a b
theorem of_cs (x : Str) : x = ⟨x.cps.toList.toArray⟩ := by cases x; simp
theorem slice_mid {x : Str} {i j : Nat} (h : i ≤ j) (hj : j ≤ x.length) : (Txt.slice x (some (i : Int)) (some (j : Int))).cps.toList = (x.cps.toList.drop i).take (j - i) := by
  rw [show Txt.slice x (some (i : Int)) (some (j : Int)) = _ from sliceText_plain (x := x) ⟨by omega, by omega, by rw [cs_len]; omega⟩]
  show ((x.cps.toList.drop (i : Int).toNat).take ((j : Int) - (i : Int)).toNat) = _
  rw [Int.toNat_natCast, show ((j : Int) - (i : Int)).toNat = j - i from by omega]
theorem slice_pre {x : Str} {j : Nat} (hj : j ≤ x.length) : (Txt.slice x none (some (j : Int))).cps.toList = x.cps.toList.take j := by
  rw [show Txt.slice x none (some (j : Int)) = _ from sliceText_to (x := x) ⟨by omega, by rw [cs_len]; omega⟩]
  show ((x.cps.toList.drop 0).take ((j : Int) - 0).toNat) = _
  rw [List.drop_zero, show ((j : Int) - 0).toNat = j from by omega]
theorem slice_suf {x : Str} {i : Nat} (hi : i ≤ x.length) : (Txt.slice x (some (i : Int)) none).cps.toList = x.cps.toList.drop i := by
  rw [show Txt.slice x (some (i : Int)) none = _ from sliceText_from (x := x) ⟨by omega, by rw [cs_len]; omega⟩]
  show ((x.cps.toList.drop (i : Int).toNat).take ((x.cps.toList.length : Int) - i).toNat) = _
  rw [Int.toNat_natCast, List.take_of_length_le (by rw [List.length_drop]; omega)]
theorem starts_iff (x : Str) (c : Nat) : Txt.startswith x ⟨#[c]⟩ = true ↔ x.cps.toList[0]? = some c := by
  rw [← subAt_one x c 0]
  unfold Txt.startswith
  rw [Bool.and_eq_true, decide_eq_true_eq]
theorem ends_iff (x : Str) (c : Nat) : Txt.endswith x ⟨#[c]⟩ = true ↔ x.cps.toList[x.length - 1]? = some c := by
  rw [← subAt_one x c (x.length - 1)]
  unfold Txt.endswith
  rw [Bool.and_eq_true, decide_eq_true_eq]
  show 0 + 1 ≤ x.length ∧ Builtin.Str.subAt x ⟨#[c]⟩ (x.length - 1) = true ↔ x.length - 1 + 1 ≤ x.length ∧ _
  constructor
  · exact fun h => ⟨by omega, h.2⟩
  · exact fun h => ⟨by omega, h.2⟩
theorem rfind_at {x : Str} {c : Nat} {A B : List Nat} (h : x.cps.toList = A ++ c :: B) (hB : c ∉ B) : Txt.rfind x ⟨#[c]⟩ = (A.length : Int) := by
  have hat : At x ⟨#[c]⟩ x.length A.length := (subAt_one x c A.length).mpr (by rw [h]; simp)
  unfold Txt.rfind
  rcases last_spec x ⟨#[c]⟩ with ⟨h0, hn⟩ | ⟨i, h0, hi, hn⟩
  · exact absurd hat (hn _)
  · rw [h0]
    have h1 : ¬ i < A.length := fun z => hn _ z hat
    have h2 : ¬ A.length < i := fun z => by
      have := (subAt_one x c i).mp hi
      rw [h, List.getElem?_append_right (by omega), show i - A.length = (i - A.length - 1) + 1 from by omega, List.getElem?_cons_succ] at this
      exact hB (List.mem_of_getElem? this)
    show (i : Int) = _
    omega
theorem rfind_none {x : Str} {c : Nat} (h : c ∉ x.cps.toList) : Txt.rfind x ⟨#[c]⟩ = -1 := by
  unfold Txt.rfind
  rcases last_spec x ⟨#[c]⟩ with ⟨h0, hn⟩ | ⟨i, h0, hi, hn⟩
  · rw [h0]
  · exact absurd (List.mem_of_getElem? ((subAt_one x c i).mp hi)) h
theorem find_at {x : Str} {c : Nat} {A B : List Nat} (h : x.cps.toList = A ++ c :: B) (hA : c ∉ A) : Txt.find x ⟨#[c]⟩ = (A.length : Int) := by
  have hat : At x ⟨#[c]⟩ x.length A.length := (subAt_one x c A.length).mpr (by rw [h]; simp)
  rcases PyProof.Rows.find_whole x ⟨#[c]⟩ with ⟨h0, hn⟩ | ⟨i, h0, hi, hn⟩
  · exact absurd hat (hn _)
  · rw [h0]
    have h1 : ¬ A.length < i := fun z => hn _ z hat
    have h2 : ¬ i < A.length := fun z => by
      have := (subAt_one x c i).mp hi
      rw [h, List.getElem?_append_left z] at this
      exact hA (List.mem_of_getElem? this)
    omega
theorem find3_at {x : Str} {c i : Nat} {A M B : List Nat} (h : x.cps.toList = A ++ (M ++ c :: B)) (hi : A.length = i) (hM : c ∉ M) : Txt.find3 x ⟨#[c]⟩ (i : Int) = ((A.length + M.length : Nat) : Int) := by
  have hl := cs_len x
  rw [h] at hl
  simp only [List.length_append, List.length_cons] at hl
  have hf : PySem.fromIndex x.length (i : Int) = i := by unfold PySem.fromIndex; rw [if_neg (by omega)]; omega
  have g : ∀ v, v < x.length → x.cps.toList[v]? = some (x.cps.getD v 0) := fun v hv => getElem?_of_getD hv rfl
  have hc : x.cps.toList[A.length + M.length]? = some c := by rw [h, List.getElem?_append_right (by omega), List.getElem?_append_right (by omega)]; simp
  have hc' : x.cps.getD (A.length + M.length) 0 = c := getD_of_getElem? hc
  rcases find3_spec x c (i : Int) with ⟨h0, hn⟩ | ⟨k, h0, h1, h2, h3, h4⟩
  · exact absurd hc' (hn _ (by omega) (by omega))
  · rw [h0]
    rw [hf] at h1 h4
    have n1 : ¬ A.length + M.length < k := fun z => h4 _ (by omega) z hc'
    have n2 : ¬ k < A.length + M.length := fun z => by
      have := g k h2
      rw [h3, h, List.getElem?_append_right (by omega), List.getElem?_append_left (by omega)] at this
      exact hM (List.mem_of_getElem? this)
    omega
theorem rstrip_end {x : Str} {c : Nat} {A : List Nat} (h : x.cps.toList = A ++ [c]) (hne : A ≠ []) (hA : A.getLast? ≠ some c) : (Txt.rstripChars x ⟨#[c]⟩).cps.toList = A := by
  have hl := cs_len x
  rw [h] at hl
  simp only [List.length_append, List.length_singleton] at hl
  obtain ⟨A', d, rfl⟩ : ∃ A' d, A = A' ++ [d] := ⟨A.dropLast, A.getLast hne, (List.dropLast_concat_getLast hne).symm⟩
  have hd : d ≠ c := fun z => hA (by simp [z])
  have key : ∀ goes : Nat → Bool, goes c = true → goes d = false → (Txt.stripBy goes false true x).cps.toList = A' ++ [d] := fun goes gc gd => by
    have hhi : stripHi goes true x (stripLo goes false x) = (A' ++ [d]).length := by
      rw [show stripLo goes false x = 0 from rfl]
      unfold stripHi
      rw [if_pos rfl, List.drop_zero, h]
      simp [gc, gd] at hl ⊢
      omega
    unfold Txt.stripBy stripSame stripped
    rw [hhi, if_neg (by simp at hl ⊢; omega), strSub_toList, h, show stripLo goes false x = 0 from rfl, List.drop_zero, Nat.sub_zero, List.take_left]
  refine key _ (by simp) (by simp [hd])
end Mine

end
section
open PySem PySem.StrLaws
set_option Elab.async false
set_option linter.unusedVariables false
namespace Mine
/-! a text of parts with a sign between two: its split -/
theorem cut_two {c : Nat} : ∀ {x y a b : List Nat}, c ∉ x → c ∉ y → x ++ c :: a = y ++ c :: b → x = y ∧ a = b
  | [], [], a, b, _, _, h => ⟨rfl, by simpa using h⟩
  | [], e :: y, a, b, _, hy, h => by
    simp only [List.nil_append, List.cons_append, List.cons.injEq] at h
    exact absurd (by rw [h.1]; exact List.mem_cons_self ..) hy
  | d :: x, [], a, b, hx, _, h => by
    simp only [List.nil_append, List.cons_append, List.cons.injEq] at h
    exact absurd (by rw [← h.1]; exact List.mem_cons_self ..) hx
  | d :: x, e :: y, a, b, hx, hy, h => by
    simp only [List.cons_append, List.cons.injEq] at h
    obtain ⟨h1, h2⟩ := cut_two (fun m => hx (List.mem_cons_of_mem _ m)) (fun m => hy (List.mem_cons_of_mem _ m)) h.2
    exact ⟨by rw [h.1, h1], h2⟩
theorem join_two (c : Nat) (x y : Str) (r : List Str) : (Str.join ⟨#[c]⟩ (x :: y :: r)).cps.toList = x.cps.toList ++ c :: (Str.join ⟨#[c]⟩ (y :: r)).cps.toList := by
  rw [PyProof.Rows.join_cons_cons, cs_app, cs_app, List.append_assoc]; rfl
theorem join_inj {c : Nat} : ∀ {xs ys : List Str}, xs ≠ [] → ys ≠ [] → (∀ p ∈ xs, c ∉ p.cps.toList) → (∀ p ∈ ys, c ∉ p.cps.toList) → (Str.join ⟨#[c]⟩ xs).cps.toList = (Str.join ⟨#[c]⟩ ys).cps.toList → xs = ys
  | [], _, h, _, _, _, _ => absurd rfl h
  | _ :: _, [], _, h, _, _, _ => absurd rfl h
  | [x], [y], _, _, _, _, h => by rw [str_ext (x := x) (y := y) h]
  | [x], y :: z :: r, _, _, hx, _, h => by
    rw [join_two] at h
    have h : x.cps.toList = _ := h
    exact absurd (by rw [h]; simp) (hx x (List.mem_cons_self ..))
  | x :: z :: r, [y], _, _, _, hy, h => by
    rw [join_two] at h
    have h : _ = y.cps.toList := h
    exact absurd (by rw [← h]; simp) (hy y (List.mem_cons_self ..))
  | x :: x2 :: r, y :: y2 :: q, _, _, hx, hy, h => by
    rw [join_two, join_two] at h
    obtain ⟨h1, h2⟩ := cut_two (hx x (List.mem_cons_self ..)) (hy y (List.mem_cons_self ..)) h
    have := join_inj (xs := x2 :: r) (ys := y2 :: q) (by simp) (by simp) (fun p m => hx p (List.mem_cons_of_mem _ m)) (fun p m => hy p (List.mem_cons_of_mem _ m)) h2
    rw [str_ext (x := x) (y := y) h1, this]
theorem split_ne (x y : Str) : Txt.split x y ≠ [] := by
  unfold Txt.split
  split
  · simp
  · split
    · simp
    · rw [partsBetween_eq]
      obtain ⟨p, r, e⟩ := partsFrom_ne x y.length 0 (Builtin.Str.occurrences x y 0 x.length (x.length + 1))
      rw [e]; simp
theorem split_eq {x : Str} {c : Nat} {ps : List Str} (hne : ps ≠ []) (hf : ∀ p ∈ ps, c ∉ p.cps.toList) (h : x = Str.join ⟨#[c]⟩ ps) : Txt.split x ⟨#[c]⟩ = ps :=
  join_inj (split_ne x _) hne (split_free x c) hf (by rw [join_split, h])
theorem join_txt (sep : Str) (ts : List Str) : Txt.join sep ts = Str.join sep ts := glued_eq_join sep ts
theorem slash : ("/" : Str) = ⟨#[47]⟩ := rfl
theorem blank : (" " : Str) = ⟨#[32]⟩ := rfl
/-- the pieces ahead that the slashes ahead make -/
def aheadL (x : Int) : List Str := if (x.fmod 8 == 7) = true then [] else if (x.fmod 8 == 6) = true then ["", ""] else [""]
theorem trunk_good {ns : List Int} : ∀ t ∈ trunkL ns, GoodP t := fun t h => by
  unfold trunkL at h
  obtain ⟨k, _, rfl⟩ := List.mem_map.mp h
  exact piece_good _
theorem pieces_good {x : Int} {trunk : List Str} (h : ∀ t ∈ trunk, GoodP t) : ∀ p ∈ piecesL x trunk, GoodP p := fun p hp => by
  unfold piecesL at hp
  rcases List.mem_append.mp hp with hp | hp
  · exact h p (List.mem_of_mem_take hp)
  · rcases List.mem_cons.mp hp with rfl | hp
    · exact piece_good _
    · rw [List.mem_singleton.mp hp]; exact piece_good _
theorem pieces_ne (x : Int) (trunk : List Str) : piecesL x trunk ≠ [] := by unfold piecesL; simp
theorem join_empty_cons {sep : Str} : ∀ {ps : List Str}, ps ≠ [] → Str.join sep ("" :: ps) = sep ++ Str.join sep ps
  | [], h => absurd rfl h
  | y :: r, _ => by
    rw [PyProof.Rows.join_cons_cons]
    exact congrArg (· ++ _) (Str.empty_append sep)
theorem path_join (x : Int) (trunk : List Str) : pathS x trunk = Str.join ⟨#[47]⟩ (aheadL x ++ piecesL x trunk) := by
  have hne := pieces_ne x trunk
  unfold pathS aheadS aheadL
  rw [join_txt, slash]
  split
  · exact Str.empty_append _
  · split
    · rw [List.cons_append, List.cons_append, List.nil_append, join_empty_cons (by simp), join_empty_cons hne, ← Str.append_assoc]
      rfl
    · rw [List.cons_append, List.nil_append, join_empty_cons hne]
theorem ahead_free {x : Int} : ∀ p ∈ aheadL x, p = "" := fun p hp => by
  unfold aheadL at hp
  split at hp
  · cases hp
  · split at hp
    · simpa using hp
    · simpa using hp
theorem path_split {x : Int} {trunk : List Str} (h : ∀ t ∈ trunk, GoodP t) : Txt.split (pathS x trunk) "/" = aheadL x ++ piecesL x trunk := by
  refine split_eq (by simp [pieces_ne]) (fun p hp => ?_) (path_join x trunk)
  rcases List.mem_append.mp hp with hp | hp
  · rw [ahead_free p hp]; decide
  · exact fun m => ((pieces_good h p hp).2 _ m).2.2.1 rfl
theorem keep_isName (p : Str) : keepC p = isName p := by
  unfold keepC isName
  rw [Bool.eq_iff_iff]
  have e : p.length ≠ 0 ↔ p ≠ "" := by
    constructor
    · intro h z; rw [z] at h; exact h (by decide)
    · intro h z; exact h (str_ext (by rw [List.eq_nil_of_length_eq_zero ((cs_len p).trans z)]; rfl))
  simp [e]
theorem path_row {x : Int} {trunk : List Str} (h : ∀ t ∈ trunk, GoodP t) : rowC (pathS x trunk) = rowL x trunk := by
  unfold rowC rowL
  rw [path_split h, List.filter_append, show keepC = isName from funext keep_isName]
  have : (aheadL x).filter isName = [] := List.filter_eq_nil_iff.mpr fun p hp => by rw [ahead_free p hp]; decide
  rw [this, List.nil_append]
theorem rootS_starts (x : Str) : rootS x = Txt.startswith x "/" := by
  by_cases h0 : x.length = 0
  · have e : x = "" := str_ext (by rw [List.eq_nil_of_length_eq_zero ((cs_len x).trans h0)]; rfl)
    rw [e]; decide
  · rw [Bool.eq_iff_iff, slash, starts_iff]
    unfold rootS
    rw [beq_iff_eq]
    have h1 : (Txt.slice x none (some 1)).cps.toList = x.cps.toList.take 1 := slice_pre (j := 1) (by omega)
    have hl := cs_len x
    constructor
    · intro h
      rw [h] at h1
      have h1 : [47] = x.cps.toList.take 1 := h1
      cases hc : x.cps.toList with
      | nil => rw [hc] at hl; simp at hl; omega
      | cons d r => rw [hc] at h1; simpa [eq_comm] using h1
    · intro h
      refine str_ext (h1.trans ?_)
      cases hc : x.cps.toList with
      | nil => rw [hc] at hl; simp at hl; omega
      | cons d r => rw [hc] at h; show List.take 1 (d :: r) = [47]; simpa using h
theorem path_len {x : Int} {trunk : List Str} (h : ∀ t ∈ trunk, GoodP t) (hn : trunk.length = 5) : (pathS x trunk).length ≤ 1000 := by
  have h1 := join_len (sep := ("/" : Str)) (n := 20) (by decide) fun t m => (pieces_good (x := x) h t m).1
  have h2 : (aheadS x).length ≤ 2 := by unfold aheadS; split; decide; split <;> decide
  have h3 : (piecesL x trunk).length ≤ 7 := by
    simp only [piecesL, List.length_append, List.length_take, List.length_cons, List.length_nil]; omega
  unfold pathS
  rw [Str.length_append]
  omega
end Mine

end
section
open PySem PySem.StrLaws
set_option Elab.async false
set_option linter.unusedVariables false
namespace Mine
/-! what split says of a common path -/
def Nm (p : Str) : Prop := GoodP p ∧ p ≠ ""
theorem nm_cs {p : Str} (h : Nm p) : p.cps.toList ≠ [] := fun z => h.2 (str_ext z)
theorem nm_free {p : Str} (h : Nm p) {c : Nat} (hc : c = 47 ∨ c = 41 ∨ c < 33) : c ∉ p.cps.toList := fun m => by
  have := h.1.2 c m
  omega
theorem join_snoc {m : Nat} (n : Str) : ∀ {ns : List Str}, ns ≠ [] → (Str.join ⟨#[m]⟩ (ns ++ [n])).cps.toList = (Str.join ⟨#[m]⟩ ns).cps.toList ++ m :: n.cps.toList
  | [], h => absurd rfl h
  | [x], _ => by rw [List.cons_append, List.nil_append, join_two]; rfl
  | x :: y :: r, _ => by
    have := join_snoc (m := m) n (ns := y :: r) (by simp)
    rw [List.cons_append] at this
    rw [List.cons_append, List.cons_append, join_two, this, join_two]
    simp
theorem join_last {m : Nat} : ∀ {ns : List Str}, ns ≠ [] → (∀ p ∈ ns, Nm p) → ∃ ys d, (Str.join ⟨#[m]⟩ ns).cps.toList = ys ++ [d] ∧ 33 ≤ d ∧ d ≠ 47
  | [], h, _ => absurd rfl h
  | [x], _, h => by
    have hx := h x (List.mem_cons_self ..)
    have e := List.dropLast_concat_getLast (nm_cs hx)
    have hm := List.getLast_mem (nm_cs hx)
    have := hx.1.2 _ hm
    exact ⟨_, _, e.symm, this.1, this.2.2.1⟩
  | x :: y :: r, _, h => by
    obtain ⟨ys, d, e, h1, h2⟩ := join_last (m := m) (ns := y :: r) (by simp) fun p hp => h p (List.mem_cons_of_mem _ hp)
    exact ⟨x.cps.toList ++ m :: ys, d, by rw [join_two, e]; simp, h1, h2⟩
theorem join_first {m : Nat} : ∀ {ns : List Str}, ns ≠ [] → (∀ p ∈ ns, Nm p) → ∃ d ys, (Str.join ⟨#[m]⟩ ns).cps.toList = d :: ys ∧ 33 ≤ d ∧ d ≠ 47
  | [], h, _ => absurd rfl h
  | [x], _, h => by
    have hx := h x (List.mem_cons_self ..)
    obtain ⟨d, ys, e⟩ := List.exists_cons_of_ne_nil (nm_cs hx)
    have := hx.1.2 d (by rw [e]; exact List.mem_cons_self ..)
    exact ⟨d, ys, e, this.1, this.2.2.1⟩
  | x :: y :: r, _, h => by
    have hx := h x (List.mem_cons_self ..)
    obtain ⟨d, ys, e⟩ := List.exists_cons_of_ne_nil (nm_cs hx)
    have := hx.1.2 d (by rw [e]; exact List.mem_cons_self ..)
    exact ⟨d, _, by rw [join_two, e]; rfl, this.1, this.2.2.1⟩
theorem splitA {p : Str} (h : 47 ∉ p.cps.toList) : splitHead p = "" ∧ tailS p = p := by
  have hr : Txt.rfind p "/" = -1 := rfind_none h
  have hh : headS p = "" := by
    unfold headS
    rw [hr]
    exact str_ext (slice_pre (x := p) (j := 0) (by omega))
  have ht : tailS p = p := by
    unfold tailS
    rw [hr]
    exact str_ext (slice_suf (x := p) (i := 0) (by omega))
  refine ⟨?_, ht⟩
  unfold splitHead
  rw [hh]
  decide
theorem splitB {p : Str} {A B : List Nat} (h : p.cps.toList = A ++ 47 :: B) (hB : 47 ∉ B) (hA : A.getLast? ≠ some 47) : (splitHead p).cps.toList = (if A = [] then [47] else A) ∧ (tailS p).cps.toList = B := by
  have hl := cs_len p
  rw [h] at hl
  simp only [List.length_append, List.length_cons] at hl
  have hr : Txt.rfind p "/" = (A.length : Int) := rfind_at h hB
  have hh : (headS p).cps.toList = A ++ [47] := by
    unfold headS
    rw [hr, show (A.length : Int) + 1 = ((A.length + 1 : Nat) : Int) from by omega, slice_pre (by omega), h, show A ++ 47 :: B = (A ++ [47]) ++ B from by simp, List.take_left' (by simp)]
  have ht : (tailS p).cps.toList = B := by
    unfold tailS
    rw [hr, show (A.length : Int) + 1 = ((A.length + 1 : Nat) : Int) from by omega, slice_suf (by omega), h, show A ++ 47 :: B = (A ++ [47]) ++ B from by simp, List.drop_left' (by simp)]
  refine ⟨?_, ht⟩
  unfold splitHead
  by_cases hn : A = []
  · subst hn
    have : headS p = "/" := str_ext (by rw [hh]; rfl)
    rw [this, if_pos rfl]
    decide
  · rw [if_neg hn]
    have hlen : (headS p).length = A.length + 1 := by rw [← cs_len, hh]; simp
    have hne : headS p ≠ Txt.mul "/" (headS p).length := fun z => by
      have e := congrArg (fun x : Str => x.cps.toList) z
      have e : (headS p).cps.toList = (Txt.mul ⟨#[47]⟩ ((headS p).length : Int)).cps.toList := e
      rw [PyProof.Rows.mul_one_list, hh, hlen, Int.toNat_natCast, List.replicate_succ', List.append_cancel_right_eq] at e
      refine hA ?_
      rw [e, List.getLast?_replicate, if_neg (by intro q; exact hn (List.eq_nil_of_length_eq_zero q))]
    rw [if_pos (by rw [Bool.and_eq_true, bne_iff_ne, bne_iff_ne]; exact ⟨by omega, hne⟩)]
    exact rstrip_end hh hn hA
def cpS (b : Bool) (ns : List Str) : Str := sepB b ++ Txt.join "/" ns
theorem clip_last (init : List Str) (n : Str) : clipAt (init ++ [n]).length (-1) = init.length := by
  unfold clipAt
  simp only [List.length_append, List.length_singleton]
  rw [if_pos (by decide)]
  omega
theorem cut_init (init : List Str) (n : Str) : cut (init ++ [n]) none (some (-1)) = init := by
  unfold cut
  show List.take (clipAt (init ++ [n]).length (-1) - 0) (init ++ [n]) = init
  rw [clip_last, Nat.sub_zero, List.take_left]
theorem cut_last (init : List Str) (n : Str) : cut (init ++ [n]) (some (-1)) none = [n] := by
  unfold cut
  show List.take ((init ++ [n]).length - clipAt (init ++ [n]).length (-1)) (List.drop (clipAt (init ++ [n]).length (-1)) (init ++ [n])) = [n]
  rw [clip_last, List.drop_left, List.take_of_length_le]
  simp
theorem empty_txt {x : Str} (h : x.cps.toList = []) : x = "" := str_ext h
theorem split_cp {b : Bool} {ns : List Str} (h : ∀ p ∈ ns, Nm p) : splitHead (cpS b ns) = hostS b ns ∧ tailS (cpS b ns) = tailN ns := by
  by_cases hn : ns = []
  · subst hn
    cases b
    · obtain ⟨h1, h2⟩ := splitA (p := cpS false []) (by decide)
      rw [h1, h2]
      exact ⟨by rfl, by rfl⟩
    · obtain ⟨h1, h2⟩ := splitB (p := cpS true []) (A := []) (B := []) (by rfl) (by simp) (by simp)
      exact ⟨str_ext (by rw [h1]; rfl), str_ext (by rw [h2]; rfl)⟩
  · obtain ⟨init, n, rfl⟩ : ∃ init n, ns = init ++ [n] := ⟨ns.dropLast, ns.getLast hn, (List.dropLast_concat_getLast hn).symm⟩
    have hnm := h n (by simp)
    have hin : ∀ p ∈ init, Nm p := fun p hp => h p (List.mem_append_left _ hp)
    have et : tailN (init ++ [n]) = n := by unfold tailN; rw [cut_last]; rfl
    have eh : hostS b (init ++ [n]) = markS b "/" ++ Txt.join "/" init := by unfold hostS; rw [cut_init]
    have ek : sepB b = markS b "/" := rfl
    rw [et, eh]
    unfold cpS
    rw [ek, join_txt, join_txt, slash]
    have hf := nm_free hnm (c := 47) (.inl rfl)
    by_cases hi : init = []
    · subst hi
      cases b
      · obtain ⟨h1, h2⟩ := splitA (p := n) hf
        have e : markS false ⟨#[47]⟩ ++ Str.join ⟨#[47]⟩ ([] ++ [n]) = n := Str.empty_append n
        rw [e]
        exact ⟨h1, h2⟩
      · have e : (markS true ⟨#[47]⟩ ++ Str.join ⟨#[47]⟩ ([] ++ [n])).cps.toList = [] ++ 47 :: n.cps.toList := by rw [cs_app]; rfl
        obtain ⟨h1, h2⟩ := splitB e hf (by simp)
        exact ⟨str_ext (by rw [h1]; rfl), str_ext h2⟩
    · obtain ⟨ys, d, e, d1, d2⟩ := join_last (m := 47) hi hin
      have e2 : (markS b ⟨#[47]⟩ ++ Str.join ⟨#[47]⟩ (init ++ [n])).cps.toList = (markS b ⟨#[47]⟩ ++ Str.join ⟨#[47]⟩ init).cps.toList ++ 47 :: n.cps.toList := by
        rw [cs_app, join_snoc n hi, cs_app, List.append_assoc]
      have e3 : (markS b ⟨#[47]⟩ ++ Str.join ⟨#[47]⟩ init).cps.toList = ((markS b ⟨#[47]⟩).cps.toList ++ ys) ++ [d] := by rw [cs_app, e, List.append_assoc]
      obtain ⟨h1, h2⟩ := splitB e2 hf (by rw [e3]; simpa using d2)
      rw [if_neg (by rw [e3]; simp)] at h1
      exact ⟨str_ext h1, str_ext h2⟩
end Mine

end
section
open PySem PySem.StrLaws
set_option Elab.async false
set_option linter.unusedVariables false
namespace Mine
/-! the three texts -/
def partsL (b : Bool) (ns : List Str) : List Str := (if b = true then [("" : Str)] else []) ++ (ns ++ [("" : Str)])
theorem join_nil_cs : ∀ (l : List Str), (Str.join Str.empty l).cps.toList = l.flatMap fun x => x.cps.toList
  | [] => rfl
  | [x] => by rw [PyProof.Rows.join_one]; simp
  | x :: y :: r => by
    rw [PyProof.Rows.join_cons_cons, cs_app, cs_app, join_nil_cs (y :: r)]
    simp [Str.empty]
theorem body_join (m : Nat) : ∀ ns : List Str, (Str.join ⟨#[m]⟩ (ns ++ [("" : Str)])).cps.toList = ns.flatMap fun x => x.cps.toList ++ [m]
  | [] => rfl
  | x :: r => by
    have ih := body_join m r
    obtain ⟨y, q, e⟩ : ∃ y q, r ++ [("" : Str)] = y :: q := List.exists_cons_of_ne_nil (by simp)
    rw [List.cons_append, e, join_two, ← e, ih]
    simp
theorem text_cs (b : Bool) (ns : List Str) (m : Nat) : (textS b ns ⟨#[m]⟩).cps.toList = (if b = true then [m] else []) ++ ns.flatMap fun x => x.cps.toList ++ [m] := by
  unfold textS
  rw [cs_app, join_txt, show ("" : Str) = Str.empty from rfl, join_nil_cs, List.flatMap_map]
  congr 1
  · unfold markS; split <;> rfl
  · congr 1; funext x; rw [cs_app]
theorem text_join (b : Bool) (ns : List Str) (m : Nat) : textS b ns ⟨#[m]⟩ = Str.join ⟨#[m]⟩ (partsL b ns) := by
  refine str_ext ?_
  rw [text_cs]
  unfold partsL
  cases b
  · exact (body_join m ns).symm
  · rw [if_pos rfl, if_pos rfl, show [("" : Str)] ++ (ns ++ [("" : Str)]) = (("" : Str) :: (ns ++ [("" : Str)]) : List Str) from rfl, join_empty_cons (by simp), cs_app, body_join]
theorem text_split {b : Bool} {ns : List Str} {m : Nat} (h : ∀ p ∈ ns, m ∉ p.cps.toList) : Txt.split (textS b ns ⟨#[m]⟩) ⟨#[m]⟩ = partsL b ns := by
  have he : m ∉ ("" : Str).cps.toList := fun z => nomatch (show m ∈ ([] : List Nat) from z)
  refine split_eq (by unfold partsL; simp) (fun p hp => ?_) (text_join b ns m)
  unfold partsL at hp
  rcases List.mem_append.mp hp with hp | hp
  · split at hp
    · rw [List.mem_singleton.mp hp]; exact he
    · cases hp
  · rcases List.mem_append.mp hp with hp | hp
    · exact h p hp
    · rw [List.mem_singleton.mp hp]; exact he
theorem text_len (b : Bool) (ns : List Str) (m k : Nat) : (textS b ns ⟨#[m]⟩).length = (textS b ns ⟨#[k]⟩).length := by
  rw [text_join, text_join]
  exact join_len_eq (s1 := ⟨#[m]⟩) (s2 := ⟨#[k]⟩) rfl _
theorem starts_not {x : Str} {c : Nat} (h : x.cps.toList[0]? ≠ some c) : Txt.startswith x ⟨#[c]⟩ = false := by
  rw [Bool.eq_false_iff]
  exact fun z => h ((starts_iff x c).mp z)
theorem joinS_text {b : Bool} {ns : List Str} (h : ∀ p ∈ ns, Nm p) {y : Str} (hy : y.cps.toList[0]? ≠ some 47) : joinS (cpS b ns) y = textS b ns "/" ++ y := by
  unfold joinS
  rw [show Txt.startswith y "/" = false from starts_not hy, Bool.false_or]
  by_cases hn : ns = []
  · subst hn
    cases b
    · rw [if_pos (by rfl), show textS false [] "/" = Str.empty from rfl, Str.empty_append]
    · rw [if_neg (by decide), if_pos (by decide)]
      rfl
  · obtain ⟨ys, d, e, d1, d2⟩ := join_last (m := 47) hn h
    have ec : (cpS b ns).cps.toList = ((sepB b).cps.toList ++ ys) ++ [d] := by
      unfold cpS
      rw [cs_app, join_txt, slash, e, List.append_assoc]
    have hl := cs_len (cpS b ns)
    rw [ec] at hl
    simp only [List.length_append, List.length_singleton] at hl
    have h0 : (cpS b ns).length ≠ 0 := by omega
    rw [if_neg (by rw [Bool.not_eq_true', bne_eq_false_iff_eq]; exact h0)]
    have hends : ¬ Txt.endswith (cpS b ns) "/" = true := fun z => by
      have := (ends_iff (cpS b ns) 47).mp z
      rw [ec, ← hl, List.getElem?_append_right (by simp)] at this
      simp at this
      exact d2 this
    rw [if_neg hends]
    refine str_ext ?_
    rw [cs_app, cs_app, cs_app, slash, text_join]
    unfold cpS partsL
    rw [cs_app, join_txt, slash]
    have hs := join_snoc (m := 47) ("" : Str) hn
    cases b
    · rw [if_neg (by decide), List.nil_append, hs]
      show [] ++ _ ++ _ = _
      rw [List.nil_append, List.append_assoc]; rfl
    · rw [if_pos rfl, show [("" : Str)] ++ (ns ++ [("" : Str)]) = (("" : Str) :: (ns ++ [("" : Str)]) : List Str) from rfl, join_empty_cons (by simp), cs_app, hs]
      show [47] ++ _ ++ _ = _
      rw [List.append_assoc, List.append_assoc, List.append_assoc]; rfl
theorem told_all {b : Bool} {ns : List Str} (h : ∀ p ∈ ns, Nm p) : toldTexts (cpS b ns) = allT b ns := by
  have e0 : joinS (cpS b ns) "" = textS b ns "/" := (joinS_text h (y := "") (by decide)).trans (Str.append_empty _)
  have e1 : joinS (cpS b ns) " " = textS b ns "/" ++ " " := joinS_text h (y := " ") (by decide)
  unfold toldTexts allT textsL
  rw [e0, e1, slash, blank, replace_one, text_split fun p hp => nm_free (h p hp) (.inl rfl), ← text_join]
  rfl
/-! a reply and its marks -/
theorem reply_of {t : Str} (ht : 41 ∉ t.cps.toList) (hl : t.length ≤ 50000) {c1 c2 : Nat} (h1 : (t.cps.toList ++ [41])[0]? = some c1) (h2 : (40 :: t.cps.toList)[t.length]? = some c2) : Reply (replyS t) t c1 c2 := by
  have e : (replyS t).cps.toList = (Str.ofString "229 :) Extended (").cps.toList ++ (t.cps.toList ++ 41 :: (Str.ofString " (|||9|)").cps.toList) := by
    unfold replyS
    rw [cs_app, cs_app, List.append_assoc]
    rfl
  have p17 : (Str.ofString "229 :) Extended (").cps.toList = [50, 50, 57, 32, 58, 41, 32, 69, 120, 116, 101, 110, 100, 101, 100, 32] ++ [40] := by decide
  have q8 : (Str.ofString " (|||9|)").cps.toList.length = 8 := by decide
  have l17 : (Str.ofString "229 :) Extended (").cps.toList.length = 17 := by rw [p17]; rfl
  have hr : (replyS t).length = 26 + t.length := by
    rw [← cs_len, e, List.length_append, List.length_append, List.length_cons, l17, q8, cs_len]; omega
  refine ⟨by omega, ?_, ?_, ?_, ?_, ?_, ?_⟩
  · refine str_ext ?_
    rw [show (3 : Int) = ((3 : Nat) : Int) from rfl, slice_pre (by omega), e, p17]
    rfl
  · exact find_at (x := replyS t) (c := 40) (A := [50, 50, 57, 32, 58, 41, 32, 69, 120, 116, 101, 110, 100, 101, 100, 32]) (by rw [e, p17, List.append_assoc]; rfl) (by decide)
  · have := find3_at (x := replyS t) (c := 41) (i := 17) e l17 ht
    rw [l17, cs_len] at this
    rw [show (17 : Int) = ((17 : Nat) : Int) from rfl]
    exact this.trans (by omega)
  · rw [e, List.getElem?_append_right (by omega), l17, ← h1]
    cases t.cps.toList <;> rfl
  · rw [e, p17, List.append_assoc, List.getElem?_append_right (by simp), ← h2]
    show ([40] ++ (t.cps.toList ++ _))[16 + t.length - 16]? = _
    rw [Nat.add_sub_cancel_left]
    show (40 :: (t.cps.toList ++ _))[t.length]? = _
    rw [← List.cons_append, List.getElem?_append_left (by rw [List.length_cons, cs_len]; omega)]
  · refine str_ext ?_
    have := slice_mid (x := replyS t) (i := 17) (j := 17 + t.length) (by omega) (by omega)
    rw [show ((17 + t.length : Nat) : Int) = 17 + (t.length : Int) from by omega] at this
    refine (show (Txt.slice (replyS t) (some 17) (some (17 + (t.length : Int)))).cps.toList = _ from this).trans ?_
    rw [e, List.drop_left' l17, Nat.add_sub_cancel_left, List.take_left' (cs_len t)]
end Mine

end
section
open PySem PySem.StrLaws PySem.W
set_option Elab.async false
set_option linter.unusedVariables false
set_option maxRecDepth 100000
namespace Mine
/-! what the reads give -/
structure Facts (a : Amb) where
  (fParse fFs fSep fJoin fSplit fCp fPiece fPath fReply fRead fTold fDue fLaw C : Addr)
  iParse : IsFn a "parse229" fParse (sAt 5)
  iFs : IsFn a "fspath" fFs (sAt 14)
  iSep : IsFn a "_get_sep" fSep (sAt 18)
  iJoin : IsFn a "join" fJoin (sAt 19)
  iSplit : IsFn a "split" fSplit (sAt 20)
  iCp : IsFn a "commonpath" fCp (sAt 21)
  iPiece : IsFn a "_law_piece" fPiece (sAt 23)
  iPath : IsFn a "_law_path" fPath (sAt 24)
  iReply : IsFn a "_law_reply" fReply (sAt 25)
  iRead : IsFn a "_law_read" fRead (sAt 26)
  iTold : IsFn a "_law_told" fTold (sAt 27)
  iDue : IsFn a "_law_due" fDue (sAt 28)
  iLaw : IsFn a "law" fLaw (sAt 29)
  gErr : nsIn a.K mainGlobals "error_proto" = some (some (.ref C))
  gLen : nsIn a.K mainGlobals "len" = some none
  gInt : nsIn a.K mainGlobals "int" = some none
  gStr : nsIn a.K mainGlobals "str" = some none
  gChr : nsIn a.K mainGlobals "chr" = some none
  gSum : nsIn a.K mainGlobals "sum" = some none
  gRange : nsIn a.K mainGlobals "range" = some none
  gType : nsIn a.K mainGlobals "type" = some none
  gSub : nsIn a.K mainGlobals "issubclass" = some none
  gBytes : nsIn a.K mainGlobals "bytes" = some none
  gIsI : nsIn a.K mainGlobals "isinstance" = some none
  gTuple : nsIn a.K mainGlobals "tuple" = some none
  gMap : nsIn a.K mainGlobals "map" = some none
  gMin : nsIn a.K mainGlobals "min" = some none
  gMax : nsIn a.K mainGlobals "max" = some none
  gEnum : nsIn a.K mainGlobals "enumerate" = some none
  gVE : nsIn a.K mainGlobals "ValueError" = some none
  gTE : nsIn a.K mainGlobals "TypeError" = some none
  gAE : nsIn a.K mainGlobals "AttributeError" = some none
  mVV : exmOne a.K (.type "ValueError") (.type "ValueError") = some true
  mVTA : exmAny a.K (.type "ValueError") [.type "TypeError", .type "AttributeError"] = some false
  mCC : exmOne a.K (.ref C) (.ref C) = some true
  mVC : exmOne a.K (.type "ValueError") (.ref C) = some false
  cFind : findIn a.K (.ref C) "__str__" = some (some (.builtin "BaseException.__str__"))
  cMro : mroIn a.K C (.type "BaseException") = some true
  cExc : excIn a.K C [.type "Exception", .type "BaseException", .type "object"] "Exception.__new__" = true
section
variable {a : Amb} (F : Facts a) {b : Bool} {ns : List Str}
theorem Facts.fs : ∀ {m : Nat} {x : Str}, Fn a (m + 1) (.ref F.fFs) [.str x] (.str x) := fspath_fn F.iFs F.gType F.gSub F.gStr F.gBytes
theorem Facts.sep : ∀ {m : Nat} {x : Str}, Fn a (m + 1) (.ref F.fSep) [.str x] (.str "/") := sep_fn F.iSep F.gIsI F.gBytes
theorem Facts.reply : ∀ {m : Nat} {x : Str}, x.length ≤ 100000 → FnG (fun _ => True) a (m + 1) (.ref F.fReply) [.str x] (.str (replyS x)) := fun h => reply_fn F.iReply h
theorem read_ref1 {t : Str} {peer : PyData} {c1 c2 : Nat} (R : Reply (replyS t) t c1 c2) (hc : c1 ≠ c2) {m : Nat} : FnC a (m + 2) (.ref F.fRead) [.str (replyS t), peer] (refT t) :=
  read_refused F.iRead F.iParse F.gErr F.gStr F.mCC F.cFind F.cMro (parse_refused1 F.iParse F.gErr F.cExc R hc)
theorem read_ref2 {t : Str} {peer : PyData} {c : Nat} (R : Reply (replyS t) t c c) (hn : (Txt.split t ⟨#[c]⟩).length ≠ 5) {m : Nat} : FnC a (m + 2) (.ref F.fRead) [.str (replyS t), peer] (refT t) :=
  read_refused F.iRead F.iParse F.gErr F.gStr F.mCC F.cFind F.cMro (parse_refused2 F.iParse F.gErr F.cExc F.gLen R hn)
theorem ends_of {t : Str} {c1 c2 : Nat} {ys zs : List Nat} (h1 : t.cps.toList = c1 :: ys) (h2 : t.cps.toList = zs ++ [c2]) : (t.cps.toList ++ [41])[0]? = some c1 ∧ (40 :: t.cps.toList)[t.length]? = some c2 := by
  refine ⟨by rw [h1]; rfl, ?_⟩
  have hl := cs_len t
  rw [h2] at hl ⊢
  simp only [List.length_append, List.length_singleton] at hl
  rw [← hl, List.getElem?_cons_succ]
  simp
theorem flat_first {m : Nat} (hn : ns ≠ []) (h : ∀ p ∈ ns, Nm p) : ∃ d ys, (ns.flatMap fun x => x.cps.toList ++ [m]) = d :: ys ∧ 33 ≤ d ∧ d ≠ 47 := by
  obtain ⟨x, r, rfl⟩ := List.exists_cons_of_ne_nil hn
  have hx := h x (List.mem_cons_self ..)
  obtain ⟨d, ys, e⟩ := List.exists_cons_of_ne_nil (nm_cs hx)
  have := hx.1.2 d (by rw [e]; exact List.mem_cons_self ..)
  exact ⟨d, _, by rw [List.flatMap_cons, e]; rfl, this.1, this.2.2.1⟩
theorem flat_last {m : Nat} (hn : ns ≠ []) : ∃ zs, (ns.flatMap fun x => x.cps.toList ++ [m]) = zs ++ [m] := by
  have e := List.dropLast_concat_getLast hn
  rw [← e, List.flatMap_append]
  exact ⟨_, by rw [List.flatMap_cons, List.flatMap_nil, List.append_nil, ← List.append_assoc]⟩
theorem text_free {m c : Nat} (hc : c ≠ m) (h : ∀ p ∈ ns, c ∉ p.cps.toList) : c ∉ (textS b ns ⟨#[m]⟩).cps.toList := fun z => by
  rw [text_cs] at z
  rcases List.mem_append.mp z with z | z
  · split at z
    · exact hc (List.mem_singleton.mp z)
    · cases z
  · obtain ⟨x, hx, z⟩ := List.mem_flatMap.mp z
    rcases List.mem_append.mp z with z | z
    · exact h x hx z
    · exact hc (List.mem_singleton.mp z)
theorem parts_len (b : Bool) (ns : List Str) : (partsL b ns).length = (if b = true then 1 else 0) + (ns.length + 1) := by
  unfold partsL
  rw [List.length_append, List.length_append]
  cases b <;> rfl
theorem text_max {m : Nat} (h : ∀ p ∈ ns, Nm p) (hn : ns.length ≤ 100) : (textS b ns ⟨#[m]⟩).length ≤ 3000 := by
  rw [text_join, ← join_txt]
  have hp : ∀ t ∈ partsL b ns, t.length ≤ 20 := fun t ht => by
    unfold partsL at ht
    rcases List.mem_append.mp ht with ht | ht
    · split at ht
      · rw [List.mem_singleton.mp ht]; decide
      · cases ht
    · rcases List.mem_append.mp ht with ht | ht
      · exact (h t ht).1.1
      · rw [List.mem_singleton.mp ht]; decide
  have h1 := join_len (sep := (⟨#[m]⟩ : Str)) (n := 20) (by exact Nat.le_refl 1) hp
  have h2 := parts_len b ns
  have h3 : (partsL b ns).length ≤ 102 := by rw [h2]; split <;> omega
  omega
/-- the marks of a text -/
theorem text_marks {m : Nat} (hb : b = true) : ∃ ys zs, (textS b ns ⟨#[m]⟩).cps.toList = m :: ys ∧ (textS b ns ⟨#[m]⟩).cps.toList = zs ++ [m] := by
  rw [text_cs, if_pos hb]
  by_cases hn : ns = []
  · subst hn
    exact ⟨[], [], rfl, rfl⟩
  · obtain ⟨zs, e⟩ := flat_last (m := m) hn
    exact ⟨_, _, rfl, by rw [e, ← List.append_assoc]⟩
theorem text_reply {m : Nat} (hm : m ≠ 41) (h : ∀ p ∈ ns, Nm p) (hn : ns.length ≤ 100) {c1 c2 : Nat} (e : ((textS b ns ⟨#[m]⟩).cps.toList ++ [41])[0]? = some c1 ∧ (40 :: (textS b ns ⟨#[m]⟩).cps.toList)[(textS b ns ⟨#[m]⟩).length]? = some c2) :
    Reply (replyS (textS b ns ⟨#[m]⟩)) (textS b ns ⟨#[m]⟩) c1 c2 :=
  reply_of (text_free hm.symm fun p hp => nm_free (h p hp) (.inr (.inl rfl))) (Nat.le_trans (text_max h hn) (by decide)) e.1 e.2
theorem third_reply (h : ∀ p ∈ ns, Nm p) (hn : ns.length ≤ 100) {c1 c2 : Nat} (e : ((textS b ns ⟨#[47]⟩ ++ " ").cps.toList ++ [41])[0]? = some c1 ∧ (40 :: (textS b ns ⟨#[47]⟩ ++ " ").cps.toList)[(textS b ns ⟨#[47]⟩ ++ " ").length]? = some c2) :
    Reply (replyS (textS b ns ⟨#[47]⟩ ++ " ")) (textS b ns ⟨#[47]⟩ ++ " ") c1 c2 :=
  reply_of (fun z => by
    rw [cs_app] at z
    rcases List.mem_append.mp z with z | z
    · exact text_free (by decide) (fun p hp => nm_free (h p hp) (.inr (.inl rfl))) z
    · exact absurd z (by decide)) (by have := text_max (b := b) (m := 47) h hn; rw [Str.length_append]; have e : (" " : Str).length = 1 := (by decide); omega) e.1 e.2
theorem read_third (h : ∀ p ∈ ns, Nm p) (hn : ns.length ≤ 100) {peer : PyData} {m : Nat} : FnC a (m + 2) (.ref F.fRead) [.str (replyS (textS b ns "/" ++ " ")), peer] (refT (textS b ns "/" ++ " ")) := by
  rw [slash]
  have e2 : ∀ l, (l : Str).cps.toList ++ [32] = l.cps.toList ++ [32] := fun l => rfl
  have e3 : (textS b ns ⟨#[47]⟩ ++ " ").cps.toList = (textS b ns ⟨#[47]⟩).cps.toList ++ [32] := by rw [cs_app]; rfl
  cases hb : b
  · by_cases h0 : ns = []
    · subst h0
      have E := ends_of (t := textS false [] ⟨#[47]⟩ ++ " ") (c1 := 32) (c2 := 32) (ys := []) (zs := []) (by rfl) (by rfl)
      refine read_ref2 F (third_reply (b := false) h hn E) ?_
      have es : textS false [] ⟨#[47]⟩ ++ " " = textS true [] ⟨#[32]⟩ := str_ext (by rfl)
      rw [es, text_split (b := true) (ns := []) (m := 32) (fun p hp => absurd hp List.not_mem_nil), parts_len]
      decide
    · obtain ⟨d, ys, e, d1, d2⟩ := flat_first (m := 47) h0 h
      have e4 : (textS b ns ⟨#[47]⟩ ++ " ").cps.toList = d :: (ys ++ [32]) := by rw [e3, text_cs, hb, if_neg (by decide), e]; rfl
      have E := ends_of e4 e3
      rw [hb] at E
      exact read_ref1 F (third_reply (b := false) h hn E) (by omega)
  · obtain ⟨ys, zs, e, _⟩ := text_marks (ns := ns) (m := 47) hb
    have e4 : (textS b ns ⟨#[47]⟩ ++ " ").cps.toList = 47 :: (ys ++ [32]) := by rw [e3, e]; rfl
    have E := ends_of e4 e3
    rw [hb] at E
    exact read_ref1 F (third_reply (b := true) h hn E) (by decide)
theorem read_plain (h : ∀ p ∈ ns, Nm p) (hn : ns.length ≤ 100) {k : Nat} (hk : k = 47 ∨ k = 32) (hr : b = false ∨ ns.length ≠ 3) {peer : PyData} {m : Nat} : FnC a (m + 2) (.ref F.fRead) [.str (replyS (textS b ns ⟨#[k]⟩)), peer] (refT (textS b ns ⟨#[k]⟩)) := by
  have hk1 : k ≠ 41 := by omega
  cases hb : b
  · by_cases h0 : ns = []
    · subst h0
      exact read_ref1 F (text_reply (b := false) hk1 h hn (c1 := 41) (c2 := 40) ⟨by rfl, by rfl⟩) (by decide)
    · obtain ⟨d, ys, e, d1, d2⟩ := flat_first (m := k) h0 h
      obtain ⟨zs, e'⟩ := flat_last (m := k) h0
      have e4 : (textS b ns ⟨#[k]⟩).cps.toList = d :: ys := by rw [text_cs, hb, if_neg (by decide), e]; rfl
      have e5 : (textS b ns ⟨#[k]⟩).cps.toList = zs ++ [k] := by rw [text_cs, hb, if_neg (by decide), e']; rfl
      have E := ends_of e4 e5
      rw [hb] at E
      exact read_ref1 F (text_reply (b := false) hk1 h hn E) (by omega)
  · obtain ⟨ys, zs, e, e'⟩ := text_marks (ns := ns) (m := k) hb
    have E := ends_of e e'
    rw [hb] at E
    refine read_ref2 F (text_reply (b := true) hk1 h hn E) ?_
    rw [text_split fun p hp => nm_free (h p hp) (by omega), parts_len, if_pos rfl]
    rw [hb] at hr
    rcases hr with hr | hr
    · cases hr
    · omega
theorem read_all (h : ∀ p ∈ ns, Nm p) (hn : ns.length ≤ 100) (hr : b = false ∨ ns.length ≠ 3) {peer : PyData} {m : Nat} : ∀ t ∈ allT b ns, FnC a (m + 2) (.ref F.fRead) [.str (replyS t), peer] (refT t) := fun t ht => by
  unfold allT textsL at ht
  simp only [List.cons_append, List.nil_append, List.mem_cons, List.not_mem_nil, or_false] at ht
  rcases ht with rfl | rfl | rfl
  · exact read_plain F h hn (.inl rfl) hr
  · exact read_plain F h hn (.inr rfl) hr
  · exact read_third F h hn
theorem two_parts {k : Nat} (h : ∀ p ∈ ns, Nm p) (hk : k = 47 ∨ k = 32) (h3 : ns.length = 3) {p : Str} (hp : ns[2]? = some p) : (Txt.split (textS true ns ⟨#[k]⟩) ⟨#[k]⟩).length = 5 ∧ (Txt.split (textS true ns ⟨#[k]⟩) ⟨#[k]⟩)[3]? = some p := by
  rw [text_split fun p hp => nm_free (h p hp) (by omega)]
  refine ⟨by rw [parts_len, h3]; rfl, ?_⟩
  unfold partsL
  rw [if_pos rfl]
  show (("" : Str) :: (ns ++ [("" : Str)]))[2 + 1]? = _
  rw [List.getElem?_cons_succ, List.getElem?_append_left (by omega), hp]
theorem two_marks {k : Nat} (h : ∀ p ∈ ns, Nm p) (hn : ns.length ≤ 100) (hk : k = 47 ∨ k = 32) : Reply (replyS (textS true ns ⟨#[k]⟩)) (textS true ns ⟨#[k]⟩) k k := by
  obtain ⟨ys, zs, e, e'⟩ := text_marks (b := true) (ns := ns) (m := k) rfl
  exact text_reply (by omega) h hn (ends_of e e')
theorem read_num {k : Nat} (h : ∀ p ∈ ns, Nm p) (hk : k = 47 ∨ k = 32) (h3 : ns.length = 3) {p : Str} (hp : ns[2]? = some p) {n : Int} (hi : PySem.intText? p = some n) (hl : p.length ≤ 20) {hs tl : Str} {m : Nat} :
    FnC a (m + 2) (.ref F.fRead) [.str (replyS (textS true ns ⟨#[k]⟩)), .tuple [.str hs, .str tl]] (okT hs n (textS true ns ⟨#[k]⟩)) := by
  obtain ⟨s1, s2⟩ := two_parts h hk h3 hp
  exact read_ok F.iRead F.iParse F.gStr (parse_ok F.iParse F.gLen F.gInt (two_marks h (by omega) hk) s1 s2 hi (by omega)) (int_small hi hl)
theorem repr_max {p : Str} (h : GoodP p) : (reprText p).length ≤ 100000 := by
  have := reprText_len p fun c hc => Nat.lt_of_le_of_lt (h.2 c hc).2.1 (by decide)
  have := h.1
  omega
theorem read_not {k : Nat} (h : ∀ p ∈ ns, Nm p) (hk : k = 47 ∨ k = 32) (h3 : ns.length = 3) {p : Str} (hp : ns[2]? = some p) (hi : PySem.intText? p = none) {hs tl : Str} {m : Nat} :
    FnC a (m + 2) (.ref F.fRead) [.str (replyS (textS true ns ⟨#[k]⟩)), .tuple [.str hs, .str tl]] (noT (textS true ns ⟨#[k]⟩)) := by
  obtain ⟨s1, s2⟩ := two_parts h hk h3 hp
  have hg := (h p (List.mem_of_getElem? hp)).1
  exact read_bad F.iRead F.iParse F.gErr F.gVE F.mVC F.mVV (parse_bad F.iParse F.gLen F.gInt (two_marks h (by omega) hk) s1 s2 hi (by have := hg.1; omega) (repr_max hg))
end
end Mine

end
section
open PySem PySem.StrLaws PySem.W
set_option Elab.async false
set_option linter.unusedVariables false
set_option maxRecDepth 100000
namespace Mine
/-! the data can be compared -/
theorem lay_all : ∀ {xs : List PyData}, (∀ x ∈ xs, x.canLay0 = true) → PyData.canLayAll0 xs = true
  | [], _ => rfl
  | x :: xs, h => by
    rw [PyData.canLayAll0, h x (List.mem_cons_self ..), lay_all fun y hy => h y (List.mem_cons_of_mem _ hy)]; rfl
theorem depth_all {k : Nat} : ∀ {xs : List PyData}, (∀ x ∈ xs, x.depth ≤ k) → PyData.depthAll xs ≤ k
  | [], _ => by rw [PyData.depthAll]; omega
  | x :: xs, h => by
    rw [PyData.depthAll]
    have h1 := h x (List.mem_cons_self ..)
    have h2 := depth_all fun y hy => h y (List.mem_cons_of_mem _ hy)
    omega
theorem asc_good {p : Str} (h : GoodP p) : Asc p := fun k hk => by have := (h.2 k hk).2.1; omega
theorem asc_join {sep : Str} {ts : List Str} (hs : Asc sep) (h : ∀ t ∈ ts, Asc t) : Asc (Txt.join sep ts) := fun k hk => by
  rw [join_txt] at hk
  rcases (PyProof.Rows.mem_join sep k ts).mp hk with ⟨t, ht, hk⟩ | ⟨_, hk⟩
  · exact h t ht k hk
  · exact hs k hk
theorem asc_empty : Asc ("" : Str) := fun k hk => nomatch (show k ∈ ([] : List Nat) from hk)
theorem asc_slash : Asc ("/" : Str) := by unfold Asc; decide
theorem asc_blank : Asc (" " : Str) := by unfold Asc; decide
theorem asc_mark {b : Bool} {m : Str} (hm : Asc m) : Asc (markS b m) := by
  unfold markS
  split
  · exact hm
  · exact asc_empty
theorem cut_in {α : Type} {xs : List α} {lo hi : Option Int} {x : α} (h : x ∈ cut xs lo hi) : x ∈ xs := List.mem_of_mem_drop (List.mem_of_mem_take h)
theorem asc_host {b : Bool} {ns : List Str} (h : ∀ p ∈ ns, Asc p) : Asc (hostS b ns) := (asc_mark asc_slash).append (asc_join asc_slash fun t ht => h t (cut_in ht))
theorem asc_tail {ns : List Str} (h : ∀ p ∈ ns, Asc p) : Asc (tailN ns) := asc_join asc_empty fun t ht => h t (cut_in ht)
theorem asc_text {b : Bool} {ns : List Str} {m : Str} (hm : Asc m) (h : ∀ p ∈ ns, Asc p) : Asc (textS b ns m) := (asc_mark hm).append (asc_join asc_empty fun t ht => by
  obtain ⟨x, hx, rfl⟩ := List.mem_map.mp ht
  exact (h x hx).append hm)
theorem asc_texts {b : Bool} {ns : List Str} (h : ∀ p ∈ ns, Asc p) : ∀ t ∈ allT b ns, Asc t := fun t ht => by
  unfold allT textsL at ht
  simp only [List.cons_append, List.nil_append, List.mem_cons, List.not_mem_nil, or_false] at ht
  rcases ht with rfl | rfl | rfl
  · exact asc_text asc_slash h
  · exact asc_text asc_blank h
  · exact (asc_text asc_slash h).append asc_blank
theorem asc_reply {t : Str} (h : Asc t) : Asc (replyS t) := by
  unfold replyS
  exact ((by unfold Asc; decide : Asc (Str.ofString "229 :) Extended (")).append h).append (by unfold Asc; decide)
theorem asc_num (n : Int) : Asc (Str.ofString (toString n)) := fun k hk => by
  rw [PyProof.Rows.signs_ofString] at hk
  obtain ⟨ch, hc, e⟩ := List.mem_map.mp hk
  rcases PyProof.Rows.int_sign n ch hc with hd | hd
  · have := PyProof.Rows.digit_range hd; omega
  · rw [hd] at e
    have : k = 45 := by rw [← e]; decide
    omega
theorem lay_str {x : Str} (h : Asc x) : (PyData.str x).canLay0 = true := by rw [PyData.canLay0]; exact h.ok
theorem lay_tup {xs : List PyData} (h : ∀ x ∈ xs, x.canLay0 = true) : (PyData.tuple xs).canLay0 = true := by rw [PyData.canLay0]; exact lay_all h
theorem fit_ref {t : Str} (h : Asc t) : (refT t).canLay0 = true ∧ (refT t).depth ≤ 50 := by
  refine ⟨lay_tup fun x hx => ?_, by unfold refT; simp [PyData.depth, PyData.depthAll]⟩
  simp only [List.mem_cons, List.not_mem_nil, or_false] at hx
  rcases hx with rfl | rfl | rfl
  · exact lay_str (asc_reply h)
  · exact lay_str (by unfold Asc; decide)
  · exact lay_str (asc_reply h)
theorem fit_no {t : Str} (h : Asc t) : (noT t).canLay0 = true ∧ (noT t).depth ≤ 50 := by
  refine ⟨lay_tup fun x hx => ?_, by unfold noT; simp [PyData.depth, PyData.depthAll]⟩
  simp only [List.mem_cons, List.not_mem_nil, or_false] at hx
  rcases hx with rfl | rfl
  · exact lay_str (asc_reply h)
  · exact lay_str (by unfold Asc; decide)
theorem fit_ok {hs t : Str} {n : Int} (h0 : Asc hs) (h : Asc t) : (okT hs n t).canLay0 = true ∧ (okT hs n t).depth ≤ 50 := by
  refine ⟨lay_tup fun x hx => ?_, by unfold okT; simp [PyData.depth, PyData.depthAll]⟩
  simp only [List.mem_cons, List.not_mem_nil, or_false] at hx
  rcases hx with rfl | rfl | rfl
  · exact lay_str (asc_reply h)
  · exact lay_tup fun x hx => by
      simp only [List.mem_cons, List.not_mem_nil, or_false] at hx
      rcases hx with rfl | rfl
      · exact lay_str h0
      · rw [PyData.canLay0]
  · exact lay_str (asc_num n)
theorem fit_peer {b : Bool} {ns : List Str} (h : ∀ p ∈ ns, Asc p) : (peerD b ns).canLay0 = true ∧ (peerD b ns).depth ≤ 50 := by
  refine ⟨lay_tup fun x hx => ?_, by unfold peerD; simp [PyData.depth, PyData.depthAll]⟩
  simp only [List.mem_cons, List.not_mem_nil, or_false] at hx
  rcases hx with rfl | rfl
  · exact lay_str (asc_host h)
  · exact lay_str (asc_tail h)
theorem fit_list {xs : List PyData} (h : ∀ x ∈ xs, x.canLay0 = true ∧ x.depth ≤ 50) : (PyData.list xs).canLay0 = true ∧ (PyData.list xs).depth ≤ 100 := by
  refine ⟨by rw [PyData.canLay0]; exact lay_all fun x hx => (h x hx).1, ?_⟩
  have := depth_all fun x hx => (h x hx).2
  rw [PyData.depth]; omega
/-! the common path of paths that agree about the slash ahead -/
section
variable {a : Amb} (F : Facts a) {xs : List Str} {r0 : List Str} {rr : List (List Str)} {b : Bool}
theorem cp_fn (hsz : xs.length ≤ 10) (hlen : ∀ x ∈ xs, x.length ≤ 1000) (hb : ∀ x ∈ xs, Txt.startswith x "/" = b) (hr : xs.map rowC = r0 :: rr) {m : Nat} :
    Fn a (m + 3) (.ref F.fCp) [.list (xs.map .str)] (.str (cpS b (namesL r0 (r0 :: rr)))) := by
  obtain ⟨e, hBA⟩ := names_eq r0 rr
  rw [e]
  refine cp_ok F.iCp F.iFs F.fs F.gTuple F.gMap F.gIsI F.gBytes F.gMin F.gMax F.gEnum hsz hlen hb hr (common_le _ _).1 (fun i hi => ?_) (common_end _ _ hBA)
  exact (take_get (common_take _ _) hi).symm
theorem names_sub : ∀ p ∈ namesL r0 (r0 :: rr), ∃ r ∈ r0 :: rr, p ∈ r := fun p hp => by
  rw [(names_eq r0 rr).1] at hp
  exact ⟨_, minRow_mem rr r0, List.mem_of_mem_take hp⟩
theorem names_len {k : Nat} (h : ∀ r ∈ r0 :: rr, r.length ≤ k) : (namesL r0 (r0 :: rr)).length ≤ k := by
  rw [(names_eq r0 rr).1]
  have := h _ (minRow_mem rr r0)
  rw [List.length_take]
  omega
end
end Mine

end
section
open PySem PySem.StrLaws PySem.W
set_option Elab.async false
set_option linter.unusedVariables false
set_option maxRecDepth 100000
namespace Mine
/-! one beginning of the row of paths: told and due agree -/
theorem mem_cs_path {x : Int} {trunk : List Str} (h : ∀ t ∈ trunk, GoodP t) : Asc (pathS x trunk) := fun k hk => by
  rw [path_join] at hk
  rcases (PyProof.Rows.mem_join ⟨#[47]⟩ k _).mp hk with ⟨t, ht, hk⟩ | ⟨_, hk⟩
  · rcases List.mem_append.mp ht with ht | ht
    · rw [ahead_free t ht] at hk
      exact nomatch (show k ∈ ([] : List Nat) from hk)
    · exact asc_good (pieces_good h t ht) k hk
  · have hk : k ∈ [47] := hk
    rw [List.mem_singleton.mp hk]; decide
theorem pieces_len {x : Int} {trunk : List Str} (hn : trunk.length = 5) : (piecesL x trunk).length ≤ 7 := by
  simp only [piecesL, List.length_append, List.length_take, List.length_cons, List.length_nil]; omega
theorem row_mem {x : Int} {trunk : List Str} (h : ∀ t ∈ trunk, GoodP t) : ∀ p ∈ rowL x trunk, Nm p := fun p hp => by
  unfold rowL at hp
  obtain ⟨h1, h2⟩ := List.mem_filter.mp hp
  refine ⟨pieces_good h p h1, fun z => ?_⟩
  rw [z] at h2
  exact absurd h2 (by decide)
theorem root_mix {xs : List Str} (h1 : rootL xs ≠ []) (h2 : rootL xs ≠ xs) : (∃ x ∈ xs, Txt.startswith x "/" = true) ∧ ∃ x ∈ xs, Txt.startswith x "/" = false := by
  unfold rootL at h1 h2
  constructor
  · obtain ⟨x, r, e⟩ := List.exists_cons_of_ne_nil h1
    have hm : x ∈ xs.filter rootS := by rw [e]; exact List.mem_cons_self ..
    obtain ⟨m1, m2⟩ := List.mem_filter.mp hm
    exact ⟨x, m1, by rw [← rootS_starts]; exact m2⟩
  · refine Classical.byContradiction fun hno => h2 (List.filter_eq_self.mpr fun x hx => ?_)
    rw [rootS_starts]
    cases q : Txt.startswith x "/" with
    | true => rfl
    | false => exact absurd ⟨x, hx, q⟩ hno
theorem root_same {xs : List Str} (hne : xs ≠ []) (h : rootL xs = [] ∨ rootL xs = xs) : ∀ x ∈ xs, Txt.startswith x "/" = rootB xs := fun x hx => by
  rw [← rootS_starts]
  unfold rootB
  rcases h with h | h
  · rw [h]
    unfold rootL at h
    have := List.filter_eq_nil_iff.mp h x hx
    simpa using this
  · have h' := h
    unfold rootL at h'
    have h3 := List.filter_eq_self.mp h' x hx
    rw [h3, h]
    cases xs with
    | nil => exact absurd rfl hne
    | cons y r => rfl
section
variable {a : Amb} (F : Facts a)
theorem size_core {xs : List Str} {r0 : List Str} {rr : List (List Str)} (hne : xs ≠ []) (hsz : xs.length ≤ 10) (hlen : ∀ x ∈ xs, x.length ≤ 1000) (hA : ∀ x ∈ xs, Asc x) (hr : xs.map rowC = r0 :: rr) (hrn : (r0 :: rr).length ≤ 10)
    (hrow : ∀ r ∈ r0 :: rr, r.length ≤ 7 ∧ ∀ p ∈ r, Nm p) :
    ∃ d : PyData, d.canLay0 = true ∧ d.depth ≤ 100 ∧ (∀ m, FnC a (m + 4) (.ref F.fTold) [rowD xs] d) ∧ ∀ m, FnC a (m + 2) (.ref F.fDue) [rowD xs, .list ((r0 :: rr).map rowD)] d := by
  by_cases hmix : rootL xs ≠ [] ∧ rootL xs ≠ xs
  · obtain ⟨m1, m2⟩ := root_mix hmix.1 hmix.2
    obtain ⟨f1, f2⟩ := fit_list (xs := [.str "Can't mix absolute and relative paths"]) fun x hx => by
      rw [List.mem_singleton.mp hx]
      exact ⟨lay_str (by unfold Asc; decide), by rw [PyData.depth]; omega⟩
    refine ⟨_, f1, f2, fun m => ?_, fun m => ?_⟩
    · exact FnC.of (told_mix F.iTold F.iCp F.gVE F.gStr F.mVV (cp_mix F.iCp F.iFs F.fs F.gTuple F.gMap F.gIsI F.gBytes F.gVE F.mVV F.gTE F.gAE F.mVTA hsz hlen m1 m2))
    · exact FnC.of (due_mix hA F.iDue hsz hlen hmix.1 hmix.2)
  · have hroot : rootL xs = [] ∨ rootL xs = xs := by
      by_cases h1 : rootL xs = []
      · exact .inl h1
      · by_cases h2 : rootL xs = xs
        · exact .inr h2
        · exact absurd ⟨h1, h2⟩ hmix
    have hb := root_same hne hroot
    have hcp := fun {m : Nat} => cp_fn F (m := m) hsz hlen hb hr
    have hN : ∀ p ∈ namesL r0 (r0 :: rr), Nm p := fun p hp => by
      obtain ⟨r, h1, h2⟩ := names_sub p hp
      exact (hrow r h1).2 p h2
    have hNl : (namesL r0 (r0 :: rr)).length ≤ 7 := names_len fun r h => (hrow r h).1
    generalize hns : namesL r0 (r0 :: rr) = ns at hcp hN hNl
    have hNA : ∀ p ∈ ns, Asc p := fun p hp => asc_good (hN p hp).1
    have hNx : ∀ p ∈ ns, p.length ≤ 100 := fun p hp => Nat.le_trans (hN p hp).1.1 (by decide)
    have hrA : ∀ r ∈ r0 :: rr, r.length ≤ 100 ∧ ∀ x ∈ r, Asc x := fun r h => ⟨Nat.le_trans (hrow r h).1 (by decide), fun x hx => asc_good ((hrow r h).2 x hx).1⟩
    obtain ⟨s1, s2⟩ := split_cp (b := rootB xs) hN
    have et := told_all (b := rootB xs) hN
    have hcl : (cpS (rootB xs) ns).length ≤ 10000 := by
      unfold cpS
      have h1 := join_len (sep := ("/" : Str)) (n := 20) (by decide) fun t m => (hN t m).1.1
      have h2 : (sepB (rootB xs)).length ≤ 1 := by unfold sepB; split <;> decide
      rw [Str.length_append]
      omega
    have hsp : ∀ {m : Nat}, Fn a (m + 2) (.ref F.fSplit) [.str (cpS (rootB xs) ns)] (.tuple [.str (hostS (rootB xs) ns), .str (tailN ns)]) := fun {m} => by
      rw [← s1, ← s2]
      exact split_fn F.iSplit F.iFs F.iSep F.fs F.sep F.gLen (by omega)
    have hj : ∀ {m : Nat} {y : Str}, y.length ≤ 100000 → Fn a (m + 2) (.ref F.fJoin) [.str (cpS (rootB xs) ns), .str y] (.str (joinS (cpS (rootB xs) ns) y)) := fun h => join_fn F.iJoin F.iFs F.iSep F.fs F.sep (by omega) h
    have told : ∀ rd : Str → PyData, (∀ {m : Nat}, ∀ x ∈ allT (rootB xs) ns, FnC a (m + 2) (.ref F.fRead) [.str (replyS x), .tuple [.str (hostS (rootB xs) ns), .str (tailN ns)]] (rd x)) → ∀ m, FnC a (m + 4) (.ref F.fTold) [rowD xs] (.list (peerD (rootB xs) ns :: (allT (rootB xs) ns).map rd)) := fun rd hrd m => by
      have := told_ok (m := m) F.iTold F.iCp F.iSplit F.iJoin F.iRead F.iReply hcl hcp hsp hj F.reply (rd := rd) (by rw [et]; exact hrd)
      rw [et] at this
      exact this
    by_cases hk : rootL xs = [] ∨ ns.length ≠ 3
    · have hb' : rootB xs = false ∨ ns.length ≠ 3 := by
        rcases hk with h | h
        · exact .inl (by unfold rootB; rw [h]; rfl)
        · exact .inr h
      obtain ⟨f1, f2⟩ := fit_list (xs := peerD (rootB xs) ns :: (allT (rootB xs) ns).map refT) fun x hx => by
        rcases List.mem_cons.mp hx with rfl | hx
        · exact fit_peer hNA
        · obtain ⟨t, ht, rfl⟩ := List.mem_map.mp hx
          exact fit_ref (asc_texts hNA t ht)
      exact ⟨_, f1, f2, told refT (read_all F hN (by omega) hb'), fun m => due_ref F.iDue F.gLen F.gRange F.iReply F.reply hA hsz hlen hroot rfl hrn hrA hns (by omega) hNx hk⟩
    · have hk1 : rootL xs ≠ [] := fun z => hk (.inl z)
      have h3 : ns.length = 3 := by
        by_cases z : ns.length = 3
        · exact z
        · exact absurd (.inr z) hk
      have hbt : rootB xs = true := by unfold rootB; simpa using hk1
      obtain ⟨p, hp⟩ : ∃ p, ns[2]? = some p := ⟨_, List.getElem?_eq_getElem (by omega)⟩
      have hpg := (hN p (List.mem_of_getElem? hp)).1
      have l1 := text_len (rootB xs) ns 47 32
      have lb : (" " : Str).length = 1 := by decide
      have n1 : textS (rootB xs) ns "/" ≠ textS (rootB xs) ns "/" ++ " " := fun z => by
        have := congrArg Str.length z
        rw [Str.length_append] at this; omega
      have n2 : textS (rootB xs) ns " " ≠ textS (rootB xs) ns "/" ++ " " := fun z => by
        have := congrArg Str.length z
        rw [Str.length_append, slash, blank] at this
        rw [← l1] at this
        have lb' : (⟨#[32]⟩ : Str).length = 1 := rfl
        omega
      have pick : ∀ g : Str → PyData, (allT (rootB xs) ns).map (fun t => if t = textS (rootB xs) ns "/" ++ " " then refT t else g t) = (textsL (rootB xs) ns).map g ++ ((allT (rootB xs) ns).map refT).drop 2 := fun g => by
        show [_, _, _] = [_, _, _]
        dsimp only
        rw [if_neg n1, if_neg n2, if_pos rfl]
      have reads : ∀ g : Str → PyData, (∀ {m : Nat} {k : Nat}, k = 47 ∨ k = 32 → FnC a (m + 2) (.ref F.fRead) [.str (replyS (textS (rootB xs) ns ⟨#[k]⟩)), .tuple [.str (hostS (rootB xs) ns), .str (tailN ns)]] (g (textS (rootB xs) ns ⟨#[k]⟩))) →
          ∀ {m : Nat}, ∀ x ∈ allT (rootB xs) ns, FnC a (m + 2) (.ref F.fRead) [.str (replyS x), .tuple [.str (hostS (rootB xs) ns), .str (tailN ns)]] (if x = textS (rootB xs) ns "/" ++ " " then refT x else g x) := fun g hg {m} x hx => by
        unfold allT textsL at hx
        simp only [List.cons_append, List.nil_append, List.mem_cons, List.not_mem_nil, or_false] at hx
        rcases hx with rfl | rfl | rfl
        · rw [if_neg n1]; exact hg (.inl rfl)
        · rw [if_neg n2]; exact hg (.inr rfl)
        · rw [if_pos rfl]; exact read_third F hN (by omega)
      have fits : ∀ g : Str → PyData, (∀ t, Asc t → (g t).canLay0 = true ∧ (g t).depth ≤ 50) → (PyData.list (peerD (rootB xs) ns :: ((textsL (rootB xs) ns).map g ++ ((allT (rootB xs) ns).map refT).drop 2))).canLay0 = true ∧ (PyData.list (peerD (rootB xs) ns :: ((textsL (rootB xs) ns).map g ++ ((allT (rootB xs) ns).map refT).drop 2))).depth ≤ 100 := fun g hg => fit_list fun x hx => by
        rcases List.mem_cons.mp hx with rfl | hx
        · exact fit_peer hNA
        · rcases List.mem_append.mp hx with hx | hx
          · obtain ⟨t, ht, rfl⟩ := List.mem_map.mp hx
            exact hg t (asc_texts hNA t (List.mem_append_left _ ht))
          · obtain ⟨t, ht, rfl⟩ := List.mem_map.mp (List.mem_of_mem_drop hx)
            exact fit_ref (asc_texts hNA t ht)
      cases hi : PySem.intText? p with
      | none =>
        obtain ⟨f1, f2⟩ := fits noT fun t ht => fit_no ht
        refine ⟨_, f1, f2, fun m => ?_, fun m => due_bad F.iDue F.gLen F.gRange F.iReply F.reply hA hsz hlen hroot rfl hrn hrA hns (by omega) hNx F.gInt F.gVE F.mVV hk1 h3 hp hi (by have := hpg.1; omega) (repr_max hpg)⟩
        have := told _ (reads noT fun {m k} hk => by rw [hbt]; exact read_not F hN hk h3 hp hi) m
        rwa [pick] at this
      | some n =>
        obtain ⟨f1, f2⟩ := fits (okT (hostS (rootB xs) ns) n) fun t ht => fit_ok (asc_host hNA) ht
        refine ⟨_, f1, f2, fun m => ?_, fun m => due_ok F.iDue F.gLen F.gRange F.iReply F.reply hA hsz hlen hroot rfl hrn hrA hns (by omega) hNx F.gInt F.gStr hk1 h3 hp hi (by have := hpg.1; omega) (int_small hi hpg.1)⟩
        have := told _ (reads (okT (hostS (rootB xs) ns) n) fun {m k} hk => by rw [hbt]; exact read_num F hN hk h3 hp hi hpg.1) m
        rwa [pick] at this
theorem size_ok (ns : List Int) (k : Nat) (h1 : 1 ≤ k) (h2 : k ≤ (drawnL ns).length) : SizeOk a F.fTold F.fDue ns k := by
  have hg := trunk_good (ns := ns)
  have ht : (trunkL ns).length = 5 := by unfold trunkL; rw [List.length_map]; rfl
  have hl := (drawnL_len ns).1
  have hk : ((drawnL ns).take k).length = k := by rw [List.length_take]; omega
  have hrows : (pathsN ns k).map rowC = rowsN ns k := by
    unfold pathsN rowsN
    rw [List.map_map]
    exact List.map_congr_left fun x _ => path_row hg
  have hrl : (rowsN ns k).length = k := by unfold rowsN; rw [List.length_map, hk]
  obtain ⟨r0, rr, e⟩ : ∃ r0 rr, rowsN ns k = r0 :: rr := List.exists_cons_of_ne_nil fun z => by rw [z] at hrl; simp at hrl; omega
  have hpl : (pathsN ns k).length = k := by unfold pathsN; rw [List.length_map, hk]
  unfold SizeOk
  rw [e]
  refine size_core F (fun z => ?_) (by omega) (fun x hx => ?_) (fun x hx => ?_) (hrows.trans e) (by rw [← e]; omega) fun r hr => ?_
  · rw [z] at hpl; simp at hpl; omega
  · obtain ⟨n, _, rfl⟩ := List.mem_map.mp hx
    exact path_len hg ht
  · obtain ⟨n, _, rfl⟩ := List.mem_map.mp hx
    exact mem_cs_path hg
  · rw [← e] at hr
    obtain ⟨n, _, rfl⟩ := List.mem_map.mp hr
    refine ⟨?_, row_mem hg⟩
    have := pieces_len (x := n) ht
    exact Nat.le_trans (List.length_filter_le _ _) this
theorem law_holds (ns : List Int) (hn : ns.length ≤ 63) {m : Nat} : FnC a (m + 5) (.ref F.fLaw) [.list (ns.map .int)] (.bool true) := by
  refine law_fn F.iLaw F.iTold F.iDue F.iPiece F.iPath F.gSum F.gLen F.gRange (piece_fn F.iPiece F.gChr F.gStr) ?_ hn (size_ok F ns)
  intro m x
  exact path_fn F.iPath F.iPiece F.gChr F.gStr (fun t ht => (trunk_good t ht).1) (by unfold trunkL; rw [List.length_map]; rfl)
end
end Mine

end
section
open PySem PySem.W PyProof.Rows PySem.Calls PySem.Spec
set_option Elab.async false
set_option linter.unusedVariables false
set_option maxRecDepth 100000
namespace Mine
/-! what the written part of the store must show -/
def fdAt (K : Frag) (f : Addr) : FuncData := match K.lookup f with
  | some ⟨_, _, .func fd, _⟩ => fd
  | _ => default
structure FnK (K : Frag) (x : Str) (f : Addr) (st : Stmt) : Prop where
  glob : nsIn K mainGlobals x = some (some (.ref f))
  obj : (K.lookup f).map (fun o => o.data) = some (.func (fnOf (fdName st) (fdName st) (fdPs st) (fdBody st) (fdScope st) .none .none (fdAt K f).doc (fdAt K f).pyModule (fdAt K f).annotations (fdAt K f).code (fdAt K f).closureTuple))
  code : codeIn K (fdAt K f).code (fdName st) = true
theorem FnK.is {a : Amb} {x : Str} {f : Addr} {st : Stmt} (h : FnK a.K x f st) : IsFn a x f st := by
  refine ⟨h.glob, ?_⟩
  obtain ⟨o, ho, hd⟩ := Option.map_eq_some_iff.mp h.obj
  exact ⟨o, _, _, _, _, _, ho, hd, h.code⟩
structure FactsK (K : Frag) : Prop where
  iParse : FnK K "parse229" 65 (sAt 5)
  iFs : FnK K "fspath" 138 (sAt 14)
  iSep : FnK K "_get_sep" 152 (sAt 18)
  iJoin : FnK K "join" 159 (sAt 19)
  iSplit : FnK K "split" 166 (sAt 20)
  iCp : FnK K "commonpath" 171 (sAt 21)
  iPiece : FnK K "_law_piece" 178 (sAt 23)
  iPath : FnK K "_law_path" 183 (sAt 24)
  iReply : FnK K "_law_reply" 190 (sAt 25)
  iRead : FnK K "_law_read" 197 (sAt 26)
  iTold : FnK K "_law_told" 202 (sAt 27)
  iDue : FnK K "_law_due" 207 (sAt 28)
  iLaw : FnK K "law" 212 (sAt 29)
  gErr : nsIn K mainGlobals "error_proto" = some (some (.ref 56))
  names : (["len", "int", "str", "chr", "sum", "range", "type", "issubclass", "bytes", "isinstance", "tuple", "map", "min", "max", "enumerate", "ValueError", "TypeError", "AttributeError"] : List String).all (fun x => nsIn K mainGlobals (Str.ofString x) == some none) = true
  mVV : exmOne K (.type "ValueError") (.type "ValueError") = some true
  mVTA : exmAny K (.type "ValueError") [.type "TypeError", .type "AttributeError"] = some false
  mCC : exmOne K (.ref 56) (.ref 56) = some true
  mVC : exmOne K (.type "ValueError") (.ref 56) = some false
  cFind : findIn K (.ref 56) "__str__" = some (some (.builtin "BaseException.__str__"))
  cMro : mroIn K 56 (.type "BaseException") = some true
  cExc : excIn K 56 [.type "Exception", .type "BaseException", .type "object"] "Exception.__new__" = true
theorem FactsK.name {K : Frag} (h : FactsK K) {x : String} (hx : x ∈ ["len", "int", "str", "chr", "sum", "range", "type", "issubclass", "bytes", "isinstance", "tuple", "map", "min", "max", "enumerate", "ValueError", "TypeError", "AttributeError"]) : nsIn K mainGlobals (Str.ofString x) = some none :=
  beq_iff_eq.mp (List.all_eq_true.mp h.names x hx)
def FactsK.all {a : Amb} (h : FactsK a.K) : Facts a where
  fParse := 65
  fFs := 138
  fSep := 152
  fJoin := 159
  fSplit := 166
  fCp := 171
  fPiece := 178
  fPath := 183
  fReply := 190
  fRead := 197
  fTold := 202
  fDue := 207
  fLaw := 212
  C := 56
  iParse := h.iParse.is
  iFs := h.iFs.is
  iSep := h.iSep.is
  iJoin := h.iJoin.is
  iSplit := h.iSplit.is
  iCp := h.iCp.is
  iPiece := h.iPiece.is
  iPath := h.iPath.is
  iReply := h.iReply.is
  iRead := h.iRead.is
  iTold := h.iTold.is
  iDue := h.iDue.is
  iLaw := h.iLaw.is
  gErr := h.gErr
  gLen := h.name (by decide)
  gInt := h.name (by decide)
  gStr := h.name (by decide)
  gChr := h.name (by decide)
  gSum := h.name (by decide)
  gRange := h.name (by decide)
  gType := h.name (by decide)
  gSub := h.name (by decide)
  gBytes := h.name (by decide)
  gIsI := h.name (by decide)
  gTuple := h.name (by decide)
  gMap := h.name (by decide)
  gMin := h.name (by decide)
  gMax := h.name (by decide)
  gEnum := h.name (by decide)
  gVE := h.name (by decide)
  gTE := h.name (by decide)
  gAE := h.name (by decide)
  mVV := h.mVV
  mVTA := h.mVTA
  mCC := h.mCC
  mVC := h.mVC
  cFind := h.cFind
  cMro := h.cMro
  cExc := h.cExc
theorem law_end (a : Amb) (h : FactsK a.K) {s₁ : Shared} (hH : a.H = s₁.heap) (ht : 0 < s₁.toks) {l : Addr} {ns : List Int} (hn : ns.length ≤ 63) {as : List Addr} (r0 : Reads s₁.heap (.ref l) (.list (ns.map .int)) as) :
    wpC a.M callerA (PySem.call (.ref 212) [.ref l]) (fun v s' => v = .bool true ∧ Kp [] s₁ s') (fun _ _ => False) s₁ := by
  have hnd : ∀ ns : List Int, noDs (ns.map .int) = true := fun ns => by
    induction ns with
    | nil => rfl
    | cons n r ih => rw [List.map_cons, noDs_cons]; exact ⟨rfl, ih⟩
  have rd : Rd (vw [] s₁.heap) (.ref l) (.list (ns.map .int)) := Rd.of (h := s₁.heap) (fun b o vs n e d => ⟨o.slots, hideAll_get [] e (by simp)⟩) ⟨by rw [noD]; exact hnd ns, as, r0⟩
  have ok : Ok a [] [] s₁.heap := ⟨fun b o e => by rw [← hH]; exact e, ⟨trivial, fun b hb => absurd hb (by simp)⟩, fun x hx => absurd hx (by simp)⟩
  refine wpC.call (codeC.mono (law_holds h.all ns hn (m := 0) callerA [] [] s₁ [.ref l] rfl rfl (by decide) (by decide) ok (RdL.cons rd RdL.nil) ht) fun r s' z => ?_)
  obtain ⟨v, rfl, k, r⟩ := z
  exact ⟨r.bool_inv, k⟩
theorem post_true (args ds : List WData) : PySem.Challenge.rw_pd0098_01.row.claim.post args (.bool true) ds = true := by
  show (WShape.has [] (.bool true) .bool && (WTm.eq .res (.lit (.bool true))).holds [] { args := args, res := some (.bool true), after := ds }) = true
  rw [Bool.and_eq_true]
  refine ⟨by simp [WShape.has, WShape.arms], holdsW_of_value ?_⟩
  simp [WTm.value, W.same]
end Mine

end
section
open PySem PySem.W PyProof.Rows PySem.Calls
set_option Elab.async false
set_option linter.unusedVariables false
set_option maxRecDepth 100000
namespace Mine
/-! what is looked at when the text has run -/
def frag (as : List Addr) (h : Heap) : Frag := as.filterMap fun a => (h.get? a).map fun o => (a, o)
theorem frag_in (h : Heap) : ∀ as : List Addr, (frag as h).In h
  | [], a, o, e => by cases e
  | b :: as, a, o, e => by
    unfold frag at e
    rw [List.filterMap_cons] at e
    cases q : h.get? b with
    | none => rw [q] at e; exact frag_in h as a o e
    | some ob =>
      rw [q] at e
      simp only [Option.map_some] at e
      rw [List.lookup_cons] at e
      split at e
      · rename_i z
        cases e
        rw [beq_iff_eq.mp z]; exact q
      · exact frag_in h as a o e
def wipe : Data → Data
  | .func fd => .func { fd with doc := .none, pyModule := .none, annotations := none, code := .none, closureTuple := .none }
  | d => d
theorem wiped {d : Data} {n q : Str} {ps : Arguments} {b : List Stmt} {sc : Scope} (h : wipe d = .func (fnOf n q ps b sc .none .none .none .none none .none .none)) : ∃ fd, d = .func fd ∧ fd = fnOf n q ps b sc .none .none fd.doc fd.pyModule fd.annotations fd.code fd.closureTuple := by
  unfold wipe at h
  split at h
  · rename_i fd
    refine ⟨fd, rfl, ?_⟩
    have h := Data.func.inj h
    cases fd
    unfold fnOf at *
    simp only [FuncData.mk.injEq] at h ⊢
    simp_all
  · rename_i hne
    exact absurd h (hne _)
def obsFn (K : Frag) (t : String × Addr × Nat) : Option (Option Value) × Option Data × Bool := (nsIn K mainGlobals (Str.ofString t.1), (K.lookup t.2.1).map fun o => wipe o.data, codeIn K (fdAt K t.2.1).code (fdName (sAt t.2.2)))
def valFn (t : String × Addr × Nat) : Option (Option Value) × Option Data × Bool :=
  (some (some (.ref t.2.1)), some (.func (fnOf (fdName (sAt t.2.2)) (fdName (sAt t.2.2)) (fdPs (sAt t.2.2)) (fdBody (sAt t.2.2)) (fdScope (sAt t.2.2)) .none .none .none .none none .none .none)), true)
theorem fn_of {K : Frag} {t : String × Addr × Nat} (h : obsFn K t = valFn t) : FnK K (Str.ofString t.1) t.2.1 (sAt t.2.2) := by
  have h1 := congrArg (fun x => x.1) h
  have h2 := congrArg (fun x => x.2.1) h
  have h3 := congrArg (fun x => x.2.2) h
  refine ⟨h1, ?_, h3⟩
  obtain ⟨o, ho, hw⟩ := Option.map_eq_some_iff.mp (show (K.lookup t.2.1).map (fun o => wipe o.data) = some _ from h2)
  obtain ⟨fd, e1, e2⟩ := wiped hw
  have e3 : fdAt K t.2.1 = fd := by
    unfold fdAt
    rw [ho]
    obtain ⟨c, d, dt, sl⟩ := o
    simp only at e1
    rw [e1]
  rw [ho, e3, ← e2, ← e1]
  rfl
def fns : List (String × Addr × Nat) := [("parse229", 65, 5), ("fspath", 138, 14), ("_get_sep", 152, 18), ("join", 159, 19), ("split", 166, 20), ("commonpath", 171, 21), ("_law_piece", 178, 23), ("_law_path", 183, 24), ("_law_reply", 190, 25), ("_law_read", 197, 26), ("_law_told", 202, 27), ("_law_due", 207, 28), ("law", 212, 29)]
def builtinsUsed : List String := ["len", "int", "str", "chr", "sum", "range", "type", "issubclass", "bytes", "isinstance", "tuple", "map", "min", "max", "enumerate", "ValueError", "TypeError", "AttributeError"]
abbrev Seen := List (Option (Option Value) × Option Data × Bool) × Option (Option Value) × List (Option (Option Value)) × List (Option Bool) × Option (Option Value) × Bool × Nat
def obs (s : Shared) : Seen :=
  (fns.map (obsFn (frag (List.range 213) s.heap)), nsIn (frag (List.range 213) s.heap) mainGlobals "error_proto", builtinsUsed.map (fun x => nsIn (frag (List.range 213) s.heap) mainGlobals (Str.ofString x)),
    [exmOne (frag (List.range 213) s.heap) (.type "ValueError") (.type "ValueError"), exmAny (frag (List.range 213) s.heap) (.type "ValueError") [.type "TypeError", .type "AttributeError"], exmOne (frag (List.range 213) s.heap) (.ref 56) (.ref 56),
      exmOne (frag (List.range 213) s.heap) (.type "ValueError") (.ref 56), mroIn (frag (List.range 213) s.heap) 56 (.type "BaseException")],
    findIn (frag (List.range 213) s.heap) (.ref 56) "__str__", excIn (frag (List.range 213) s.heap) 56 [.type "Exception", .type "BaseException", .type "object"] "Exception.__new__", s.toks)
def val : Seen := (fns.map valFn, some (some (.ref 56)), builtinsUsed.map (fun _ => some none), [some true, some false, some true, some false, some true], some (some (.builtin "BaseException.__str__")), true, 464)
theorem map_all {α β : Type} {f g : α → β} : ∀ {l : List α}, l.map f = l.map g → ∀ x ∈ l, f x = g x
  | [], _, x, h => nomatch h
  | a :: l, e, x, h => by
    rw [List.map_cons, List.map_cons] at e
    injection e with e1 e2
    rcases List.mem_cons.mp h with rfl | h
    · exact e1
    · exact map_all e2 x h
theorem facts_of {s : Shared} (h : obs s = val) : FactsK (frag (List.range 213) s.heap) ∧ s.toks = 464 := by
  have h1 : fns.map (obsFn (frag (List.range 213) s.heap)) = fns.map valFn := congrArg (fun x : Seen => x.1) h
  have h2 := congrArg (fun x : Seen => x.2.1) h
  have h3 : builtinsUsed.map (fun x => nsIn (frag (List.range 213) s.heap) mainGlobals (Str.ofString x)) = builtinsUsed.map (fun _ => some none) := congrArg (fun x : Seen => x.2.2.1) h
  have h4 := congrArg (fun x : Seen => x.2.2.2.1) h
  have h5 := congrArg (fun x : Seen => x.2.2.2.2.1) h
  have h6 := congrArg (fun x : Seen => x.2.2.2.2.2.1) h
  have h7 := congrArg (fun x : Seen => x.2.2.2.2.2.2) h
  have f := fun t (ht : t ∈ fns) => fn_of (map_all h1 t ht)
  unfold obs val at h4
  simp only [List.cons.injEq, and_true] at h4
  obtain ⟨m1, m2, m3, m4, m5⟩ := h4
  refine ⟨⟨f ("parse229", 65, 5) (by decide), f ("fspath", 138, 14) (by decide), f ("_get_sep", 152, 18) (by decide), f ("join", 159, 19) (by decide), f ("split", 166, 20) (by decide), f ("commonpath", 171, 21) (by decide), f ("_law_piece", 178, 23) (by decide), f ("_law_path", 183, 24) (by decide), f ("_law_reply", 190, 25) (by decide), f ("_law_read", 197, 26) (by decide), f ("_law_told", 202, 27) (by decide), f ("_law_due", 207, 28) (by decide), f ("law", 212, 29) (by decide), h2, ?_, m1, m2, m3, m4, h5, m5, h6⟩, h7⟩
  rw [List.all_eq_true]
  exact fun x hx => beq_iff_eq.mpr (map_all h3 x hx)
/-- the statements whose names the walk leans on -/
def view : Program := { PySem.Challenge.pw_pd0098_01 with main := { PySem.Challenge.pw_pd0098_01.main with body := ([0, 2, 3, 4, 5, 7, 9, 11, 12, 14, 16, 18, 19, 20, 21, 23, 24, 25, 26, 27, 28, 29] : List Nat).filterMap fun i => PySem.Challenge.pw_pd0098_01.main.body[i]? } }
end Mine

end
section
open PySem PySem.W PyProof.Rows
set_option Elab.async false
namespace Mine
set_option maxRecDepth 100000 in
set_option maxHeartbeats 8000000 in
theorem left_w : LeftO PySem.Challenge.pw_pd0098_01 view [] (fun s => xlAt view [] s && recOk [] s) obs (fun _ => val) 3566 := fun w => by
  kernel_rfl
end Mine

end
open PySem PySem.W PyProof.Rows
set_option Elab.async false
namespace Mine
/-! from the answer under the claim's caller to the claim -/
theorem caller_has : HasC (⟨.builtin "claim.caller" {}, none, none, [], none⟩ : PySem.Ctx) := by unfold HasC; decide +kernel
/-- the caller's thread comes to its end with this value -/
theorem caller_ends {prog : Program} {w : World} {t : Sem Fin} {v : Value} {s : Shared} {R : Shared → Prop} (hz : s.asleep)
    (h : wpC (model prog w) callerA t (fun fin s' => fin = .done (.ret v) ∧ s'.gens = #[] ∧ R s') (fun _ _ => False) s) :
    ∃ n s' s'', schedN (denote table) prog w n (.single s ⟨t, .builtin "claim.caller" {}, default, []⟩) = .halted (.done (.ret v)) s' ∧
      runN (denote table) prog w n s ⟨t, .builtin "claim.caller" {}, default, []⟩ = .halted (.done (.ret v)) s' ∧ s'.heap = s''.heap ∧ s'.os = s''.os ∧ R s'' := by
  have hw := h ⟨.builtin "claim.caller" {}, none, none, [], none⟩ default caller_in caller_has
  obtain ⟨n, r, s'', s', hs, hr, hf, he, hR⟩ := wp_halts_full (M := model prog w) (R := fun r s' => r = .ok (.ret v) ∧ R s') hz (Sem.wp_mono _ _ t (fun fin p s' x => by
    obtain ⟨rfl, x2, x3⟩ := x
    exact ⟨⟨rfl, x3⟩, leftWithCleanup_false_of_bare (AllBare.of_eq x2)⟩) (fun _ _ _ x => x.elim) _ _ hw)
  subst he
  have q := Shared.forget_eq hf
  exact ⟨n, s', s'', hs, hr, q.1, q.2.2.2.1, hR⟩
/-- the stub asks for law and calls it -/
theorem stub_calls {a : Amb} (h : FactsK a.K) {s₁ : Shared} (hH : a.H = s₁.heap) (ht : 0 < s₁.toks) (hg : s₁.gens = #[]) {l : Addr} {ns : List Int} (hn : ns.length ≤ 63) {as : List Addr} (r0 : Reads s₁.heap (.ref l) (.list (ns.map .int)) as) :
    wpC a.M callerA (do match ← nsGet mainNs (Str.ofString "law") with
      | some f => do ret (← PySem.call f [.ref l])
      | none => unsupported "claim.caller:no-such-global") (fun fin s' => fin = .done (.ret (.bool true)) ∧ s'.gens = #[] ∧ Kp [] s₁ s') (fun _ _ => False) s₁ := by
  have hm := a.hT.g
  rw [hH] at hm
  refine wpC.bind (wpC.of (wpAny_nsGet hm ?_))
  rw [mg_of a.hK a.hT.g h.iLaw.glob]
  refine wpC.bind (wpC.mono (law_end a h hH ht hn r0) (fun v s' x => ?_) fun _ _ x => x.elim)
  obtain ⟨rfl, k⟩ := x
  exact wpC.pure ⟨rfl, k.gens.trans hg, k⟩
set_option maxRecDepth 100000 in
set_option maxHeartbeats 8000000 in
theorem call_law {w : World} {s : Shared} {mg mb : Str → Option Value} (hz : s.asleep) (hg : s.gens = #[]) (G : Ground view [] [] (XL view []) w s mg mb s.heap) (y : obs s = val) {free : Addr → Prop} {gens : Prop} {kept : Heap → Prop} (hk : ∀ h, kept h) :
    PySem.Challenge.rw_pd0098_01.row.claim.CallFrom (callStub (Str.ofString "law")) w free gens kept s := by
  intro args hpre hlay ord hord
  obtain ⟨⟨vals, s₁⟩, hl⟩ := Option.isSome_iff_exists.mp (layAllW_isSome (P := w.params) (ord := ord) G.has args [.list .int] s (pre_splitW hpre).1)
  have hstay := layAllW_keeps _ _ _ hl
  have hrest := layAllW_rest _ _ _ hl
  obtain ⟨as, hrd, hin, hold⟩ := reads_layAllW hord _ _ _ hl hlay s₁.heap fun _ _ e => e
  have L : Laid PySem.Challenge.rw_pd0098_01.row.records w s s₁ args vals as := ⟨⟨ord, hord, hl⟩, hrd, hin, hold, hstay, hrest.1.trans hg, hrest.2.2.1⟩
  have hwl := L.well
  have hlo := L.low G.low
  obtain ⟨K0, hT⟩ := facts_of y
  have KX : (frag (List.range 213) s.heap).In s₁.heap := (frag_in s.heap _).keeps hstay
  have T0 := topRead_of (G.keeps XL.keeps hstay).T
  have T1 := Top.seer (G.keeps XL.keeps hstay).T (by decide +kernel)
  have hpre' := hpre
  have hlay' := hlay
  generalize frag (List.range 213) s.heap = K at K0 KX
  clear G y hin
  wrow_args hpre' hlay' hrd hwl hlo
  have htk := X.script_toks L hT
  rename_i ns hs h0 hL1 hr1 hl2 as0 w3 l w1 w0 hL ra wl r0 hI hr hc hc'
  obtain ⟨n, s', s'', hsched, hrun, eh, eo, k⟩ := caller_ends (v := .bool true) (R := fun s' => Kp [] s₁ s') (Shared.asleep_of_life hrest.2.2.2 hz)
    (stub_calls (a := ⟨PySem.Challenge.rw_pd0098_01.row.prog, w, s₁.heap, K, _, _, mg, mb, KX, T0, T1, rfl⟩) K0 rfl (Nat.lt_of_lt_of_le (by decide) htk) L.gens (show ns.length ≤ 63 by omega) r0)
  have stays : ∀ b o, s₁.heap.get? b = some o → s'.heap.get? b = some o := fun b o e => by rw [eh]; exact (k.heap b o e).1 (by simp)
  refine ⟨_, s₁, hl, n, _, s', hsched, .inl ⟨.bool true, rfl, fun cls => rfl, ⟨.bool true, _, [], _, .bool true, L.reads.keepsK fun b o e _ => stays b o e, post_true _ _, fun _ => ⟨List.nodup_nil, fun a ha => (nomatch ha), fun a ha => (nomatch ha)⟩, fun _ _ => ident_freeW rfl rfl rfl _ _⟩,
    fun i hi => (nomatch hi), fun b o e _ _ _ => .inl (stays b o e), fun i hi => (nomatch hi)⟩, fun _ i x hx => ?_, hk _, ?_, Shared.rest_eq ?_⟩
  · rw [hg] at hx; simp at hx
  · rw [runN_life _ _ _ hrun]; exact congrArg Life.seen hrest.2.2.2
  · rw [eo, k.os]; exact L.os
set_option maxRecDepth 100000 in
set_option maxHeartbeats 8000000 in
theorem main : PySem.Challenge.rw_pd0098_01.Holds := by
  w_on
  o_law
  refine (fun hw => ⟨by assumption, hw, ⟨⟨rfl, rfl, rfl, rfl, rfl, by decide +kernel⟩, by decide +kernel, rfl⟩, RowW.promised.witness hw, fun w => ?_⟩ : PySem.Challenge.rw_pd0098_01.row.toRowW.promised → PySem.Challenge.rw_pd0098_01.row.Holds) ?hw
  case hw => w_witness2
  have B := left_w.behind (XP := XL view []) (fun s e => xl_of s (Bool.and_eq_true_iff.mp e).1) (by decide +kernel) w
  refine ⟨B.1, fun s' hs' => ?_⟩
  obtain ⟨s₀, hf, hg0, s, hT, hz, hgens, hg, G, y⟩ := B.2 s' hs'
  refine ⟨s₀, hf, hg0, s, hT, fun n hn => ?_, fun x hx => (nomatch hx), fun x hx => (nomatch hx), call_law hz (Array.eq_empty_of_size_eq_zero (beq_iff_eq.mp hgens)) G y fun h q => (nomatch q)⟩
  obtain rfl : n = Str.ofString "law" := List.mem_singleton.mp hn
  exact pinned_of_view (d := _) (kwd := _) hg G (by rfl) (by rfl) (by rfl)
end Mine
theorem PySem.Challenge.cw_pd0098_01_holds : PySem.Challenge.rw_pd0098_01.Holds := by
  exact Mine.main

