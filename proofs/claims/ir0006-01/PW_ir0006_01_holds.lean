import PyProof.Rows.All
import Wide.All
import OpenK.AllK
import Wide.FinOn
import PySem.Challenge.RW_ir0006_01
open PySem PyProof.Rows
set_option Elab.async false
namespace Mine
section
/-- no exception ever comes out -/
def NoE : Value → Shared → Prop := fun _ _ => False

inductive Cel where
  | list (vs : List Value)
  | cell (v : Option Value)
  | obj (o : Obj)

def Cel.At (c : Cel) (h : Heap) (a : Addr) : Prop := match c with
  | .list vs => h.PlainList a vs.toArray
  | .cell v => h.IsCell a v
  | .obj o => h.get? a = some o

theorem celEx {c : Cel} {h : Heap} {a : Addr} (x : c.At h a) : ∃ o, h.get? a = some o := by
  cases c with
  | list vs => obtain ⟨n, e⟩ := x; exact ⟨_, e⟩
  | cell v => obtain ⟨o, e, _⟩ := x; exact ⟨o, e⟩
  | obj o => exact ⟨o, x⟩

theorem celOf {c : Cel} {h h' : Heap} {a : Addr} (x : c.At h a) (k : ∀ o, h.get? a = some o → h'.get? a = some o) : c.At h' a := by
  cases c with
  | list vs => obtain ⟨n, e⟩ := x; exact ⟨n, k _ e⟩
  | cell v => obtain ⟨o, e, d⟩ := x; exact ⟨o, k _ e, d⟩
  | obj o => exact k _ x

abbrev Led := List (Addr × Cel)

structure Fx (σ : Shared) (k : Heap) (L : Addr) (s : Shared) (m : Str → Option Value) (l : Led) : Prop where
  ns : s.heap.Ns L m
  keep : ∀ b o, k.get? b = some o → s.heap.get? b = some o
  led : ∀ p ∈ l, p.2.At s.heap p.1 ∧ p.1 ≠ L ∧ k.get? p.1 = none
  nd : (l.map (·.1)).Nodup
  rest : s.gens = σ.gens ∧ s.os = σ.os ∧ s.drawn = σ.drawn

/-- s' is s with more in the heap -/
structure More (s s' : Shared) : Prop where
  keep : ∀ b o, s.heap.get? b = some o → s'.heap.get? b = some o
  rest : s'.gens = s.gens ∧ s'.os = s.os ∧ s'.drawn = s.drawn

/-- the same but for the objects of M -/
structure MoreBut (M : List Addr) (s s' : Shared) : Prop where
  keep : ∀ b o, b ∉ M → s.heap.get? b = some o → s'.heap.get? b = some o
  rest : s'.gens = s.gens ∧ s'.os = s.os ∧ s'.drawn = s.drawn

theorem More.refl (s : Shared) : More s s := ⟨fun _ _ e => e, rfl, rfl, rfl⟩
theorem More.trans {a b c : Shared} (x : More a b) (y : More b c) : More a c :=
  ⟨fun q o e => y.keep q o (x.keep q o e), y.rest.1.trans x.rest.1, y.rest.2.1.trans x.rest.2.1, y.rest.2.2.trans x.rest.2.2⟩
theorem More.tok (s : Shared) (t : Nat) : More s { s with toks := t } := ⟨fun _ _ e => e, rfl, rfl, rfl⟩
theorem More.heap {s : Shared} {h' : Heap} {t : Nat} (k : ∀ b o, s.heap.get? b = some o → h'.get? b = some o) : More s { s with heap := h', toks := t } := ⟨k, rfl, rfl, rfl⟩
theorem More.push (s : Shared) (o : Obj) : More s { s with heap := s.heap.push o } := ⟨fun _ _ e => Heap.get?_push_of_some _ e, rfl, rfl, rfl⟩
theorem More.keeps {s s' : Shared} (x : Keeps s s') : More s s' := by
  obtain ⟨h', tk, rfl, k⟩ := x
  exact ⟨k, rfl, rfl, rfl⟩
theorem More.toKeeps {s s' : Shared} (x : More s s') : Keeps s s' := by
  refine ⟨s'.heap, s'.toks, ?_, x.keep⟩
  obtain ⟨h, g, d, t, o⟩ := s
  obtain ⟨h', g', d', t', o'⟩ := s'
  obtain ⟨e1, e2, e3⟩ := x.rest
  simp only at e1 e2 e3
  subst e1; subst e2; subst e3; rfl
theorem More.but {s s' : Shared} (x : More s s') (M : List Addr) : MoreBut M s s' := ⟨fun b o _ e => x.keep b o e, x.rest⟩
theorem MoreBut.nil {s s' : Shared} (x : MoreBut [] s s') : More s s' := ⟨fun b o e => x.keep b o (by simp) e, x.rest⟩
theorem MoreBut.trans {M : List Addr} {a b c : Shared} (x : MoreBut M a b) (y : MoreBut M b c) : MoreBut M a c :=
  ⟨fun q o n e => y.keep q o n (x.keep q o n e), y.rest.1.trans x.rest.1, y.rest.2.1.trans x.rest.2.1, y.rest.2.2.trans x.rest.2.2⟩
theorem MoreBut.sameBut {s : Shared} {a : Addr} {h' : Heap} {t : Nat} (k : Heap.SameBut a s.heap h') : MoreBut [a] s { s with heap := h', toks := t } :=
  ⟨fun b o n e => (k.2 b (by simpa using n)).trans e, rfl, rfl, rfl⟩

section
variable {σ s s' : Shared} {k : Heap} {L : Addr} {m : Str → Option Value} {l : Led}

theorem Fx.fresh (F : Fx σ k L s m l) {a : Addr} (ha : s.heap.get? a = none) : a ≠ L ∧ k.get? a = none ∧ a ∉ l.map (·.1) := by
  refine ⟨fun e => ?_, ?_, fun e => ?_⟩
  · obtain ⟨o, _, _, q, _⟩ := F.ns
    rw [e, q] at ha; cases ha
  · cases q : k.get? a with
    | none => rfl
    | some o => rw [F.keep a o q] at ha; cases ha
  · obtain ⟨p, hp, rfl⟩ := List.mem_map.mp e
    obtain ⟨o, q⟩ := celEx (F.led p hp).1
    rw [q] at ha; cases ha

theorem Fx.more (F : Fx σ k L s m l) (x : More s s') : Fx σ k L s' m l where
  ns := F.ns.keeps x.keep
  keep := fun b o e => x.keep b o (F.keep b o e)
  led := fun p hp => ⟨celOf (F.led p hp).1 fun o e => x.keep _ o e, (F.led p hp).2⟩
  nd := F.nd
  rest := ⟨x.rest.1.trans F.rest.1, x.rest.2.1.trans F.rest.2.1, x.rest.2.2.trans F.rest.2.2⟩

theorem Fx.add (F : Fx σ k L s m l) (x : More s s') {a : Addr} (ha : s.heap.get? a = none) {c : Cel} (hc : c.At s'.heap a) : Fx σ k L s' m ((a, c) :: l) := by
  obtain ⟨n1, n2, n3⟩ := F.fresh ha
  have F' := F.more x
  refine ⟨F'.ns, F'.keep, fun p hp => ?_, ?_, F'.rest⟩
  · rcases List.mem_cons.mp hp with rfl | hp
    · exact ⟨hc, n1, n2⟩
    · exact F'.led p hp
  · rw [List.map_cons]; exact List.nodup_cons.mpr ⟨n3, F.nd⟩

theorem Fx.sub {l' : Led} (F : Fx σ k L s m l) (h : ∀ p ∈ l', p ∈ l) (nd : (l'.map (·.1)).Nodup) : Fx σ k L s m l' :=
  ⟨F.ns, F.keep, fun p hp => F.led p (h p hp), nd, F.rest⟩
theorem Fx.tail {p : Addr × Cel} (F : Fx σ k L s m (p :: l)) : Fx σ k L s m l :=
  F.sub (fun q hq => .tail _ hq) (by have := F.nd; rw [List.map_cons] at this; exact (List.nodup_cons.mp this).2)

theorem Fx.mono_k {k' : Heap} (F : Fx σ k L s m l) (h : ∀ b o, k'.get? b = some o → k.get? b = some o) : Fx σ k' L s m l :=
  ⟨F.ns, fun b o e => F.keep b o (h b o e), fun p hp => ⟨(F.led p hp).1, (F.led p hp).2.1, by
    cases q : k'.get? p.1 with
    | none => rfl
    | some o => have := (F.led p hp).2.2; rw [h _ _ q] at this; cases this⟩, F.nd, F.rest⟩

inductive Upd (a : Addr) (c' : Cel) : Led → Led → Prop
  | here {c : Cel} {l : Led} : Upd a c' ((a, c) :: l) ((a, c') :: l)
  | there {p : Addr × Cel} {l l' : Led} : Upd a c' l l' → Upd a c' (p :: l) (p :: l')

theorem Upd.facts {a : Addr} {c' : Cel} {l l' : Led} (u : Upd a c' l l') : l'.map (·.1) = l.map (·.1) ∧ a ∈ l.map (·.1) ∧ ((l.map (·.1)).Nodup → ∀ p ∈ l', p = (a, c') ∨ (p ∈ l ∧ p.1 ≠ a)) := by
  induction u with
  | here =>
    refine ⟨rfl, by simp, fun nd p hp => ?_⟩
    rcases List.mem_cons.mp hp with rfl | hp
    · exact .inl rfl
    · rw [List.map_cons] at nd
      exact .inr ⟨.tail _ hp, fun e => (List.nodup_cons.mp nd).1 (List.mem_map.mpr ⟨p, hp, e⟩)⟩
  | there _ ih =>
    obtain ⟨i1, i2, i3⟩ := ih
    refine ⟨by rw [List.map_cons, List.map_cons, i1], by rw [List.map_cons]; exact .tail _ i2, fun nd p hp => ?_⟩
    rw [List.map_cons] at nd
    rcases List.mem_cons.mp hp with rfl | hp
    · exact .inr ⟨.head _, fun e => (List.nodup_cons.mp nd).1 (e ▸ i2)⟩
    · rcases i3 (List.nodup_cons.mp nd).2 p hp with e | ⟨h1, h2⟩
      · exact .inl e
      · exact .inr ⟨.tail _ h1, h2⟩

theorem Fx.upd {l' : Led} {a : Addr} {c' : Cel} (F : Fx σ k L s m l) (u : Upd a c' l l') (x : MoreBut [a] s s') (hc : c'.At s'.heap a) : Fx σ k L s' m l' := by
  obtain ⟨u1, u2, u3⟩ := u.facts
  obtain ⟨q, hq, rfl⟩ := List.mem_map.mp u2
  obtain ⟨_, nL, nk⟩ := F.led q hq
  refine ⟨F.ns.at' fun o e => x.keep _ o (by simpa using nL.symm) e, fun b o e => x.keep b o (fun hb => ?_) (F.keep b o e), fun p hp => ?_, by rw [u1]; exact F.nd,
    x.rest.1.trans F.rest.1, x.rest.2.1.trans F.rest.2.1, x.rest.2.2.trans F.rest.2.2⟩
  · rw [List.mem_singleton.mp hb, nk] at e; cases e
  · rcases u3 F.nd p hp with rfl | ⟨h1, h2⟩
    · exact ⟨hc, nL, nk⟩
    · exact ⟨celOf (F.led p h1).1 fun o e => x.keep _ o (by simpa using h2) e, (F.led p h1).2⟩

theorem Fx.store {m' : Str → Option Value} {h' : Heap} {t : Nat} (F : Fx σ k L s m l) (hk : k.get? L = none) (hn : h'.Ns L m') (hs : Heap.SameBut L s.heap h') : Fx σ k L { s with heap := h', toks := t } m' l :=
  ⟨hn, fun b o e => (hs.2 b (fun q => by rw [q, hk] at e; cases e)).trans (F.keep b o e), fun p hp => ⟨celOf (F.led p hp).1 fun o e => (hs.2 _ (F.led p hp).2.1).trans e, (F.led p hp).2⟩, F.nd, F.rest⟩

theorem Fx.cel {a : Addr} {c : Cel} (F : Fx σ k L s m l) (h : (a, c) ∈ l) : c.At s.heap a := (F.led _ h).1

/-- what we know of an object: it stands in the ledger, or it is kept -/
theorem Fx.list (F : Fx σ k L s m l) {a : Addr} {vs : List Value} (h : (a, Cel.list vs) ∈ l) : s.heap.PlainList a vs.toArray := F.cel h
theorem Fx.listK (F : Fx σ k L s m l) {a : Addr} {vs : List Value} (h : k.PlainList a vs.toArray) : s.heap.PlainList a vs.toArray := let ⟨n, e⟩ := h; ⟨n, F.keep _ _ e⟩
theorem Fx.cellL (F : Fx σ k L s m l) {a : Addr} {v : Option Value} (h : (a, Cel.cell v) ∈ l) : s.heap.IsCell a v := F.cel h
theorem Fx.cellK (F : Fx σ k L s m l) {a : Addr} {v : Option Value} (h : k.IsCell a v) : s.heap.IsCell a v := h.keeps F.keep
theorem Fx.kept {g : Heap} (F : Fx σ k L s m l) (h : g.StaysIn k) : g.StaysIn s.heap := fun b o e => F.keep b o (h b o e)
end

theorem plain_isList {h : Heap} {a : Addr} {xs : Array Value} (x : h.PlainList a xs) : h.IsList a xs := let ⟨n, e⟩ := x; ⟨_, e, rfl, n, rfl⟩

/-- the locals of a frame -/
def setm (m : Str → Option Value) (x : Str) (v : Value) : Str → Option Value := fun y => if y = x then some v else m y
theorem lk_here {m : Str → Option Value} {x : Str} {v : Value} : setm m x v x = some v := if_pos rfl
theorem lk_there {m : Str → Option Value} {x y : Str} {v : Value} {r : Option Value} (h : y ≠ x) (e : m y = r) : setm m x v y = r := (if_neg h).trans e

/-- the room round a call -/
structure AOk (n : Nat) (A : Around) : Prop where
  handled : A.handled = none
  guards : A.guards = some []
  depth : A.depth + n < recursionLimit
  units : A.units + 100 + 10 * n < cLine

theorem AOk.deeper {n : Nat} {A : Around} (h : AOk (n + 1) A) {env : Env} : AOk n (A.deeper env) :=
  ⟨h.handled, h.guards, by have := h.depth; show A.depth + 1 + n < _; omega, by have := h.units; show A.units + 3 + 100 + 10 * n < _; omega⟩
theorem AOk.less {n k : Nat} {A : Around} (h : AOk n A) (hk : k ≤ n) : AOk k A :=
  ⟨h.handled, h.guards, by have := h.depth; omega, by have := h.units; omega⟩
theorem AOk.room {n : Nat} {A : Around} (h : AOk n A) {k : Nat} (hk : k ≤ 99) : A.units + k < cLine := by have := h.units; omega

theorem AOk.u {n : Nat} {A : Around} (h : AOk n A) : A.units < cLine := by have := h.units; omega
end
section
/-- a def of the text stands at a -/
def IsFn (Wh : Heap) (d : DefRec) (a : Addr) : Prop :=
  ∃ o pm code doc, Wh.get? a = some o ∧ o.data = .func (Calls.docDef d.name d.params d.body d.scope pm code doc) ∧ Wh.CodeRec code d.name

/-- the text's own top -/
structure Wld (Wh : Heap) (mg : Str → Option Value) (ds : List DefRec) (ns : List Str) : Prop where
  g : Wh.Ns mainGlobals mg
  b : ∃ mb, Wh.Ns builtinsNs mb ∧ ∀ x : Str, x ≠ "__name__" → mb x = bootBuiltins x
  nolimit : Wh.NoLimit
  fn : ∀ d ∈ ds, ∃ a, mg d.name = some (.ref a) ∧ IsFn Wh d a
  free : ∀ x ∈ ns, mg x = none

section
variable {prog : Program} {w : World} {A : Around} {E : Value → Shared → Prop} {σ s : Shared} {k Wh : Heap} {L : Addr} {m mg : Str → Option Value} {l : Led} {env : Env} {ds : List DefRec} {ns : List Str}

theorem Fx.tok (F : Fx σ k L s m l) (t : Nat) : Fx σ k L { s with toks := t } m l := F.more (More.tok s t)
theorem Fx.heap (F : Fx σ k L s m l) {h' : Heap} {t : Nat} (x : ∀ b o, s.heap.get? b = some o → h'.get? b = some o) : Fx σ k L { s with heap := h', toks := t } m l := F.more (More.heap x)

-- names
theorem r_loc {x : Str} {pos : Pos} {v : Value} {Q : Value → Shared → Prop} (F : Fx σ k L s m l) (hv : m x = some v) (h : Q v s)
    (hL : env.locals = L := by rfl) (hk : env.scope.kind = .function := by rfl) (hl : env.kindOf x = some .local := by rfl) (hd : (x == ("__debug__" : Str)) = false := by rfl) : wpAny (model prog w) A (eval (.Name x pos) env) Q E s := by
  subst hL; exact wpAny_Name (wpAny_loadName_local hk hl F.ns hv h) hd
theorem r_cell {x : Str} {pos : Pos} {c : Addr} {v : Value} {Q : Value → Shared → Prop} (hc : s.heap.IsCell c (some v)) (h : Q v s) (hcl : env.cells.lookup x = some c := by rfl)
    (hk : env.scope.kind = .function := by rfl) (hl : env.kindOf x = some .cell := by rfl) (hd : (x == ("__debug__" : Str)) = false := by rfl) : wpAny (model prog w) A (eval (.Name x pos) env) Q E s :=
  wpAny_Name (wpAny_loadName_cell hk hl hcl hc h) hd
theorem r_glob {x : Str} {pos : Pos} {v : Value} {Q : Value → Shared → Prop} (Wd : Wld Wh mg ds ns) (hW : Wh.StaysIn s.heap) (hv : mg x = some v) (h : Q v s)
    (hg : env.globals = mainGlobals := by rfl) (hk : env.scope.kind = .function := by rfl) (hl : env.kindOf x = some .globalImplicit := by rfl) (hd : (x == ("__debug__" : Str)) = false := by rfl) :
    wpAny (model prog w) A (eval (.Name x pos) env) Q E s :=
  wpAny_Name (PySem.W.ks_loadName_global hk hl (Calls.loadGlobal_global (hg ▸ Wd.g.keeps hW) hv h)) hd
theorem r_blt {x : Str} {pos : Pos} {v : Value} {Q : Value → Shared → Prop} (Wd : Wld Wh mg ds ns) (hW : Wh.StaysIn s.heap) (hb : bootBuiltins x = some v) (h : Q v s) (hf : x ∈ ns := by decide)
    (hn : x ≠ ("__name__" : Str) := by decide) (hg : env.globals = mainGlobals := by rfl) (hbn : env.builtins = builtinsNs := by rfl) (hk : env.scope.kind = .function := by rfl) (hl : env.kindOf x = some .globalImplicit := by rfl)
    (hd : (x == ("__debug__" : Str)) = false := by rfl) : wpAny (model prog w) A (eval (.Name x pos) env) Q E s := by
  obtain ⟨mb, hmb, hb'⟩ := Wd.b
  exact wpAny_Name (PySem.W.ks_loadName_global hk hl (Calls.loadGlobal_builtin (hg ▸ Wd.g.keeps hW) (Wd.free x hf) (hbn ▸ hmb.keeps hW) ((hb' x hn).trans hb) h)) hd

-- storing
theorem r_store {x : Str} {v : Value} {Q : Unit → Shared → Prop} (F : Fx σ k L s m l) (hkL : k.get? L = none) (h : ∀ s', Fx σ k L s' (setm m x v) l → Q () s')
    (hL : env.locals = L := by rfl) (hk : env.scope.kind = .function := by rfl) (hl : env.kindOf x = some .local := by rfl) : wpAny (model prog w) A (storeName env x v) Q E s := by
  subst hL
  exact wpAny_storeName_local hl F.ns (fun h' hn hs => h _ (F.store hkL hn hs)) (by rw [hk]; rfl)
theorem r_storeC {x : Str} {c : Addr} {v : Value} {v₀ : Option Value} {l' : Led} {Q : Unit → Shared → Prop} (F : Fx σ k L s m l) (hc : (c, Cel.cell v₀) ∈ l) (u : Upd c (.cell (some v)) l l') (h : ∀ s', Fx σ k L s' m l' → Q () s')
    (hcl : env.cells.lookup x = some c := by rfl) (hk : env.scope.kind = .function := by rfl) (hl : env.kindOf x = some .cell := by rfl) : wpAny (model prog w) A (storeName env x v) Q E s :=
  wpAny_storeName_cell hk hl hcl (F.cellL hc) fun h' hi hs => h { s with heap := h' } (F.upd u (MoreBut.sameBut (t := s.toks) hs) hi)

-- constants
theorem r_int {i : Int} {c : Nat} {pos : Pos} {Q : Value → Shared → Prop} (F : Fx σ k L s m l) (h : ∀ t s', Fx σ k L s' m l → Q (.int i t) s') : wpAny (model prog w) A (eval (.Constant (.int i) c pos) env) Q E s :=
  wpAny_Constant_int (h _ _ (F.tok _))

-- ints
theorem r_add {a b : Int} {t u : Tok} {Q : Value → Shared → Prop} (F : Fx σ k L s m l) (h : ∀ t s', Fx σ k L s' m l → Q (.int (a + b) t) s') : wpAny (model prog w) A (binaryOp .Add (.int a t) (.int b u)) Q E s :=
  add_int (h _ _ (F.tok _))
theorem r_sub {a b : Int} {t u : Tok} {Q : Value → Shared → Prop} (F : Fx σ k L s m l) (h : ∀ t s', Fx σ k L s' m l → Q (.int (a - b) t) s') : wpAny (model prog w) A (binaryOp .Sub (.int a t) (.int b u)) Q E s :=
  sub_int (h _ _ (F.tok _))
theorem r_mul {a b : Int} {t u : Tok} {Q : Value → Shared → Prop} (F : Fx σ k L s m l) (hm : IntMulOk a b) (h : ∀ t s', Fx σ k L s' m l → Q (.int (a * b) t) s') : wpAny (model prog w) A (binaryOp .Mult (.int a t) (.int b u)) Q E s :=
  mul_int (h _ _ (F.tok _)) hm
theorem r_mod {a b : Int} {t u : Tok} {Q : Value → Shared → Prop} (F : Fx σ k L s m l) (hb : b ≠ 0) (h : ∀ t s', Fx σ k L s' m l → Q (.int (a.fmod b) t) s') : wpAny (model prog w) A (binaryOp .Mod (.int a t) (.int b u)) Q E s :=
  mod_int' hb (h _ _ (F.tok _))
theorem r_fdiv {a b : Int} {t u : Tok} {Q : Value → Shared → Prop} (F : Fx σ k L s m l) (hb : b ≠ 0) (hp : Builtin.divisionGoesByPylong a b = false) (h : ∀ t s', Fx σ k L s' m l → Q (.int (a.fdiv b) t) s') :
    wpAny (model prog w) A (binaryOp .FloorDiv (.int a t) (.int b u)) Q E s := floordiv_int hb (h _ _ (F.tok _)) (.inl hp)
theorem r_shr {a b : Int} {t u : Tok} {Q : Value → Shared → Prop} (F : Fx σ k L s m l) (hb : 0 ≤ b) (h : ∀ t s', Fx σ k L s' m l → Q (.int (a.fdiv (2 ^ b.toNat)) t) s') :
    wpAny (model prog w) A (binaryOp .RShift (.int a t) (.int b u)) Q E s := rshift_int hb (h _ _ (F.tok _))

-- lists
theorem r_newList {vs : List Value} {Q : Value → Shared → Prop} (F : Fx σ k L s m l) (h : ∀ a s', Fx σ k L s' m ((a, .list vs) :: l) → s.heap.get? a = none → Q (.ref a) s') (hsz0 : vs.length ≤ 100000) : wpAny (model prog w) A (newList vs) Q E s :=
  have hsz : vs.length ≤ sizeLine := Nat.le_trans hsz0 (by decide +kernel)
  wpAny_newObj_type (h _ _ (F.add (More.push s _) (by
    cases q : s.heap.get? s.heap.objs.size with
    | none => rfl
    | some o => exact absurd (Heap.lt_size q) (Nat.lt_irrefl _)) ⟨0, Heap.get?_push_size _ rfl⟩) (by
    cases q : s.heap.get? s.heap.objs.size with
    | none => rfl
    | some o => exact absurd (Heap.lt_size q) (Nat.lt_irrefl _))) (by show vs.toArray.size ≤ sizeLine; rw [List.size_toArray]; exact hsz)
theorem fresh_size (h : Heap) : h.get? h.objs.size = none := by
  cases q : h.get? h.objs.size with
  | none => rfl
  | some o => exact absurd (Heap.lt_size q) (Nat.lt_irrefl _)
abbrev tupObj (vs : List Value) : Obj := { cls := .type "tuple", data := .seq vs.toArray }
theorem r_newTuple {vs : List Value} {Q : Value → Shared → Prop} (F : Fx σ k L s m l) (h : ∀ a s', Fx σ k L s' m ((a, .obj (tupObj vs)) :: l) → s.heap.get? a = none → Q (.ref a) s') (hsz0 : vs.length ≤ 100000) : wpAny (model prog w) A (newTuple vs) Q E s :=
  have hsz : vs.length ≤ sizeLine := Nat.le_trans hsz0 (by decide +kernel)
  wpAny_newObj_type (h _ _ (F.add (More.push s _) (fresh_size _) (Heap.get?_push_size _ rfl)) (fresh_size _)) (by show vs.toArray.size ≤ sizeLine; rw [List.size_toArray]; exact hsz)
theorem r_item {value slice : Expr} {a : Addr} {vs : List Value} {i : Int} {u : Tok} {x : Value} {Q : Value → Shared → Prop} (hl : s.heap.PlainList a vs.toArray) (h0 : 0 ≤ i) (h1 : i < 2 ^ 63) (hx : vs[i.toNat]? = some x) (h : Q x s)
    (hs : subscripted slice false (.ref a) (.int i u) = operate [.ref a, .int i u] (getItem (.ref a) (.int i u)) := by rfl) (hg : ∀ r, letTemporaryGo value (.ref a) r = pure () := by intro r; rfl) :
    wpAny (model prog w) A (subscriptTail value slice (.ref a) (.int i u)) Q E s := item_listL (plain_isList hl) h0 h1 hx h hs hg
theorem r_len {a : Addr} {vs : List Value} {Q : Value → Shared → Prop} (F : Fx σ k L s m l) (hl : s.heap.PlainList a vs.toArray) (hsz : vs.length < 2 ^ 62) (h : ∀ t s', Fx σ k L s' m l → Q (.int vs.length t) s') :
    wpAny (model prog w) A (call (.builtin "len") [.ref a]) Q E s := by
  refine Calls.call_len_list (plain_isList hl) (by rw [List.size_toArray]; omega) ?_
  have := h (s.toks + 1) _ (F.tok (s.toks + 1 + 1))
  simpa using this
theorem r_truthy {a : Addr} {vs : List Value} {Q : Bool → Shared → Prop} (F : Fx σ k L s m l) (hl : s.heap.PlainList a vs.toArray) (hsz : vs.length < 2 ^ 62) (h : ∀ s', Fx σ k L s' m l → Q (!vs.isEmpty) s') :
    wpAny (model prog w) A (truthy (.ref a)) Q E s := by
  refine wpAny_truthy_list (plain_isList hl) (by rw [List.size_toArray]; omega) ?_
  have := h _ (F.tok (s.toks + 1 + 1))
  simpa using this
theorem plain_upd {h : Heap} {a : Addr} {xs : Array Value} {n : Nat} {f : Array Value → Array Value} (e : h.get? a = some { cls := .type "list", data := .seq xs n }) : (h.update a (Obj.mapSeq f)).PlainList a (f xs) := by
  refine ⟨if (f xs).size == xs.size then n else n + 1, ?_⟩
  exact Heap.get?_update_self (Obj.mapSeq f) e rfl
theorem upd_but {s : Shared} {a : Addr} {f : Obj → Obj} : MoreBut [a] s { s with heap := s.heap.update a f } := MoreBut.sameBut (t := s.toks) (Heap.SameBut.update ..)
theorem r_setItem {a : Addr} {vs : List Value} {i : Int} {t : Tok} {v : Value} {l' : Led} {Q : Unit → Shared → Prop} (F : Fx σ k L s m l) (hl : (a, Cel.list vs) ∈ l) (h0 : 0 ≤ i) (h1 : i < 2 ^ 63) (h2 : i.toNat < vs.length)
    (u : Upd a (.list (vs.set i.toNat v)) l l') (h : ∀ s', Fx σ k L s' m l' → Q () s') : wpAny (model prog w) A (setItem (.ref a) (.int i t) v) Q E s := by
  obtain ⟨n, e⟩ := F.list hl
  refine PySem.W.ki_setAt e h0 h1 (by rw [List.size_toArray]; omega) (h _ (F.upd u upd_but ?_))
  have := plain_upd (f := (·.setIfInBounds i.toNat v)) e
  show Heap.PlainList _ a _
  simpa using this
theorem r_append {a : Addr} {vs : List Value} {v : Value} {l' : Led} {Q : Value → Shared → Prop} (F : Fx σ k L s m l) (hl : (a, Cel.list vs) ∈ l) (hsz0 : vs.length ≤ 100000)
    (u : Upd a (.list (vs ++ [v])) l l') (h : ∀ s', Fx σ k L s' m l' → Q .none s') : wpAny (model prog w) A (call (.builtin "list.append") [.ref a, v]) Q E s := by
  have hsz : vs.length ≤ sizeLine := Nat.le_trans hsz0 (by decide +kernel)
  refine wpAny_list_append_plain (F.list hl) (fun h' hp hs => h { s with heap := h' } (F.upd u (MoreBut.sameBut (t := s.toks) hs) ?_)) (by rw [List.size_toArray]; exact hsz)
  show Heap.PlainList _ a _
  simpa using hp
theorem r_pop {a : Addr} {vs : List Value} {v : Value} {pos : Pos} {l' : Led} {Q : Value → Shared → Prop} (F : Fx σ k L s m l) (hl : (a, Cel.list (vs ++ [v])) ∈ l) (hsz0 : vs.length ≤ 100000)
    (u : Upd a (.list vs) l l') (h : ∀ s', Fx σ k L s' m l' → Q v s') : wpAny (model prog w) A (callWith pos (.builtin "list.pop") [.ref a] [] []) Q E s := by
  have hsz : vs.length < sizeLine := Nat.lt_of_le_of_lt hsz0 (by decide +kernel)
  obtain ⟨n, e⟩ := F.list hl
  refine P.pop_list e (by simp) (h _ (F.upd u upd_but ?_)) (by simp; omega)
  have := plain_upd (f := fun xs => Array.eraseIdxIfInBounds xs ((vs ++ [v]).toArray.size - 1)) e
  show Heap.PlainList _ a _
  refine (congrArg (Heap.PlainList _ a) ?_).mp this
  apply Array.toList_inj.mp
  simp [Array.eraseIdxIfInBounds, List.eraseIdx_append_of_length_le]
theorem r_getM {a : Addr} {vs : List Value} {name : Str} {id : String} {pl : Sem Bool} {Q : Value × List Value → Shared → Prop} (hl : s.heap.PlainList a vs.toArray) (hs : Slot "list" name id)
    (ht : typeOf (.builtin id) = pure (.type "method_descriptor")) (h : Q (.builtin id, [.ref a]) s) : wpAny (model prog w) A (getMethod (.ref a) name pl) Q E s := by
  refine getMethod_list_of hs ht (plain_isList hl) ?_ h
  obtain ⟨n, e⟩ := hl
  exact ⟨_, e, rfl⟩
end
end
section
theorem lookup_of_nodup {cs : List (Str × Addr)} (h : (cs.map (·.1)).Nodup) : ∀ n c, (n, c) ∈ cs → cs.lookup n = some c := by
  induction cs with
  | nil => intro _ _ h; cases h
  | cons x r ih =>
    obtain ⟨y, b⟩ := x
    intro n c hm
    rw [List.map_cons] at h
    obtain ⟨h1, h2⟩ := List.nodup_cons.mp h
    rw [List.lookup_cons]
    rcases List.mem_cons.mp hm with e | hm
    · cases e; simp
    · have : (n == y) = false := by
        rw [beq_eq_false_iff_ne]
        exact fun e => h1 (List.mem_map.mpr ⟨(n, c), hm, e⟩)
      rw [this]; exact ih h2 n c hm

def cellLed (d : DefRec) (L : Addr) (cm : Str → Option Value) : Led := (cellsFrom (L + 1) d.scope.names []).map fun x => (x.2, Cel.cell (cm x.1))

section
variable {prog : Program} {w : World} {A : Around} {σ s : Shared} {k Wh : Heap} {mg : Str → Option Value} {l : Led} {ds : List DefRec} {ns : List Str}

abbrev envD (d : DefRec) (L f : Addr) (cd : Value) : Env := envOfC d.name d.scope L f cd

theorem enter {d : DefRec} {f : Addr} {vals : List Value} {binds : List (Str × Value)} {Q : Value → Shared → Prop} (Wd : Wld Wh mg ds ns) (hf : IsFn Wh d f) (hW : Wh.StaysIn s.heap) (hA : A.depth < recursionLimit)
    (hk : k.StaysIn s.heap) (hl : ∀ p ∈ l, p.2.At s.heap p.1 ∧ k.get? p.1 = none) (hnd : (l.map (·.1)).Nodup) (hσ : s.gens = σ.gens ∧ s.os = σ.os ∧ s.drawn = σ.drawn)
    (hbind : ∀ pm code doc, bindArgs (Calls.docDef d.name d.params d.body d.scope pm code doc) ⟨vals, []⟩ = pure binds)
    (hkind : ∀ x ∈ binds, d.scope.names.lookup x.1 = some .local ∨ (d.scope.names.lookup x.1 = some .cell ∧ ∀ n, ((cellsFrom n d.scope.names []).lookup x.1).isSome = true))
    (hcn : ∀ n, ((cellsFrom n d.scope.names []).map (·.1)).Nodup)
    (h : ∀ cd L s₁, k.get? L = none → Fx σ k L s₁ (bindL (fun x => d.scope.names.lookup x) binds fun _ => none) (cellLed d L (bindC (fun x => d.scope.names.lookup x) binds fun _ => none) ++ l) →
      wpAny (model prog w) (A.deeper (envD d L f cd)) (execs d.body (envD d L f cd)) (fun fl s' => Q (match fl with | .ret v => v | _ => .none) s') NoE s₁)
    (hco : d.scope.isCoroutine = false := by rfl) (hgen : d.scope.isGenerator = false := by rfl) (hki : d.scope.kind = .function := by rfl) :
    wpAny (model prog w) A (call (.ref f) vals) Q NoE s := by
  obtain ⟨o, pm, code, doc, ho, hd, hcd⟩ := hf
  refine wpAny_call (codeAny_call_function (body := d.body) hA (hW _ _ ho) hd hco hgen rfl (hcd.keeps hW) ?_)
  rw [hbind]
  refine wpAny_pure (wpAny_newFunctionEnv_cells hki (fun x hx => (hkind x hx).imp id fun y => ⟨y.1, y.2 _⟩) fun env' he s' x => ?_)
  subst he
  refine ⟨(Wd.nolimit.keeps hW).keeps x.toInCall.keep, codeAny_func ?_⟩
  have keep := x.toInCall.keep
  have hcells : ∀ p ∈ cellLed d s.heap.objs.size (bindC (fun x => d.scope.names.lookup x) binds fun _ => none), p.2.At s'.heap p.1 ∧ s.heap.objs.size < p.1 := by
    intro p hp
    obtain ⟨⟨n, c⟩, hq, rfl⟩ := List.mem_map.mp hp
    have hlk := lookup_of_nodup (hcn _) n c hq
    exact ⟨x.cell n c hlk, x.above n c hq⟩
  have hkn : ∀ a, s.heap.objs.size ≤ a → k.get? a = none := fun a ha => by
    cases q : k.get? a with
    | none => rfl
    | some o => exact absurd (Heap.lt_size (hk _ _ q)) (Nat.not_lt.mpr ha)
  have F : Fx σ k s.heap.objs.size s' (bindL (fun x => d.scope.names.lookup x) binds fun _ => none) (cellLed d s.heap.objs.size (bindC (fun x => d.scope.names.lookup x) binds fun _ => none) ++ l) := by
    refine ⟨x.toInCall.ns, fun b o e => keep b o (hk b o e), fun p hp => ?_, ?_, ?_⟩
    · rcases List.mem_append.mp hp with hp | hp
      · exact ⟨(hcells p hp).1, Nat.ne_of_gt (hcells p hp).2, hkn _ (Nat.le_of_lt (hcells p hp).2)⟩
      · obtain ⟨o, q⟩ := celEx (hl p hp).1
        exact ⟨celOf (hl p hp).1 fun o e => keep _ o e, Nat.ne_of_lt (Heap.lt_size q), (hl p hp).2⟩
    · rw [List.map_append]
      refine List.nodup_append.mpr ⟨?_, hnd, fun a ha b hb e => ?_⟩
      · unfold cellLed
        rw [List.map_map]
        exact List.pairwise_map.mpr (x.apart.imp fun h => h)
      · obtain ⟨p, hp, rfl⟩ := List.mem_map.mp ha
        obtain ⟨q, hq, rfl⟩ := List.mem_map.mp hb
        obtain ⟨o, e'⟩ := celEx (hl q hq).1
        have := (hcells p hp).2
        have h2 := Heap.lt_size e'
        have e2 : p.1 = q.1 := e
        rw [e2] at this
        exact absurd this (Nat.not_lt.mpr (Nat.le_of_lt h2))
    · obtain ⟨h', tk, rfl⟩ := x.toInCall.same
      exact hσ
  refine wpAny_mono (h code _ s' (hkn _ (Nat.le_refl _)) F) (fun fl s'' hq => ?_) fun _ _ z => z.elim
  exact hq

theorem enter' {d : DefRec} {f : Addr} {vals : List Value} (binds : List (Str × Value)) (m₀ : Str → Option Value) (cl : Addr → Led) {Q : Value → Shared → Prop} (Wd : Wld Wh mg ds ns) (hf : IsFn Wh d f) (hW : Wh.StaysIn s.heap) (hA : A.depth < recursionLimit)
    (hk : k.StaysIn s.heap) (hl : ∀ p ∈ l, p.2.At s.heap p.1 ∧ k.get? p.1 = none) (hnd : (l.map (·.1)).Nodup) (hσ : s.gens = σ.gens ∧ s.os = σ.os ∧ s.drawn = σ.drawn)
    (h : ∀ cd L s₁, k.get? L = none → Fx σ k L s₁ m₀ (cl L ++ l) →
      wpAny (model prog w) (A.deeper (envD d L f cd)) (execs d.body (envD d L f cd)) (fun fl s' => Q (match fl with | .ret v => v | _ => .none) s') NoE s₁)
    (hbind : ∀ pm code doc, bindArgs (Calls.docDef d.name d.params d.body d.scope pm code doc) ⟨vals, []⟩ = pure binds := by intro _ _ _; rfl)
    (hkind : ((binds.map (·.1)).all fun x => d.scope.names.lookup x == some .local || (d.scope.names.lookup x == some .cell && (d.scope.names.filterMap fun y => if y.2 == .cell then some y.1 else none).contains x)) = true := by rfl)
    (hm : bindL (fun x => d.scope.names.lookup x) binds (fun _ => none) = m₀ := by rfl)
    (hc : ∀ L, cellLed d L (bindC (fun x => d.scope.names.lookup x) binds fun _ => none) = cl L := by intro _; rfl)
    (hcn : (d.scope.names.filterMap fun y => if y.2 == .cell then some y.1 else none).Nodup := by decide +kernel)
    (hco : d.scope.isCoroutine = false := by rfl) (hgen : d.scope.isGenerator = false := by rfl) (hki : d.scope.kind = .function := by rfl) :
    wpAny (model prog w) A (call (.ref f) vals) Q NoE s := by
  have hcell : ∀ (nms : List (Str × NameKind)) (n : Nat) (acc : List (Str × Addr)), (cellsFrom n nms acc).map (·.1) = (nms.filterMap fun y => if y.2 == .cell then some y.1 else none).reverse ++ acc.map (·.1) := by
    intro nms
    induction nms with
    | nil => intro n acc; rfl
    | cons y r ih =>
      intro n acc
      obtain ⟨y1, y2⟩ := y
      unfold cellsFrom
      split
      · rename_i e; rw [ih, List.filterMap_cons, if_pos e]; simp
      · rename_i e; rw [ih, List.filterMap_cons, if_neg e]
  have hcell' : ∀ n, (cellsFrom n d.scope.names []).map (·.1) = (d.scope.names.filterMap fun y => if y.2 == .cell then some y.1 else none).reverse := fun n => by rw [hcell]; simp
  refine enter (binds := binds) Wd hf hW hA hk hl hnd hσ hbind ?_ (fun n => by rw [hcell']; exact (List.reverse_perm _).nodup_iff.mpr hcn) (fun cd L s₁ hkL F => ?_) hco hgen hki
  · intro x hx
    have := List.all_eq_true.mp hkind x.1 (List.mem_map_of_mem hx)
    rcases Bool.or_eq_true_iff.mp this with q | q
    · left; simpa using q
    · right
      obtain ⟨q1, q2⟩ := Bool.and_eq_true_iff.mp q
      refine ⟨by simpa using q1, fun n => ?_⟩
      have hmem : x.1 ∈ (cellsFrom n d.scope.names []).map (·.1) := by
        rw [hcell']; exact List.mem_reverse.mpr (List.contains_iff_mem.mp q2)
      obtain ⟨y, hy, hyx⟩ := List.mem_map.mp hmem
      have : (y.1, y.2) ∈ cellsFrom n d.scope.names [] := hy
      rw [← hyx, lookup_of_nodup (by rw [hcell']; exact (List.reverse_perm _).nodup_iff.mpr hcn) _ _ this]
      rfl
  · rw [hm, hc] at F
    exact h cd L s₁ hkL F
end
end
section
abbrev Tie := Int × Int × Int × Int

def tlt (a b : Tie) : Bool :=
  if a.1 = b.1 then (if a.2.1 = b.2.1 then (if a.2.2.1 = b.2.2.1 then decide (a.2.2.2 < b.2.2.2) else decide (a.2.2.1 < b.2.2.1)) else decide (a.2.1 < b.2.1)) else decide (a.1 < b.1)

abbrev tieObj (t : Tie) (t1 t2 t3 t4 : Tok) (n : Nat) : Obj := { cls := .type "tuple", data := .seq #[.int t.1 t1, .int t.2.1 t2, .int t.2.2.1 t3, .int t.2.2.2 t4] n }
def TieAt (g : Heap) (v : Value) (t : Tie) : Prop := ∃ a t1 t2 t3 t4 n, v = .ref a ∧ g.get? a = some (tieObj t t1 t2 t3 t4 n)

open AutoSeq1 (wpAny_loadPart')
open MeetsSeq MeetsSeq2 MeetsSeq3 SeqRoads2 SeqAt

def lexO (f : Int → Int → Bool) : List (Int × Tok × Int × Tok) → Option Bool
  | [] => none
  | p :: r => if p.1 = p.2.2.1 then lexO f r else some (f p.1 p.2.2.1)

theorem cmp_loop {M : Model} {A : Around} {E : Value → Shared → Prop} {s : Shared} {f : Int → Int → Bool} {R : Option PySem.Fin × Unit → Shared → Prop} {body : Value × Value → Option PySem.Fin × Unit → Sem (ForInStep (Option PySem.Fin × Unit))}
    (hb : ∀ a t b u (R' : ForInStep (Option PySem.Fin × Unit) → Shared → Prop), (if a = b then R' (.yield (none, ())) s else R' (.done (some (.done (.ret (.bool (f a b)))), ())) s) → wpAny M A (body (.int a t, .int b u) (none, ())) R' E s) :
    ∀ ps : List (Int × Tok × Int × Tok), R ((lexO f ps).map fun c => .done (.ret (.bool c)), ()) s →
      wpAny M A (forIn (ps.map fun p => (Value.int p.1 p.2.1, Value.int p.2.2.1 p.2.2.2)) (none, ()) body) R E s
  | [], h => by rw [List.map_nil, List.forIn_nil]; exact wpAny_pure h
  | p :: r, h => by
    rw [List.map_cons, List.forIn_cons]
    refine wpAny_bind (hb _ _ _ _ _ ?_)
    unfold lexO at h
    split
    · rename_i e
      rw [if_pos e] at h
      exact cmp_loop hb r h
    · rename_i e
      rw [if_neg e] at h
      exact wpAny_pure h

theorem lexO_lt (x y : Tie) (t1 t2 t3 t4 u1 u2 u3 u4 : Tok) :
    (lexO (fun a b => decide (a < b)) [(x.1, t1, y.1, u1), (x.2.1, t2, y.2.1, u2), (x.2.2.1, t3, y.2.2.1, u3), (x.2.2.2, t4, y.2.2.2, u4)]).getD false = tlt x y := by
  unfold tlt
  simp only [lexO]
  repeat' split
  all_goals simp_all
theorem lexO_gt (x y : Tie) (t1 t2 t3 t4 u1 u2 u3 u4 : Tok) :
    (lexO (fun a b => decide (a > b)) [(x.1, t1, y.1, u1), (x.2.1, t2, y.2.1, u2), (x.2.2.1, t3, y.2.2.1, u3), (x.2.2.2, t4, y.2.2.2, u4)]).getD false = tlt y x := by
  unfold tlt
  simp only [lexO]
  repeat' split
  all_goals simp_all

theorem cmp_loop' {M : Model} {A : Around} {E : Value → Shared → Prop} {s : Shared} {R : Option PySem.Fin × Unit → Shared → Prop} {body : Value × Value → Option PySem.Fin × Unit → Sem (ForInStep (Option PySem.Fin × Unit))} (f : Int → Int → Bool)
    (ps : List (Int × Tok × Int × Tok)) {l : List (Value × Value)} (hl : l = ps.map fun p => (Value.int p.1 p.2.1, Value.int p.2.2.1 p.2.2.2))
    (hb : ∀ a t b u (R' : ForInStep (Option PySem.Fin × Unit) → Shared → Prop), (if a = b then R' (.yield (none, ())) s else R' (.done (some (.done (.ret (.bool (f a b)))), ())) s) → wpAny M A (body (.int a t, .int b u) (none, ())) R' E s)
    (h : R ((lexO f ps).map fun c => .done (.ret (.bool c)), ()) s) :
      wpAny M A (forIn l (none, ()) body) R E s := by subst hl; exact cmp_loop hb ps h

theorem lt_meets (l b : Addr) (x y : Tie) (t1 t2 t3 t4 u1 u2 u3 u4 : Tok) (n k : Nat) :
    Meets (Builtin.«tuple.__lt__» ⟨[.ref l, .ref b], []⟩)
      (fun A R s => s.heap.get? l = some (tieObj x t1 t2 t3 t4 n) ∧ s.heap.get? b = some (tieObj y u1 u2 u3 u4 k) ∧ R (.ok (.ret (.bool (tlt x y)))) s) :=
  .of_wp fun prog w A R s h => by
    obtain ⟨hp, g, d, tk, os⟩ := s; obtain ⟨hl, hb, h⟩ := h
    have f2 := AutoSeq1.sub_tuple_tuple
    wp_walk using wpAny_loadPart' hl, wpAny_loadPart' hb, cmp_loop' (fun a b => decide (a < b)) [(x.1, t1, y.1, u1), (x.2.1, t2, y.2.1, u2), (x.2.2.1, t3, y.2.2.1, u3), (x.2.2.2, t4, y.2.2.2, u4)]
    case hl => rfl
    case hb =>
      intro a t b u R' hR
      refine wpAny_bind (EqGives.int a b t u prog w _ _ _ _ ?_)
      by_cases e : a = b
      · rw [if_pos e] at hR
        rw [show (a == b) = true from beq_iff_eq.mpr e]
        exact wpAny_pure hR
      · rw [if_neg e] at hR
        rw [show (a == b) = false from beq_eq_false_iff_ne.mpr e]
        exact wpAny_bind (wpAny_rule (wpAny_bind (PyProof.Rows.lt_int (wpAny_bind (wpAny_pure (wpAny_pure hR))))))
    case h =>
      rw [← lexO_lt x y t1 t2 t3 t4 u1 u2 u3 u4] at h
      revert h
      generalize lexO (fun a b => decide (a < b)) [(x.1, t1, y.1, u1), (x.2.1, t2, y.2.1, u2), (x.2.2.1, t3, y.2.2.1, u3), (x.2.2.2, t4, y.2.2.2, u4)] = o
      intro h
      cases o with
      | none => exact wpAny_pure ⟨_, rfl, h⟩
      | some c => exact wpAny_pure ⟨_, rfl, h⟩
theorem gt_meets (l b : Addr) (x y : Tie) (t1 t2 t3 t4 u1 u2 u3 u4 : Tok) (n k : Nat) :
    Meets (Builtin.«tuple.__gt__» ⟨[.ref l, .ref b], []⟩)
      (fun A R s => s.heap.get? l = some (tieObj x t1 t2 t3 t4 n) ∧ s.heap.get? b = some (tieObj y u1 u2 u3 u4 k) ∧ R (.ok (.ret (.bool (tlt y x)))) s) :=
  .of_wp fun prog w A R s h => by
    obtain ⟨hp, g, d, tk, os⟩ := s; obtain ⟨hl, hb, h⟩ := h
    have f2 := AutoSeq1.sub_tuple_tuple
    wp_walk using wpAny_loadPart' hl, wpAny_loadPart' hb, cmp_loop' (fun a b => decide (a > b)) [(x.1, t1, y.1, u1), (x.2.1, t2, y.2.1, u2), (x.2.2.1, t3, y.2.2.1, u3), (x.2.2.2, t4, y.2.2.2, u4)]
    case hl => rfl
    case hb =>
      intro a t b u R' hR
      refine wpAny_bind (EqGives.int a b t u prog w _ _ _ _ ?_)
      by_cases e : a = b
      · rw [if_pos e] at hR
        rw [show (a == b) = true from beq_iff_eq.mpr e]
        exact wpAny_pure hR
      · rw [if_neg e] at hR
        rw [show (a == b) = false from beq_eq_false_iff_ne.mpr e]
        exact wpAny_bind (wpAny_rule (wpAny_bind (PyProof.Rows.gt_int (wpAny_bind (wpAny_pure (wpAny_pure hR))))))
    case h =>
      rw [← lexO_gt x y t1 t2 t3 t4 u1 u2 u3 u4] at h
      revert h
      generalize lexO (fun a b => decide (a > b)) [(x.1, t1, y.1, u1), (x.2.1, t2, y.2.1, u2), (x.2.2.1, t3, y.2.2.1, u3), (x.2.2.2, t4, y.2.2.2, u4)] = o
      intro h
      cases o with
      | none => exact wpAny_pure ⟨_, rfl, h⟩
      | some c => exact wpAny_pure ⟨_, rfl, h⟩

section
variable {prog : Program} {w : World} {A : Around} {E : Value → Shared → Prop} {σ s : Shared} {k Wh g : Heap} {L : Addr} {m mg : Str → Option Value} {l : Led} {env : Env}

theorem r_ltTie {v u : Value} {x y : Tie} {Q : Value → Shared → Prop} (hv : TieAt s.heap v x) (hu : TieAt s.heap u y) (hA : A.units < cLine) (h : Q (.bool (tlt x y)) s) : wpAny (model prog w) A (compareOp .Lt v u) Q E s := by
  obtain ⟨a, t1, t2, t3, t4, n, rfl, ha⟩ := hv
  obtain ⟨b, u1, u2, u3, u4, n', rfl, hb⟩ := hu
  exact richCompare_meets_room (op := .Lt) ⟨_, ha, rfl⟩ ⟨_, hb, rfl⟩ F.slot_tuple_lt F.entry_tuple_lt (F.args_tuple_lt_2 _ _) (lt_meets a b x y t1 t2 t3 t4 u1 u2 u3 u4 n n') ⟨ha, hb, (fun x => nomatch x), h⟩ hA
theorem r_gtTie {v u : Value} {x y : Tie} {Q : Value → Shared → Prop} (hv : TieAt s.heap v x) (hu : TieAt s.heap u y) (hA : A.units < cLine) (h : Q (.bool (tlt y x)) s) : wpAny (model prog w) A (compareOp .Gt v u) Q E s := by
  obtain ⟨a, t1, t2, t3, t4, n, rfl, ha⟩ := hv
  obtain ⟨b, u1, u2, u3, u4, n', rfl, hb⟩ := hu
  exact richCompare_meets_room (op := .Gt) ⟨_, ha, rfl⟩ ⟨_, hb, rfl⟩ F.slot_tuple_gt F.entry_tuple_gt (F.args_tuple_gt_2 _ _) (gt_meets a b x y t1 t2 t3 t4 u1 u2 u3 u4 n n') ⟨ha, hb, (fun x => nomatch x), h⟩ hA
end
end
section
-- the order of ties, place by place
def lex1 (x y : Int) (r : Bool) : Bool := if x = y then r else decide (x < y)
theorem tlt_lex (a b : Tie) : tlt a b = lex1 a.1 b.1 (lex1 a.2.1 b.2.1 (lex1 a.2.2.1 b.2.2.1 (decide (a.2.2.2 < b.2.2.2)))) := rfl
theorem lex_asym {x y : Int} {r r' : Bool} (h : lex1 x y r = true) (hr : r = true → r' = false) : lex1 y x r' = false := by
  unfold lex1 at *
  by_cases e : x = y
  · rw [if_pos e] at h; rw [if_pos e.symm]; exact hr h
  · rw [if_neg e] at h; rw [if_neg (Ne.symm e)]
    have := of_decide_eq_true h
    exact decide_eq_false (by omega)
theorem lex_tr {x y z : Int} {r1 r2 r3 : Bool} (h1 : lex1 y x r1 = false) (h2 : lex1 z y r2 = false) (hr : r1 = false → r2 = false → r3 = false) : lex1 z x r3 = false := by
  unfold lex1 at *
  by_cases e1 : y = x
  · rw [if_pos e1] at h1; subst e1
    by_cases e2 : z = y
    · rw [if_pos e2] at h2 ⊢; exact hr h1 h2
    · rw [if_neg e2] at h2 ⊢; exact h2
  · rw [if_neg e1] at h1
    have h1 := of_decide_eq_false h1
    by_cases e2 : z = y
    · subst e2; rw [if_neg e1]; exact decide_eq_false h1
    · rw [if_neg e2] at h2
      have h2 := of_decide_eq_false h2
      rw [if_neg (by omega)]
      exact decide_eq_false (by omega)
theorem lex_eq {x y : Int} {r r' : Bool} (h1 : lex1 x y r = false) (h2 : lex1 y x r' = false) : x = y ∧ r = false ∧ r' = false := by
  unfold lex1 at *
  by_cases e : x = y
  · rw [if_pos e] at h1; rw [if_pos e.symm] at h2; exact ⟨e, h1, h2⟩
  · rw [if_neg e] at h1; rw [if_neg (Ne.symm e)] at h2
    have h1 := of_decide_eq_false h1
    have h2 := of_decide_eq_false h2
    exact absurd (by omega) e
theorem tlt_asym {a b : Tie} (h : tlt a b = true) : tlt b a = false :=
  lex_asym h fun h => lex_asym h fun h => lex_asym h fun h => decide_eq_false (by have := of_decide_eq_true h; omega)
theorem tlt_tr {a b c : Tie} (h1 : tlt b a = false) (h2 : tlt c b = false) : tlt c a = false :=
  lex_tr h1 h2 fun h1 h2 => lex_tr h1 h2 fun h1 h2 => lex_tr h1 h2 fun h1 h2 => decide_eq_false (by have := of_decide_eq_false h1; have := of_decide_eq_false h2; omega)
theorem tlt_eq {a b : Tie} (h1 : tlt a b = false) (h2 : tlt b a = false) : a = b := by
  obtain ⟨e1, h1, h2⟩ := lex_eq h1 h2
  obtain ⟨e2, h1, h2⟩ := lex_eq h1 h2
  obtain ⟨e3, h1, h2⟩ := lex_eq h1 h2
  have h1 := of_decide_eq_false h1
  have h2 := of_decide_eq_false h2
  exact Prod.ext e1 (Prod.ext e2 (Prod.ext e3 (by omega)))
theorem tlt_irr (a : Tie) : tlt a a = false := by
  cases h : tlt a a with
  | false => rfl
  | true => have := tlt_asym h; rw [h] at this; cases this
end
section
inductive All2 {α β : Type} (R : α → β → Prop) : List α → List β → Prop
  | nil : All2 R [] []
  | cons {a : α} {b : β} {l : List α} {r : List β} : R a b → All2 R l r → All2 R (a :: l) (b :: r)

namespace All2
variable {α β : Type} {R S : α → β → Prop} {l l' : List α} {r r' : List β}
theorem length (h : All2 R l r) : l.length = r.length := by
  induction h with
  | nil => rfl
  | cons _ _ ih => simp [ih]
theorem mono (h : All2 R l r) (f : ∀ a b, R a b → S a b) : All2 S l r := by
  induction h with
  | nil => exact .nil
  | cons x _ ih => exact .cons (f _ _ x) ih
theorem append (h : All2 R l r) (h' : All2 R l' r') : All2 R (l ++ l') (r ++ r') := by
  induction h with
  | nil => exact h'
  | cons x _ ih => exact .cons x ih
theorem snoc (h : All2 R l r) {a : α} {b : β} (x : R a b) : All2 R (l ++ [a]) (r ++ [b]) := h.append (.cons x .nil)
theorem get (h : All2 R l r) : ∀ {i : Nat} {b : β}, r[i]? = some b → ∃ a, l[i]? = some a ∧ R a b := by
  induction h with
  | nil => intro i b e; simp at e
  | cons x _ ih =>
    intro i b e
    cases i with
    | zero => simp at e; subst e; exact ⟨_, by simp, x⟩
    | succ j => simp at e; simpa using ih e
theorem get' (h : All2 R l r) : ∀ {i : Nat} {a : α}, l[i]? = some a → ∃ b, r[i]? = some b ∧ R a b := by
  induction h with
  | nil => intro i b e; simp at e
  | cons x _ ih =>
    intro i b e
    cases i with
    | zero => simp at e; subst e; exact ⟨_, by simp, x⟩
    | succ j => simp at e; simpa using ih e
theorem set (h : All2 R l r) {a : α} {b : β} (x : R a b) : ∀ (i : Nat), All2 R (l.set i a) (r.set i b) := by
  induction h with
  | nil => intro i; simp; exact .nil
  | cons y t ih =>
    intro i
    cases i with
    | zero => simp; exact .cons x t
    | succ j => simp; exact .cons y (ih j)
theorem unsnoc {r : List β} {b : β} (h : All2 R l (r ++ [b])) : ∃ l' a, l = l' ++ [a] ∧ All2 R l' r ∧ R a b := by
  induction r generalizing l with
  | nil =>
    cases h with
    | cons x t => cases t with | nil => exact ⟨[], _, rfl, .nil, x⟩
  | cons c r ih =>
    cases h with
    | cons x t =>
      obtain ⟨l', a, rfl, h1, h2⟩ := ih t
      exact ⟨_ :: l', a, rfl, .cons x h1, h2⟩
end All2

abbrev Ties (g : Heap) := All2 (TieAt g)
theorem TieAt.keeps {g g' : Heap} {v : Value} {t : Tie} (h : TieAt g v t) (k : g.StaysIn g') : TieAt g' v t := by
  obtain ⟨a, t1, t2, t3, t4, n, rfl, e⟩ := h
  exact ⟨a, t1, t2, t3, t4, n, rfl, k _ _ e⟩
theorem tiesKeep {g g' : Heap} {vs : List Value} {ts : List Tie} (h : Ties g vs ts) (k : g.StaysIn g') : Ties g' vs ts := h.mono fun _ _ x => x.keeps k

section
variable {prog : Program} {w : World} {A : Around} {E : Value → Shared → Prop} {σ s : Shared} {k Wh g : Heap} {L : Addr} {m mg : Str → Option Value} {l : Led} {env : Env} {rest : List Stmt}

-- statements
theorem x_nil {Q : Flow → Shared → Prop} (h : Q .next s) : wpAny (model prog w) A (execs [] env) Q E s := wpAny_execs_nil h
theorem x_assign {x : Str} {p p' : Pos} {e : Expr} {Q : Flow → Shared → Prop} (h : wpAny (model prog w) A (eval e env) (fun v s₁ => wpAny (model prog w) A (storeName env x v) (fun _ s₂ => wpAny (model prog w) A (execs rest env) Q E s₂) E s₁) E s)
    (hs : swapsWith e (some (.Name x p')) p.line env = pure false := by rfl) : wpAny (model prog w) A (execs (.Assign [.Name x p'] e p :: rest) env) Q E s :=
  wpAny_execs_cons (wpAny_Assign_Name (wpAny_mono h (fun _ _ h => wpAny_mono h (fun _ _ h => h) fun _ _ h => h) fun _ _ h => h) hs)
theorem x_setItem {o i : Expr} {p p' : Pos} {e : Expr} {Q : Flow → Shared → Prop} (h : wpAny (model prog w) A (eval e env) (fun v s₁ => wpAny (model prog w) A (eval o env) (fun ov s₂ => wpAny (model prog w) A (eval i env) (fun iv s₃ =>
      wpAny (model prog w) A (setItem ov iv v) (fun _ s₄ => wpAny (model prog w) A (execs rest env) Q E s₄) E s₃) E s₂) E s₁) E s)
    (hs : swapsWith e (some (.Subscript o i p')) p.line env = pure false := by rfl) : wpAny (model prog w) A (execs (.Assign [.Subscript o i p'] e p :: rest) env) Q E s :=
  wpAny_execs_cons (wpAny_Assign_Subscript h hs)
theorem x_expr {e : Expr} {p : Pos} {Q : Flow → Shared → Prop} (h : wpAny (model prog w) A (eval e env) (fun _ s₁ => wpAny (model prog w) A (execs rest env) Q E s₁) E s) (hi : interactive env = false := by rfl) (hs : swapsWith e none p.line env = pure false := by rfl) :
    wpAny (model prog w) A (execs (.Expr e p :: rest) env) Q E s := wpAny_execs_cons (wpAny_Expr_any h hi hs)
theorem x_if {t : Expr} {b o : List Stmt} {p : Pos} {Q : Flow → Shared → Prop}
    (h : wpAny (model prog w) A (isTrue t env (eval t env)) (fun c s₂ => if c = true then wpAny (model prog w) A (execs b env) (fun f s' => match f with | .next => wpAny (model prog w) A (execs rest env) Q E s' | f => Q f s') E s₂
      else wpAny (model prog w) A (execs o env) (fun f s' => match f with | .next => wpAny (model prog w) A (execs rest env) Q E s' | f => Q f s') E s₂) E s) : wpAny (model prog w) A (execs (.If t b o p :: rest) env) Q E s :=
  wpAny_execs_cons (wpAny_If h)
theorem x_ret {e : Expr} {p : Pos} {Q : Flow → Shared → Prop} (h : wpAny (model prog w) A (eval e env) (fun v s' => Q (.ret v) s') E s) : wpAny (model prog w) A (execs (.Return (some e) p :: rest) env) Q E s :=
  wpAny_execs_cons (wpAny_Return_some (wpAny_mono h (fun _ _ h => h) fun _ _ h => h))
theorem x_cont {p : Pos} {Q : Flow → Shared → Prop} (h : Q .cont s) : wpAny (model prog w) A (execs (.Continue p :: rest) env) Q E s := wpAny_execs_cons (wpAny_Continue h)
theorem x_brk {p : Pos} {Q : Flow → Shared → Prop} (h : Q .brk s) : wpAny (model prog w) A (execs (.Break p :: rest) env) Q E s := wpAny_execs_cons (wpAny_Break h)
theorem x_while {t : Expr} {b : List Stmt} {p : Pos} {Q : Flow → Shared → Prop} (I : Nat → Shared → Prop) (n : Nat) (h0 : I n s)
    (turn : ∀ n s, I n s → wpAny (model prog w) A (isTrue t env (eval t env)) (fun c s₂ => if c = true then wpAny (model prog w) A (execs b env) (fun f s₃ => match f with
        | .next | .cont => ∃ j, j < n ∧ I j s₃
        | .brk => wpAny (model prog w) A (execs rest env) Q NoE s₃
        | .ret v => Q (.ret v) s₃) NoE s₂ else wpAny (model prog w) A (execs rest env) Q NoE s₂) NoE s) : wpAny (model prog w) A (execs (.While t b [] p :: rest) env) Q NoE s := by
  refine wpAny_execs_cons (wpAny_While (codeAny_whileLoop I (fun n s hI => ?_) n h0))
  refine wpAny_mono (turn n s hI) (fun c s₂ h₂ => ?_) fun _ _ x => x.elim
  cases c with
  | true =>
    simp only [if_true] at h₂ ⊢
    exact wpAny_mono h₂ (fun f s₃ h₃ => by cases f <;> exact h₃) fun _ _ x => x.elim
  | false =>
    simp only [Bool.false_eq_true, if_false] at h₂ ⊢
    exact wpAny_execs_nil h₂

theorem r_itemN {value slice : Expr} {a : Addr} {vs : List Value} {i : Nat} {j : Int} {u : Tok} {x : Value} {Q : Value → Shared → Prop} (F : Fx σ k L s m l) (hm : (a, Cel.list vs) ∈ l) (hj : j = (i : Int)) (hx : vs[i]? = some x) (hz : vs.length ≤ 100000) (h : Q x s)
    (hs : subscripted slice false (.ref a) (.int j u) = operate [.ref a, .int j u] (getItem (.ref a) (.int j u)) := by rfl) (hg : ∀ r, letTemporaryGo value (.ref a) r = pure () := by intro r; rfl) :
    wpAny (model prog w) A (subscriptTail value slice (.ref a) (.int j u)) Q E s := by
  subst hj
  have hi : i < vs.length := (List.getElem?_eq_some_iff.mp hx).1
  exact r_item (F.list hm) (by omega) (by omega) (by simpa using hx) h hs hg
theorem r_setItemN {a : Addr} {vs : List Value} {i : Nat} {j : Int} {t : Tok} {v : Value} {l' : Led} {Q : Unit → Shared → Prop} (F : Fx σ k L s m l) (hl : (a, Cel.list vs) ∈ l) (hj : j = (i : Int)) (hi : i < vs.length) (hz : vs.length ≤ 100000)
    (u : Upd a (.list (vs.set i v)) l l') (h : ∀ s', Fx σ k L s' m l' → Q () s') : wpAny (model prog w) A (setItem (.ref a) (.int j t) v) Q E s := by
  subst hj
  exact r_setItem F hl (by omega) (by omega) (by simpa using hi) (by simpa using u) h
theorem lkv {m : Str → Option Value} {x : Str} {v v' : Value} (h : m x = some v) (e : v = v') : m x = some v' := e ▸ h
theorem if_dec {c : Prop} [Decidable c] {p q : Prop} (h1 : c → p) (h2 : ¬ c → q) : if decide c = true then p else q := by
  by_cases h : c
  · rw [if_pos (decide_eq_true h)]; exact h1 h
  · rw [if_neg (by simpa using h)]; exact h2 h
theorem if_bool {b : Bool} {p q : Prop} (h1 : b = true → p) (h2 : b = false → q) : if b = true then p else q := by
  cases b with
  | true => exact h1 rfl
  | false => exact h2 rfl

-- expressions
theorem e_binop {a b : Expr} {op : Operator} {p : Pos} {Q : Value → Shared → Prop} (h : wpAny (model prog w) A (eval a env) (fun x s₁ => wpAny (model prog w) A (eval b env) (fun y s₂ => wpAny (model prog w) A (binaryOp op x y) Q E s₂) E s₁) E s) :
    wpAny (model prog w) A (eval (.BinOp a op b p) env) Q E s := wpAny_BinOp h
theorem e_sub {a b : Expr} {p : Pos} {Q : Value → Shared → Prop} (h : wpAny (model prog w) A (eval a env) (fun x s₁ => wpAny (model prog w) A (eval b env) (fun y s₂ => wpAny (model prog w) A (subscriptTail a b x y) Q E s₂) E s₁) E s) :
    wpAny (model prog w) A (eval (.Subscript a b p) env) Q E s := Subscript_ h
theorem t_cmp {a b : Expr} {op : CmpOp} {p : Pos} {whole : Sem Value} {Q : Bool → Shared → Prop} (h : wpAny (model prog w) A (eval a env) (fun x s₁ => wpAny (model prog w) A (eval b env) (fun y s₂ => wpAny (model prog w) A (compareOp op x y) (fun c s₃ => wpAny (model prog w) A (truthy c) Q E s₃) E s₂) E s₁) E s)
    (hm : behindInMarks op b = false := by rfl) : wpAny (model prog w) A (isTrue (.Compare a [op] [b] p) env whole) Q E s := wpAny_isTrue_Compare1 h hm
theorem t_bool {b : Bool} {Q : Bool → Shared → Prop} (h : Q b s) : wpAny (model prog w) A (truthy (.bool b)) Q E s := wpAny_truthy_bool h
theorem c_gt {a b : Int} {t u : Tok} {Q : Value → Shared → Prop} (h : Q (.bool (decide (b < a))) s) : wpAny (model prog w) A (compareOp .Gt (.int a t) (.int b u)) Q E s := gt_int h
theorem c_lt {a b : Int} {t u : Tok} {Q : Value → Shared → Prop} (h : Q (.bool (decide (a < b))) s) : wpAny (model prog w) A (compareOp .Lt (.int a t) (.int b u)) Q E s := lt_int h
theorem c_eq {a b : Int} {t u : Tok} {Q : Value → Shared → Prop} (h : Q (.bool (a == b)) s) : wpAny (model prog w) A (compareOp .Eq (.int a t) (.int b u)) Q E s := eq_int h
theorem c_ne {a b : Int} {t u : Tok} {Q : Value → Shared → Prop} (h : Q (.bool (a != b)) s) : wpAny (model prog w) A (compareOp .NotEq (.int a t) (.int b u)) Q E s := ne_int h
theorem c_neB {a b : Bool} {Q : Value → Shared → Prop} (h : Q (.bool (a != b)) s) : wpAny (model prog w) A (compareOp .NotEq (.bool a) (.bool b)) Q E s := PyProof.Rows.ne_bool h
end
end
section
section
variable {prog : Program} {w : World} {A : Around} {E : Value → Shared → Prop} {σ s : Shared} {k Wh g : Heap} {L : Addr} {m mg : Str → Option Value} {l : Led} {env : Env} {rest : List Stmt} {ds : List DefRec} {ns : List Str}

theorem e_callFn {d : DefRec} {x : Str} {p pos : Pos} {e : Expr} {r : List Expr} {Q : Value → Shared → Prop} (Wd : Wld Wh mg ds ns) (hW : Wh.StaysIn s.heap) (hd : d ∈ ds) (hn : d.name = x)
    (h : wpAny (model prog w) A (spliced (backTo pos (starEach (e :: r) env))) (fun vs s₁ => Wh.StaysIn s₁.heap ∧ ∀ a, IsFn Wh d a → wpAny (model prog w) A (call (.ref a) vs) Q E s₁) E s)
    (hse : starEach (e :: r) env = (false, eval e env) :: starEach r env := by rfl) (hg : env.globals = mainGlobals := by rfl) (hk : env.scope.kind = .function := by rfl) (hl : env.kindOf x = some .globalImplicit := by rfl) (hdb : (x == ("__debug__" : Str)) = false := by rfl) :
    wpAny (model prog w) A (eval (.Call (.Name x p) (e :: r) [] pos) env) Q E s := by
  obtain ⟨a, ha, hf⟩ := Wd.fn d hd
  obtain ⟨o, pm, code, doc, ho, hdt, _⟩ := id hf
  refine Call_ (r_glob Wd hW (by rw [← hn]; exact ha) ?_ hg hk hl hdb)
  exact callWith_def_at ho hdt (wpAny_mono h (fun vs s₁ h₁ => ⟨h₁.1 _ _ ho, h₁.2 a hf⟩) fun _ _ z => z) hse
theorem e_callB {id : String} {x : Str} {p pos : Pos} {e : Expr} {r : List Expr} {Q : Value → Shared → Prop} (Wd : Wld Wh mg ds ns) (hW : Wh.StaysIn s.heap) (hb : bootBuiltins x = some (.builtin id))
    (h : wpAny (model prog w) A (spliced (backTo pos (starEach (e :: r) env))) (fun vs s₁ => wpAny (model prog w) A (call (.builtin id) vs) Q E s₁) E s)
    (hse : starEach (e :: r) env = (false, eval e env) :: starEach r env := by rfl) (hst : ((backTo pos (starEach r env)).any fun x => x.1) = false := by rfl)
    (hf : x ∈ ns := by decide) (hn : x ≠ ("__name__" : Str) := by decide) (hg : env.globals = mainGlobals := by rfl) (hbn : env.builtins = builtinsNs := by rfl) (hk : env.scope.kind = .function := by rfl) (hl : env.kindOf x = some .globalImplicit := by rfl) (hdb : (x == ("__debug__" : Str)) = false := by rfl) :
    wpAny (model prog w) A (eval (.Call (.Name x p) (e :: r) [] pos) env) Q E s :=
  Call_ (r_blt Wd hW hb (PyProof.Rows.callWith_builtin1 h hse hst) hf hn hg hbn hk hl hdb)
theorem e_callT {id : String} {x : Str} {p pos : Pos} {e : Expr} {r : List Expr} {Q : Value → Shared → Prop} (Wd : Wld Wh mg ds ns) (hW : Wh.StaysIn s.heap) (hb : bootBuiltins x = some (.type id))
    (h : wpAny (model prog w) A (spliced (backTo pos (starEach (e :: r) env))) (fun vs s₁ => wpAny (model prog w) A (call (.type id) vs) Q E s₁) E s)
    (hse : starEach (e :: r) env = (false, eval e env) :: starEach r env := by rfl) (hst : ((backTo pos (starEach r env)).any fun x => x.1) = false := by rfl)
    (hf : x ∈ ns := by decide) (hn : x ≠ ("__name__" : Str) := by decide) (hg : env.globals = mainGlobals := by rfl) (hbn : env.builtins = builtinsNs := by rfl) (hk : env.scope.kind = .function := by rfl) (hl : env.kindOf x = some .globalImplicit := by rfl) (hdb : (x == ("__debug__" : Str)) = false := by rfl) :
    wpAny (model prog w) A (eval (.Call (.Name x p) (e :: r) [] pos) env) Q E s :=
  Call_ (r_blt Wd hW hb (PyProof.Rows.callWith_type1 h hse hst) hf hn hg hbn hk hl hdb)
theorem e_meth1 {id : String} {name : Str} {o e : Expr} {ap pos : Pos} {r : List Expr} {pl : Sem Bool} {Q : Value → Shared → Prop} (hs : Slot "list" name id) (ht : typeOf (.builtin id) = pure (.type "method_descriptor"))
    (h : wpAny (model prog w) A (eval o env) (fun ov s₁ => ∃ (a : Addr) (us : List Value), ov = .ref a ∧ s₁.heap.PlainList a us.toArray ∧ wpAny (model prog w) A (spliced (backTo pos (starEach (e :: r) env))) (fun vs s₂ => wpAny (model prog w) A (call (.builtin id) ([.ref a] ++ vs)) Q E s₂) E s₁) E s)
    (hev : eval (.Call (.Attribute o name ap) (e :: r) [] pos) env = (do let ov ← eval o env; standAt ap.atName; let (f, first) ← holding [ov] (getMethod ov name pl); callWith pos f first (backTo pos (starEach (e :: r) env)) []) := by rfl)
    (hse : starEach (e :: r) env = (false, eval e env) :: starEach r env := by rfl) (hst : ((backTo pos (starEach r env)).any fun x => x.1) = false := by rfl) :
    wpAny (model prog w) A (eval (.Call (.Attribute o name ap) (e :: r) [] pos) env) Q E s := by
  refine MethodCall_ (pl := pl) (wpAny_mono h (fun ov s₁ h₁ => ?_) fun _ _ z => z) hev
  obtain ⟨a, vs, rfl, hl, h2⟩ := h₁
  exact r_getM hl hs ht (PyProof.Rows.callWith_method1 h2 hse hst)
theorem e_meth0 {id : String} {name : Str} {o : Expr} {ap pos : Pos} {pl : Sem Bool} {Q : Value → Shared → Prop} (hs : Slot "list" name id) (ht : typeOf (.builtin id) = pure (.type "method_descriptor"))
    (h : wpAny (model prog w) A (eval o env) (fun ov s₁ => ∃ (a : Addr) (us : List Value), ov = .ref a ∧ s₁.heap.PlainList a us.toArray ∧ wpAny (model prog w) A (callWith pos (.builtin id) [.ref a] [] []) Q E s₁) E s)
    (hev : eval (.Call (.Attribute o name ap) [] [] pos) env = (do let ov ← eval o env; standAt ap.atName; let (f, first) ← holding [ov] (getMethod ov name pl); callWith pos f first (backTo pos (starEach [] env)) []) := by rfl) :
    wpAny (model prog w) A (eval (.Call (.Attribute o name ap) [] [] pos) env) Q E s := by
  refine MethodCall_ (pl := pl) (wpAny_mono h (fun ov s₁ h₁ => ?_) fun _ _ z => z) hev
  obtain ⟨a, vs, rfl, hl, h2⟩ := h₁
  exact r_getM hl hs ht h2
theorem x_ifMid {t : Expr} {b o : List Stmt} {p : Pos} {Q : Flow → Shared → Prop} (Mid : Shared → Prop)
    (h1 : wpAny (model prog w) A (PySem.isTrue t env (eval t env)) (fun c s₂ => if c = true then wpAny (model prog w) A (execs b env) (fun f s' => f = .next ∧ Mid s') E s₂ else wpAny (model prog w) A (execs o env) (fun f s' => f = .next ∧ Mid s') E s₂) E s)
    (h2 : ∀ s', Mid s' → wpAny (model prog w) A (execs rest env) Q E s') : wpAny (model prog w) A (execs (.If t b o p :: rest) env) Q E s := by
  refine x_if (wpAny_mono h1 (fun c s₂ hc => ?_) fun _ _ z => z)
  cases c with
  | true =>
    simp only [if_true] at hc ⊢
    exact wpAny_mono hc (fun f s' hf => by obtain ⟨rfl, hm⟩ := hf; exact h2 s' hm) fun _ _ z => z
  | false =>
    simp only [Bool.false_eq_true, if_false] at hc ⊢
    exact wpAny_mono hc (fun f s' hf => by obtain ⟨rfl, hm⟩ := hf; exact h2 s' hm) fun _ _ z => z
theorem Fx.but {a : Addr} {s' : Shared} (F : Fx s (s.heap.hide a) L s' m l) : MoreBut [a] s s' := ⟨fun b o hb e => F.keep b o ((Heap.hide_ne _ (by simpa using hb)).trans e), F.rest⟩
theorem if_t {p q : Prop} (h : p) : if true = true then p else q := by rw [if_pos rfl]; exact h
theorem if_f {p q : Prop} (h : q) : if false = true then p else q := by rw [if_neg Bool.false_ne_true]; exact h
theorem a_more {e : Expr} {r : List Expr} {pos : Pos} {Q : List Value → Shared → Prop} (h : wpAny (model prog w) A (eval e env) (fun v s₁ => wpAny (model prog w) A (spliced (backTo pos (starEach r env))) (fun vs s₂ => Q (v :: vs) s₂) E s₁) E s)
    (hse : starEach (e :: r) env = (false, eval e env) :: starEach r env := by rfl) : wpAny (model prog w) A (spliced (backTo pos (starEach (e :: r) env))) Q E s := spliced_more h hse
theorem a_none {pos : Pos} {Q : List Value → Shared → Prop} (h : Q [] s) : wpAny (model prog w) A (spliced (backTo pos (starEach [] env))) Q E s := spliced_none h
theorem e_list {es : List Expr} {pos : Pos} {Q : Value → Shared → Prop} (h : wpAny (model prog w) A (spliced (backTo pos (starEach es env))) (fun vs s₁ => wpAny (model prog w) A (newList vs) Q E s₁) E s) : wpAny (model prog w) A (eval (.List es pos) env) Q E s := List_ h
theorem e_tuple {es : List Expr} {c : Nat} {pos : Pos} {Q : Value → Shared → Prop} (h : wpAny (model prog w) A (spliced (backTo pos (starEach es env))) (fun vs s₁ => wpAny (model prog w) A (newTuple vs) Q E s₁) E s) : wpAny (model prog w) A (eval (.Tuple es c pos) env) Q E s := Tuple_ h
theorem t_and {x : Expr} {r : List Expr} {pos : Pos} {whole : Sem Value} {Q : Bool → Shared → Prop} (h : wpAny (model prog w) A (PySem.isTrue x env (eval x env)) (fun c s' => if c = true then wpAny (model prog w) A (PySem.isTrue (.BoolOp .And r pos) env whole) Q E s' else Q false s') E s) :
    wpAny (model prog w) A (PySem.isTrue (.BoolOp .And (x :: r) pos) env whole) Q E s := isTrue_and h
theorem t_or {x : Expr} {r : List Expr} {pos : Pos} {whole : Sem Value} {Q : Bool → Shared → Prop} (h : wpAny (model prog w) A (PySem.isTrue x env (eval x env)) (fun c s' => if c = true then Q true s' else wpAny (model prog w) A (PySem.isTrue (.BoolOp .Or r pos) env whole) Q E s') E s) :
    wpAny (model prog w) A (PySem.isTrue (.BoolOp .Or (x :: r) pos) env whole) Q E s := isTrue_or h
theorem t_andNil {pos : Pos} {whole : Sem Value} {Q : Bool → Shared → Prop} (h : Q true s) : wpAny (model prog w) A (PySem.isTrue (.BoolOp .And [] pos) env whole) Q E s := isTrue_and_nil h
theorem t_orNil {pos : Pos} {whole : Sem Value} {Q : Bool → Shared → Prop} (h : Q false s) : wpAny (model prog w) A (PySem.isTrue (.BoolOp .Or [] pos) env whole) Q E s := isTrue_or_nil h
theorem t_not {x : Expr} {pos : Pos} {whole : Sem Value} {Q : Bool → Shared → Prop} (h : wpAny (model prog w) A (PySem.isTrue x env (eval x env)) (fun c s' => Q (!c) s') E s) : wpAny (model prog w) A (PySem.isTrue (.UnaryOp .Not x pos) env whole) Q E s := isTrue_not h
theorem t_name {x : Str} {pos : Pos} {Q : Bool → Shared → Prop} (h : wpAny (model prog w) A (eval (.Name x pos) env) (fun v s₁ => wpAny (model prog w) A (truthy v) Q E s₁) E s) : wpAny (model prog w) A (PySem.isTrue (.Name x pos) env (eval (.Name x pos) env)) Q E s := isTrue_plain h
theorem t_call {f : Expr} {as : List Expr} {ks : List Keyword} {pos : Pos} {Q : Bool → Shared → Prop} (h : wpAny (model prog w) A (eval (.Call f as ks pos) env) (fun v s₁ => wpAny (model prog w) A (truthy v) Q E s₁) E s) :
    wpAny (model prog w) A (PySem.isTrue (.Call f as ks pos) env (eval (.Call f as ks pos) env)) Q E s := isTrue_plain h
theorem e_ife {t a b : Expr} {pos : Pos} {Q : Value → Shared → Prop} (h : wpAny (model prog w) A (PySem.isTrue t env (eval t env)) (fun c s₂ => if c = true then wpAny (model prog w) A (eval a env) Q E s₂ else wpAny (model prog w) A (eval b env) Q E s₂) E s) :
    wpAny (model prog w) A (eval (.IfExp t a b pos) env) Q E s := IfExp_ h
end
end
section
def d0 : Tie := (0, 0, 0, 0)

/-- the sift towards the root: the hole goes up from pos -/
def sdLoop (x : Tie) (start : Nat) (xs : List Tie) (pos : Nat) : List Tie × Nat :=
  if h : start < pos then
    if tlt x (xs.getD ((pos - 1) / 2) d0) then sdLoop x start (xs.set pos (xs.getD ((pos - 1) / 2) d0)) ((pos - 1) / 2) else (xs, pos)
  else (xs, pos)
termination_by pos
decreasing_by omega

def siftdown (xs : List Tie) (start pos : Nat) : List Tie :=
  let r := sdLoop (xs.getD pos d0) start xs pos
  r.1.set r.2 (xs.getD pos d0)

/-- the lesser child -/
def suChild (xs : List Tie) (pos : Nat) : Nat :=
  if 2 * pos + 2 < xs.length ∧ tlt (xs.getD (2 * pos + 1) d0) (xs.getD (2 * pos + 2) d0) = false then 2 * pos + 2 else 2 * pos + 1
theorem suChild_lt (xs : List Tie) (pos : Nat) (h : 2 * pos + 1 < xs.length) : suChild xs pos < xs.length ∧ pos < suChild xs pos := by
  unfold suChild; split <;> omega

/-- the hole goes down to a leaf -/
def suLoop (xs : List Tie) (pos : Nat) : List Tie × Nat :=
  if h : 2 * pos + 1 < xs.length then suLoop (xs.set pos (xs.getD (suChild xs pos) d0)) (suChild xs pos) else (xs, pos)
termination_by xs.length - pos
decreasing_by
  have := suChild_lt xs pos h
  simp only [List.length_set]
  omega

def siftup (xs : List Tie) (pos : Nat) : List Tie :=
  let r := suLoop xs pos
  siftdown (r.1.set r.2 (xs.getD pos d0)) pos r.2

def heappush (xs : List Tie) (x : Tie) : List Tie := siftdown (xs ++ [x]) 0 xs.length

/-- the rest once the least is out -/
def heappop (xs : List Tie) : List Tie := if xs.length ≤ 1 then [] else siftup ((xs.dropLast).set 0 (xs.getD (xs.length - 1) d0)) 0

def heapifyLoop (xs : List Tie) : Nat → List Tie
  | 0 => xs
  | n + 1 => heapifyLoop (siftup xs n) n
def heapify (xs : List Tie) : List Tie := heapifyLoop xs (xs.length / 2)

theorem sdLoop_length (x : Tie) (start : Nat) (xs : List Tie) (pos : Nat) : (sdLoop x start xs pos).1.length = xs.length := by
  fun_induction sdLoop x start xs pos <;> simp_all
theorem sdLoop_pos (x : Tie) (start : Nat) (xs : List Tie) (pos : Nat) : (sdLoop x start xs pos).2 ≤ pos := by
  fun_induction sdLoop x start xs pos <;> omega
theorem siftdown_length (xs : List Tie) (start pos : Nat) : (siftdown xs start pos).length = xs.length := by
  simp [siftdown, sdLoop_length]
theorem suLoop_length (xs : List Tie) (pos : Nat) : (suLoop xs pos).1.length = xs.length := by
  fun_induction suLoop xs pos <;> simp_all
theorem suLoop_pos (xs : List Tie) (pos : Nat) (h : pos < xs.length) : pos ≤ (suLoop xs pos).2 ∧ (suLoop xs pos).2 < xs.length := by
  fun_induction suLoop xs pos with
  | case1 xs pos h1 ih =>
    have := suChild_lt xs pos h1
    have ih' := ih (by simpa using this.1)
    simp only [List.length_set] at ih'
    omega
  | case2 xs pos h1 => omega
theorem siftup_length (xs : List Tie) (pos : Nat) : (siftup xs pos).length = xs.length := by
  simp [siftup, siftdown_length, suLoop_length]
theorem heappush_length (xs : List Tie) (x : Tie) : (heappush xs x).length = xs.length + 1 := by simp [heappush, siftdown_length]
theorem heappop_length (xs : List Tie) : (heappop xs).length = xs.length - 1 := by
  unfold heappop
  split
  · simp; omega
  · simp [siftup_length]
end
section
def stAt (i : Nat) : Stmt := (Challenge.pw_ir0006_01.main.body[i]?).getD (.Pass default)
def recOf : Stmt → DefRec
  | .FunctionDef name args body _ _ _ scope _ _ pos => ⟨name, args, body, scope, pos⟩
  | _ => ⟨"", ⟨[], [], none, [], [], none, []⟩, [], default, default⟩
def dPush := recOf (stAt 1)
def dPop := recOf (stAt 2)
def dHeapify := recOf (stAt 3)
def dDown := recOf (stAt 4)
def dUp := recOf (stAt 5)
def dOwn := recOf (stAt 7)
def dCut := recOf (stAt 8)
def dTies := recOf (stAt 9)
def dLead := recOf (stAt 10)
def dGrown := recOf (stAt 11)
def dGath := recOf (stAt 12)
def dSide := recOf (stAt 13)
def dWay := recOf (stAt 14)
def dLeast := recOf (stAt 15)
def allDefs : List DefRec := [dPush, dPop, dHeapify, dDown, dUp, dOwn, dCut, dTies, dLead, dGrown, dGath, dSide, dWay, dLeast]
def bltNames : List Str := ["len", "reversed", "range", "sum", "enumerate", "any", "list", "sorted", "min", "max", "repr"]


theorem mPush : dPush ∈ allDefs := .head _
theorem mPop : dPop ∈ allDefs := .tail _ (.head _)
theorem mHeapify : dHeapify ∈ allDefs := .tail _ (.tail _ (.head _))
theorem mDown : dDown ∈ allDefs := .tail _ (.tail _ (.tail _ (.head _)))
theorem mUp : dUp ∈ allDefs := .tail _ (.tail _ (.tail _ (.tail _ (.head _))))
theorem mOwn : dOwn ∈ allDefs := .tail _ (.tail _ (.tail _ (.tail _ (.tail _ (.head _)))))
theorem mCut : dCut ∈ allDefs := .tail _ (.tail _ (.tail _ (.tail _ (.tail _ (.tail _ (.head _))))))
theorem mTies : dTies ∈ allDefs := .tail _ (.tail _ (.tail _ (.tail _ (.tail _ (.tail _ (.tail _ (.head _)))))))
theorem mLead : dLead ∈ allDefs := .tail _ (.tail _ (.tail _ (.tail _ (.tail _ (.tail _ (.tail _ (.tail _ (.head _))))))))
theorem mGrown : dGrown ∈ allDefs := .tail _ (.tail _ (.tail _ (.tail _ (.tail _ (.tail _ (.tail _ (.tail _ (.tail _ (.head _)))))))))
theorem mGath : dGath ∈ allDefs := .tail _ (.tail _ (.tail _ (.tail _ (.tail _ (.tail _ (.tail _ (.tail _ (.tail _ (.tail _ (.head _))))))))))
theorem mSide : dSide ∈ allDefs := .tail _ (.tail _ (.tail _ (.tail _ (.tail _ (.tail _ (.tail _ (.tail _ (.tail _ (.tail _ (.tail _ (.head _)))))))))))
theorem mWay : dWay ∈ allDefs := .tail _ (.tail _ (.tail _ (.tail _ (.tail _ (.tail _ (.tail _ (.tail _ (.tail _ (.tail _ (.tail _ (.tail _ (.head _))))))))))))
theorem mLeast : dLeast ∈ allDefs := .tail _ (.tail _ (.tail _ (.tail _ (.tail _ (.tail _ (.tail _ (.tail _ (.tail _ (.tail _ (.tail _ (.tail _ (.tail _ (.head _)))))))))))))
end
section
set_option maxRecDepth 100000
section
variable {prog : Program} {w : World} {A : Around} {E : Value → Shared → Prop} {s : Shared}

theorem sub_ri_reversed : isSubtype (.type "range_iterator") (.type "reversed") = pure false := by rw [isSubtype_type]; kernel_rfl

abbrev rangeIt (x n c : Int) : Obj := { cls := .type "range_iterator", dict := none, data := .fields #[rawInt x, rawInt n, rawInt c], slots := #[] }

theorem rangeFields_at {r : Addr} {a b c : Int} {t u v : Tok} {Q : Int × Int × Int → Shared → Prop} (hr : IsRange s.heap r a b c t u v) (h : Q (a, b, c) s) : wpAny (model prog w) A (Builtin.Range.rangeFields (.ref r)) Q E s := by
  unfold Builtin.Range.rangeFields
  refine wpAny_bind (wpAny_field hr rfl (x := .int a t) rfl ?_)
  refine wpAny_bind (wpAny_of_eq (a := some a) rfl ?_)
  refine wpAny_bind (wpAny_field hr rfl (x := .int b u) rfl ?_)
  refine wpAny_bind (wpAny_of_eq (a := some b) rfl ?_)
  refine wpAny_bind (wpAny_field hr rfl (x := .int c v) rfl ?_)
  refine wpAny_bind (wpAny_of_eq (a := some c) rfl ?_)
  exact wpAny_pure h

theorem call_range_rev {r : Addr} {n : Nat} {t u v : Tok} {Q : Value → Shared → Prop} (hr : IsRange s.heap r 0 n 1 t u v) (hn : n ≤ 1000)
    (h : Q (.ref s.heap.objs.size) { s with heap := s.heap.push (rangeIt ((n : Int) - 1) n (-1)) }) : wpAny (model prog w) A (call (.builtin "range.__reversed__") [.ref r]) Q E s := by
  refine wpAny_call_entry F.slot_range_reversed ⟨_, hr, rfl⟩ F.entry_range_reversed ?_ (F.args_range_reversed_1 _)
  unfold Builtin.«range.__reversed__»
  refine wpAny_bind (wpAny_of_eq (a := Value.ref r) rfl ?_)
  refine wpAny_bind (rangeFields_at hr ?_)
  have hsz : Builtin.Range.rangeSize 0 n 1 = n := by
    unfold Builtin.Range.rangeSize
    rw [if_pos (by decide)]
    split <;> omega
  dsimp only
  rw [hsz]
  have hsm : (Builtin.Range.rangeFitsLong 0 && Builtin.Range.rangeFitsLong n && Builtin.Range.rangeFitsLong 1 && Builtin.Range.rangeFitsLong (-1) && Builtin.Range.rangeFitsLong (0 - 1) && Builtin.Range.rangeFitsLong n) = true := by
    simp [Builtin.Range.rangeFitsLong]; omega
  rw [hsm]
  have e1 : (0 : Int) + ((n : Int) - 1) * 1 = (n : Int) - 1 := by omega
  rw [e1]
  exact wpAny_bind (wpAny_newObj_type (wpAny_pure ⟨_, rfl, h⟩))

theorem code_rev_range {r : Addr} {n : Nat} {t u v : Tok} {Q₁ : Value → Shared → Prop} (hr : IsRange s.heap r 0 n 1 t u v) (hn : n ≤ 1000)
    (h : Q₁ (.ref s.heap.objs.size) { s with heap := s.heap.push (rangeIt ((n : Int) - 1) n (-1)) }) :
    codeAny (model prog w) A (.call (.builtin "reversed.__new__") ⟨[.type "reversed", .ref r], []⟩) (wants Q₁ E) s := by
  refine codeAny_of_tree ?_
  show wpAny _ A.in1 (do checkBuiltinCall "reversed.__new__" ⟨[.type "reversed", .ref r], []⟩; again (.builtin "reversed.__new__" ⟨[.type "reversed", .ref r], []⟩)) _ _ s
  refine wpAny_bind (wpAny_of_eq (F.newCall_reversed_1 _) (wpAny_pure ⟨plainId_quiet F.plain_reversed_new _, codeAny_builtin F.entry_reversed_new ?_⟩))
  rw [Around.under_plainId F.plain_reversed_new _]
  unfold Builtin.«reversed.__new__»
  have hT : s.TypeIs (.ref r) "range" := ⟨_, hr, rfl⟩
  refine wpAny_bind (wpAny_of_eq (newClass_reversed _) ?_)
  try dsimp only
  refine wpAny_bind (wpAny_of_eq (a := ()) (by first | rfl | kernel_rfl) ?_)
  refine wpAny_bind (wpAny_of_eq (a := ()) (by first | rfl | kernel_rfl) ?_)
  try dsimp only
  refine wpAny_bind (wpAny_specialOf hT F.slot_range_reversed.lookup ?_)
  try dsimp only
  refine wpAny_bind (wpAny_of_eq (F.slot_range_reversed.bind _) ?_)
  try dsimp only
  rw [if_neg (show ¬ ((Value.builtin "range.__reversed__" == Value.none) = true) from Bool.false_ne_true)]
  refine wpAny_bind (wpAny_rule ?_)
  refine wpAny_bind (m := runValue (.call (.builtin "range.__reversed__") ⟨[.ref r], []⟩)) (show wpAny _ _ (call (.builtin "range.__reversed__") [.ref r]) _ _ _ from call_range_rev hr hn ?_)
  first
  | exact wpAny_pure h
  | exact wpAny_bind (wpAny_pure (wpAny_pure h))

theorem call_rev_range {r : Addr} {n : Nat} {t u v : Tok} {Q : Value → Shared → Prop} (hr : IsRange s.heap r 0 n 1 t u v) (hn : n ≤ 1000)
    (h : Q (.ref s.heap.objs.size) { s with heap := s.heap.push (rangeIt ((n : Int) - 1) n (-1)) }) : wpAny (model prog w) A (call (.type "reversed") [.ref r]) Q E s := by
  refine callType_other (U := "range_iterator") (Q₁ := fun obj s₁ => obj = .ref s.heap.objs.size ∧ s₁ = { s with heap := s.heap.push (rangeIt ((n : Int) - 1) n (-1)) }) (by decide +kernel) F.create_reversed ⟨_, _, F.mro_reversed⟩ F.made_reversed sub_ri_reversed (F.typeCall_reversed_1 _) (code_rev_range hr hn ⟨rfl, rfl⟩) ?_
  rintro obj s₁ ⟨rfl, rfl⟩
  exact ⟨⟨_, Heap.get?_push_size _ rfl, rfl⟩, h⟩
end
end
section
open PySem.W (hideAll hideAll_size of_hideAll hideAll_get hideAll_none)
section
variable {prog : Program} {w : World} {A : Around} {E : Value → Shared → Prop} {σ s : Shared} {k Wh g : Heap} {L : Addr} {m mg : Str → Option Value} {l : Led} {env : Env} {rest : List Stmt}

theorem forLoop {R : Result → Shared → Prop} {target : Expr} {it : Value} {body : List Stmt} (I : Nat → Shared → Prop)
    (turn : ∀ n s, I n s → wpAny (model prog w) A (pyNext it) (fun r s₁ => match r with
      | none => R (.ok .next) s₁
      | some v => wpAny (model prog w) A (letOwnedTupleGo target it v) (fun _ s₂ => wpAny (model prog w) A (assign target env v) (fun _ s₃ => wpAny (model prog w) A (execs body env) (fun f s₄ => match f with
          | .next | .cont => ∃ j, j < n ∧ I j s₄
          | .brk => R (.ok .next) s₄
          | .ret v => R (.ok (.ret v)) s₄) NoE s₃) NoE s₂) NoE s₁) NoE s)
    (n : Nat) (h : I n s) : codeAny (model prog w) A (.forLoop target it body [] env) R s := by
  refine codeAny_loop' rfl I (fun n s hI => ?_) n h
  show wpAny _ _ ((forTurn target it body [] env).onRaise (fun x => do noteFrame x env; theTreesLotGoes x)) _ _ s
  refine wpAny_noted ?_
  simp only [forTurn]
  refine wpAny_bind (wpAny_standAt (wpAny_bind (wpAny_onRaise (wpAny_mono (turn n s hI) (fun r s₁ h₁ => ?_) fun _ _ z => z.elim))))
  cases r with
  | none => exact wpAny_pure (.inr ⟨rfl, codeAny_block (wpAny_execs_nil h₁)⟩)
  | some v =>
    refine wpAny_bind (wpAny_mono h₁ (fun _ s₂ h₂ => wpAny_bind (wpAny_mono h₂ (fun _ s₃ h₃ => wpAny_bind (wpAny_mono h₃ (fun f s₄ h₄ => ?_) fun _ _ z => z.elim)) fun _ _ z => z.elim)) fun _ _ z => z.elim)
    cases f with
    | next => exact wpAny_pure (.inl ⟨rfl, h₄⟩)
    | cont => exact wpAny_pure (.inl ⟨rfl, h₄⟩)
    | brk => exact wpAny_pure h₄
    | ret v => exact wpAny_pure h₄

/-- an iterator, walked from place to place; the owner of its own lets tuples go -/
structure Itr (prog : Program) (w : World) (A : Around) (target : Expr) (I : Addr) (fp wr : List Addr) (n : Nat) (P : Nat → Shared → Value → Prop) (St : Nat → Heap → Prop) : Prop where
  sub : ∀ b ∈ wr, b ∈ fp
  frame : ∀ i h h', St i h → (∀ b ∈ fp, ∀ o, h.get? b = some o → h'.get? b = some o) → St i h'
  there : ∀ i h, St i h → ∀ b ∈ fp, ∃ o, h.get? b = some o
  item : ∀ i (s : Shared) (Q : Unit → Value → Shared → Prop), i < n → St i s.heap →
    (∀ v s', P i s' v → St (i + 1) s'.heap → MoreBut wr s s' → Q () v s') → wpAny (model prog w) A (pyNext (.ref I)) (fun r s₁ => ∃ v, r = some v ∧ wpAny (model prog w) A (letOwnedTupleGo target (.ref I) v) (fun u s₂ => Q u v s₂) NoE s₁) NoE s
  done : ∀ (s : Shared) (Q : Option Value → Shared → Prop), St n s.heap → (∀ s', MoreBut wr s s' → Q none s') → wpAny (model prog w) A (pyNext (.ref I)) Q NoE s

theorem Itr.ofWalks {target : Expr} {I : Addr} {fp wr : List Addr} {n : Nat} {P : Nat → Value → Prop} {St : Nat → Heap → Prop} (W : Walks prog w A I fp wr n P St) (hal : ∀ i h, St i h → ∀ b ∈ fp, ∃ o, h.get? b = some o)
    (ht : ∀ v, letOwnedTupleGo target (.ref I) v = pure () := by intro _; rfl) : Itr prog w A target I fp wr n (fun i _ v => P i v) St where
  sub := W.sub
  frame := W.frame
  there := hal
  item := fun i s Q hi st h => W.item i s _ _ hi st fun v h' tk hP hst hk => ⟨v, rfl, wpAny_of_eq (ht v) (h v _ hP hst ⟨fun b o hb e => hk b o hb e, rfl, rfl, rfl⟩)⟩
  done := fun s Q st h => W.done s _ _ st fun h' tk hk => h _ ⟨fun b o hb e => hk b o hb e, rfl, rfl, rfl⟩

/-- new things of g' stand where k' has none -/
def Gr (k' g g' : Heap) : Prop := g.StaysIn g' ∧ ∀ b o, g'.get? b = some o → g.get? b = some o ∨ k'.get? b = none
theorem Gr.refl {k' g : Heap} : Gr k' g g := ⟨fun _ _ e => e, fun _ _ e => .inl e⟩

theorem for_itr {X : Type} {target : Expr} {I : Addr} {fp wr : List Addr} {n : Nat} {P : Nat → Shared → Value → Prop} {St : Nat → Heap → Prop} {body : List Stmt} {Q : Flow → Shared → Prop} (W : Itr prog w A target I fp wr n P St) (G : X → Heap)
    (J : Nat → X → (Str → Option Value) → Led → Prop) (x₀ : X) {m₀ : Str → Option Value} {l₀ : Led} (F₀ : Fx σ k L s m₀ l₀) (hkL : k.get? L = none) (hG : (G x₀).StaysIn k) (hwr : ∀ b ∈ wr, k.get? b = none) (hfp : ∀ b ∈ fp, b ≠ L ∧ b ∉ l₀.map (·.1)) (hst : St 0 s.heap) (hJ : J 0 x₀ m₀ l₀)
    (turn : ∀ i v k' s x m l, i < n → P i s v → J i x m l → k.StaysIn k' → (G x).StaysIn k' → k'.get? L = none → Fx σ k' L s m l →
      wpAny (model prog w) A (assign target env v) (fun _ s₂ => wpAny (model prog w) A (execs body env) (fun f s₃ => match f with
        | .next | .cont => ∃ x' m' l' k'', J (i + 1) x' m' l' ∧ k'.StaysIn k'' ∧ (G x').StaysIn k'' ∧ Gr k' (G x) (G x') ∧ k''.get? L = none ∧ Fx σ k'' L s₃ m' l'
        | .brk => wpAny (model prog w) A (execs rest env) Q NoE s₃
        | .ret v => Q (.ret v) s₃) NoE s₂) NoE s)
    (done : ∀ x m l k' s', J n x m l → k.StaysIn k' → (G x).StaysIn k' → k'.get? L = none → Fx σ k' L s' m l → wpAny (model prog w) A (execs rest env) Q NoE s') :
    codeAny (model prog w) A (.forLoop target (.ref I) body [] env) (fun r s' => match r with | .ok f => (match f with | .next => wpAny (model prog w) A (execs rest env) Q NoE s' | f => Q f s') | .error _ => False) s := by
  -- rebase: all that stands but L and the ledger is kept
  have rebase : ∀ {kk : Heap} {s : Shared} {m : Str → Option Value} {l : Led}, Fx σ kk L s m l → Fx σ (hideAll s.heap (L :: l.map (·.1))) L s m l := fun {kk s m l} F =>
    ⟨F.ns, fun b o e => of_hideAll _ e, fun p hp => ⟨(F.led p hp).1, (F.led p hp).2.1, hideAll_none _ (.tail _ (List.mem_map_of_mem hp))⟩, F.nd, F.rest⟩
  have inre : ∀ {kk : Heap} {s : Shared} {m : Str → Option Value} {l : Led}, Fx σ kk L s m l → kk.get? L = none → kk.StaysIn (hideAll s.heap (L :: l.map (·.1))) := fun {kk s m l} F hL b o e => by
    refine hideAll_get _ (F.keep b o e) fun hm => ?_
    rcases List.mem_cons.mp hm with q | q
    · rw [q, hL] at e; cases e
    · obtain ⟨p, hp, rfl⟩ := List.mem_map.mp q
      rw [(F.led p hp).2.2] at e; cases e
  let Inv : Nat → Shared → Prop := fun c s => ∃ i x m l kk, c = n - i ∧ i ≤ n ∧ J i x m l ∧ k.StaysIn kk ∧ (G x).StaysIn kk ∧ (∀ b ∈ wr, kk.get? b = none) ∧ kk.get? L = none ∧ Fx σ kk L s m l ∧ (∀ b ∈ fp, b ≠ L ∧ b ∉ l.map (·.1)) ∧ St i s.heap
  refine forLoop Inv (fun c s hI => ?_) n ⟨0, x₀, m₀, l₀, k, by simp, Nat.zero_le _, hJ, fun _ _ e => e, hG, hwr, hkL, F₀, hfp, hst⟩
  obtain ⟨i, x, m, l, kk, rfl, hin, hJ, hk, hg, hw, hL, F, hf, st⟩ := hI
  have after : ∀ s', MoreBut wr s s' → Fx σ kk L s' m l := fun s' M => by
    refine ⟨F.ns.at' fun o e => M.keep _ o (fun hb => (hf _ (W.sub _ hb)).1 rfl) e, fun b o e => M.keep b o (fun hb => by rw [hw b hb] at e; cases e) (F.keep b o e),
      fun p hp => ⟨celOf (F.led p hp).1 fun o e => M.keep _ o (fun hb => (hf _ (W.sub _ hb)).2 (List.mem_map_of_mem hp)) e, (F.led p hp).2⟩, F.nd, M.rest.1.trans F.rest.1, M.rest.2.1.trans F.rest.2.1, M.rest.2.2.trans F.rest.2.2⟩
  by_cases hlt : i < n
  · refine wpAny_mono (W.item i s (fun _ v s₂ => wpAny (model prog w) A (assign target env v) (fun _ s₃ => wpAny (model prog w) A (execs body env) (fun f s₄ => match f with
          | .next | .cont => ∃ j, j < n - i ∧ Inv j s₄
          | .brk => wpAny (model prog w) A (execs rest env) Q NoE s₄
          | .ret v => Q (.ret v) s₄) NoE s₃) NoE s₂) hlt st fun v s₁ hP st₁ M => ?_) (fun r s₁ hr => ?_) fun _ _ z => z
    · have F₁ := after s₁ M
      have F₂ := rebase F₁
      have hkk := inre F₁ hL
      refine wpAny_mono (turn i v _ s₁ x m l hlt hP hJ (fun b o e => hkk b o (hk b o e)) (fun b o e => hkk b o (hg b o e)) (hideAll_none _ (.head _)) F₂) (fun _ s₂ h₂ => wpAny_mono h₂ (fun f s₃ h₃ => ?_) fun _ _ z => z) fun _ _ z => z
      have fin : (∃ x' m' l' k'', J (i + 1) x' m' l' ∧ (hideAll s₁.heap (L :: l.map (·.1))).StaysIn k'' ∧ (G x').StaysIn k'' ∧ Gr (hideAll s₁.heap (L :: l.map (·.1))) (G x) (G x') ∧ k''.get? L = none ∧ Fx σ k'' L s₃ m' l') → ∃ j, j < n - i ∧ Inv j s₃ := by
        rintro ⟨x', m', l', k'', hJ', hk'', hg'', hgr, hL'', F₃⟩
        have hfk : ∀ b ∈ fp, ∀ o, s₁.heap.get? b = some o → (hideAll s₁.heap (L :: l.map (·.1))).get? b = some o := fun b hb o e => hideAll_get _ e fun hm => by
          rcases List.mem_cons.mp hm with q | q
          · exact (hf b hb).1 q
          · exact (hf b hb).2 q
        have hkw : ∀ b, b ∈ wr → ∀ o, (G x').get? b = some o → False := fun b hb o e => by
          rcases hgr.2 b o e with q | q
          · have := hg b o q; rw [hw b hb] at this; cases this
          · obtain ⟨o', e'⟩ := W.there _ _ st₁ b (W.sub b hb)
            rw [hfk b (W.sub b hb) o' e'] at q; cases q
        refine ⟨n - (i + 1), by omega, i + 1, x', m', l', hideAll k'' wr, rfl, hlt, hJ', fun b o e => hideAll_get _ (hk'' b o (hkk b o (hk b o e))) fun hb => ?_, fun b o e => hideAll_get _ (hg'' b o e) fun hb => hkw b hb o e,
          fun b hb => hideAll_none _ hb, ?_, F₃.mono_k fun b o e => of_hideAll _ e, fun b hb => ⟨(hf b hb).1, fun hm => ?_⟩, W.frame _ _ _ st₁ fun b hb o e => F₃.keep b o (hk'' b o (hfk b hb o e))⟩
        · have := hk b o e; rw [hw b hb] at this; cases this
        · cases q : (hideAll k'' wr).get? L with
          | none => rfl
          | some o => have := of_hideAll _ q; rw [hL''] at this; cases this
        · obtain ⟨p, hp, rfl⟩ := List.mem_map.mp hm
          obtain ⟨o', e'⟩ := W.there _ _ st₁ _ hb
          have := hk'' _ _ (hfk _ hb o' e')
          rw [(F₃.led p hp).2.2] at this; cases this
      cases f with
      | next => exact fin h₃
      | cont => exact fin h₃
      | brk => exact h₃
      | ret v => exact h₃
    · obtain ⟨v, rfl, h₁⟩ := hr
      exact h₁
  · have e : i = n := by omega
    subst e
    refine W.done s _ st fun s' M => ?_
    exact done x m l kk s' hJ hk hg hL (after s' M)
end
end
section
open PySem.W (hideAll hideAll_size of_hideAll hideAll_get hideAll_none)
section
variable {prog : Program} {w : World} {A : Around} {E : Value → Shared → Prop} {σ s : Shared} {k Wh g : Heap} {L : Addr} {m mg : Str → Option Value} {l : Led} {env : Env} {rest : List Stmt}

abbrev ForR (prog : Program) (w : World) (A : Around) (env : Env) (rest : List Stmt) (Q : Flow → Shared → Prop) : Result → Shared → Prop :=
  fun r s' => match r with | .ok f => (match f with | .next => wpAny (model prog w) A (execs rest env) Q NoE s' | f => Q f s') | .error _ => False

theorem x_for {target iter : Expr} {body : List Stmt} {p : Pos} {Q : Flow → Shared → Prop}
    (h : wpAny (model prog w) A (eval iter env) (fun x s₁ => wpAny (model prog w) A (pyIter x) (fun it s₂ => codeAny (model prog w) A (.forLoop target it body [] env) (ForR prog w A env rest Q) s₂) NoE s₁) NoE s)
    (hs : ∀ x, foldedSetIterable iter env x = pure x := by intro _; rfl) : wpAny (model prog w) A (execs (.For target iter body [] p :: rest) env) Q NoE s := by
  refine wpAny_execs_cons (wpAny_For (wpAny_mono h (fun x s₁ h₁ => wpAny_mono h₁ (fun it s₂ h₂ => codeAny_mono h₂ fun r s' hr => ?_) fun _ _ z => z) fun _ _ z => z) hs)
  cases r with
  | ok f => cases f <;> exact hr
  | error e => exact hr.elim

-- the iterators
theorem letgo_list {target : Expr} {I a : Addr} {i : Nat} {v : Value} {Q : Unit → Shared → Prop} (hit : s.heap.IsListIter I a i) (h : Q () s) : wpAny (model prog w) A (letOwnedTupleGo target (.ref I) v) Q E s := by
  obtain ⟨o, ho, hc, hd⟩ := hit
  cases v with
  | ref b =>
    cases target with
    | Tuple elts c pos => exact wpAny_letOwnedTupleGo_listiter ⟨o, ho, hc, hd⟩ h
    | List elts pos =>
      unfold letOwnedTupleGo
      refine wpAny_bind (wpAny_load ho ?_)
      rw [hc, hd]
      dsimp only
      rw [if_neg]
      · exact wpAny_pure h
      · intro q
        rw [show (["enumerate", "zip", "dict_itemiterator", "dict_reverseitemiterator", "odict_iterator", "itertools.zip_longest", "itertools.pairwise"].contains "list_iterator") = false from by decide, Bool.false_and] at q
        cases q
    | _ => exact wpAny_pure h
  | _ => cases target <;> exact wpAny_pure h

theorem Itr.list {target : Expr} (hh : A.handled = none) (I ax : Addr) (hne : ax ≠ I) (vs : List Value) :
    Itr prog w A target I [I, ax] [I] vs.length (fun i _ v => vs[i]? = some v) (fun i h => h.IsListIter I ax i ∧ h.IsList ax vs.toArray) where
  sub := fun b hb => by simp at hb; simp [hb]
  frame := fun _ _ _ st hk => ⟨st.1.at fun o e => hk I (by simp) o e, st.2.at fun o e => hk ax (by simp) o e⟩
  there := fun i h st b hb => by
    simp only [List.mem_cons, List.not_mem_nil, or_false] at hb
    rcases hb with rfl | rfl
    · obtain ⟨o, ho, _⟩ := st.1; exact ⟨o, ho⟩
    · obtain ⟨o, ho, _⟩ := st.2; exact ⟨o, ho⟩
  item := fun i s Q hi st h => by
    refine wpAny_pyNext_list_item st.1 st.2 (x := vs[i]) (by simp [hi]) fun h' hit' hs' => ?_
    have M : MoreBut [I] s { s with heap := h' } := MoreBut.sameBut (t := s.toks) hs'
    exact ⟨vs[i], rfl, letgo_list hit' (h _ _ (by simp [hi]) ⟨hit', st.2.extBut hs'.extBut hne⟩ M)⟩
  done := fun s Q st h => wpAny_pyNext_list_end hh st.1 st.2 (by simp) fun h' he' => h { s with heap := h' } ⟨fun b o hb e => he' b o (by simpa using hb) e, rfl, rfl, rfl⟩

theorem Itr.range {x : Str} {px : Pos} (hh : A.handled = none) (I : Addr) (a c : Int) (n : Nat) :
    Itr prog w A (.Name x px) I [I] [I] n (fun i _ v => ∃ t, v = .int (a + i * c) t) (fun i h => IsRangeIter h I (a + (i : Nat) * c) ((n : Int) - (i : Nat)) c) :=
  Itr.ofWalks (Walks.range hh I a c n) (fun i h st b hb => by rw [List.mem_singleton.mp hb]; exact ⟨_, st⟩)

/-- a list, walked; it stands kept meanwhile -/
theorem for_list {X : Type} {target : Expr} {a : Addr} {vs : List Value} {body : List Stmt} {Q : Flow → Shared → Prop} (hh : A.handled = none) (F : Fx σ k L s m l) (hkL : k.get? L = none) (hl : s.heap.PlainList a vs.toArray) (l₀ : Led) (hsub : ∀ p ∈ l₀, p ∈ l) (hnd : (l₀.map (·.1)).Nodup)
    (ha : a ∉ l₀.map (·.1)) (G : X → Heap) (J : Nat → X → (Str → Option Value) → Led → Prop) (x₀ : X) (hG : (G x₀).StaysIn k) (hJ : J 0 x₀ m l₀)
    (turn : ∀ i v k' s x m l, vs[i]? = some v → J i x m l → k.StaysIn k' → k'.PlainList a vs.toArray → (G x).StaysIn k' → k'.get? L = none → Fx σ k' L s m l →
      wpAny (model prog w) A (assign target env v) (fun _ s₂ => wpAny (model prog w) A (execs body env) (fun f s₃ => match f with
        | .next | .cont => ∃ x' m' l' k'', J (i + 1) x' m' l' ∧ k'.StaysIn k'' ∧ (G x').StaysIn k'' ∧ Gr k' (G x) (G x') ∧ k''.get? L = none ∧ Fx σ k'' L s₃ m' l'
        | .brk => wpAny (model prog w) A (execs rest env) Q NoE s₃
        | .ret v => Q (.ret v) s₃) NoE s₂) NoE s)
    (done : ∀ x m l k' s', J vs.length x m l → k.StaysIn k' → k'.PlainList a vs.toArray → (G x).StaysIn k' → k'.get? L = none → Fx σ k' L s' m l → wpAny (model prog w) A (execs rest env) Q NoE s') :
    wpAny (model prog w) A (pyIter (.ref a)) (fun it s₂ => codeAny (model prog w) A (.forLoop target it body [] env) (ForR prog w A env rest Q) s₂) NoE s := by
  refine wpAny_pyIter_list (plain_isList hl) ?_
  obtain ⟨na, ea⟩ := hl
  have haL : a ≠ L := fun q => by
    obtain ⟨o, es, ep, ho, hd, _⟩ := F.ns
    rw [← q, ea] at ho
    cases ho; cases hd
  have F₀ := (F.sub hsub hnd).more (More.push s { cls := .type "list_iterator", data := .fields #[.ref a, .int 0 0] })
  have hsz : ∀ b o, s.heap.get? b = some o → b ≠ s.heap.objs.size := fun b o e => Nat.ne_of_lt (Heap.lt_size e)
  have hLs : L ≠ s.heap.objs.size := by obtain ⟨o, _, _, ho, _⟩ := F.ns; exact hsz _ _ ho
  -- all of old that is not L's or the ledger's
  have F₁ : Fx σ (hideAll s.heap (L :: l₀.map (·.1))) L { s with heap := s.heap.push { cls := .type "list_iterator", data := .fields #[.ref a, .int 0 0] } } m l₀ :=
    ⟨F₀.ns, fun b o e => Heap.get?_push_of_some _ (of_hideAll _ e), fun p hp => ⟨(F₀.led p hp).1, (F₀.led p hp).2.1, hideAll_none _ (.tail _ (List.mem_map_of_mem hp))⟩, F₀.nd, F₀.rest⟩
  have hin : k.StaysIn (hideAll s.heap (L :: l₀.map (·.1))) := fun b o e => by
    refine hideAll_get _ (F.keep b o e) fun hm => ?_
    rcases List.mem_cons.mp hm with q | q
    · rw [q, hkL] at e; cases e
    · obtain ⟨p, hp, rfl⟩ := List.mem_map.mp q
      rw [(F.led p (hsub p hp)).2.2] at e; cases e
  have hal : (hideAll s.heap (L :: l₀.map (·.1))).PlainList a vs.toArray := ⟨na, hideAll_get _ ea fun hm => by
    rcases List.mem_cons.mp hm with q | q
    · exact haL q
    · exact ha q⟩
  have hIa : a ≠ s.heap.objs.size := hsz _ _ ea
  refine for_itr (Itr.list hh s.heap.objs.size a hIa vs) G J x₀ F₁ (hideAll_none _ (.head _)) (fun b o e => hin b o (hG b o e)) (fun b hb => ?_) (fun b hb => ?_) ⟨⟨_, Heap.get?_push_size _ rfl, rfl, rfl⟩, ⟨_, Heap.get?_push_of_some _ ea, rfl, na, rfl⟩⟩ hJ
    (fun i v k' s x m l hlt hP hJ hk hg hL F => turn i v k' s x m l hP hJ (fun b o e => hk b o (hin b o e)) (let ⟨n, e⟩ := hal; ⟨n, hk _ _ e⟩) hg hL F)
    (fun x m l k' s' hJ hk hg hL F => done x m l k' s' hJ (fun b o e => hk b o (hin b o e)) (let ⟨n, e⟩ := hal; ⟨n, hk _ _ e⟩) hg hL F)
  · rw [List.mem_singleton.mp hb]
    cases q : (hideAll s.heap (L :: l₀.map (·.1))).get? s.heap.objs.size with
    | none => rfl
    | some o => exact absurd rfl (hsz _ _ (of_hideAll _ q))
  · simp only [List.mem_cons, List.not_mem_nil, or_false] at hb
    rcases hb with rfl | rfl
    · refine ⟨hLs.symm, fun hm => ?_⟩
      obtain ⟨p, hp, q⟩ := List.mem_map.mp hm
      obtain ⟨o, e⟩ := celEx (F.led p (hsub p hp)).1
      exact hsz _ _ e q
    · exact ⟨haL, ha⟩

-- targets
theorem as_name {x : Str} {px : Pos} {v : Value} {Q : Unit → Shared → Prop} (h : wpAny (model prog w) A (storeName env x v) Q E s) : wpAny (model prog w) A (assign (.Name x px) env v) Q E s := wpAny_assign_Name h
theorem as_tup {elts : List Expr} {c : Nat} {pos : Pos} {t : Addr} {items : List Value} {Q : Unit → Shared → Prop} (hh : A.handled = none) (F : Fx σ k L s m l) (ht : s.heap.IsTuple t items.toArray)
    (h : ∀ s', Fx σ k L s' m l → wpAny (model prog w) A (assignInOrder ((assignEach elts env).map fun x => x.2) items) Q E s')
    (hlen : (assignEach elts env).length = items.length := by rfl) (hst : (assignEach elts env).findIdx? (fun x => x.1) = none := by rfl) : wpAny (model prog w) A (assign (.Tuple elts c pos) env (.ref t)) Q E s := by
  refine wpAny_assign_Tuple hh ht (by simpa using hlen) hst fun h' he => ?_
  have := h { s with heap := h' } (F.more ⟨fun b o e => he b o (Nat.ne_of_lt (Heap.lt_size e)) e, rfl, rfl, rfl⟩)
  simpa using this
theorem x_tup {elts : List Expr} {c : Nat} {tp p : Pos} {e : Expr} {Q : Flow → Shared → Prop} (h : wpAny (model prog w) A (eval e env) (fun v s₁ => wpAny (model prog w) A (assign (.Tuple elts c tp) env v) (fun _ s₂ => wpAny (model prog w) A (execs rest env) Q E s₂) E s₁) E s)
    (hs : swapsWithSole [.Tuple elts c tp] e p.line env = pure false := by rfl) (hn : swappedStores [.Tuple elts c tp] e env = pure none := by rfl) : wpAny (model prog w) A (execs (.Assign [.Tuple elts c tp] e p :: rest) env) Q E s :=
  wpAny_execs_cons (Assign_Tuple h hs hn)
theorem x_tupS {elts : List Expr} {c : Nat} {tp p : Pos} {e : Expr} {n1 n2 : Str} {Q : Flow → Shared → Prop} (hh : A.handled = none)
    (h : wpAny (model prog w) A (eval e env) (fun v s₁ => ∃ t v1 v2 σ k L m l, v = .ref t ∧ s₁.heap.IsTuple t #[v1, v2] ∧ Fx σ k L s₁ m l ∧ ∀ s₂, Fx σ k L s₂ m l → wpAny (model prog w) A (storeName env n2 v2) (fun _ s₃ => wpAny (model prog w) A (storeName env n1 v1) (fun _ s₄ => wpAny (model prog w) A (execs rest env) Q E s₄) E s₃) E s₂) E s)
    (hs : swapsWithSole [.Tuple elts c tp] e p.line env = pure false := by rfl) (hn : swappedStores [.Tuple elts c tp] e env = pure (some [n1, n2]) := by rfl) : wpAny (model prog w) A (execs (.Assign [.Tuple elts c tp] e p :: rest) env) Q E s := by
  refine wpAny_execs_cons (Assign_Tuple_swapped (wpAny_mono h (fun v s₁ h₁ => ?_) fun _ _ z => z) hs hn)
  obtain ⟨t, v1, v2, σ, k, L, m, l, rfl, ht, F, h₂⟩ := h₁
  refine wpAny_unpackItems_tuple (items := #[v1, v2]) hh ht fun h' he => ?_
  have h₃ := h₂ { s₁ with heap := h' } (F.more ⟨fun b o e => he b o (Nat.ne_of_lt (Heap.lt_size e)) e, rfl, rfl, rfl⟩)
  show wpAny (model prog w) A (assignInOrder [bindName env n2, bindName env n1] [v2, v1]) _ _ _
  exact wpAny_assignInOrder_more (wpAny_bindName (wpAny_mono h₃ (fun _ s₃ h₄ => wpAny_assignInOrder_more (wpAny_bindName (wpAny_mono h₄ (fun _ s₄ h₅ => wpAny_assignInOrder_none h₅) fun _ _ z => z))) fun _ _ z => z))
end
end
section
section
variable {prog : Program} {w : World} {A : Around} {E : Value → Shared → Prop} {σ s : Shared} {k Wh g : Heap} {L : Addr} {m mg : Str → Option Value} {l : Led} {env : Env} {rest : List Stmt}

abbrev rangeO (n : Int) (t u v : Tok) : Obj := { cls := .type "range", data := .fields #[.int 0 t, .int n u, .int 1 v] }
theorem r_range {n : Int} {u : Tok} {Q : Value → Shared → Prop} (F : Fx σ k L s m l) (h : ∀ a t v s', Fx σ k L s' m ((a, .obj (rangeO n t u v)) :: l) → Q (.ref a) s') : wpAny (model prog w) A (call (.type "range") [.int n u]) Q E s := by
  refine call_range_1 (h _ s.toks (s.toks + 1) _ ?_)
  exact F.add (s' := { s with heap := s.heap.push (rangeO n s.toks u (s.toks + 1)), toks := s.toks + 1 + 1 }) (More.heap fun _ _ e => Heap.get?_push_of_some _ e) (fresh_size _) (Heap.get?_push_size _ rfl)
theorem r_revRange {n : Int} {j : Nat} {a : Addr} {t u v : Tok} {Q : Value → Shared → Prop} (F : Fx σ k L s m l) (ha : (a, Cel.obj (rangeO n t u v)) ∈ l) (hj : n = j) (hz : j ≤ 1000) (h : ∀ b s', Fx σ k L s' m ((b, .obj (rangeIt ((j : Int) - 1) j (-1))) :: l) → Q (.ref b) s') :
    wpAny (model prog w) A (call (.type "reversed") [.ref a]) Q E s := by
  subst hj
  exact call_rev_range (F.cel ha) hz (h _ _ (F.add (More.push s _) (fresh_size _) (Heap.get?_push_size _ rfl)))

theorem for_range {X : Type} {x0 : Str} {px : Pos} {a c : Int} {n : Nat} {b : Addr} {body : List Stmt} {Q : Flow → Shared → Prop} (hh : A.handled = none) (F : Fx σ k L s m ((b, .obj (rangeIt a n c)) :: l)) (hkL : k.get? L = none) (G : X → Heap)
    (J : Nat → X → (Str → Option Value) → Led → Prop) (x₀ : X) (l₀ : Led) (hsub : ∀ p ∈ l₀, p ∈ l) (hnd : (l₀.map (·.1)).Nodup) (hG : (G x₀).StaysIn k) (hJ : J 0 x₀ m l₀)
    (turn : ∀ i t k' s x m l, i < n → J i x m l → k.StaysIn k' → (G x).StaysIn k' → k'.get? L = none → Fx σ k' L s m l →
      wpAny (model prog w) A (storeName env x0 (.int (a + (i : Nat) * c) t)) (fun _ s₂ => wpAny (model prog w) A (execs body env) (fun f s₃ => match f with
        | .next | .cont => ∃ x' m' l' k'', J (i + 1) x' m' l' ∧ k'.StaysIn k'' ∧ (G x').StaysIn k'' ∧ Gr k' (G x) (G x') ∧ k''.get? L = none ∧ Fx σ k'' L s₃ m' l'
        | .brk => wpAny (model prog w) A (execs rest env) Q NoE s₃
        | .ret v => Q (.ret v) s₃) NoE s₂) NoE s)
    (done : ∀ x m l k' s', J n x m l → k.StaysIn k' → (G x).StaysIn k' → k'.get? L = none → Fx σ k' L s' m l → wpAny (model prog w) A (execs rest env) Q NoE s') :
    wpAny (model prog w) A (pyIter (.ref b)) (fun it s₂ => codeAny (model prog w) A (.forLoop (.Name x0 px) it body [] env) (ForR prog w A env rest Q) s₂) NoE s := by
  have hb : IsRangeIter s.heap b a n c := F.cel (c := .obj (rangeIt a n c)) (.head _)
  have hled := F.led _ (.head _)
  have hnb : b ∉ l.map (·.1) := by have := F.nd; rw [List.map_cons] at this; exact (List.nodup_cons.mp this).1
  refine wpAny_pyIter_rangeiter hb ?_
  refine for_itr (Itr.range hh b a c n) G J x₀ (F.sub (fun p hp => .tail _ (hsub p hp)) hnd) hkL hG (fun b' hb' => by rw [List.mem_singleton.mp hb']; exact hled.2.2) (fun b' hb' => ?_) ?_ hJ (fun i v k' s x m l hlt hP hJ hk hg hL F => ?_)
    (fun x m l k' s' hJ hk hg hL F => done x m l k' s' hJ hk hg hL F)
  · rw [List.mem_singleton.mp hb']
    exact ⟨hled.2.1, fun hm => hnb (by
      obtain ⟨p, hp, q⟩ := List.mem_map.mp hm
      exact List.mem_map.mpr ⟨p, hsub p hp, q⟩)⟩
  · simpa using hb
  · obtain ⟨t, rfl⟩ := hP
    exact as_name (turn i t k' s x m l hlt hJ hk hg hL F)
end
end
section
section
variable {prog : Program} {w : World} {A : Around} {E : Value → Shared → Prop} {σ s : Shared} {k Wh g : Heap} {L : Addr} {m mg : Str → Option Value} {l : Led} {env : Env} {rest : List Stmt}

/-- what is asked of a comprehension's test and element, in any state that has all of s₁ -/
structure CompIn (prog : Program) (w : World) (A : Around) (env : Env) (scope : Scope) (cl : List (Str × Addr)) (x : Str) (ifs : List Expr) (elt : Expr) (P : Value → Prop) (p : Value → Bool) (R : Value → Value → Prop) (s₁ : Shared) : Prop where
  tests : ∀ C v s₃ m₃, P v → (∀ b o, s₁.heap.get? b = some o → s₃.heap.get? b = some o) → Fx s₃ s₃.heap C s₃ m₃ [] → m₃ x = some v →
    wpAny (model prog w) A (forIn ifs true fun c r => if r = true then do let ok ← PySem.isTrue c (compEnvC scope cl C env) (eval c (compEnvC scope cl C env)); pure (ForInStep.yield ok) else pure (ForInStep.yield r)) (fun ok s₄ => ok = p v ∧ More s₃ s₄) NoE s₃
  elt : ∀ C v s₃ m₃, P v → p v = true → (∀ b o, s₁.heap.get? b = some o → s₃.heap.get? b = some o) → Fx s₃ s₃.heap C s₃ m₃ [] → m₃ x = some v → wpAny (model prog w) A (eval elt (compEnvC scope cl C env)) (fun y s₄ => R v y ∧ More s₃ s₄) NoE s₃

theorem test_none {p : Value → Bool} {v : Value} {f : Expr → Bool → Sem (ForInStep Bool)} (h : p v = true) : wpAny (model prog w) A (forIn ([] : List Expr) true f) (fun ok s₄ => ok = p v ∧ More s s₄) E s := by
  rw [List.forIn_nil]; exact wpAny_pure ⟨h.symm, More.refl s⟩
theorem test_one {c : Expr} {cenv : Env} {Q : Bool → Shared → Prop} (h : wpAny (model prog w) A (PySem.isTrue c cenv (eval c cenv)) Q E s) :
    wpAny (model prog w) A (forIn [c] true fun c r => if r = true then do let ok ← PySem.isTrue c cenv (eval c cenv); pure (ForInStep.yield ok) else pure (ForInStep.yield r)) Q E s := by
  rw [List.forIn_cons]
  refine wpAny_bind ?_
  rw [if_pos rfl]
  refine wpAny_bind (wpAny_mono h (fun ok s' hq => wpAny_pure ?_) fun _ _ z => z)
  dsimp only
  rw [List.forIn_nil]
  exact wpAny_pure hq

theorem inner {s₃ : Shared} {C : Addr} {m₃ : Str → Option Value} (hn : s₃.heap.Ns C m₃) : Fx s₃ s₃.heap C s₃ m₃ [] := ⟨hn, fun _ _ e => e, (fun _ hp => nomatch hp), List.nodup_nil, rfl, rfl, rfl⟩

theorem quiet {scope : Scope} {cl : List (Str × Addr)} {x : Str} {ifs : List Expr} {elt : Expr} {P : Value → Prop} {p : Value → Bool} {R : Value → Value → Prop} {s₁ s₂ : Shared} {wr : List Addr} {P' : Nat → Value → Prop}
    (h : CompIn prog w A env scope cl x ifs elt P p R s₁) (h12 : ∀ b o, s₁.heap.get? b = some o → b ∉ wr ∧ s₂.heap.get? b = some o) (hP : ∀ i v, P' i v → P v) : QuietOnC prog w A env scope cl x ifs elt wr P' p R s₂ where
  tests := fun C i v s₃ m₃ E' _ hv hn hm hk _ => wpAny_mono (h.tests C v s₃ m₃ (hP i v hv) (fun b o e => hk b o (h12 b o e).1 (h12 b o e).2) (inner hn) hm) (fun ok s₄ hq => ⟨hq.1, hq.2.toKeeps⟩) fun _ _ z => z.elim
  elt := fun C i v s₃ m₃ E' _ hv hpv hn hm hk _ => wpAny_mono (h.elt C v s₃ m₃ (hP i v hv) hpv (fun b o e => hk b o (h12 b o e).1 (h12 b o e).2) (inner hn) hm) (fun ok s₄ hq => ⟨hq.1, hq.2.toKeeps⟩) fun _ _ z => z.elim

theorem list_eq_of {vs us : List Value} (hl : us.length = vs.length) (h : ∀ (j : Nat) (v : Value), us[j]? = some v → vs[j]? = some v) : us = vs := by
  apply List.ext_getElem? 
  intro j
  by_cases hj : j < us.length
  · have := h j us[j] (by simp [hj])
    rw [this]; simp [hj]
  · rw [List.getElem?_eq_none (by omega), List.getElem?_eq_none (by omega)]

theorem size_ne {h : Heap} {b : Addr} {o : Obj} (e : h.get? b = some o) : b ≠ h.objs.size := Nat.ne_of_lt (Heap.lt_size e)

theorem e_compL {elt iter : Expr} {x : Str} {px : Pos} {ifs : List Expr} {scope : Scope} {pos : Pos} {Q : Value → Shared → Prop} (p : Value → Bool) (R : Value → Value → Prop) (cl : List (Str × Addr)) (hh : A.handled = none)
    (h : wpAny (model prog w) A (eval iter env) (fun xv s₁ => ∃ (a : Addr) (vs : List Value), xv = .ref a ∧ s₁.heap.PlainList a vs.toArray ∧ vs.length ≤ 100000 ∧ CompIn prog w A env scope cl x ifs elt (fun v => v ∈ vs) p R s₁ ∧
      ∀ s' D ys, More s₁ s' → s₁.heap.get? D = none → s'.heap.PlainList D (List.toArray ys) → Paired R (vs.filter p) ys → Q (.ref D) s') NoE s)
    (hclos : closureFor scope env = pure cl := by rfl) (hcell : (scope.names.all fun y => !(y.2 == .cell)) = true := by rfl) (hkind : scope.kind = .function := by rfl)
    (hnames : (scope.names.all fun y => !(y.2 == .local) || scope.names.lookup y.1 == some .local) = true := by rfl) (hx : scope.names.lookup x = some .local := by rfl)
    (hs : ∀ x, foldedSetIterable iter env x = pure x := by intro _; rfl) : wpAny (model prog w) A (eval (.ListComp elt [⟨.Name x px, iter, ifs, 0⟩] scope pos) env) Q NoE s := by
  refine wpAny_ListComp_free p R hclos (fun y hy e => by have := List.all_eq_true.mp hcell y hy; rw [e] at this; cases this) hkind
    (fun y hy e => by have := List.all_eq_true.mp hnames y hy; rw [e] at this; simpa using this) hx (wpAny_mono h (fun xv s₁ h₁ => ?_) fun _ _ z => z) hs
  obtain ⟨a, vs, rfl, hl, hz, hC, hQ⟩ := h₁
  refine wpAny_pyIter_list (plain_isList hl) ?_
  obtain ⟨na, ea⟩ := hl
  refine ⟨_, _, _, _, _, _, rfl, Walks.list hh s₁.heap.objs.size a (size_ne ea) vs.toArray, ?_, ⟨⟨_, Heap.get?_push_size _ rfl, rfl, rfl⟩, ⟨_, Heap.get?_push_of_some _ ea, rfl, na, rfl⟩⟩, ?_, quiet hC (fun b o e => ⟨?_, Heap.get?_push_of_some _ e⟩) ?_, ?_⟩
  · rw [List.size_toArray]; exact Nat.le_trans hz (by decide +kernel)
  · intro b hb
    rw [Heap.size_push]
    simp only [List.mem_cons, List.not_mem_nil, or_false] at hb
    rcases hb with rfl | rfl
    · exact Nat.lt_succ_self _
    · exact Nat.lt_succ_of_lt (Heap.lt_size ea)
  · simpa using size_ne e
  · intro i v hv
    exact List.mem_of_getElem? (by simpa using hv)
  · intro D h' tk ys us hD _ hpl hlen hP hF hk
    have hus : us = vs := list_eq_of (by simpa using hlen) fun j v e => by simpa using hP j v e
    subst hus
    refine hQ _ D ys.toList ⟨fun b o e => hk b o (by simpa using size_ne e) (Heap.get?_push_of_some _ e), rfl, rfl, rfl⟩ ?_ (by simpa using hpl) hF
    cases q : s₁.heap.get? D with
    | none => rfl
    | some o => have := Heap.get?_push_of_some { cls := .type "list_iterator", dict := none, data := .fields #[.ref a, .int 0 0] } q; rw [hD] at this; cases this

theorem x_compL {elt iter : Expr} {x y : Str} {px py : Pos} {ifs : List Expr} {scope : Scope} {pos sp : Pos} {Q : Flow → Shared → Prop} (p : Value → Bool) (R : Value → Value → Prop) (cl : List (Str × Addr)) (hh : A.handled = none)
    (h : wpAny (model prog w) A (eval iter env) (fun xv s₁ => ∃ (a : Addr) (vs : List Value), xv = .ref a ∧ s₁.heap.PlainList a vs.toArray ∧ vs.length ≤ 100000 ∧ CompIn prog w A env scope cl x ifs elt (fun v => v ∈ vs) p R s₁ ∧
      ∃ σ k m l, Fx σ k env.locals s₁ m l ∧ k.get? env.locals = none ∧ ∀ s' D ys, s₁.heap.get? D = none → Fx σ k env.locals s' (setm m y (.ref D)) ((D, .list ys) :: l) → Paired R (vs.filter p) ys → wpAny (model prog w) A (execs rest env) Q NoE s') NoE s)
    (hsw : swapsWith (.ListComp elt [⟨.Name x px, iter, ifs, 0⟩] scope pos) (some (.Name y py)) sp.line env = pure true := by rfl)
    (hclos : closureFor scope env = pure cl := by rfl) (hcell : (scope.names.all fun y => !(y.2 == .cell)) = true := by rfl) (hkind : scope.kind = .function := by rfl)
    (hnames : (scope.names.all fun y => !(y.2 == .local) || scope.names.lookup y.1 == some .local) = true := by rfl) (hx : scope.names.lookup x = some .local := by rfl)
    (hy : env.kindOf y = some .local := by rfl) (hek : env.scope.kind = .function := by rfl)
    (hs : ∀ x, foldedSetIterable iter env x = pure x := by intro _; rfl) : wpAny (model prog w) A (execs (.Assign [.Name y py] (.ListComp elt [⟨.Name x px, iter, ifs, 0⟩] scope pos) sp :: rest) env) Q NoE s := by
  refine wpAny_execs_cons (wpAny_Assign_ListComp_free p R hsw hclos (fun y hy e => by have := List.all_eq_true.mp hcell y hy; rw [e] at this; cases this) hkind
    (fun y hy e => by have := List.all_eq_true.mp hnames y hy; rw [e] at this; simpa using this) hx hy (by rw [hek]; rfl) (wpAny_mono h (fun xv s₁ h₁ => ?_) fun _ _ z => z) hs)
  obtain ⟨a, vs, rfl, hl, hz, hC, σ, k, m, l, F, hkL, hQ⟩ := h₁
  refine wpAny_pyIter_list (plain_isList hl) ?_
  obtain ⟨na, ea⟩ := hl
  have hLs : env.locals ≠ s₁.heap.objs.size := by obtain ⟨o, _, _, ho, _⟩ := F.ns; exact size_ne ho
  refine ⟨_, _, _, _, _, _, m, rfl, Walks.list hh s₁.heap.objs.size a (size_ne ea) vs.toArray, ?_, ⟨⟨_, Heap.get?_push_size _ rfl, rfl, rfl⟩, ⟨_, Heap.get?_push_of_some _ ea, rfl, na, rfl⟩⟩, ?_, by simpa using hLs, F.ns.push _, quiet hC (fun b o e => ⟨?_, Heap.get?_push_of_some _ e⟩) ?_, ?_⟩
  · rw [List.size_toArray]; exact Nat.le_trans hz (by decide +kernel)
  · intro b hb
    rw [Heap.size_push]
    simp only [List.mem_cons, List.not_mem_nil, or_false] at hb
    rcases hb with rfl | rfl
    · exact Nat.lt_succ_self _
    · exact Nat.lt_succ_of_lt (Heap.lt_size ea)
  · simpa using size_ne e
  · intro i v hv
    exact List.mem_of_getElem? (by simpa using hv)
  · intro D h' tk ys us hD _ hpl hlen hP hF hns hk
    have hus : us = vs := list_eq_of (by simpa using hlen) fun j v e => by simpa using hP j v e
    subst hus
    have hD1 : s₁.heap.get? D = none := by
      cases q : s₁.heap.get? D with
      | none => rfl
      | some o => have := Heap.get?_push_of_some { cls := .type "list_iterator", dict := none, data := .fields #[.ref a, .int 0 0] } q; rw [hD] at this; cases this
    have kk : ∀ b o, b ≠ env.locals → s₁.heap.get? b = some o → h'.get? b = some o := fun b o hb e => hk b o hb (by simpa using size_ne e) (Heap.get?_push_of_some _ e)
    obtain ⟨n1, n2, n3⟩ := F.fresh hD1
    refine hQ { s₁ with heap := h', toks := tk } D ys.toList hD1 ⟨hns, fun b o e => kk b o (fun q => by rw [q, hkL] at e; cases e) (F.keep b o e), fun q hq => ?_, ?_, F.rest⟩ hF
    · rcases List.mem_cons.mp hq with rfl | hq
      · refine ⟨?_, n1, n2⟩
        show h'.PlainList D ys.toList.toArray
        simpa using hpl
      · exact ⟨celOf (F.led q hq).1 fun o e => kk _ o (F.led q hq).2.1 e, (F.led q hq).2⟩
    · rw [List.map_cons]; exact List.nodup_cons.mpr ⟨n3, F.nd⟩
end
end
section
def IntAt (v : Value) (n : Int) : Prop := ∃ t, v = .int n t
abbrev Ints := All2 IntAt

section
variable {prog : Program} {w : World} {A : Around} {E : Value → Shared → Prop} {σ s : Shared} {k Wh g : Heap} {L : Addr} {m mg : Str → Option Value} {l : Led} {env : Env} {rest : List Stmt}

theorem tie_tup {h : Heap} {a : Addr} {t : Tie} {t1 t2 t3 t4 : Tok} {n : Nat} (e : h.get? a = some (tieObj t t1 t2 t3 t4 n)) : IsTup h a [Value.int t.1 t1, .int t.2.1 t2, .int t.2.2.1 t3, .int t.2.2.2 t4].toArray := ⟨_, e, rfl, n, rfl⟩

theorem r_tie2 {value slice : Expr} {v : Value} {x : Tie} {u : Tok} {Q : Value → Shared → Prop} (hv : TieAt s.heap v x) (h : ∀ t, Q (.int x.2.2.1 t) s) (hs : ∀ a, subscripted slice false (.ref a) (.int 2 u) = operate [.ref a, .int 2 u] (getItem (.ref a) (.int 2 u)) := by intro a; rfl) :
    wpAny (model prog w) A (subscriptTail value slice v (.int 2 u)) Q E s := by
  obtain ⟨a, t1, t2, t3, t4, n, rfl, ha⟩ := hv
  exact item_tupleT (j := 2) (tie_tup ha) (by decide) (by decide) rfl rfl (h t3) (hs a)
theorem r_tie3 {value slice : Expr} {v : Value} {x : Tie} {u : Tok} {Q : Value → Shared → Prop} (hv : TieAt s.heap v x) (h : ∀ t, Q (.int x.2.2.2 t) s) (hs : ∀ a, subscripted slice false (.ref a) (.int 3 u) = operate [.ref a, .int 3 u] (getItem (.ref a) (.int 3 u)) := by intro a; rfl) :
    wpAny (model prog w) A (subscriptTail value slice v (.int 3 u)) Q E s := by
  obtain ⟨a, t1, t2, t3, t4, n, rfl, ha⟩ := hv
  exact item_tupleT (j := 3) (tie_tup ha) (by decide) (by decide) rfl rfl (h t4) (hs a)

-- slices
abbrev sliceO (l u st : Value) : Obj := { cls := .type "slice", data := .fields #[l, u, st] }
theorem e_slice {lower upper step : Option Expr} {p : Pos} {Q : Value → Shared → Prop}
    (h : wpAny (model prog w) A (evalPart lower env) (fun lo s₁ => wpAny (model prog w) A (evalPart upper env) (fun up s₂ => wpAny (model prog w) A (evalPart step env) (fun st s₃ => ∃ (σ : Shared) (k : Heap) (L : Addr) (m : Str → Option Value) (l : Led), Fx σ k L s₃ m l ∧
      ∀ a s', Fx σ k L s' m ((a, .obj (sliceO lo up st)) :: l) → Q (.ref a) s') E s₂) E s₁) E s) : wpAny (model prog w) A (eval (.Slice lower upper step p) env) Q E s := by
  refine wpAny_Slice (wpAny_mono h (fun lo s₁ h₁ => wpAny_mono h₁ (fun up s₂ h₂ => wpAny_mono h₂ (fun st s₃ h₃ => ?_) fun _ _ z => z) fun _ _ z => z) fun _ _ z => z)
  obtain ⟨σ, k, L, m, l, F, hq⟩ := h₃
  exact hq _ _ (F.add (More.push s₃ _) (fresh_size _) (Heap.get?_push_size _ rfl))
theorem p_none {Q : Value → Shared → Prop} (h : Q .none s) : wpAny (model prog w) A (evalPart none env) Q E s := wpAny_evalPart_none h
theorem p_some {e : Expr} {Q : Value → Shared → Prop} (h : wpAny (model prog w) A (eval e env) Q E s) : wpAny (model prog w) A (evalPart (some e) env) Q E s := wpAny_evalPart_some h
theorem e_neg {e : Expr} {p : Pos} {Q : Value → Shared → Prop} (h : wpAny (model prog w) A (eval e env) (fun v s₁ => wpAny (model prog w) A (unaryOp .USub v) Q E s₁) E s) : wpAny (model prog w) A (eval (.UnaryOp .USub e p) env) Q E s := by
  show wpAny (model prog w) A (do let v ← eval e env; standAt p; holding [v] (unaryOp .USub v)) Q E s
  exact wpAny_bind (wpAny_mono h (fun v s₁ h₁ => wpAny_bind (wpAny_standAt (wpAny_holding h₁))) fun _ _ z => z)
theorem r_neg {a : Int} {t : Tok} {Q : Value → Shared → Prop} (F : Fx σ k L s m l) (h : ∀ t s', Fx σ k L s' m l → Q (.int (-a) t) s') : wpAny (model prog w) A (unaryOp .USub (.int a t)) Q E s := neg_int (h _ _ (F.tok _))

theorem slice_at {sl : Addr} {lo up st : Value} (F : Fx σ k L s m l) (h : (sl, Cel.obj (sliceO lo up st)) ∈ l) : s.heap.IsSliceOf sl lo up st := ⟨_, F.cel h, rfl, rfl⟩

theorem r_listSlice {value slice : Expr} {a sl : Addr} {vs : List Value} {lo up st : Value} {lo' up' st' : Option Int} {ops : List Value} {Q : Value → Shared → Prop} (F : Fx σ k L s m l) (hsl : (sl, Cel.obj (sliceO lo up st)) ∈ l) (hl : s.heap.PlainList a vs.toArray) (hz : vs.length ≤ 100000)
    (p1 : IsPart lo lo') (p2 : IsPart up up') (p3 : IsPart st st') (h0 : st' ≠ some 0) (h : ∀ b s', Fx σ k L s' m ((b, .list (slicePick vs.toArray lo' up' st').toList) :: l) → s.heap.get? b = none → Q (.ref b) s')
    (hs : subscripted slice false (.ref a) (.ref sl) = operate ops (getItem (.ref a) (.ref sl)) := by rfl) :
    wpAny (model prog w) A (subscriptTail value slice (.ref a) (.ref sl)) Q E s := by
  refine PyProof.Rows.tail_any (plain_isList hl).typeIs PySem.F.slot_list_getitem.lookup ?_ hs
  refine wpAny_getItem_list_slice (plain_isList hl) (slice_at F hsl) p1 p2 p3 h0 (h _ _ (F.add (More.push s _) (fresh_size _) ⟨0, ?_⟩) (fresh_size _)) (by rw [List.size_toArray]; exact Nat.le_trans hz (by decide +kernel))
  simpa using Heap.get?_push_size s.heap rfl

theorem part_of {v : Value} {o : Option Int} {Q : Option Int → Shared → Prop} (hp : IsPart v o) (h : Q o s) : wpAny (model prog w) A (Builtin.Slice.slicePartIndex v) Q E s := by
  cases hp with
  | none => exact slicePart_none h
  | int => exact slicePart_int h
theorem sliceApplied_part {sl : Addr} {lo up st : Value} {lo' up' st' : Option Int} {n : Nat} {Q : Int × Int × Nat → Shared → Prop} (hs : s.heap.IsSliceOf sl lo up st) (p1 : IsPart lo lo') (p2 : IsPart up up') (p3 : IsPart st st') (h0 : st'.getD 1 ≠ 0)
    (h : Q ((Builtin.Slice.sliceAdjust lo' up' (st'.getD 1) n).1, st'.getD 1, Builtin.Slice.slicePlaces (Builtin.Slice.sliceAdjust lo' up' (st'.getD 1) n).1 (Builtin.Slice.sliceAdjust lo' up' (st'.getD 1) n).2 (st'.getD 1)) s) :
    wpAny (model prog w) A (Builtin.Slice.sliceApplied (.ref sl) (pure (n : Int))) Q E s := by
  obtain ⟨os, hos, hcs, hds⟩ := id hs
  unfold Builtin.Slice.sliceApplied Builtin.Slice.sliceFields
  refine wpAny_bind (wpAny_bind (wpAny_field hos hds (x := lo) rfl (wpAny_bind (wpAny_field hos hds (x := up) rfl (wpAny_bind (wpAny_field hos hds (x := st) rfl (wpAny_pure ?_)))))))
  refine wpAny_bind (part_of p3 ?_)
  dsimp only
  rw [if_neg (by simpa using h0)]
  refine wpAny_bind (part_of p1 (wpAny_bind (part_of p2 (wpAny_bind (wpAny_pure ?_)))))
  exact wpAny_pure h
theorem r_tupSlice {value slice : Expr} {t sl : Addr} {vs : List Value} {lo up st : Value} {lo' up' st' : Option Int} {Q : Value → Shared → Prop} (us : List Value) (F : Fx σ k L s m l) (hsl : (sl, Cel.obj (sliceO lo up st)) ∈ l) (ht : IsTup s.heap t vs.toArray)
    (p1 : IsPart lo lo') (p2 : IsPart up up') (p3 : IsPart st st') (h0 : st'.getD 1 ≠ 0)
    (hp : ∀ (lo n : _), lo = (Builtin.Slice.sliceAdjust lo' up' (st'.getD 1) (vs.toArray.size : Nat)).1 → n = Builtin.Slice.slicePlaces (Builtin.Slice.sliceAdjust lo' up' (st'.getD 1) (vs.toArray.size : Nat)).1 (Builtin.Slice.sliceAdjust lo' up' (st'.getD 1) (vs.toArray.size : Nat)).2 (st'.getD 1) →
      (lo == 0 && st'.getD 1 == 1 && n == vs.toArray.size) = false ∧ ((List.range n).filterMap fun (k : Nat) => vs.toArray[(lo + (k : Int) * st'.getD 1).toNat]?) = us) (hz : us.length ≤ 100000)
    (h : ∀ b s', Fx σ k L s' m ((b, .obj (tupObj us)) :: l) → s.heap.get? b = none → Q (.ref b) s')
    (hs : ∃ ops, subscripted slice false (.ref t) (.ref sl) = operate ops (getItem (.ref t) (.ref sl)) := by exact ⟨_, rfl⟩) :
    wpAny (model prog w) A (subscriptTail value slice (.ref t) (.ref sl)) Q E s := by
  obtain ⟨ops, hs⟩ := hs
  refine PyProof.Rows.tail_any ht.typeIs PySem.F.slot_tuple_getitem.lookup ?_ hs
  have hS := slice_at F hsl
  obtain ⟨os, hos, hcs, hds⟩ := id hS
  have hTs : s.TypeIs (.ref sl) "slice" := ⟨os, hos, hcs⟩
  have hdrop : sizeOk (.seq us.toArray) := by
    show us.toArray.size ≤ sizeLine
    rw [List.size_toArray]; exact Nat.le_trans hz (by decide +kernel)
  obtain ⟨hno, hpick⟩ := hp _ _ rfl rfl
  unfold getItem
  try with_reducible refine wpAny_holding ?_
  first | refine wpAny_bind (wpAny_pure ?_) | skip
  refine wpAny_bind (wpAny_sequenceKey ht.typeIs (by decide) ?_)
  refine wpAny_bind (wpAny_callSpecial?_slot (name := Str.ofString "__getitem__") ht.typeIs PySem.F.slot_tuple_getitem
    (wpAny_call_entry PySem.F.slot_tuple_getitem ht.typeIs PySem.F.entry_tuple_getitem ?_ (args_tuple_getitem _ _)))
  show wpAny _ _ (Builtin.Tuple.tupleItemsOf (.ref t) >>= _) _ _ s
  refine wpAny_bind (tupleItemsOf_ ht ?_)
  refine wpAny_bind (wpAny_typeOf hTs ?_)
  rw [if_pos (by decide)]
  refine wpAny_bind (sliceApplied_part hS p1 p2 p3 h0 ?_)
  dsimp only
  rw [if_neg (by rw [hno]; exact Bool.false_ne_true), hpick]
  have hq := h _ _ (F.add (More.push s (tupObj us)) (fresh_size _) (Heap.get?_push_size _ rfl)) (fresh_size _)
  first
    | exact wpAny_bind (m := Builtin.Tuple.tupleExact _) (wpAny_newObj_type (wpAny_pure ⟨_, rfl, wpAny_pure hq⟩) hdrop)
    | exact wpAny_bind (m := Builtin.Tuple.tupleExact _) (wpAny_newObj_type (wpAny_bind (wpAny_pure (wpAny_pure ⟨_, rfl, wpAny_pure hq⟩))) hdrop)
    | exact wpAny_bind (wpAny_bind (m := Builtin.Tuple.tupleExact _) (wpAny_newObj_type (wpAny_pure (wpAny_pure ⟨_, rfl, wpAny_pure hq⟩)) hdrop))
    | exact wpAny_bind (wpAny_bind (m := Builtin.Tuple.tupleExact _) (wpAny_newObj_type (wpAny_pure ⟨_, rfl, wpAny_pure hq⟩) hdrop))
end
end
section
section
variable {prog : Program} {w : World} {A : Around} {E : Value → Shared → Prop} {σ s : Shared} {k Wh g : Heap} {L : Addr} {m mg : Str → Option Value} {l : Led} {env : Env} {rest : List Stmt}

-- what stands there, as data
def tieD (t : Tie) : PyData := .tuple [.int t.1, .int t.2.1, .int t.2.2.1, .int t.2.2.2]
def tiesD (ts : List Tie) : PyData := .list (ts.map tieD)
def intsD (ns : List Int) : PyData := .list (ns.map .int)

theorem reads_tie {h : Heap} {v : Value} {t : Tie} (x : TieAt h v t) : Reads h v (tieD t) [] := by
  obtain ⟨a, t1, t2, t3, t4, n, rfl, e⟩ := x
  exact .tuple e rfl rfl (.cons (as := []) (bs := []) (.int _ _) (.cons (as := []) (bs := []) (.int _ _) (.cons (as := []) (bs := []) (.int _ _) (.cons (as := []) (bs := []) (.int _ _) .nil))))
theorem reads_ties' {h : Heap} {vs : List Value} {ts : List Tie} (x : Ties h vs ts) : ReadsAll h vs (ts.map tieD) [] := by
  induction x with
  | nil => exact .nil
  | cons a _ ih => exact .cons (as := []) (bs := []) (reads_tie a) ih
theorem reads_ties {h : Heap} {a : Addr} {vs : List Value} {ts : List Tie} (p : h.PlainList a vs.toArray) (x : Ties h vs ts) : Reads h (.ref a) (tiesD ts) [a] := by
  obtain ⟨n, e⟩ := p
  exact .list e rfl rfl (by simpa using reads_ties' x)
theorem reads_ints {h : Heap} {a : Addr} {vs : List Value} {ns : List Int} (p : h.PlainList a vs.toArray) (x : IntsAre vs ns) : Reads h (.ref a) (intsD ns) [a] := by
  obtain ⟨n, e⟩ := p
  exact .list e rfl rfl (by simpa using x.reads h)
/-- a list of ints, somewhere -/
def PartAt (h : Heap) (v : Value) (ns : List Int) : Prop := ∃ a vs, v = .ref a ∧ h.PlainList a (List.toArray vs) ∧ IntsAre vs ns
theorem PartAt.keeps {h h' : Heap} {v : Value} {ns : List Int} (x : PartAt h v ns) (k : h.StaysIn h') : PartAt h' v ns := by
  obtain ⟨a, vs, rfl, ⟨n, e⟩, hi⟩ := x
  exact ⟨a, vs, rfl, ⟨n, k _ _ e⟩, hi⟩
theorem reads_parts' {h : Heap} {vs : List Value} {ps : List (List Int)} (x : All2 (PartAt h) vs ps) : ∃ as, ReadsAll h vs (ps.map intsD) as := by
  induction x with
  | nil => exact ⟨_, .nil⟩
  | cons a _ ih =>
    obtain ⟨as, r⟩ := ih
    obtain ⟨b, us, rfl, hp, hi⟩ := a
    exact ⟨_, .cons (reads_ints hp hi) r⟩

theorem eqvAll_map {α : Type} [DecidableEq α] (f : α → PyData) (hf : ∀ a b, PyData.eqv (f a) (f b) = decide (a = b)) : ∀ xs ys : List α, PyData.eqvAll (xs.map f) (ys.map f) = decide (xs = ys)
  | [], [] => rfl
  | [], _ :: _ => rfl
  | _ :: _, [] => rfl
  | x :: xs, y :: ys => by
    rw [List.map_cons, List.map_cons, PyData.eqvAll, hf, eqvAll_map f hf xs ys]
    simp
theorem eqv_tie (a b : Tie) : PyData.eqv (tieD a) (tieD b) = decide (a = b) := by
  obtain ⟨a1, a2, a3, a4⟩ := a
  obtain ⟨b1, b2, b3, b4⟩ := b
  show PyData.eqvAll (List.map PyData.int [a1, a2, a3, a4]) (List.map PyData.int [b1, b2, b3, b4]) = _
  rw [eqvAll_map PyData.int (fun a b => by simp only [PyData.eqv]; exact Bool.beq_eq_decide_eq ..)]
  simp
theorem eqv_ties (a b : List Tie) : PyData.eqv (tiesD a) (tiesD b) = decide (a = b) := eqvAll_map _ eqv_tie a b
theorem eqv_ints (a b : List Int) : PyData.eqv (intsD a) (intsD b) = decide (a = b) := eqvAll_map _ (fun a b => by simp only [PyData.eqv]; exact Bool.beq_eq_decide_eq ..) a b
theorem can_map {α : Type} (f : α → PyData) (hf : ∀ a, (f a).canLay0 = true) : ∀ xs : List α, PyData.canLayAll0 (xs.map f) = true
  | [] => rfl
  | x :: xs => by rw [List.map_cons, PyData.canLayAll0, hf, can_map f hf xs]; rfl
theorem depth_map {α : Type} (f : α → PyData) (n : Nat) (hf : ∀ a, (f a).depth ≤ n) : ∀ xs : List α, PyData.depthAll (xs.map f) ≤ n
  | [] => Nat.zero_le _
  | x :: xs => by rw [List.map_cons, PyData.depthAll]; exact Nat.max_le.mpr ⟨hf x, depth_map f n hf xs⟩
theorem can_tie (t : Tie) : (tieD t).canLay0 = true := rfl
theorem depth_tie (t : Tie) : (tieD t).depth ≤ 1 := by show PyData.depthAll (List.map PyData.int [_, _, _, _]) + 1 ≤ 1; have := depth_map PyData.int 0 (fun _ => Nat.le_refl _) [t.1, t.2.1, t.2.2.1, t.2.2.2]; omega
theorem can_ints (ns : List Int) : (intsD ns).canLay0 = true := can_map PyData.int (fun _ => rfl) ns
theorem depth_ints (ns : List Int) : (intsD ns).depth ≤ 1 := by show PyData.depthAll _ + 1 ≤ 1; have := depth_map PyData.int 0 (fun _ => Nat.le_refl _) ns; omega
theorem can_ties (ts : List Tie) : (tiesD ts).canLay0 = true := can_map _ can_tie ts
theorem depth_ties (ts : List Tie) : (tiesD ts).depth ≤ 2 := by show PyData.depthAll _ + 1 ≤ 2; have := depth_map _ 1 depth_tie ts; omega
theorem shaped_of {d : PyData} (h1 : d.canLay0 = true) {n : Nat} (h2 : d.depth ≤ n) (h3 : n ≤ 64) : SeqAt.shaped d = true := by
  unfold SeqAt.shaped
  rw [h1, decide_eq_true (Nat.le_trans h2 h3)]; rfl

theorem c_neTie {v u : Value} {x y : Tie} {Q : Value → Shared → Prop} (hv : TieAt s.heap v x) (hu : TieAt s.heap u y) (hA : A.units + 64 < cLine) (h : Q (.bool (decide (x ≠ y))) s) : wpAny (model prog w) A (compareOp .NotEq v u) Q E s := by
  refine SeqAt.compareNe_shaped (reads_tie hv) (reads_tie hu) (shaped_of (can_tie x) (depth_tie x) (by decide)) (shaped_of (can_tie y) (depth_tie y) (by decide)) hA ?_
  rw [eqv_tie, ← decide_not]; exact h
theorem c_neTies {a b : Addr} {vs us : List Value} {xs ys : List Tie} {Q : Value → Shared → Prop} (ha : s.heap.PlainList a vs.toArray) (hb : s.heap.PlainList b us.toArray) (hv : Ties s.heap vs xs) (hu : Ties s.heap us ys) (hA : A.units + 64 < cLine) (h : Q (.bool (decide (xs ≠ ys))) s) :
    wpAny (model prog w) A (compareOp .NotEq (.ref a) (.ref b)) Q E s := by
  refine SeqAt.compareNe_shaped (reads_ties ha hv) (reads_ties hb hu) (shaped_of (can_ties xs) (depth_ties xs) (by decide)) (shaped_of (can_ties ys) (depth_ties ys) (by decide)) hA ?_
  rw [eqv_ties, ← decide_not]; exact h
theorem c_neInts {a b : Addr} {vs us : List Value} {xs ys : List Int} {Q : Value → Shared → Prop} (ha : s.heap.PlainList a vs.toArray) (hb : s.heap.PlainList b us.toArray) (hv : IntsAre vs xs) (hu : IntsAre us ys) (hA : A.units + 64 < cLine) (h : Q (.bool (decide (xs ≠ ys))) s) :
    wpAny (model prog w) A (compareOp .NotEq (.ref a) (.ref b)) Q E s := by
  refine SeqAt.compareNe_shaped (reads_ints ha hv) (reads_ints hb hu) (shaped_of (can_ints xs) (depth_ints xs) (by decide)) (shaped_of (can_ints ys) (depth_ints ys) (by decide)) hA ?_
  rw [eqv_ints, ← decide_not]; exact h
/-- a list against the empty one, whatever it holds -/
theorem c_neNil {a b : Addr} {vs : List Value} {Q : Value → Shared → Prop} {d : List PyData} {as : List Addr} (ha : Reads s.heap (.ref a) (.list d) as) (hc : PyData.canLay0 (.list d) = true) (hdp : PyData.depth (.list d) ≤ 60) (hl : d.length = vs.length) (hb : s.heap.PlainList b (List.toArray ([] : List Value)))
    (hA : A.units + 64 < cLine) (h : Q (.bool (!vs.isEmpty)) s) : wpAny (model prog w) A (compareOp .NotEq (.ref a) (.ref b)) Q E s := by
  refine SeqAt.compareNe_shaped ha (reads_ints hb .nil) (shaped_of hc hdp (by decide)) (shaped_of (can_ints []) (depth_ints []) (by decide)) hA ?_
  have e : PyData.eqv (.list d) (intsD []) = vs.isEmpty := by
    cases d with
    | nil => cases vs with | nil => rfl | cons _ _ => cases hl
    | cons _ _ => cases vs with | nil => cases hl | cons _ _ => rfl
  rw [e]; exact h
theorem c_inInts {a : Addr} {vs : List Value} {ns : List Int} {i : Int} {t : Tok} {Q : Value → Shared → Prop} (ha : s.heap.PlainList a vs.toArray) (hv : IntsAre vs ns) (h : Q (.bool (decide (i ∈ ns))) s) : wpAny (model prog w) A (compareOp .In (.int i t) (.ref a)) Q E s := by
  refine in_list_ints (plain_isList ha) hv ?_
  have e : (ns.any fun x => x == i) = decide (i ∈ ns) := by
    rw [Bool.eq_iff_iff]; simp
  rw [e]; exact h
theorem c_ninInts {a : Addr} {vs : List Value} {ns : List Int} {i : Int} {t : Tok} {Q : Value → Shared → Prop} (ha : s.heap.PlainList a vs.toArray) (hv : IntsAre vs ns) (h : Q (.bool (decide (i ∉ ns))) s) : wpAny (model prog w) A (compareOp .NotIn (.int i t) (.ref a)) Q E s := by
  refine notin_list_ints (plain_isList ha) hv ?_
  have e : (ns.any fun x => x == i) = decide (i ∈ ns) := by
    rw [Bool.eq_iff_iff]; simp
  rw [e, ← decide_not]; exact h
theorem any_map {α : Type} [DecidableEq α] (f : α → PyData) (hf : ∀ a b, PyData.eqv (f a) (f b) = decide (a = b)) (xs : List α) (y : α) {inst : Decidable (y ∈ xs)} : ((xs.map f).any fun z => PyData.eqv z (f y)) = @decide (y ∈ xs) inst := by
  rw [List.any_map, Bool.eq_iff_iff]
  simp only [List.any_eq_true, Function.comp, hf, decide_eq_true_eq, exists_eq_right]
theorem c_inTies {a : Addr} {vs : List Value} {ts : List Tie} {v : Value} {x : Tie} {Q : Value → Shared → Prop} (ha : s.heap.PlainList a vs.toArray) (hv : Ties s.heap vs ts) (hx : TieAt s.heap v x) (hA : A.units + 64 < cLine) (h : Q (.bool (decide (x ∈ ts))) s) :
    wpAny (model prog w) A (compareOp .In v (.ref a)) Q E s := by
  refine SeqAt.in_list_reads (reads_ties ha hv) (reads_tie hx) (can_map _ can_tie ts) (can_tie x) (by have := depth_tie x; omega) ?_
  rw [any_map _ eqv_tie]; exact h
theorem c_inParts {a b : Addr} {vs us : List Value} {ps : List (List Int)} {x : List Int} {Q : Value → Shared → Prop} (ha : s.heap.PlainList a vs.toArray) (hv : All2 (PartAt s.heap) vs ps) (hb : s.heap.PlainList b us.toArray) (hx : IntsAre us x) (hA : A.units + 64 < cLine) (h : Q (.bool (decide (x ∈ ps))) s) :
    wpAny (model prog w) A (compareOp .In (.ref b) (.ref a)) Q E s := by
  obtain ⟨as, r⟩ := reads_parts' hv
  obtain ⟨n, e⟩ := ha
  refine SeqAt.in_list_reads (xs := ps.map intsD) (.list e rfl rfl (by simpa using r)) (reads_ints hb hx) (can_map _ can_ints ps) (can_ints x) (by have := depth_ints x; omega) ?_
  rw [any_map _ eqv_ints]; exact h
end
end
section
section
variable {prog : Program} {w : World} {A : Around} {E : Value → Shared → Prop} {σ s : Shared} {k Wh g : Heap} {L : Addr} {m mg : Str → Option Value} {l : Led} {env : Env} {rest : List Stmt}

/-- all that stands, but for L -/
def allOf (h : Heap) (L : Addr) : List (Addr × Obj) := (List.range h.objs.size).filterMap fun b => if b = L then none else (h.get? b).map fun o => (b, o)
theorem allOf_mem {h : Heap} {L b : Addr} {o : Obj} (e : h.get? b = some o) (hb : b ≠ L) : (b, o) ∈ allOf h L :=
  List.mem_filterMap.mpr ⟨b, List.mem_range.mpr (Heap.lt_size e), by rw [if_neg hb, e]; rfl⟩
theorem allOf_get {h : Heap} {L : Addr} {p : Addr × Obj} (hp : p ∈ allOf h L) : h.get? p.1 = some p.2 ∧ p.1 ≠ L := by
  obtain ⟨b, _, e⟩ := List.mem_filterMap.mp hp
  by_cases hb : b = L
  · rw [if_pos hb] at e; cases e
  · rw [if_neg hb] at e
    cases q : h.get? b with
    | none => rw [q] at e; cases e
    | some o => rw [q] at e; cases e; exact ⟨q, hb⟩
theorem none_get (b : Addr) : ({} : Heap).get? b = none := by
  cases q : ({} : Heap).get? b with
  | none => rfl
  | some o => exact absurd (Heap.lt_size q) (Nat.not_lt_zero _)
theorem Fx.fr (F : Fx σ k L s m l) : Fr {} L s.heap m := ⟨F.ns, fun b o e => (by rw [none_get] at e; cases e), Nat.zero_le _⟩
theorem newsAll (h : Heap) (L : Addr) : News {} L h (allOf h L) := fun p hp => ⟨(allOf_get hp).1, (allOf_get hp).2, none_get _⟩
theorem Fx.ofFr {h' : Heap} {tk : Nat} (F : Fx σ k L s m l) (hkL : k.get? L = none) (hf : Fr {} L h' m) (N : ∀ p ∈ allOf s.heap L, h'.get? p.1 = some p.2) : Fx σ k L { s with heap := h', toks := tk } m l := by
  have kk : ∀ b o, b ≠ L → s.heap.get? b = some o → h'.get? b = some o := fun b o hb e => N _ (allOf_mem e hb)
  exact ⟨hf.ns, fun b o e => kk b o (fun q => by rw [q, hkL] at e; cases e) (F.keep b o e), fun p hp => ⟨celOf (F.led p hp).1 fun o e => kk _ o (F.led p hp).2.1 e, (F.led p hp).2⟩, F.nd, F.rest⟩
theorem Fx.ofFrNew {h' : Heap} {tk : Nat} {D : Addr} {c : Cel} (F : Fx σ k L s m l) (hkL : k.get? L = none) (hf : Fr {} L h' m) (N : ∀ p ∈ allOf s.heap L, h'.get? p.1 = some p.2) (hD : s.heap.get? D = none) (hc : c.At h' D) : Fx σ k L { s with heap := h', toks := tk } m ((D, c) :: l) := by
  have F' := F.ofFr (tk := tk) hkL hf N
  obtain ⟨n1, n2, n3⟩ := F.fresh hD
  refine ⟨F'.ns, F'.keep, fun p hp => ?_, ?_, F'.rest⟩
  · rcases List.mem_cons.mp hp with rfl | hp
    · exact ⟨hc, n1, n2⟩
    · exact F'.led p hp
  · rw [List.map_cons]; exact List.nodup_cons.mpr ⟨n3, F.nd⟩
theorem fresh_of {h : Heap} {L D : Addr} (hD : D ≠ L) (h1 : ∀ p ∈ allOf h L, p.1 < D) : h.get? D = none := by
  cases q : h.get? D with
  | none => rfl
  | some o => exact absurd (h1 _ (allOf_mem q hD)) (Nat.lt_irrefl _)

theorem r_any {a : Addr} {vs : List Value} {bs : List Bool} {Q : Value → Shared → Prop} (hh : A.handled = none) (F : Fx σ k L s m l) (hkL : k.get? L = none) (ha : s.heap.PlainList a vs.toArray) (hb : LSm.BoolsAre vs bs)
    (h : ∀ s', Fx σ k L s' m l → Q (.bool (bs.any id)) s') : wpAny (model prog w) A (call (.builtin "any") [.ref a]) Q E s :=
  LSm.any_bools F.fr (newsAll s.heap L) hh (plain_isList ha) hb fun h' tk hf N => h _ (F.ofFr hkL hf fun p hp => (N p hp).1)
theorem r_sum {a : Addr} {vs : List Value} {ns : List Int} {Q : Value → Shared → Prop} (hh : A.handled = none) (F : Fx σ k L s m l) (hkL : k.get? L = none) (ha : s.heap.PlainList a vs.toArray) (hb : IntsAre vs ns)
    (h : ∀ t s', Fx σ k L s' m l → Q (.int ns.sum t) s') : wpAny (model prog w) A (call (.builtin "sum") [.ref a]) Q E s :=
  LSm.sum_ints F.fr (newsAll s.heap L) hh (plain_isList ha) hb fun h' tk t' hf N => h _ _ (F.ofFr hkL hf fun p hp => (N p hp).1)
theorem r_sortedI {a : Addr} {vs : List Value} {ns : List Int} {Q : Value → Shared → Prop} (F : Fx σ k L s m l) (ha : s.heap.PlainList a vs.toArray) (hb : IntsAre vs ns) (hz : vs.length < 64)
    (h : ∀ D us ns' s', Fx σ k L s' m ((D, .list us) :: l) → s.heap.get? D = none → IntsAre us ns' → ns'.Perm ns → ns'.Pairwise (· ≤ ·) → Q (.ref D) s') : wpAny (model prog w) A (call (.builtin "sorted") [.ref a]) Q E s := by
  refine sorted_ints (plain_isList ha) hb hz fun out ns' h1 h2 h3 => ?_
  obtain ⟨e, he⟩ := sortedAll_at s.heap vs out
  have hf : s.heap.get? (s.heap.objs.size + 1) = none := by
    cases q : s.heap.get? (s.heap.objs.size + 1) with
    | none => rfl
    | some o => exact absurd (Heap.lt_size q) (Nat.not_lt.mpr (Nat.le_succ _))
  exact h _ out.toList ns' _ (F.add (s' := { s with heap := sortedAll s.heap vs out }) ⟨fun b o e => sortedAll_old e, rfl, rfl, rfl⟩ hf (c := .list out.toList) ⟨e, by simpa [seqObj] using he⟩) hf h1 h2 h3
theorem r_listRange {n : Nat} {r : Addr} {t u v : Tok} {Q : Value → Shared → Prop} (hh : A.handled = none) (F : Fx σ k L s m l) (hkL : k.get? L = none) (hr : (r, Cel.obj (rangeO n t u v)) ∈ l) (hn : n ≤ 1000)
    (h : ∀ D us s', Fx σ k L s' m ((D, .list us) :: l) → s.heap.get? D = none → IntsAre us (W.rangeKs 0 n) → Q (.ref D) s') : wpAny (model prog w) A (call (.type "list") [.ref r]) Q E s := by
  refine W.kll_range (a := 0) (b := n) (n := n) (t₀ := t) (u₀ := u) (v₀ := v) hh F.fr (newsAll s.heap L) (F.cel hr) ?_ ?_ (by omega) fun D us c h' tk hf N hlt hi => ?_
  · exact small_one (by decide) (by decide) (by omega) (by omega)
  · unfold Builtin.Range.rangeSize; simp; omega
  · have hD := fresh_of (N _ (.head _)).2.1 hlt
    exact h D us _ (F.ofFrNew hkL hf (fun p hp => (N p (.tail _ hp)).1) hD (c := .list us) ⟨c, (N _ (.head _)).1⟩) hD hi

theorem r_addList {a b : Addr} {vs us : List Value} {Q : Value → Shared → Prop} (F : Fx σ k L s m l) (ha : s.heap.PlainList a vs.toArray) (hb : s.heap.PlainList b us.toArray) (hz : vs.length + us.length ≤ 100000)
    (h : ∀ D s', Fx σ k L s' m ((D, .list (vs ++ us)) :: l) → s.heap.get? D = none → Q (.ref D) s') : wpAny (model prog w) A (binaryOp .Add (.ref a) (.ref b)) Q E s := by
  obtain ⟨n, ea⟩ := ha
  obtain ⟨n2, eb⟩ := hb
  refine P.add_list (n := n) (n2 := n2) ea eb ?_ (by simp only [List.size_toArray]; exact Nat.le_trans hz (by decide +kernel))
  exact h _ _ (F.add (More.push s _) (fresh_size _) (c := .list (vs ++ us)) ⟨0, by simpa using Heap.get?_push_size s.heap rfl⟩) (fresh_size _)
theorem c_isNone {v : Value} {b : Bool} {Q : Value → Shared → Prop} (hp : plainIs v .none = true) (hb : (v == Value.none) = b) (h : Q (.bool b) s) : wpAny (model prog w) A (compareOp .Is v .none) Q E s := wpAny_is_plain hp (by rw [hb]; exact h)
theorem c_isNotNone {v : Value} {b : Bool} {Q : Value → Shared → Prop} (hp : plainIs v .none = true) (hb : (v == Value.none) = b) (h : Q (.bool !b) s) : wpAny (model prog w) A (compareOp .IsNot v .none) Q E s := wpAny_isNot_plain hp (by rw [hb]; exact h)
end
end
section
section
variable {prog : Program} {w : World} {A : Around} {E : Value → Shared → Prop} {σ s : Shared} {k Wh g H : Heap} {L : Addr} {m mg : Str → Option Value} {l : Led} {env : Env} {rest : List Stmt}

def minT (b : Tie) : List Tie → Tie
  | [] => b
  | t :: r => minT (if tlt t b then t else b) r
def maxT (b : Tie) : List Tie → Tie
  | [] => b
  | t :: r => maxT (if tlt b t then t else b) r

theorem getElem_of_drop {α : Type} {xs r : List α} {x : α} {j : Nat} (h : xs.drop j = x :: r) : xs[j]? = some x ∧ xs.drop (j + 1) = r := by
  refine ⟨?_, ?_⟩
  · have := congrArg (·[0]?) h
    simpa using this
  · have := congrArg (List.drop 1) h
    simpa [List.drop_drop] using this

/-- the walk of min over a list of ties: the best one so far stands in S -/
theorem min_go {R : Result → Shared → Prop} {I a S : Addr} {vs : List Value} (hh : A.handled = none) (hA : A.in1.units < cLine) (ha : H.PlainList a vs.toArray) (hI : H.get? I = none) (hS : H.get? S = none) (hIS : I ≠ S) :
    ∀ (us : List Value) (ts : List Tie) (j : Nat) (s : Shared) (vb : Value) (b : Tie) (c : Nat), vs.drop j = us → Ties H us ts → TieAt H vb b → H.StaysIn s.heap → s.heap.IsListIter I a j →
    s.heap.get? S = some { cls := .type "list", dict := none, data := .seq #[vb, vb] c, slots := #[] } →
    (∀ v s', TieAt H v (minT b ts) → H.StaysIn s'.heap → (s'.gens = s.gens ∧ s'.os = s.os ∧ s'.drawn = s.drawn) → R (.ok (.ret v)) s') →
    codeAny (model prog w) A (.builtin "min.loop" ⟨[.ref I, .none, .ref S], []⟩) R s := by
  have hname : (toString "min" ++ toString ".loop" : String) = "min.loop" := by decide
  have aI : a ≠ I := fun q => by obtain ⟨n, e⟩ := ha; rw [q, hI] at e; cases e
  have aS : a ≠ S := fun q => by obtain ⟨n, e⟩ := ha; rw [q, hS] at e; cases e
  have kI : ∀ {h h' : Heap}, Heap.SameBut I h h' → H.StaysIn h → H.StaysIn h' := fun {h h'} hs hk b o e => (hs.2 b (fun q => by rw [q, hI] at e; cases e)).trans (hk b o e)
  intro us
  induction us with
  | nil =>
    intro ts j s vb b c hd ht hb hk hit hs hR
    cases ht
    refine codeAny_builtin F.entry_min_loop ?_
    rw [Around.under_plainId F.plain_min_loop _]
    show wpAny _ A.in1 (seqItems? (.ref S) >>= _) _ _ s
    refine wpAny_bind (wpAny_seqItems hs rfl ?_)
    show wpAny _ A.in1 (tryCatch (pyNext (.ref I)) _ >>= _) _ _ s
    have hla : s.heap.IsList a vs.toArray := plain_isList (let ⟨n, e⟩ := ha; ⟨n, hk _ _ e⟩)
    refine wpAny_bind (wpAny_tryCatch (wpAny_pyNext_list_end hh hit hla (by simpa using List.drop_eq_nil_iff.mp hd) fun h' he => ?_))
    have hs' := he S _ (Ne.symm hIS) hs
    show wpAny _ A.in1 (updateSeq S (fun _ => #[]) >>= _) _ _ _
    refine wpAny_bind ?_
    refine wpAny_updateSeq hs' rfl (wpAny_bind (wpAny_letGo (wpAny_pure ?_)))
    refine hR vb _ hb (fun b' o e => (Heap.get?_update_other _ _ (fun q => by rw [← q, hS] at e; cases e)).trans (he b' o (fun q => by rw [q, hI] at e; cases e) (hk b' o e))) ⟨rfl, rfl, rfl⟩
  | cons u us ih =>
    intro ts j s vb b c hd ht hb hk hit hs hR
    cases ht with
    | cons hu hr =>
      rename_i t ts
      obtain ⟨hj, hd'⟩ := getElem_of_drop hd
      refine codeAny_builtin F.entry_min_loop ?_
      rw [Around.under_plainId F.plain_min_loop _]
      show wpAny _ A.in1 (seqItems? (.ref S) >>= _) _ _ s
      refine wpAny_bind (wpAny_seqItems hs rfl ?_)
      show wpAny _ A.in1 (tryCatch (pyNext (.ref I)) _ >>= _) _ _ s
      have hla : s.heap.IsList a vs.toArray := plain_isList (let ⟨n, e⟩ := ha; ⟨n, hk _ _ e⟩)
      refine wpAny_bind (wpAny_tryCatch (wpAny_pyNext_list_item hit hla (x := u) (by simpa using hj) fun h' hit' hs' => ?_))
      have hk' := kI hs' hk
      have hS' : h'.get? S = _ := (hs'.2 S (Ne.symm hIS)).trans hs
      show wpAny _ A.in1 (tryCatch (holding [u, u] (richCompare .Lt u vb >>= _)) _ >>= _) _ _ _
      refine wpAny_bind (wpAny_tryCatch (wpAny_holding (wpAny_bind ?_)))
      refine r_ltTie (s := { s with heap := h' }) (hu.keeps hk') (hb.keeps hk') hA ?_
      refine wpAny_bind (wpAny_holding (wpAny_truthy_bool ?_))
      refine wpAny_bind (wpAny_letGo (wpAny_pure ?_))
      cases hc : tlt t b with
      | true =>
        simp only [if_true]
        refine wpAny_bind ?_
        refine wpAny_updateSeq hS' rfl (wpAny_bind (wpAny_letGo ?_))
        rw [hname]
        refine wpAny_pure ⟨plainId_quiet F.plain_min_loop _, ih ts (j + 1) _ u t _ hd' hr hu (fun b' o e => (Heap.get?_update_other _ _ (fun q => by rw [← q, hS] at e; cases e)).trans (hk' b' o e)) ?_ (Heap.get?_update_self _ hS' rfl) fun v s' h1 h2 h3 => ?_⟩
        · exact hit'.at fun o e => (Heap.get?_update_other _ _ (Ne.symm hIS)).trans e
        · refine hR v s' ?_ h2 h3
          unfold minT; rw [hc, if_pos rfl]; exact h1
      | false =>
        simp only [Bool.false_eq_true, if_false]
        refine wpAny_bind (wpAny_letGo ?_)
        rw [hname]
        refine wpAny_pure ⟨plainId_quiet F.plain_min_loop _, ih ts (j + 1) _ vb b c hd' hr hb hk' hit' hS' fun v s' h1 h2 h3 => ?_⟩
        refine hR v s' ?_ h2 h3
        unfold minT; rw [hc, if_neg Bool.false_ne_true]; exact h1
/-- the walk of max over a list of ties: the best one so far stands in S -/
theorem max_go {R : Result → Shared → Prop} {I a S : Addr} {vs : List Value} (hh : A.handled = none) (hA : A.in1.units < cLine) (ha : H.PlainList a vs.toArray) (hI : H.get? I = none) (hS : H.get? S = none) (hIS : I ≠ S) :
    ∀ (us : List Value) (ts : List Tie) (j : Nat) (s : Shared) (vb : Value) (b : Tie) (c : Nat), vs.drop j = us → Ties H us ts → TieAt H vb b → H.StaysIn s.heap → s.heap.IsListIter I a j →
    s.heap.get? S = some { cls := .type "list", dict := none, data := .seq #[vb, vb] c, slots := #[] } →
    (∀ v s', TieAt H v (maxT b ts) → H.StaysIn s'.heap → (s'.gens = s.gens ∧ s'.os = s.os ∧ s'.drawn = s.drawn) → R (.ok (.ret v)) s') →
    codeAny (model prog w) A (.builtin "max.loop" ⟨[.ref I, .none, .ref S], []⟩) R s := by
  have hname : (toString "max" ++ toString ".loop" : String) = "max.loop" := by decide
  have aI : a ≠ I := fun q => by obtain ⟨n, e⟩ := ha; rw [q, hI] at e; cases e
  have aS : a ≠ S := fun q => by obtain ⟨n, e⟩ := ha; rw [q, hS] at e; cases e
  have kI : ∀ {h h' : Heap}, Heap.SameBut I h h' → H.StaysIn h → H.StaysIn h' := fun {h h'} hs hk b o e => (hs.2 b (fun q => by rw [q, hI] at e; cases e)).trans (hk b o e)
  intro us
  induction us with
  | nil =>
    intro ts j s vb b c hd ht hb hk hit hs hR
    cases ht
    refine codeAny_builtin F.entry_max_loop ?_
    rw [Around.under_plainId F.plain_max_loop _]
    show wpAny _ A.in1 (seqItems? (.ref S) >>= _) _ _ s
    refine wpAny_bind (wpAny_seqItems hs rfl ?_)
    show wpAny _ A.in1 (tryCatch (pyNext (.ref I)) _ >>= _) _ _ s
    have hla : s.heap.IsList a vs.toArray := plain_isList (let ⟨n, e⟩ := ha; ⟨n, hk _ _ e⟩)
    refine wpAny_bind (wpAny_tryCatch (wpAny_pyNext_list_end hh hit hla (by simpa using List.drop_eq_nil_iff.mp hd) fun h' he => ?_))
    have hs' := he S _ (Ne.symm hIS) hs
    show wpAny _ A.in1 (updateSeq S (fun _ => #[]) >>= _) _ _ _
    refine wpAny_bind ?_
    refine wpAny_updateSeq hs' rfl (wpAny_bind (wpAny_letGo (wpAny_pure ?_)))
    refine hR vb _ hb (fun b' o e => (Heap.get?_update_other _ _ (fun q => by rw [← q, hS] at e; cases e)).trans (he b' o (fun q => by rw [q, hI] at e; cases e) (hk b' o e))) ⟨rfl, rfl, rfl⟩
  | cons u us ih =>
    intro ts j s vb b c hd ht hb hk hit hs hR
    cases ht with
    | cons hu hr =>
      rename_i t ts
      obtain ⟨hj, hd'⟩ := getElem_of_drop hd
      refine codeAny_builtin F.entry_max_loop ?_
      rw [Around.under_plainId F.plain_max_loop _]
      show wpAny _ A.in1 (seqItems? (.ref S) >>= _) _ _ s
      refine wpAny_bind (wpAny_seqItems hs rfl ?_)
      show wpAny _ A.in1 (tryCatch (pyNext (.ref I)) _ >>= _) _ _ s
      have hla : s.heap.IsList a vs.toArray := plain_isList (let ⟨n, e⟩ := ha; ⟨n, hk _ _ e⟩)
      refine wpAny_bind (wpAny_tryCatch (wpAny_pyNext_list_item hit hla (x := u) (by simpa using hj) fun h' hit' hs' => ?_))
      have hk' := kI hs' hk
      have hS' : h'.get? S = _ := (hs'.2 S (Ne.symm hIS)).trans hs
      show wpAny _ A.in1 (tryCatch (holding [u, u] (richCompare .Gt u vb >>= _)) _ >>= _) _ _ _
      refine wpAny_bind (wpAny_tryCatch (wpAny_holding (wpAny_bind ?_)))
      refine r_gtTie (s := { s with heap := h' }) (hu.keeps hk') (hb.keeps hk') hA ?_
      refine wpAny_bind (wpAny_holding (wpAny_truthy_bool ?_))
      refine wpAny_bind (wpAny_letGo (wpAny_pure ?_))
      cases hc : tlt b t with
      | true =>
        simp only [if_true]
        refine wpAny_bind ?_
        refine wpAny_updateSeq hS' rfl (wpAny_bind (wpAny_letGo ?_))
        rw [hname]
        refine wpAny_pure ⟨plainId_quiet F.plain_max_loop _, ih ts (j + 1) _ u t _ hd' hr hu (fun b' o e => (Heap.get?_update_other _ _ (fun q => by rw [← q, hS] at e; cases e)).trans (hk' b' o e)) ?_ (Heap.get?_update_self _ hS' rfl) fun v s' h1 h2 h3 => ?_⟩
        · exact hit'.at fun o e => (Heap.get?_update_other _ _ (Ne.symm hIS)).trans e
        · refine hR v s' ?_ h2 h3
          unfold maxT; rw [hc, if_pos rfl]; exact h1
      | false =>
        simp only [Bool.false_eq_true, if_false]
        refine wpAny_bind (wpAny_letGo ?_)
        rw [hname]
        refine wpAny_pure ⟨plainId_quiet F.plain_max_loop _, ih ts (j + 1) _ vb b c hd' hr hb hk' hit' hS' fun v s' h1 h2 h3 => ?_⟩
        refine hR v s' ?_ h2 h3
        unfold maxT; rw [hc, if_neg Bool.false_ne_true]; exact h1

theorem min_first {R : Result → Shared → Prop} {I a S : Addr} {v0 : Value} {vs : List Value} {t0 : Tie} {ts : List Tie} {c : Nat} (hh : A.handled = none) (hA : A.in1.units < cLine) (ha : H.PlainList a (v0 :: vs).toArray) (hI : H.get? I = none) (hS : H.get? S = none) (hIS : I ≠ S)
    (h0 : TieAt H v0 t0) (ht : Ties H vs ts) (hk : H.StaysIn s.heap) (hit : s.heap.IsListIter I a 0) (hs : s.heap.get? S = some { cls := .type "list", dict := none, data := .seq #[] c, slots := #[] })
    (hR : ∀ v s', TieAt H v (minT t0 ts) → H.StaysIn s'.heap → (s'.gens = s.gens ∧ s'.os = s.os ∧ s'.drawn = s.drawn) → R (.ok (.ret v)) s') :
    codeAny (model prog w) A (.builtin "min.loop" ⟨[.ref I, .none, .ref S], []⟩) R s := by
  have hname : (toString "min" ++ toString ".loop" : String) = "min.loop" := by decide
  refine codeAny_builtin F.entry_min_loop ?_
  rw [Around.under_plainId F.plain_min_loop _]
  show wpAny _ A.in1 (seqItems? (.ref S) >>= _) _ _ s
  refine wpAny_bind (wpAny_seqItems hs rfl ?_)
  show wpAny _ A.in1 (tryCatch (pyNext (.ref I)) _ >>= _) _ _ s
  have hla : s.heap.IsList a (v0 :: vs).toArray := plain_isList (let ⟨n, e⟩ := ha; ⟨n, hk _ _ e⟩)
  refine wpAny_bind (wpAny_tryCatch (wpAny_pyNext_list_item hit hla (x := v0) (by simp) fun h' hit' hs' => ?_))
  have hS' : h'.get? S = _ := (hs'.2 S (Ne.symm hIS)).trans hs
  show wpAny _ A.in1 (updateSeq S (fun _ => #[v0, v0]) >>= _) _ _ _
  refine wpAny_bind ?_
  refine wpAny_updateSeq hS' rfl ?_
  rw [hname]
  refine wpAny_pure ⟨plainId_quiet F.plain_min_loop _, min_go hh hA ha hI hS hIS vs ts 1 _ v0 t0 _ (by simp) ht h0 (fun b' o e => (Heap.get?_update_other _ _ (fun q => by rw [← q, hS] at e; cases e)).trans ((hs'.2 b' (fun q => by rw [q, hI] at e; cases e)).trans (hk b' o e))) ?_
    (Heap.get?_update_self _ hS' rfl) fun v s' h1 h2 h3 => hR v s' h1 h2 h3⟩
  exact hit'.at fun o e => (Heap.get?_update_other _ _ (Ne.symm hIS)).trans e

theorem r_min {a : Addr} {v0 : Value} {vs : List Value} {t0 : Tie} {ts : List Tie} {Q : Value → Shared → Prop} (hh : A.handled = none) (hA : A.units + 64 < cLine) (F : Fx σ k L s m l) (ha : s.heap.PlainList a (v0 :: vs).toArray) (h0 : TieAt s.heap v0 t0) (ht : Ties s.heap vs ts)
    (h : ∀ v s', Fx σ k L s' m l → TieAt s'.heap v (minT t0 ts) → Q v s') : wpAny (model prog w) A (call (.builtin "min") [.ref a]) Q E s := by
  have hname : (toString "min" ++ toString ".loop" : String) = "min.loop" := by decide
  refine call_function_tree PySem.F.kind_min PySem.F.plain_min PySem.F.entry_min (PySem.F.args_min1 _) ?_
  show wpAny _ A.in1 (Builtin.Builtins.bindParams "min" ["key", "default"] 0 ⟨[], []⟩ >>= _) _ _ s
  refine wpAny_bind (wpAny_of_eq (show Builtin.Builtins.bindParams "min" ["key", "default"] 0 ⟨[], []⟩ = pure [none, none] from rfl) ?_)
  refine wpAny_bind (wpAny_pure ?_)
  refine wpAny_bind (wpAny_pyIter_list (plain_isList ha) ?_)
  refine wpAny_bind (wpAny_newObj_type ?_)
  have hS : s.heap.get? (s.heap.push { cls := .type "list_iterator", data := .fields #[.ref a, .int 0 0] }).objs.size = none := by
    cases q : s.heap.get? (s.heap.push { cls := .type "list_iterator", data := .fields #[.ref a, .int 0 0] }).objs.size with
    | none => rfl
    | some o => have := Heap.lt_size q; rw [Heap.size_push] at this; exact absurd this (Nat.not_lt.mpr (Nat.le_succ _))
  rw [hname]
  refine wpAny_pure ⟨plainId_quiet PySem.F.plain_min_loop _, min_first (H := s.heap) hh (by show A.units + 1 < cLine; omega) ha (fresh_size _) hS (by rw [Heap.size_push]; exact Nat.ne_of_lt (Nat.lt_succ_self _)) h0 ht
    (fun b o e => Heap.get?_push_of_some _ (Heap.get?_push_of_some _ e)) ⟨_, Heap.get?_push_of_some _ (Heap.get?_push_size _ rfl), rfl, rfl⟩ (Heap.get?_push_size _ rfl) fun v s' h1 h2 h3 => ?_⟩
  exact h v s' (F.more ⟨h2, h3⟩) (h1.keeps h2)

theorem max_first {R : Result → Shared → Prop} {I a S : Addr} {v0 : Value} {vs : List Value} {t0 : Tie} {ts : List Tie} {c : Nat} (hh : A.handled = none) (hA : A.in1.units < cLine) (ha : H.PlainList a (v0 :: vs).toArray) (hI : H.get? I = none) (hS : H.get? S = none) (hIS : I ≠ S)
    (h0 : TieAt H v0 t0) (ht : Ties H vs ts) (hk : H.StaysIn s.heap) (hit : s.heap.IsListIter I a 0) (hs : s.heap.get? S = some { cls := .type "list", dict := none, data := .seq #[] c, slots := #[] })
    (hR : ∀ v s', TieAt H v (maxT t0 ts) → H.StaysIn s'.heap → (s'.gens = s.gens ∧ s'.os = s.os ∧ s'.drawn = s.drawn) → R (.ok (.ret v)) s') :
    codeAny (model prog w) A (.builtin "max.loop" ⟨[.ref I, .none, .ref S], []⟩) R s := by
  have hname : (toString "max" ++ toString ".loop" : String) = "max.loop" := by decide
  refine codeAny_builtin F.entry_max_loop ?_
  rw [Around.under_plainId F.plain_max_loop _]
  show wpAny _ A.in1 (seqItems? (.ref S) >>= _) _ _ s
  refine wpAny_bind (wpAny_seqItems hs rfl ?_)
  show wpAny _ A.in1 (tryCatch (pyNext (.ref I)) _ >>= _) _ _ s
  have hla : s.heap.IsList a (v0 :: vs).toArray := plain_isList (let ⟨n, e⟩ := ha; ⟨n, hk _ _ e⟩)
  refine wpAny_bind (wpAny_tryCatch (wpAny_pyNext_list_item hit hla (x := v0) (by simp) fun h' hit' hs' => ?_))
  have hS' : h'.get? S = _ := (hs'.2 S (Ne.symm hIS)).trans hs
  show wpAny _ A.in1 (updateSeq S (fun _ => #[v0, v0]) >>= _) _ _ _
  refine wpAny_bind ?_
  refine wpAny_updateSeq hS' rfl ?_
  rw [hname]
  refine wpAny_pure ⟨plainId_quiet F.plain_max_loop _, max_go hh hA ha hI hS hIS vs ts 1 _ v0 t0 _ (by simp) ht h0 (fun b' o e => (Heap.get?_update_other _ _ (fun q => by rw [← q, hS] at e; cases e)).trans ((hs'.2 b' (fun q => by rw [q, hI] at e; cases e)).trans (hk b' o e))) ?_
    (Heap.get?_update_self _ hS' rfl) fun v s' h1 h2 h3 => hR v s' h1 h2 h3⟩
  exact hit'.at fun o e => (Heap.get?_update_other _ _ (Ne.symm hIS)).trans e

theorem r_max {a : Addr} {v0 : Value} {vs : List Value} {t0 : Tie} {ts : List Tie} {Q : Value → Shared → Prop} (hh : A.handled = none) (hA : A.units + 64 < cLine) (F : Fx σ k L s m l) (ha : s.heap.PlainList a (v0 :: vs).toArray) (h0 : TieAt s.heap v0 t0) (ht : Ties s.heap vs ts)
    (h : ∀ v s', Fx σ k L s' m l → TieAt s'.heap v (maxT t0 ts) → Q v s') : wpAny (model prog w) A (call (.builtin "max") [.ref a]) Q E s := by
  have hname : (toString "max" ++ toString ".loop" : String) = "max.loop" := by decide
  refine call_function_tree PySem.F.kind_max PySem.F.plain_max PySem.F.entry_max (PySem.F.args_max1 _) ?_
  show wpAny _ A.in1 (Builtin.Builtins.bindParams "max" ["key", "default"] 0 ⟨[], []⟩ >>= _) _ _ s
  refine wpAny_bind (wpAny_of_eq (show Builtin.Builtins.bindParams "max" ["key", "default"] 0 ⟨[], []⟩ = pure [none, none] from rfl) ?_)
  refine wpAny_bind (wpAny_pure ?_)
  refine wpAny_bind (wpAny_pyIter_list (plain_isList ha) ?_)
  refine wpAny_bind (wpAny_newObj_type ?_)
  have hS : s.heap.get? (s.heap.push { cls := .type "list_iterator", data := .fields #[.ref a, .int 0 0] }).objs.size = none := by
    cases q : s.heap.get? (s.heap.push { cls := .type "list_iterator", data := .fields #[.ref a, .int 0 0] }).objs.size with
    | none => rfl
    | some o => have := Heap.lt_size q; rw [Heap.size_push] at this; exact absurd this (Nat.not_lt.mpr (Nat.le_succ _))
  rw [hname]
  refine wpAny_pure ⟨plainId_quiet PySem.F.plain_max_loop _, max_first (H := s.heap) hh (by show A.units + 1 < cLine; omega) ha (fresh_size _) hS (by rw [Heap.size_push]; exact Nat.ne_of_lt (Nat.lt_succ_self _)) h0 ht
    (fun b o e => Heap.get?_push_of_some _ (Heap.get?_push_of_some _ e)) ⟨_, Heap.get?_push_of_some _ (Heap.get?_push_size _ rfl), rfl, rfl⟩ (Heap.get?_push_size _ rfl) fun v s' h1 h2 h3 => ?_⟩
  exact h v s' (F.more ⟨h2, h3⟩) (h1.keeps h2)

end
end
section
open PySem.W

/-- what the asks of a sort come to, under an order told by lt -/
def kOk {α : Type} (lt : Nat → Nat → Bool) (n : Nat) (P : α → Prop) : KasT α → Prop
  | .ret a => P a
  | .ask i j k => i < n ∧ j < n ∧ kOk lt n P (k (lt i j))
theorem kOk_bind {α β : Type} {lt : Nat → Nat → Bool} {n : Nat} {P : β → Prop} {f : α → KasT β} : ∀ (t : KasT α), kOk lt n (fun a => kOk lt n P (f a)) t → kOk lt n P (t.bind f)
  | .ret _, h => h
  | .ask _ _ k, ⟨h1, h2, h3⟩ => ⟨h1, h2, kOk_bind (k _) h3⟩
theorem kOk_mono {α : Type} {lt : Nat → Nat → Bool} {n : Nat} {P P' : α → Prop} (hp : ∀ a, P a → P' a) : ∀ (t : KasT α), kOk lt n P t → kOk lt n P' t
  | .ret _, h => hp _ h
  | .ask _ _ k, ⟨h1, h2, h3⟩ => ⟨h1, h2, kOk_mono hp (k _) h3⟩
theorem kOk_wp {α : Type} {lt : Nat → Nat → Bool} {n : Nat} {P : α → Prop} {cmp : Nat → Nat → (Bool → Shared → Prop) → Shared → Prop} {Q : α → Shared → Prop} {s : Shared} (hc : ∀ i j C, i < n → j < n → C (lt i j) s → cmp i j C s) (hp : ∀ a, P a → Q a s) :
    ∀ (t : KasT α), kOk lt n P t → t.kasWp cmp Q s
  | .ret _, h => hp _ h
  | .ask i j k, ⟨h1, h2, h3⟩ => hc i j _ h1 h2 (kOk_wp hc hp (k _) h3)

structure Ord (lt : Nat → Nat → Bool) : Prop where
  asym : ∀ {a b}, lt a b = true → lt b a = false
  tr : ∀ {a b c}, lt b a = false → lt c b = false → lt c a = false
theorem Ord.irr {lt : Nat → Nat → Bool} (o : Ord lt) (a : Nat) : lt a a = false := by
  cases h : lt a a with
  | false => rfl
  | true => have := o.asym h; rw [h] at this; cases this

section
variable {lt : Nat → Nat → Bool} {n : Nat} (o : Ord lt)
/-- a rearrangement of 0..n-1 -/
structure Pm (n : Nat) (p : Array Nat) : Prop where
  perm : p.Perm (List.range n).toArray
theorem Pm.size {p : Array Nat} (h : Pm n p) : p.size = n := by have := h.perm.size_eq; simpa using this
theorem Pm.mem {p : Array Nat} (h : Pm n p) (hn : 0 < n) (i : Nat) : p.getD i 0 < n := by
  by_cases hi : i < p.size
  · have : p[i] ∈ p := Array.getElem_mem hi
    have := h.perm.mem_iff.mp this
    rw [Array.getD_eq_getD_getElem?, Array.getElem?_eq_getElem hi]
    simpa using this
  · rw [Array.getD_eq_getD_getElem?, Array.getElem?_eq_none (by omega)]; exact hn
theorem Pm.rev {p : Array Nat} (h : Pm n p) (i j : Nat) : Pm n (kas_rev p i j) := ⟨(mirror_perm ..).trans h.perm⟩
theorem Pm.bub {p : Array Nat} (h : Pm n p) (i j : Nat) : Pm n (bubble p i j) := ⟨(bubble_perm ..).trans h.perm⟩

def Up (lt : Nat → Nat → Bool) (p : Array Nat) (m : Nat) : Prop := ∀ i j, i ≤ j → j < m → lt (p.getD j 0) (p.getD i 0) = false
def Dn (lt : Nat → Nat → Bool) (p : Array Nat) (m : Nat) : Prop := ∀ i j, i ≤ j → j < m → lt (p.getD i 0) (p.getD j 0) = false
def Eqs (lt : Nat → Nat → Bool) (p : Array Nat) (a b : Nat) : Prop := ∀ i j, a ≤ i → i < b → a ≤ j → j < b → lt (p.getD i 0) (p.getD j 0) = false

include o
theorem up_one (p : Array Nat) : Up lt p 1 := fun i j hi hj => by
  have : i = j := by omega
  subst this; exact o.irr _
theorem up_more {p : Array Nat} {m : Nat} (h : Up lt p m) (hm : 0 < m) (hq : lt (p.getD m 0) (p.getD (m - 1) 0) = false) : Up lt p (m + 1) := fun i j hi hj => by
  by_cases hjm : j = m
  · subst hjm
    by_cases him : i = j
    · subst him; exact o.irr _
    · exact o.tr (h i (j - 1) (by omega) (by omega)) hq
  · exact h i j hi (by omega)
theorem dn_more {p : Array Nat} {m : Nat} (h : Dn lt p m) (hm : 0 < m) (hq : lt (p.getD (m - 1) 0) (p.getD m 0) = false) : Dn lt p (m + 1) := fun i j hi hj => by
  by_cases hjm : j = m
  · subst hjm
    by_cases him : i = j
    · subst him; exact o.irr _
    · exact o.tr hq (h i (j - 1) (by omega) (by omega))
  · exact h i j hi (by omega)
omit o in
theorem rev_at {p : Array Nat} {i j : Nat} (hj : j ≤ p.size) (x : Nat) : (kas_rev p i j).getD x 0 = if i ≤ x ∧ x < j then p.getD (i + (j - 1) - x) 0 else p.getD x 0 := by
  unfold kas_rev
  rw [Array.getD_eq_getD_getElem?, getElem?_mirror_all hj, Array.getD_eq_getD_getElem?, Array.getD_eq_getD_getElem?]
  split
  · congr 2; omega
  · rfl
omit o in
theorem bub_at {p : Array Nat} {src d : Nat} (hs : src < p.size) (hd : d ≤ src) (x : Nat) : (bubble p src d).getD x 0 = if x = src - d then p.getD src 0 else if src - d < x ∧ x ≤ src then p.getD (x - 1) 0 else p.getD x 0 := by
  rw [Array.getD_eq_getD_getElem?, getElem?_bubble hs d hd, Array.getD_eq_getD_getElem?, Array.getD_eq_getD_getElem?, Array.getD_eq_getD_getElem?]
  split
  · rfl
  · split <;> rfl

theorem k_asc (hn : 0 < n) {p : Array Nat} (hp : Pm n p) : ∀ (f m : Nat), 0 < m → m + f ≤ n → Up lt p m → kOk lt n (fun r => m ≤ r ∧ r ≤ m + f ∧ Up lt p r ∧ (r < m + f → lt (p.getD r 0) (p.getD (r - 1) 0) = true)) (kas_asc p f m)
  | 0, m, h0, hm, hu => ⟨Nat.le_refl _, Nat.le_refl _, hu, fun h => absurd h (Nat.lt_irrefl _)⟩
  | f + 1, m, h0, hm, hu => by
    refine ⟨hp.mem hn _, hp.mem hn _, ?_⟩
    cases hc : lt (p.getD m 0) (p.getD (m - 1) 0) with
    | true =>
      simp only [if_true]
      exact ⟨Nat.le_refl _, Nat.le_add_right _ _, hu, fun _ => hc⟩
    | false =>
      simp only [Bool.false_eq_true, if_false]
      exact kOk_mono (fun r ⟨h1, h2, h3, h4⟩ => ⟨by omega, by omega, h3, fun h => h4 (by omega)⟩) _ (k_asc hn hp f (m + 1) (by omega) (by omega) (up_more o hu h0 hc))

theorem dn_rev {p : Array Nat} {m q : Nat} (hs : m ≤ p.size) (hq : q < m) (hd : Dn lt p m) (he : Eqs lt p (m - (q + 1)) m) : Dn lt (kas_rev p (m - (q + 1)) m) m ∧ Eqs lt (kas_rev p (m - (q + 1)) m) (m - (q + 1)) m := by
  refine ⟨fun i j hi hj => ?_, fun i j h1 h2 h3 h4 => ?_⟩
  · rw [rev_at hs i, rev_at hs j]
    by_cases hjs : m - (q + 1) ≤ j
    · by_cases his : m - (q + 1) ≤ i
      · rw [if_pos ⟨his, by omega⟩, if_pos ⟨hjs, hj⟩]
        exact he _ _ (by omega) (by omega) (by omega) (by omega)
      · rw [if_neg (by omega), if_pos ⟨hjs, hj⟩]
        exact hd _ _ (by omega) (by omega)
    · rw [if_neg (by omega), if_neg (by omega)]
      exact hd _ _ hi hj
  · rw [rev_at hs i, rev_at hs j, if_pos ⟨h1, h2⟩, if_pos ⟨h3, h4⟩]
    exact he _ _ (by omega) (by omega) (by omega) (by omega)

theorem k_desc (hn : 0 < n) : ∀ (f : Nat) (p : Array Nat) (m q : Nat), Pm n p → q < m → m + f ≤ n → Dn lt p m → Eqs lt p (m - (q + 1)) m →
    kOk lt n (fun r => Pm n r.1 ∧ m ≤ r.2.1 ∧ r.2.1 ≤ m + f ∧ r.2.2 < r.2.1 ∧ Dn lt r.1 r.2.1 ∧ Eqs lt r.1 (r.2.1 - (r.2.2 + 1)) r.2.1) (kas_desc f p m q)
  | 0, p, m, q, hp, hq, hm, hd, he => ⟨hp, Nat.le_refl _, Nat.le_refl _, hq, hd, he⟩
  | f + 1, p, m, q, hp, hq, hm, hd, he => by
    have hs : m ≤ p.size := by rw [hp.size]; omega
    have eqs1 : ∀ (p : Array Nat), Eqs lt p (m + 1 - (0 + 1)) (m + 1) := fun p i j h1 h2 h3 h4 => by
      have : i = j := by omega
      subst this; exact o.irr _
    refine ⟨hp.mem hn _, hp.mem hn _, ?_⟩
    cases hc : lt (p.getD m 0) (p.getD (m - 1) 0) with
    | true =>
      simp only [if_true]
      split
      · have hd' := (dn_rev o hs hq hd he).1
        have hq1 : lt ((kas_rev p (m - (q + 1)) m).getD (m - 1) 0) ((kas_rev p (m - (q + 1)) m).getD m 0) = false := by
          rw [rev_at hs (m - 1), rev_at hs m, if_pos (by omega), if_neg (by omega)]
          exact o.tr (o.asym hc) (he _ _ (by omega) (by omega) (by omega) (by omega))
        exact kOk_mono (fun r ⟨a1, a2, a3, a4⟩ => ⟨a1, by omega, by omega, a4⟩) _ (k_desc hn f _ (m + 1) 0 (hp.rev _ _) (by omega) (by omega) (dn_more o hd' (by omega) hq1) (eqs1 _))
      · exact kOk_mono (fun r ⟨a1, a2, a3, a4⟩ => ⟨a1, by omega, by omega, a4⟩) _ (k_desc hn f p (m + 1) 0 hp (by omega) (by omega) (dn_more o hd (by omega) (o.asym hc)) (eqs1 _))
    | false =>
      simp only [Bool.false_eq_true, if_false]
      refine ⟨hp.mem hn _, hp.mem hn _, ?_⟩
      cases hc' : lt (p.getD (m - 1) 0) (p.getD m 0) with
      | true =>
        simp only [if_true]
        exact ⟨hp, Nat.le_refl _, Nat.le_add_right _ _, hq, hd, he⟩
      | false =>
        simp only [Bool.false_eq_true, if_false]
        refine kOk_mono (fun r ⟨a1, a2, a3, a4⟩ => ⟨a1, by omega, by omega, a4⟩) _ (k_desc hn f p (m + 1) (q + 1) hp (by omega) (by omega) (dn_more o hd (by omega) hc') ?_)
        intro i j h1 h2 h3 h4
        by_cases hi : i = m
        · by_cases hj : j = m
          · subst hi; subst hj; exact o.irr _
          · subst hi; exact o.tr (he j (i - 1) (by omega) (by omega) (by omega) (by omega) |> fun h => by
              exact he (i - 1) j (by omega) (by omega) (by omega) (by omega)) hc
        · by_cases hj : j = m
          · subst hj; exact o.tr hc' (he i (j - 1) (by omega) (by omega) (by omega) (by omega))
          · exact he i j (by omega) (by omega) (by omega) (by omega)

theorem k_tail3 (hn : 0 < n) {p : Array Nat} {m : Nat} (hp : Pm n p) (h0 : 0 < m) (hm : m ≤ n) (hd : Dn lt p m) : kOk lt n (fun r => Pm n r.2 ∧ 0 < r.1 ∧ r.1 ≤ n ∧ Up lt r.2 r.1) (kas_tail3 m n p) := by
  have hs : m ≤ p.size := by rw [hp.size]; exact hm
  refine kOk_bind _ (kOk_mono (fun r ⟨h1, h2, h3, _⟩ => ⟨hp.rev _ _, by omega, by omega, h3⟩) _ (k_asc o hn (hp.rev 0 m) (n - m) m h0 (by omega) fun i j hi hj => ?_))
  rw [rev_at hs i, rev_at hs j, if_pos (by omega), if_pos (by omega)]
  exact hd _ _ (by omega) (by omega)
theorem k_descPart (hn : 0 < n) {p : Array Nat} {m : Nat} (hp : Pm n p) (h0 : 0 < m) (hm : m + 1 ≤ n) (hd : Dn lt p (m + 1)) : kOk lt n (fun r => Pm n r.2 ∧ 0 < r.1 ∧ r.1 ≤ n ∧ Up lt r.2 r.1) (kas_descPart m n p) := by
  refine kOk_bind _ (kOk_mono (fun r ⟨h1, h2, h3, h4, h5, h6⟩ => ?_) _ (k_desc o hn (n - (m + 1)) p (m + 1) 0 hp (by omega) (by omega) hd fun i j h1 h2 h3 h4 => by
    have : i = j := by omega
    subst this; exact o.irr _))
  split
  · exact k_tail3 o hn (h1.rev _ _) (by omega) (by omega) (dn_rev o (by rw [h1.size]; omega) h4 h5 h6).1
  · exact k_tail3 o hn h1 (by omega) (by omega) h5

theorem k_count (hn : 0 < n) {p : Array Nat} (hp : Pm n p) : kOk lt n (fun r => Pm n r.2 ∧ 0 < r.1 ∧ r.1 ≤ n ∧ Up lt r.2 r.1) (kas_count n p) := by
  refine kOk_bind _ (kOk_mono (fun m ⟨h1, h2, h3, h4⟩ => ?_) _ (k_asc o hn hp (n - 1) 1 (by omega) (by omega) (up_one o p)))
  split
  · exact ⟨hp, by omega, by omega, h3⟩
  · rename_i hne
    have hne : m ≠ n := by simpa using hne
    have hlt := h4 (by omega)
    have hs : m ≤ p.size := by rw [hp.size]; omega
    split
    · refine ⟨hp.mem hn _, hp.mem hn _, ?_⟩
      cases hc : lt (p.getD 0 0) (p.getD (m - 1) 0) with
      | true =>
        simp only [if_true]
        exact ⟨hp, by omega, by omega, h3⟩
      | false =>
        simp only [Bool.false_eq_true, if_false]
        refine k_descPart o hn (hp.rev _ _) (by omega) (by omega) (dn_more o (fun i j hi hj => ?_) (by omega) ?_)
        · rw [rev_at hs i, rev_at hs j, if_pos (by omega), if_pos (by omega)]
          exact h3 _ _ (by omega) (by omega)
        · rw [rev_at hs (m - 1), rev_at hs m, if_pos (by omega), if_neg (by omega), show 0 + (m - 1) - (m - 1) = 0 by omega]
          exact o.tr (o.asym hlt) hc
    · have e : m = 1 := by omega
      subst e
      exact k_descPart o hn hp (by omega) (by omega) (dn_more o (fun i j hi hj => by
        have : i = j := by omega
        subst this; exact o.irr _) (by omega) (o.asym hlt))

theorem k_place (hn : 0 < n) {p : Array Nat} {k : Nat} (hp : Pm n p) (hu : Up lt p k) : ∀ (f l r : Nat), l ≤ r → r ≤ k → r - l ≤ f → (∀ i, i < l → lt (p.getD k 0) (p.getD i 0) = false) → (∀ i, r ≤ i → i < k → lt (p.getD k 0) (p.getD i 0) = true) →
    kOk lt n (fun x => x ≤ k ∧ (∀ i, i < x → lt (p.getD k 0) (p.getD i 0) = false) ∧ (∀ i, x ≤ i → i < k → lt (p.getD k 0) (p.getD i 0) = true)) (kas_place p k f l r)
  | 0, l, r, h1, h2, h3, h4, h5 => ⟨by omega, h4, fun i hi hk => h5 i (by omega) hk⟩
  | f + 1, l, r, h1, h2, h3, h4, h5 => by
    unfold kas_place
    split
    · exact ⟨by omega, h4, fun i hi hk => h5 i (by omega) hk⟩
    · refine ⟨hp.mem hn _, hp.mem hn _, ?_⟩
      cases hc : lt (p.getD k 0) (p.getD ((l + r) / 2) 0) with
      | true =>
        simp only [if_true]
        refine k_place hn hp hu f l ((l + r) / 2) (by omega) (by omega) (by omega) h4 fun i hi hk => ?_
        cases hq : lt (p.getD k 0) (p.getD i 0) with
        | true => rfl
        | false => have := o.tr (hu _ _ hi hk) hq; rw [hc] at this; cases this
      | false =>
        simp only [Bool.false_eq_true, if_false]
        exact k_place hn hp hu f ((l + r) / 2 + 1) r (by omega) h2 (by omega) (fun i hi => o.tr (hu i ((l + r) / 2) (by omega) (by omega)) hc) h5

theorem k_bin (hn : 0 < n) : ∀ (f : Nat) (p : Array Nat) (k : Nat), Pm n p → k + f = n → Up lt p k → kOk lt n (fun r => Pm n r ∧ Up lt r n) (kas_bin f p k)
  | 0, p, k, hp, hk, hu => ⟨hp, (by omega : k = n) ▸ hu⟩
  | f + 1, p, k, hp, hk, hu => by
    refine kOk_bind _ (kOk_mono (fun x ⟨h1, h2, h3⟩ => ?_) _ (k_place o hn hp hu k 0 k (by omega) (by omega) (by omega) (fun i hi => absurd hi (Nat.not_lt_zero _)) fun i hi hk => absurd hk (by omega)))
    refine k_bin hn f _ (k + 1) (hp.bub _ _) (by omega) fun i j hi hj => ?_
    have hks : k < p.size := by rw [hp.size]; omega
    rw [bub_at hks (by omega) j, bub_at hks (by omega) i, show k - (k - x) = x by omega]
    by_cases hjx : j = x
    · rw [if_pos hjx]
      by_cases hix : i = x
      · rw [if_pos hix]; exact o.irr _
      · rw [if_neg hix, if_neg (by omega)]; exact h2 i (by omega)
    · rw [if_neg hjx]
      by_cases hjl : x < j
      · rw [if_pos (by omega)]
        by_cases hix : i = x
        · rw [if_pos hix]; exact o.asym (h3 (j - 1) (by omega) (by omega))
        · rw [if_neg hix]
          by_cases hil : x < i
          · rw [if_pos (by omega)]; exact hu _ _ (by omega) (by omega)
          · rw [if_neg (by omega)]; exact hu _ _ (by omega) (by omega)
      · rw [if_neg (by omega), if_neg (by omega), if_neg (by omega)]
        exact hu _ _ hi (by omega)

theorem k_sort (hn : 0 < n) : kOk lt n (fun r => Pm n r ∧ Up lt r n) (kas_sort n) := by
  refine kOk_bind _ (kOk_mono (fun r ⟨h1, h2, h3, h4⟩ => ?_) _ (k_count o hn ⟨Array.Perm.refl _⟩))
  split
  · rw [Nat.max_eq_left h2]
    exact k_bin o hn _ _ _ h1 (by omega) h4
  · exact ⟨h1, (by omega : r.1 = n) ▸ h4⟩
end
end
section
open PySem.W

-- the order of ties
def Rising (ts : List Tie) : Prop := ts.Pairwise fun a b => tlt b a = false

theorem ord_of (ts : List Tie) : Ord fun i j => tlt (ts.getD i d0) (ts.getD j d0) := ⟨tlt_asym, tlt_tr⟩

/-- what a sorted arrangement picks -/
theorem picked {ts : List Tie} {p : Array Nat} (hp : Pm ts.length p) (hu : Up (fun i j => tlt (ts.getD i d0) (ts.getD j d0)) p ts.length) : (p.toList.map fun i => ts.getD i d0).Perm ts ∧ Rising (p.toList.map fun i => ts.getD i d0) := by
  refine ⟨?_, ?_⟩
  · have h1 : p.toList.Perm (List.range ts.length) := by simpa using hp.perm.toList
    refine (h1.map _).trans (List.Perm.of_eq ?_)
    apply List.ext_getElem (by simp)
    intro i h1 h2
    simp at h1
    simp [h1]
  · unfold Rising
    rw [List.pairwise_iff_getElem]
    intro i j hi hj hij
    simp only [List.length_map, Array.length_toList] at hi hj
    have := hu i j (by omega) (by rw [← hp.size]; exact hj)
    simp only [List.getElem_map, Array.getElem_toList]
    simpa [Array.getD_eq_getD_getElem?, hi, hj] using this

theorem Ties.getD {h : Heap} {vs : List Value} {ts : List Tie} (x : Ties h vs ts) {i : Nat} (hi : i < ts.length) : TieAt h (vs.getD i Value.none) (ts.getD i d0) := by
  obtain ⟨v, hv, ht⟩ := All2.get x (i := i) (b := ts.getD i d0) (by simp [hi])
  have : vs.getD i Value.none = v := by simp [List.getD_eq_getElem?_getD, hv]
  rw [this]; exact ht
theorem Ties.pick {h : Heap} {vs : List Value} {ts : List Tie} (x : Ties h vs ts) : ∀ {l : List Nat}, (∀ i ∈ l, i < ts.length) → Ties h (l.map fun i => vs.getD i Value.none) (l.map fun i => ts.getD i d0)
  | [], _ => .nil
  | i :: l, hl => .cons (x.getD (hl i (.head _))) (Ties.pick x fun j hj => hl j (.tail _ hj))

section
variable {prog : Program} {w : World} {A : Around} {E : Value → Shared → Prop} {σ s : Shared} {k Wh g H : Heap} {L : Addr} {m mg : Str → Option Value} {led : Led} {env : Env} {rest : List Stmt}

theorem tie_lt {v u : Value} {x y : Tie} {b : Bool} {Q : Bool → Shared → Prop} (hv : TieAt s.heap v x) (hu : TieAt s.heap u y) (hb : b = true) (h : Q (tlt x y) s) : wpAny (model prog w) A (keyLt' (tuples' b) v u) Q (fun _ _ => False) s := by
  subst hb
  obtain ⟨a, t1, t2, t3, t4, n, rfl, ha⟩ := hv
  obtain ⟨b, u1, u2, u3, u4, n', rfl, hb⟩ := hu
  have one : ∀ (c : Bool) (i j : Int) (t u : Tok) (Q : Bool → Shared → Prop), Q (decide (i < j)) s → wpAny (model prog w) A (oneLt' c (.int i t) (.int j u)) Q (fun _ _ => False) s := fun c i j t u Q hq => by
    cases c with
    | false => exact W.kat_one _ _ (lt_int hq)
    | true => exact oneLt_int hq
  refine W.kat_lt ha rfl hb rfl ?_
  have step : ∀ (i j : Int) (t u : Tok) (r : List (Value × Value)) (n : Nat) (Q : Bool → Shared → Prop) (fin : Bool), (i = j → W.KatLex prog w A true fin Q r (n + 1) s) → (i ≠ j → Q (decide (i < j)) s) → W.KatLex prog w A true fin Q ((.int i t, .int j u) :: r) n s := fun i j t u r n Q fin h1 h2 => by
    refine W.kat_cons (wpAny_eqBool_int (W.kat_go (fun e => ?_) fun e => ?_))
    · exact W.kat_yes (h1 (by simpa using e))
    · exact W.kat_no (one _ _ _ _ _ _ (h2 (by simpa using e)))
  unfold tlt at h
  refine step _ _ _ _ _ _ _ _ (fun e => ?_) fun e => by rw [if_neg e] at h; exact h
  rw [if_pos e] at h
  refine step _ _ _ _ _ _ _ _ (fun e => ?_) fun e => by rw [if_neg e] at h; exact h
  rw [if_pos e] at h
  refine step _ _ _ _ _ _ _ _ (fun e => ?_) fun e => by rw [if_neg e] at h; exact h
  rw [if_pos e] at h
  refine step _ _ _ _ _ _ _ _ (fun e => ?_) fun e => h
  refine W.kat_nil ?_
  have : decide (x.2.2.2 < y.2.2.2) = false := by simp [e]
  rw [this] at h
  exact h
theorem tie_kind {vs : List Value} {ts : List Tie} {Q : SortKind → Shared → Prop} (hv : Ties s.heap vs ts) (hn : 0 < ts.length) (h : ∀ b, b = true → Q (tuples' b) s) : wpAny (model prog w) A (keyKind' vs.toArray) Q (fun _ _ => False) s := by
  obtain ⟨fs, hf, hi, hl⟩ : ∃ fs, W.KatTups s.heap vs fs ∧ (∀ v ∈ fs, ∃ i t, v = Value.int i t) ∧ fs.length = ts.length := by
    clear h hn
    induction hv with
    | nil => exact ⟨[], W.KatTups.nil, (fun v hv => nomatch hv), rfl⟩
    | cons x _ ih =>
      obtain ⟨fs, h1, h2, h3⟩ := ih
      obtain ⟨a, t1, t2, t3, t4, n, rfl, ha⟩ := x
      refine ⟨_ :: fs, W.KatTups.cons ha rfl rfl rfl h1, fun v hv => ?_, by simp [h3]⟩
      rcases List.mem_cons.mp hv with rfl | hv
      · exact ⟨_, _, rfl⟩
      · exact h2 v hv
  refine W.kat_kind (T := .type "int") hf (by rw [hl]; exact hn) (fun v hv => ?_) rfl (h _ rfl)
  obtain ⟨i, t, rfl⟩ := hi v hv
  exact W.Looks.of_pure rfl

theorem kw_mono {α : Type} {lt : Nat → Nat → Bool} {n : Nat} {P : α → Prop} {cmp : Nat → Nat → (Bool → Shared → Prop) → Shared → Prop} {Q : α → Shared → Prop} {s : Shared} (t : KasT α) (h : kOk lt n P t) (hc : ∀ i j C, i < n → j < n → C (lt i j) s → cmp i j C s) (hp : ∀ a, P a → Q a s) : t.kasWp cmp Q s := kOk_wp hc hp t h

theorem short_sort {vs : List Value} {l : Addr} {Q : Value → Shared → Prop} (F : Fx σ k L s m led) (hl : s.heap.PlainList l vs.toArray) (h2 : vs.length < 2)
    (h : ∀ D s', Fx σ k L s' m ((D, .list vs) :: led) → s.heap.get? D = none → Q (.ref D) s') : wpAny (model prog w) A (call (.builtin "sorted") [.ref l]) Q E s := by
  refine Calls.call_function_entry kind_sorted plain_sorted entry_sorted (args_sorted1 _) ?_
  unfold Builtin.«sorted»
  refine wpAny_bind (m := checkCount "sorted" 1 1 _) (wpAny_pure ?_)
  refine wpAny_bind (collect_list (plain_isList hl) ?_ (by rw [sizeLine_eq]; omega))
  refine wpAny_bind (wpAny_newList ?_ (by rw [sizeLine_eq]; omega))
  obtain ⟨hp, ehp⟩ : ∃ hp, hp = (s.heap.push (seqObj "list" #[] 0)).update s.heap.objs.size (Obj.mapSeq (· ++ vs.toArray)) := ⟨_, rfl⟩
  have hsz : hp.objs.size = s.heap.objs.size + 1 := by rw [ehp, Heap.size_update, size_push']
  have kp : ∀ b o, s.heap.get? b = some o → hp.get? b = some o := fun b o e => by
    rw [ehp, Heap.get?_update_ne _ _ _ _ (Nat.ne_of_lt (Heap.lt_size e)), Heap.get?_push_ne _ _ _ (Nat.ne_of_lt (Heap.lt_size e))]
    exact e
  rw [← ehp, hsz]
  have hoL : (hp.push (seqObj "list" vs.toArray 0)).get? (s.heap.objs.size + 1) = some (seqObj "list" vs.toArray 0) := by rw [← hsz]; exact Heap.get?_push_size _ rfl
  have hD : s.heap.get? (s.heap.objs.size + 1) = none := by
    cases q : s.heap.get? (s.heap.objs.size + 1) with
    | none => rfl
    | some o => exact absurd (Heap.lt_size q) (Nat.not_lt.mpr (Nat.le_succ _))
  show wpAny _ _ _ _ _ { s with heap := hp.push (seqObj "list" vs.toArray 0) }
  refine wpAny_bind (wpAny_holding (wpAny_call_entry slot_list_sort ⟨_, hoL, rfl⟩ entry_list_sort ?body (args_list_sort _)))
  case body =>
    rw [list_sort_plain]
    refine wpAny_bind (listItems_at hoL rfl ?_)
    refine wpAny_bind (listUpdate_at hoL rfl ?_ (by rw [List.size_toArray, sizeLine_eq]; omega) (Nat.zero_le _))
    obtain ⟨e1, ho1⟩ : ∃ e1, ((hp.push (seqObj "list" vs.toArray 0)).update (s.heap.objs.size + 1) (Obj.mapSeq fun _ => (#[] : Array Value))).get? (s.heap.objs.size + 1) = some (seqObj "list" #[] e1) := ⟨_, get?_update_seq hoL fun _ => #[]⟩
    refine wpAny_bind (seqEpoch_at ho1 rfl ?_)
    refine wpAny_bind (wpAny_newTuple ?_ (by show vs.length ≤ _; rw [sizeLine_eq]; omega))
    refine wpAny_bind (wpAny_newList ?_ (Nat.zero_le _))
    refine wpAny_holding ?_
    obtain ⟨h3, eh3⟩ : ∃ h3, h3 = (((hp.push (seqObj "list" vs.toArray 0)).update (s.heap.objs.size + 1) (Obj.mapSeq fun _ => (#[] : Array Value))).push (seqObj "tuple" vs.toArray 0)).push (seqObj "list" #[] 0) := ⟨_, rfl⟩
    have ho3 : h3.get? (s.heap.objs.size + 1) = some (seqObj "list" #[] e1) := by rw [eh3]; exact Heap.get?_push_of_some _ (Heap.get?_push_of_some _ ho1)
    have kp3 : ∀ b o, s.heap.get? b = some o → h3.get? b = some o := fun b o e => by
      rw [eh3]
      refine Heap.get?_push_of_some _ (Heap.get?_push_of_some _ ?_)
      rw [Heap.get?_update_ne _ _ _ _ (Nat.ne_of_lt (Nat.lt_succ_of_lt (Heap.lt_size e)))]
      exact Heap.get?_push_of_some _ (kp b o e)
    show wpAny (model prog w) _ _ _ _ { s with heap := (((hp.push (seqObj "list" vs.toArray 0)).update (s.heap.objs.size + 1) (Obj.mapSeq fun _ => (#[] : Array Value))).push (seqObj "tuple" vs.toArray 0)).push (seqObj "list" #[] 0) }
    rw [← eh3]
    dsimp only
    have hsz2 : vs.toArray.size < 2 := by rw [List.size_toArray]; exact h2
    rw [if_pos hsz2, if_pos hsz2]
    refine wpAny_bind (wpAny_pure ?_)
    rw [StateT.run_pure]
    refine wpAny_bind (wpAny_pure ?_)
    dsimp only
    refine wpAny_bind (seqEpoch_at ho3 rfl ?_)
    refine wpAny_bind (listUpdate_at ho3 rfl ?_ (Nat.zero_le _) (by rw [Array.size_map]; show (pairsOf vs).size ≤ _; rw [pairsOf_size, sizeLine_eq]; omega))
    simp only [bne_self_eq_false, Bool.false_eq_true, if_false]
    refine wpAny_pure ⟨_, rfl, wpAny_pure ⟨_, rfl, ?_⟩⟩
    have hz : (vs.toArray.zip vs.toArray).map (·.2) = vs.toArray := Array.ext (by simp) fun i h1 h2 => by simp
    have hz' : ((arrOf (SortSt.mk' general' (vs.toArray.zip vs.toArray) #[] 7 none)).map (·.2)) = vs.toArray := hz
    rw [hz']
    refine h (s.heap.objs.size + 1) _ (F.add (s' := { s with heap := h3.update (s.heap.objs.size + 1) (Obj.mapSeq fun _ => vs.toArray) }) ⟨fun b o e => ?_, rfl, rfl, rfl⟩ hD (c := .list vs) ?_) hD
    · show (h3.update _ _).get? b = some o
      rw [Heap.get?_update_ne _ _ _ _ (Nat.ne_of_lt (Nat.lt_succ_of_lt (Heap.lt_size e)))]
      exact kp3 b o e
    · obtain ⟨c, hc⟩ : ∃ c, (h3.update (s.heap.objs.size + 1) (Obj.mapSeq fun _ => vs.toArray)).get? (s.heap.objs.size + 1) = some (seqObj "list" vs.toArray c) := ⟨_, get?_update_seq ho3 fun _ => vs.toArray⟩
      exact ⟨c, hc⟩

theorem r_sortedT {vs : List Value} {ts : List Tie} {a : Addr} {Q : Value → Shared → Prop} (F : Fx σ k L s m led) (hkL : k.get? L = none) (ha : s.heap.PlainList a vs.toArray) (hv : Ties k vs ts) (hz : vs.length < 64)
    (h : ∀ D us ts' s', Fx σ k L s' m ((D, .list us) :: led) → s.heap.get? D = none → Ties k us ts' → ts'.Perm ts → Rising ts' → Q (.ref D) s') : wpAny (model prog w) A (call (.builtin "sorted") [.ref a]) Q E s := by
  have hlen := hv.length
  by_cases h2 : 2 ≤ vs.length
  · refine W.kat_sorted F.fr (newsAll s.heap L) (plain_isList ha) h2 hz fun D e1 h' hf N hlt => ?_
    have hD := fresh_of (N _ (.head _)).2.1 hlt
    have F' := F.ofFr (tk := s.toks) hkL hf fun p hp => (N p (.tail _ hp)).1
    have hv' : Ties h' vs ts := tiesKeep hv F'.keep
    refine tie_kind (s := { s with heap := h' }) hv' (by omega) fun b hb => ?_
    refine kw_mono _ (k_sort (ord_of ts) (n := vs.length) (by omega)) (fun i j C hi hj hC => ?_) fun p hp => ?_
    · exact tie_lt (s := { s with heap := h' }) (hv'.getD (by omega)) (hv'.getD (by omega)) hb hC
    · obtain ⟨q1, q2⟩ := picked (ts := ts) (by rw [← hlen]; exact hp.1) (by rw [← hlen]; exact hp.2)
      refine W.KasFin.intro hf N (.head fun q hq => Nat.ne_of_lt (hlt q hq)) fun h'' c hf' N' => ?_
      refine h D _ _ _ (F.ofFrNew (tk := s.toks) hkL hf' (fun p hp => (N' p (.tail _ hp)).1) hD (c := .list _) ⟨c, (N' _ (.head _)).1⟩) hD (hv.pick fun i hi => ?_) q1 q2
      have : i ∈ (List.range vs.length) := by
        have hpp : p.toList.Perm (List.range vs.length) := by simpa using hp.1.perm.toList
        exact hpp.mem_iff.mp hi
      rw [← hlen]; exact List.mem_range.mp this
  · refine short_sort F ha (by omega) fun D s' F' hD => h D vs ts s' F' hD hv (List.Perm.refl _) ?_
    unfold Rising
    rw [List.pairwise_iff_getElem]
    intro i j hi hj hij
    omega
end
end
section
section
variable {prog : Program} {w : World} {A : Around} {E : Value → Shared → Prop} {σ s : Shared} {k Wh g H : Heap} {L : Addr} {m mg : Str → Option Value} {l : Led} {env : Env} {rest : List Stmt}

theorem e_cmp {a b : Expr} {op : CmpOp} {p : Pos} {Q : Value → Shared → Prop} (h : wpAny (model prog w) A (eval a env) (fun x s₁ => wpAny (model prog w) A (eval b env) (fun y s₂ => wpAny (model prog w) A (compareOp op x y) Q E s₂) E s₁) E s)
    (hm : behindInMarks op b = false := by rfl) : wpAny (model prog w) A (eval (.Compare a [op] [b] p) env) Q E s := wpAny_Compare1 h hm
theorem Fx.toMore {s' : Shared} (F : Fx s s.heap L s' m l) : More s s' := ⟨F.keep, F.rest⟩

theorem Fx.pick {l' : Led} (F : Fx σ k L s m l) (h : l'.Sublist l) : Fx σ k L s m l' := F.sub (fun _ hp => h.mem hp) ((h.map _).nodup F.nd)
theorem plain_keeps {h h' : Heap} {a : Addr} {xs : Array Value} (p : h.PlainList a xs) (kk : h.StaysIn h') : h'.PlainList a xs := let ⟨n, e⟩ := p; ⟨n, kk _ _ e⟩
theorem turn_end {X : Type} {G : X → Heap} {gx k' k'' : Heap} {P : X → (Str → Option Value) → Led → Prop} (x' : X) {m' : Str → Option Value} {l' : Led} (F : Fx σ k'' L s m' l') (hk : k'.StaysIn k'') (hg : (G x').StaysIn k'') (hgr : Gr k' gx (G x')) (hL : k''.get? L = none) (hJ : P x' m' l') :
    ∃ x' m' l' k'', P x' m' l' ∧ k'.StaysIn k'' ∧ (G x').StaysIn k'' ∧ Gr k' gx (G x') ∧ k''.get? L = none ∧ Fx σ k'' L s m' l' := ⟨x', m', l', k'', hJ, hk, hg, hgr, hL, F⟩
theorem tupIs {a : Addr} {vs : List Value} (F : Fx σ k L s m l) (h : (a, Cel.obj (tupObj vs)) ∈ l) : s.heap.IsTuple a vs.toArray := ⟨_, F.cel h, rfl, 0, rfl⟩
theorem r_tieFar {value slice : Expr} {v : Value} {x : Tie} {sl : Addr} {t : Tok} {Q : Value → Shared → Prop} (F : Fx σ k L s m l) (hv : TieAt s.heap v x) (hsl : (sl, Cel.obj (sliceO (.int 2 t) .none .none)) ∈ l)
    (h : ∀ b t3 t4 s', Fx σ k L s' m ((b, .obj (tupObj [.int x.2.2.1 t3, .int x.2.2.2 t4])) :: l) → s.heap.get? b = none → Q (.ref b) s')
    (hs : ∀ a, ∃ ops, subscripted slice false (.ref a) (.ref sl) = operate ops (getItem (.ref a) (.ref sl)) := by intro _; exact ⟨_, rfl⟩) : wpAny (model prog w) A (subscriptTail value slice v (.ref sl)) Q E s := by
  obtain ⟨a, t1, t2, t3, t4, n, rfl, ha⟩ := hv
  refine r_tupSlice [.int x.2.2.1 t3, .int x.2.2.2 t4] F hsl (tie_tup ha) (.int 2 t) .none .none (by decide) (fun lo n h1 h2 => ?_) (by simp) (fun b s' => h b _ _ s') (hs a)
  have e1 : lo = 2 := h1.trans rfl
  have e2 : n = 2 := h2.trans (by show Builtin.Slice.slicePlaces (Builtin.Slice.sliceAdjust (some 2) none 1 ((4 : Nat) : Int)).1 (Builtin.Slice.sliceAdjust (some 2) none 1 ((4 : Nat) : Int)).2 1 = 2; decide)
  subst e1 e2
  exact ⟨rfl, rfl⟩
theorem r_tieBack {value slice : Expr} {v : Value} {x : Tie} {sl : Addr} {t u : Tok} {Q : Value → Shared → Prop} (F : Fx σ k L s m l) (hv : TieAt s.heap v x) (hsl : (sl, Cel.obj (sliceO .none (.int 1 t) (.int (-1) u))) ∈ l)
    (h : ∀ b t3 t4 s', Fx σ k L s' m ((b, .obj (tupObj [.int x.2.2.2 t4, .int x.2.2.1 t3])) :: l) → s.heap.get? b = none → Q (.ref b) s')
    (hs : ∀ a, ∃ ops, subscripted slice false (.ref a) (.ref sl) = operate ops (getItem (.ref a) (.ref sl)) := by intro _; exact ⟨_, rfl⟩) : wpAny (model prog w) A (subscriptTail value slice v (.ref sl)) Q E s := by
  obtain ⟨a, t1, t2, t3, t4, n, rfl, ha⟩ := hv
  refine r_tupSlice [.int x.2.2.2 t4, .int x.2.2.1 t3] F hsl (tie_tup ha) .none (.int 1 t) (.int (-1) u) (by decide) (fun lo n h1 h2 => ?_) (by simp) (fun b s' => h b _ _ s') (hs a)
  have e1 : lo = 3 := h1.trans rfl
  have e2 : n = 2 := h2.trans (by show Builtin.Slice.slicePlaces (Builtin.Slice.sliceAdjust none (some 1) (-1) ((4 : Nat) : Int)).1 (Builtin.Slice.sliceAdjust none (some 1) (-1) ((4 : Nat) : Int)).2 (-1) = 2; decide)
  subst e1 e2
  exact ⟨rfl, rfl⟩
theorem r_storeD {x : Str} {c : Addr} {v : Value} {v₀ : Option Value} {l' : Led} {Q : Unit → Shared → Prop} (hcl : env.cells.lookup x = some c) (F : Fx σ k L s m l) (hc : (c, Cel.cell v₀) ∈ l) (u : Upd c (.cell (some v)) l l') (h : ∀ s', Fx σ k L s' m l' → Q () s')
    (hk : env.scope.kind = .function := by rfl) (hl : env.kindOf x = some .cell := by rfl) : wpAny (model prog w) A (storeName env x v) Q E s := r_storeC F hc u h hcl hk hl
theorem r_cellD {x : Str} {pos : Pos} {c : Addr} {v : Value} {Q : Value → Shared → Prop} (hcl : env.cells.lookup x = some c) (F : Fx σ k L s m l) (hc : (c, Cel.cell (some v)) ∈ l) (h : Q v s)
    (hk : env.scope.kind = .function := by rfl) (hl : env.kindOf x = some .cell := by rfl) (hd : (x == ("__debug__" : Str)) = false := by rfl) : wpAny (model prog w) A (eval (.Name x pos) env) Q E s := r_cell (F.cellL hc) h hcl hk hl hd
theorem r_cellE {x : Str} {pos : Pos} {c : Addr} {v : Value} {Q : Value → Shared → Prop} (hcl : env.cells.lookup x = some c) (hc : s.heap.IsCell c (some v)) (h : Q v s)
    (hk : env.scope.kind = .function := by rfl) (hl : env.kindOf x = some .cell := by rfl) (hd : (x == ("__debug__" : Str)) = false := by rfl) : wpAny (model prog w) A (eval (.Name x pos) env) Q E s := r_cell hc h hcl hk hl hd
-- repr
def Small (t : Tie) : Prop := t.1.natAbs.log2 < 1920 ∧ t.2.1.natAbs.log2 < 1920 ∧ t.2.2.1.natAbs.log2 < 1920 ∧ t.2.2.2.natAbs.log2 < 1920
theorem ties_shows {ts : List Tie} (h : ∀ t ∈ ts, Small t) : PyData.showableAll (ts.map tieD) = true ∧ PyData.leavesShortAll 1921 (ts.map tieD) = true ∧ PyData.bulkAll (ts.map tieD) = 5 * ts.length ∧ PyData.hasDictAll (ts.map tieD) = false := by
  induction ts with
  | nil => exact ⟨rfl, rfl, rfl, rfl⟩
  | cons t ts ih =>
    obtain ⟨i1, i2, i3, i4⟩ := ih fun t ht => h t (.tail _ ht)
    obtain ⟨h1, h2, h3, h4⟩ := h t (.head _)
    have ls : ∀ {i : Int}, i.natAbs.log2 < 1920 → decide ((PyData.shown (.int i)).length ≤ 1921) = true := fun hi => decide_eq_true (int_text_len_1921 hi)
    refine ⟨?_, ?_, ?_, ?_⟩
    · simp only [List.map_cons, PyData.showableAll, i1, tieD, PyData.showable, decide_eq_true h1, decide_eq_true h2, decide_eq_true h3, decide_eq_true h4, Bool.and_self]
    · simp only [List.map_cons, PyData.leavesShortAll, i2, tieD, PyData.leavesShort, ls h1, ls h2, ls h3, ls h4, Bool.and_self]
    · simp only [List.map_cons, PyData.bulkAll, i3, tieD, PyData.bulk, List.length_cons]; omega
    · simp only [List.map_cons, PyData.hasDictAll, i4, tieD, PyData.hasDict, Bool.or_self]
theorem r_repr {a : Addr} {vs : List Value} {ts : List Tie} {Q : Value → Shared → Prop} (F : Fx σ k L s m l) (hA : AOk 0 A) (ha : s.heap.PlainList a vs.toArray) (hv : Ties s.heap vs ts) (hs : ∀ t ∈ ts, Small t) (hz : ts.length ≤ 1000)
    (h : ∀ u s', Fx σ k L s' m l → Q (.str (tiesD ts).shown u) s') : wpAny (model prog w) A (call (.builtin "repr") [.ref a]) Q E s := by
  obtain ⟨h1, h2, h3, h4⟩ := ties_shows hs
  have hu := hA.units
  have hd := depth_ties ts
  refine repr_of_reads' (reads_ties ha hv) h1 (PyData.noDict_hsm h4) hA.guards (by omega) (fun _ _ e => e) (fun h' u tk hk => h u _ (F.more ⟨hk, rfl, rfl, rfl⟩)) ?_
  have := PyData.shown_le_bulk 1921 (by decide) (tiesD ts) h2
  have e : (tiesD ts).bulk = 5 * ts.length := h3
  rw [e] at this
  rw [sizeLine_eq]
  omega
theorem c_eqStr {x : Str} {t u : Tok} {Q : Value → Shared → Prop} (h : Q (.bool true) s) : wpAny (model prog w) A (compareOp .Eq (.str x t) (.str x u)) Q E s := PyProof.Rows.eq_str (by simpa using h)

-- enumerate
theorem Itr.ofWalksT {elts : List Expr} {kk : Nat} {pos : Pos} {I : Addr} {fp wr : List Addr} {n : Nat} {Pt : Nat → Array Value → Prop} {St : Nat → Heap → Prop} {Mid : Nat → Addr → Heap → Prop} (W : WalksT prog w A I fp wr n Pt St Mid) (hal : ∀ i h, St i h → ∀ b ∈ fp, ∃ o, h.get? b = some o) :
    Itr prog w A (.Tuple elts kk pos) I fp wr n (fun i s v => ∃ T vals, v = .ref T ∧ Pt i vals ∧ s.heap.IsTuple T vals) St where
  sub := W.sub
  frame := W.frame
  there := hal
  item := fun i s Q hi st h => W.item i s _ _ hi st fun T vals h' tk hP hs hT hM hk => ⟨_, rfl, W.go elts kk pos i T _ _ _ hM fun h'' hst hk' =>
    h _ _ ⟨T, vals, rfl, hP, by
      obtain ⟨o, ho, hc, hd⟩ := hT
      exact ⟨o, hk' _ _ (W.apart _ _ _ hM) ho, hc, hd⟩⟩ hst ⟨fun b o hb e => hk' b o hb (hk b o hb e), rfl, rfl, rfl⟩⟩
  done := fun s Q st h => W.done s _ _ st fun h' tk hk => h _ ⟨fun b o hb e => hk b o hb e, rfl, rfl, rfl⟩

/-- before a loop: all that stands, but L and the ledger that goes on, is kept -/
theorem Fx.base (F : Fx σ k L s m l) (hkL : k.get? L = none) (l₀ : Led) (hsub : ∀ p ∈ l₀, p ∈ l) (hnd : (l₀.map (·.1)).Nodup) :
    Fx σ (W.hideAll s.heap (L :: l₀.map (·.1))) L s m l₀ ∧ k.StaysIn (W.hideAll s.heap (L :: l₀.map (·.1))) ∧ (W.hideAll s.heap (L :: l₀.map (·.1))).get? L = none := by
  refine ⟨⟨F.ns, fun b o e => W.of_hideAll _ e, fun p hp => ⟨(F.led p (hsub p hp)).1, (F.led p (hsub p hp)).2.1, W.hideAll_none _ (.tail _ (List.mem_map_of_mem hp))⟩, hnd, F.rest⟩, fun b o e => ?_, W.hideAll_none _ (.head _)⟩
  refine W.hideAll_get _ (F.keep b o e) fun hm => ?_
  rcases List.mem_cons.mp hm with q | q
  · rw [q, hkL] at e; cases e
  · obtain ⟨p, hp, rfl⟩ := List.mem_map.mp q
    rw [(F.led p (hsub p hp)).2.2] at e; cases e
/-- an address of the ledger that does not go on -/
theorem base_get {l₀ : Led} {a : Addr} {o : Obj} (e : s.heap.get? a = some o) (h1 : a ≠ L) (h2 : a ∉ l₀.map (·.1)) : (W.hideAll s.heap (L :: l₀.map (·.1))).get? a = some o :=
  W.hideAll_get _ e fun hm => by
    rcases List.mem_cons.mp hm with q | q
    · exact h1 q
    · exact h2 q

/-- the kept part grows -/
theorem grow {g k' k'' : Heap} (h1 : g.StaysIn k') (h2 : k'.StaysIn k'') : ∃ g', Gr k' g g' ∧ g'.StaysIn k'' ∧ ∀ b o, k'.get? b = none → k''.get? b = some o → g'.get? b = some o := by
  refine ⟨W.hideAll k'' ((List.range k'.objs.size).filter fun b => (k'.get? b).isSome && (g.get? b).isNone), ⟨fun b o e => ?_, fun b o e => ?_⟩, fun b o e => W.of_hideAll _ e, fun b o e1 e2 => ?_⟩
  · refine W.hideAll_get _ (h2 b o (h1 b o e)) fun hm => ?_
    have := (List.mem_filter.mp hm).2
    rw [e] at this; simp at this
  · by_cases q : (k'.get? b).isSome
    · by_cases q' : (g.get? b).isNone
      · have : (W.hideAll k'' ((List.range k'.objs.size).filter fun b => (k'.get? b).isSome && (g.get? b).isNone)).get? b = none := by
          obtain ⟨o', e'⟩ := Option.isSome_iff_exists.mp q
          exact W.hideAll_none _ (List.mem_filter.mpr ⟨List.mem_range.mpr (Heap.lt_size e'), by rw [q, q']; rfl⟩)
        rw [this] at e; cases e
      · left
        cases r : g.get? b with
        | none => rw [r] at q'; simp at q'
        | some o' =>
          have e1 := W.of_hideAll _ e
          rw [h2 b o' (h1 b o' r)] at e1
          cases e1; rfl
    · right; simpa using q
  · refine W.hideAll_get _ e2 fun hm => ?_
    have := (List.mem_filter.mp hm).2
    rw [e1] at this; simp at this

theorem r_extend {D b : Addr} {vs us : List Value} {pos : Pos} {x : Sem Value} {l' : Led} {Q : Value → Shared → Prop}
    (h : wpAny (model prog w) A x (fun v s₁ => ∃ σ k L m l l' b us, Fx σ k L s₁ m l ∧ v = .ref b ∧ (D, Cel.list vs) ∈ l ∧ s₁.heap.PlainList b (List.toArray us) ∧ Upd D (.list (vs ++ us)) l l' ∧ vs.length + us.length ≤ 1000 ∧ ∀ s', Fx σ k L s' m l' → Q .none s') E s) :
    wpAny (model prog w) A (callWith pos (.builtin "list.extend") [.ref D] [(false, x)] []) Q E s := by
  refine P.extend_list (wpAny_mono h (fun v s₁ h₁ => ?_) fun _ _ z => z)
  obtain ⟨σ, k, L, m, l, l', b, us, F, rfl, hD, hb, hU, hz, hq⟩ := h₁
  obtain ⟨n, eD⟩ := F.list hD
  obtain ⟨n2, eb⟩ := hb
  refine ⟨b, vs.toArray, us.toArray, n, n2, ?_, ?_, ?_, rfl, eD, eb, hq _ (F.upd hU upd_but ?_)⟩
  · rw [List.size_toArray, sizeLine_eq]; omega
  · rw [List.size_toArray, List.size_toArray, sizeLine_eq]; omega
  · intro hc
    have := (Bool.and_eq_true_iff.mp hc).2
    unfold Builtin.List.listTooLong at this
    simp only [List.size_toArray, decide_eq_true_eq] at this
    have e := sizeLine_eq
    omega
  · have := plain_upd (f := fun xs => xs ++ us.toArray) eD
    show Heap.PlainList _ D _
    simpa using this
end
end
section
/-- what is to be shown behind, under another name: it keeps the terms small -/
structure Opq (P R : Flow → Shared → Prop) : Prop where
  fin : ∀ {f : Flow} {s : Shared}, P f s → R f s
structure OpqV (P R : Value → Shared → Prop) : Prop where
  fin : ∀ {v : Value} {s : Shared}, P v s → R v s
structure OpqS (P R : Shared → Prop) : Prop where
  fin : ∀ {s : Shared}, P s → R s
structure OpqB (P R : Bool → Shared → Prop) : Prop where
  fin : ∀ {b : Bool} {s : Shared}, P b s → R b s

section
variable {prog : Program} {w : World} {A : Around} {E : Value → Shared → Prop} {s : Shared} {env : Env} {rest : List Stmt}

theorem o_body {x : Sem Flow} {P : Flow → Shared → Prop} (h : ∀ R, Opq P R → wpAny (model prog w) A x R E s) : wpAny (model prog w) A x P E s := h P ⟨id⟩
theorem o_turn {x : Sem Unit} {b : List Stmt} {P : Flow → Shared → Prop} (h : ∀ R, Opq P R → wpAny (model prog w) A x (fun _ s₂ => wpAny (model prog w) A (execs b env) R NoE s₂) NoE s) :
    wpAny (model prog w) A x (fun _ s₂ => wpAny (model prog w) A (execs b env) P NoE s₂) NoE s := h P ⟨id⟩
theorem o_while {x : Sem Bool} {b : List Stmt} {P : Flow → Shared → Prop} {K : Shared → Prop}
    (h : ∀ R K', Opq P R → OpqS K K' → wpAny (model prog w) A x (fun c s₂ => if c = true then wpAny (model prog w) A (execs b env) R NoE s₂ else K' s₂) NoE s) :
    wpAny (model prog w) A x (fun c s₂ => if c = true then wpAny (model prog w) A (execs b env) P NoE s₂ else K s₂) NoE s := h P K ⟨id⟩ ⟨id⟩

theorem x_assignO {x : Str} {p p' : Pos} {e : Expr} {Q : Flow → Shared → Prop}
    (h : ∀ K, OpqV (fun v s₁ => wpAny (model prog w) A (storeName env x v) (fun _ s₂ => wpAny (model prog w) A (execs rest env) Q E s₂) E s₁) K → wpAny (model prog w) A (eval e env) K E s)
    (hs : swapsWith e (some (.Name x p)) p'.line env = pure false := by rfl) : wpAny (model prog w) A (execs (.Assign [.Name x p] e p' :: rest) env) Q E s := x_assign (h _ ⟨id⟩) hs
theorem x_exprO {e : Expr} {p : Pos} {Q : Flow → Shared → Prop} (h : ∀ K, OpqS (fun s₁ => wpAny (model prog w) A (execs rest env) Q E s₁) K → wpAny (model prog w) A (eval e env) (fun _ s₁ => K s₁) E s) (hi : interactive env = false := by rfl) (hs : swapsWith e none p.line env = pure false := by rfl) :
    wpAny (model prog w) A (execs (.Expr e p :: rest) env) Q E s := x_expr (h _ ⟨id⟩) hi hs
theorem x_ifO {t : Expr} {b o : List Stmt} {p : Pos} {Q : Flow → Shared → Prop}
    (h : ∀ R K, Opq (fun f s' => match f with | .next => wpAny (model prog w) A (execs rest env) Q E s' | f => Q f s') R → OpqB (fun c s₂ => if c = true then wpAny (model prog w) A (execs b env) R E s₂ else wpAny (model prog w) A (execs o env) R E s₂) K →
      wpAny (model prog w) A (isTrue t env (eval t env)) K E s) : wpAny (model prog w) A (execs (.If t b o p :: rest) env) Q E s := x_if (h _ _ ⟨id⟩ ⟨id⟩)
end

-- the ledger's addresses are apart
section
variable {l₀ l : Led} {a : Addr} {c : Cel} {p q r t : Addr × Cel}
theorem nd_sub (h : (l.map (·.1)).Nodup) (hs : l₀.Sublist l) : (l₀.map (·.1)).Nodup := (hs.map _).nodup h
theorem mem_sub (hs : l₀.Sublist l) : ∀ p ∈ l₀, p ∈ l := fun _ h => hs.mem h
theorem nd_at0 (h : (l.map (·.1)).Nodup) (hs : ((a, c) :: l₀).Sublist l) : a ∉ l₀.map (·.1) := (List.nodup_cons.mp (nd_sub h hs)).1
theorem nd_at1 (h : (l.map (·.1)).Nodup) (hs : (p :: (a, c) :: l₀).Sublist l) : a ∉ (p :: l₀).map (·.1) := by
  have h1 := nd_sub h hs
  rw [List.map_cons, List.map_cons] at h1
  obtain ⟨h2, h3⟩ := List.nodup_cons.mp h1
  rw [List.map_cons]
  exact fun hm => by
    rcases List.mem_cons.mp hm with e | e
    · exact h2 (e ▸ .head _)
    · exact (List.nodup_cons.mp h3).1 e
end
section
variable {σ s : Shared} {k : Heap} {L : Addr} {m : Str → Option Value} {l : Led}
theorem Fx.baseS (F : Fx σ k L s m l) (hkL : k.get? L = none) (l₀ : Led) (hs : l₀.Sublist l) :
    Fx σ (W.hideAll s.heap (L :: l₀.map (·.1))) L s m l₀ ∧ k.StaysIn (W.hideAll s.heap (L :: l₀.map (·.1))) ∧ (W.hideAll s.heap (L :: l₀.map (·.1))).get? L = none := F.base hkL l₀ (mem_sub hs) (nd_sub F.nd hs)
end
end
set_option compiler.extract_closed false
local macro_rules | `(tactic| walk_at "lk") => `(tactic| first | assumption | exact lk_here | (refine lk_there (by decide +kernel) ?_; walk_at "lk"))
local macro_rules | `(tactic| walk_at "in") => `(tactic| first | exact List.Mem.head _ | (refine List.Mem.tail _ ?_; walk_at "in"))
local macro_rules | `(tactic| walk_at "up") => `(tactic| first | exact Upd.here | (apply Upd.there; walk_at "up"))
local macro_rules | `(tactic| walk_at "sb") => `(tactic| first | exact List.Sublist.refl _ | exact List.nil_sublist _ | (refine List.Sublist.cons₂ _ ?_; walk_at "sb") | (refine List.Sublist.cons _ ?_; walk_at "sb"))
local macro_rules | `(tactic| walk_at "pk") => `(tactic| exact Fx.pick (by assumption) (by walk_at "sb"))
local macro_rules | `(tactic| walk_at "kp") => `(tactic| exact Fx.kept (by assumption) (by assumption))
local macro_rules | `(tactic| walk_at "ls") => `(tactic| first | exact Fx.list (by assumption) (by walk_at "in") | exact Fx.listK (by assumption) (by assumption))
local macro_rules | `(tactic| walk_at "sz") => `(tactic| first | omega | (simp only [List.length_append, List.length_cons, List.length_nil, List.length_set]; omega) | (simp; omega))
local macro_rules | `(tactic| walk_at "cf") => `(tactic| first
  | ((with_reducible show wpAny _ _ (eval (Expr.Call (Expr.Name (Str.ofString "_siftdown") _) _ _ _) _) _ _ _); refine e_callFn (d := dDown) (by assumption) (by walk_at "kp") mDown rfl ?_)
  | ((with_reducible show wpAny _ _ (eval (Expr.Call (Expr.Name (Str.ofString "_siftup") _) _ _ _) _) _ _ _); refine e_callFn (d := dUp) (by assumption) (by walk_at "kp") mUp rfl ?_)
  | ((with_reducible show wpAny _ _ (eval (Expr.Call (Expr.Name (Str.ofString "heappush") _) _ _ _) _) _ _ _); refine e_callFn (d := dPush) (by assumption) (by walk_at "kp") mPush rfl ?_)
  | ((with_reducible show wpAny _ _ (eval (Expr.Call (Expr.Name (Str.ofString "heappop") _) _ _ _) _) _ _ _); refine e_callFn (d := dPop) (by assumption) (by walk_at "kp") mPop rfl ?_)
  | ((with_reducible show wpAny _ _ (eval (Expr.Call (Expr.Name (Str.ofString "heapify") _) _ _ _) _) _ _ _); refine e_callFn (d := dHeapify) (by assumption) (by walk_at "kp") mHeapify rfl ?_)
  | ((with_reducible show wpAny _ _ (eval (Expr.Call (Expr.Name (Str.ofString "_law_cut") _) _ _ _) _) _ _ _); refine e_callFn (d := dCut) (by assumption) (by walk_at "kp") mCut rfl ?_)
  | ((with_reducible show wpAny _ _ (eval (Expr.Call (Expr.Name (Str.ofString "_law_ties") _) _ _ _) _) _ _ _); refine e_callFn (d := dTies) (by assumption) (by walk_at "kp") mTies rfl ?_)
  | ((with_reducible show wpAny _ _ (eval (Expr.Call (Expr.Name (Str.ofString "_law_leading") _) _ _ _) _) _ _ _); refine e_callFn (d := dLead) (by assumption) (by walk_at "kp") mLead rfl ?_)
  | ((with_reducible show wpAny _ _ (eval (Expr.Call (Expr.Name (Str.ofString "_law_grown") _) _ _ _) _) _ _ _); refine e_callFn (d := dGrown) (by assumption) (by walk_at "kp") mGrown rfl ?_)
  | ((with_reducible show wpAny _ _ (eval (Expr.Call (Expr.Name (Str.ofString "_law_gathered") _) _ _ _) _) _ _ _); refine e_callFn (d := dGath) (by assumption) (by walk_at "kp") mGath rfl ?_)
  | ((with_reducible show wpAny _ _ (eval (Expr.Call (Expr.Name (Str.ofString "_law_side") _) _ _ _) _) _ _ _); refine e_callFn (d := dSide) (by assumption) (by walk_at "kp") mSide rfl ?_)
  | ((with_reducible show wpAny _ _ (eval (Expr.Call (Expr.Name (Str.ofString "_law_way") _) _ _ _) _) _ _ _); refine e_callFn (d := dWay) (by assumption) (by walk_at "kp") mWay rfl ?_)
  | ((with_reducible show wpAny _ _ (eval (Expr.Call (Expr.Name (Str.ofString "_law_is_least") _) _ _ _) _) _ _ _); refine e_callFn (d := dLeast) (by assumption) (by walk_at "kp") mLeast rfl ?_))
local macro_rules | `(tactic| walk_at "cb") => `(tactic| first
  | ((with_reducible show wpAny _ _ (eval (Expr.Call (Expr.Name (Str.ofString "len") _) _ _ _) _) _ _ _); refine e_callB (by assumption) (by walk_at "kp") PyProof.Rows.Boot.«len» ?_)
  | ((with_reducible show wpAny _ _ (eval (Expr.Call (Expr.Name (Str.ofString "sum") _) _ _ _) _) _ _ _); refine e_callB (by assumption) (by walk_at "kp") PyProof.Rows.Boot.«sum» ?_)
  | ((with_reducible show wpAny _ _ (eval (Expr.Call (Expr.Name (Str.ofString "any") _) _ _ _) _) _ _ _); refine e_callB (by assumption) (by walk_at "kp") PyProof.Rows.Boot.«any» ?_)
  | ((with_reducible show wpAny _ _ (eval (Expr.Call (Expr.Name (Str.ofString "sorted") _) _ _ _) _) _ _ _); refine e_callB (by assumption) (by walk_at "kp") PyProof.Rows.Boot.«sorted» ?_)
  | ((with_reducible show wpAny _ _ (eval (Expr.Call (Expr.Name (Str.ofString "min") _) _ _ _) _) _ _ _); refine e_callB (by assumption) (by walk_at "kp") PyProof.Rows.Boot.«min» ?_)
  | ((with_reducible show wpAny _ _ (eval (Expr.Call (Expr.Name (Str.ofString "max") _) _ _ _) _) _ _ _); refine e_callB (by assumption) (by walk_at "kp") PyProof.Rows.Boot.«max» ?_)
  | ((with_reducible show wpAny _ _ (eval (Expr.Call (Expr.Name (Str.ofString "repr") _) _ _ _) _) _ _ _); refine e_callB (by assumption) (by walk_at "kp") PyProof.Rows.Boot.«repr» ?_)
  | ((with_reducible show wpAny _ _ (eval (Expr.Call (Expr.Name (Str.ofString "range") _) _ _ _) _) _ _ _); refine e_callT (by assumption) (by walk_at "kp") PyProof.Rows.Boot.«range» ?_)
  | ((with_reducible show wpAny _ _ (eval (Expr.Call (Expr.Name (Str.ofString "reversed") _) _ _ _) _) _ _ _); refine e_callT (by assumption) (by walk_at "kp") PyProof.Rows.Boot.«reversed» ?_)
  | ((with_reducible show wpAny _ _ (eval (Expr.Call (Expr.Name (Str.ofString "enumerate") _) _ _ _) _) _ _ _); refine e_callT (by assumption) (by walk_at "kp") PyProof.Rows.Boot.«enumerate» ?_)
  | ((with_reducible show wpAny _ _ (eval (Expr.Call (Expr.Name (Str.ofString "list") _) _ _ _) _) _ _ _); refine e_callT (by assumption) (by walk_at "kp") PyProof.Rows.Boot.«list» ?_))
local macro_rules | `(tactic| walk_at "cm") => `(tactic| first
  | ((with_reducible show wpAny _ _ (eval (Expr.Call (Expr.Attribute _ (Str.ofString "append") _) _ _ _) _) _ _ _); refine e_meth1 PySem.F.slot_list_append PySem.F.type_list_append ?_)
  | ((with_reducible show wpAny _ _ (eval (Expr.Call (Expr.Attribute _ (Str.ofString "pop") _) _ _ _) _) _ _ _); refine e_meth0 PySem.F.slot_list_pop PySem.F.type_list_pop ?_)
  | ((with_reducible show wpAny _ _ (eval (Expr.Call (Expr.Attribute _ (Str.ofString "extend") _) _ _ _) _) _ _ _); refine e_meth1 PySem.F.slot_list_extend PySem.F.type_list_extend ?_))
local macro_rules | `(tactic| walk_at "ev") => `(tactic| first
  | ((with_reducible show wpAny _ _ (eval (Expr.Name _ _) _) _ _ _); first | refine r_loc (by assumption) (by walk_at "lk") ?_ | refine r_cellD (by rfl) (by assumption) (by walk_at "in") ?_ | refine r_cellE (by rfl) (Fx.cellK (by assumption) (by assumption)) ?_)
  | ((with_reducible show wpAny _ _ (eval (Expr.Constant (Const.int _) _ _) _) _ _ _); refine r_int (by assumption) ?_; intro _ _ _)
  | ((with_reducible show wpAny _ _ (eval (Expr.Constant Const.none _ _) _) _ _ _); refine PyProof.Rows.Constant_none ?_)
  | ((with_reducible show wpAny _ _ (eval (Expr.Constant (Const.bool _) _ _) _) _ _ _); refine PyProof.Rows.Constant_bool ?_)
  | ((with_reducible show wpAny _ _ (eval (Expr.Compare _ [_] [_] _) _) _ _ _); refine e_cmp ?_) | with_reducible refine e_slice ?_ | with_reducible refine e_neg ?_
  | with_reducible refine e_binop ?_ | with_reducible refine e_sub ?_ | with_reducible refine e_ife ?_ | with_reducible refine e_list ?_ | with_reducible refine e_tuple ?_
  | ((with_reducible show wpAny _ _ (eval (Expr.Call (Expr.Attribute _ _ _) _ _ _) _) _ _ _); walk_at "cm")
  | ((with_reducible show wpAny _ _ (eval (Expr.Call (Expr.Name _ _) _ _ _) _) _ _ _); first | walk_at "cb" | walk_at "cf"))
local macro_rules | `(tactic| walk_at "tt") => `(tactic| first
  | ((with_reducible show wpAny _ _ (PySem.isTrue (Expr.Compare _ [_] [_] _) _ _) _ _ _); refine t_cmp ?_)
  | with_reducible refine t_and ?_ | with_reducible refine t_or ?_ | with_reducible refine t_andNil ?_ | with_reducible refine t_orNil ?_ | with_reducible refine t_not ?_
  | with_reducible refine t_name ?_ | with_reducible refine t_call ?_)
local macro_rules | `(tactic| walk_at "ca") => `(tactic| first
  | ((with_reducible show wpAny _ _ (call (Value.builtin "len") [Value.ref _]) _ _ _); refine r_len (by assumption) (by walk_at "ls") (by walk_at "sz") ?_; intro _ _ _)
  | ((with_reducible show wpAny _ _ (call (Value.builtin "list.append") _) _ _ _); refine r_append (by assumption) (by walk_at "in") (by walk_at "sz") (by walk_at "up") ?_; intro _ _)
  | ((with_reducible show wpAny _ _ (call (Value.type "range") [Value.int _ _]) _ _ _); refine r_range (by assumption) ?_; intro _ _ _ _ _))
local macro_rules | `(tactic| walk_at "xs") => `(tactic| first | (refine x_assignO ?_; intro _ _) | refine x_setItem ?_ | (refine x_exprO ?_; intro _ _) | (refine x_ifO ?_; intro _ _ _ _) | refine x_ret ?_ | (refine x_cont ?_; try dsimp only) | (refine x_brk ?_; try dsimp only) | (refine x_nil ?_; try dsimp only))
local macro_rules | `(tactic| walk_at "op") => `(tactic| first
  | ((with_reducible show wpAny _ _ (binaryOp Operator.FloorDiv (Value.int _ _) (Value.int _ _)) _ _ _); refine r_fdiv (by assumption) (by decide) (PyProof.noPylong_small (by decide)) ?_; intro _ _ _)
  | (with_reducible refine r_add (by assumption) ?_; intro _ _ _) | (with_reducible refine r_sub (by assumption) ?_; intro _ _ _)
  | ((with_reducible show wpAny _ _ (binaryOp Operator.Mult (Value.int _ _) (Value.int _ _)) _ _ _); refine r_mul (by assumption) (IntMulOk.of_left (by decide +kernel)) ?_; intro _ _ _)
  | ((with_reducible show wpAny _ _ (binaryOp Operator.FloorDiv (Value.int _ _) (Value.int _ _)) _ _ _); refine r_fdiv (by assumption) (by decide) (PyProof.noPylong_small (by decide)) ?_; intro _ _ _)
  | ((with_reducible show wpAny _ _ (binaryOp Operator.Mod (Value.int _ _) (Value.int _ _)) _ _ _); refine r_mod (by assumption) (by decide) ?_; intro _ _ _))
local macro_rules | `(tactic| walk_at "ir") => `(tactic| first
  | ((with_reducible show wpAny _ _ (eval _ _) _ _ _); walk_at "ev")
  | ((with_reducible show wpAny _ _ (spliced _) _ _ _); first | refine a_none ?_ | refine a_more ?_)
  | ((with_reducible show wpAny _ _ (storeName _ _ _) _ _ _); first | refine r_store (by assumption) (by assumption) ?_; intro _ _ | refine r_storeD (by rfl) (by assumption) (by walk_at "in") (by walk_at "up") ?_; intro _ _)
  | ((with_reducible show wpAny _ _ (execs _ _) _ _ _); walk_at "xs")
  | ((with_reducible show wpAny _ _ (PySem.isTrue _ _ _) _ _ _); walk_at "tt")
  | ((with_reducible show wpAny _ _ (binaryOp _ _ _) _ _ _); walk_at "op")
  | ((with_reducible show ∃ (t : Addr) (v1 v2 : Value) (σ : Shared), _); refine ⟨_, _, _, _, _, _, _, _, rfl, tupIs (by assumption) (by walk_at "in"), by assumption, ?_⟩; intro _ _)
  | ((with_reducible show ∃ (σ : Shared) (k : Heap) (L : Addr), _); refine ⟨_, _, _, _, _, by assumption, ?_⟩; intro _ _ _)
  | ((with_reducible show wpAny _ _ (assignInOrder _ _) _ _ _); first | refine wpAny_assignInOrder_more ?_ | refine wpAny_assignInOrder_none ?_)
  | with_reducible refine p_none ?_ | with_reducible refine p_some ?_
  | ((with_reducible show wpAny _ _ (unaryOp UnaryOp.USub (Value.int _ _)) _ _ _); refine r_neg (by assumption) ?_; intro _ _ _)
  | ((with_reducible show wpAny _ _ (assign (Expr.Name _ _) _ _) _ _ _); refine as_name ?_)
  | ((with_reducible show wpAny _ _ (call _ _) _ _ _); walk_at "ca")
  | ((with_reducible show wpAny _ _ (compareOp _ _ _) _ _ _); first | with_reducible refine c_gt ?_ | with_reducible refine c_lt ?_ | with_reducible refine c_eq ?_ | with_reducible refine c_ne ?_ | with_reducible refine c_neB ?_)
  | ((with_reducible show wpAny _ _ (truthy _) _ _ _); first | with_reducible refine t_bool ?_ | (refine r_truthy (by assumption) (by walk_at "ls") (by walk_at "sz") ?_; intro _ _))
  | ((with_reducible show ∃ (a : Addr) (us : List Value), _); refine ⟨_, _, rfl, by walk_at "ls", ?_⟩)
  | ((with_reducible show wpAny _ _ (callWith _ (Value.builtin "list.pop") _ _ _) _ _ _); refine r_pop (by assumption) (by walk_at "in") (by walk_at "sz") (by walk_at "up") ?_; intro _ _)
  | with_reducible refine if_t ?_ | with_reducible refine if_f ?_
  | ((with_reducible show wpAny _ _ (newList _) _ _ _); refine r_newList (by assumption) ?_ (by walk_at "sz"))
  | ((with_reducible show wpAny _ _ (newTuple _) _ _ _); refine r_newTuple (by assumption) ?_ (by walk_at "sz"))
  | with_reducible refine OpqV.fin (by assumption) ?_ | with_reducible refine OpqS.fin (by assumption) ?_ | with_reducible refine OpqB.fin (by assumption) ?_
  | ((with_reducible refine Opq.fin (by assumption) ?_); try dsimp only))
local macro_rules | `(tactic| walk_at "st") => `(tactic| first
  | ((with_reducible show wpAny _ _ (execs _ _) _ _ _); first | (refine x_assignO ?_; intro _ _) | refine x_setItem ?_ | (refine x_exprO ?_; intro _ _) | refine x_ret ?_)
  | ((fail_if_success (with_reducible show wpAny _ _ (execs _ _) _ _ _)); walk_at "ir"))
section
set_option maxHeartbeats 8000000
section
variable {prog : Program} {w : World} {A : Around} {σ s : Shared} {Wh g : Heap} {mg : Str → Option Value}

theorem shr1 {n : Nat} (h : 1 ≤ n) : ((n : Int) - 1).fdiv (2 ^ (1 : Int).toNat) = (((n - 1) / 2 : Nat) : Int) := by
  rw [show ((2 : Int) ^ (1 : Int).toNat) = 2 from rfl, Int.fdiv_eq_ediv_of_nonneg _ (by decide)]
  omega

inductive IDown (s : Shared) (g : Heap) (L a : Addr) (xs : List Tie) (pos start : Nat) (t1 : Tok) (x : Value) (res : List Tie × Nat) (n : Nat) (s' : Shared) : Prop
  | mk (m' : Str → Option Value) (vs' : List Value) (xs' : List Tie) (p : Nat) (tp : Tok)
    (f1 : n = p)
    (f2 : Fx s (s.heap.hide a) L s' m' [(a, .list vs')])
    (f3 : Ties g vs' xs')
    (f4 : p < xs'.length)
    (f5 : xs'.length = xs.length)
    (f6 : m' "heap" = some (.ref a))
    (f7 : m' "startpos" = some (.int start t1))
    (f8 : m' "pos" = some (.int (p : Nat) tp))
    (f9 : m' "newitem" = some x)
    (f10 : sdLoop (xs.getD pos d0) start xs' p = res)
theorem C_down (Wd : Wld Wh mg allDefs bltNames) {f a : Addr} {vs : List Value} {xs : List Tie} {start pos : Nat} {t1 t2 : Tok} {i1 i2 : Int} {Q : Value → Shared → Prop} (hf : IsFn Wh dDown f) (hW : Wh.StaysIn s.heap) (hA : AOk 1 A)
    (hg : g.StaysIn s.heap) (hga : g.get? a = none) (ha : s.heap.PlainList a vs.toArray) (hx : Ties g vs xs) (h1 : i1 = (start : Int)) (h2 : i2 = (pos : Int)) (hs : start ≤ pos) (hp : pos < xs.length) (hz : xs.length ≤ 1000)
    (h : ∀ s' vs', MoreBut [a] s s' → s'.heap.PlainList a vs'.toArray → Ties g vs' (siftdown xs start pos) → Q .none s') :
    wpAny (model prog w) A (call (.ref f) [.ref a, .int i1 t1, .int i2 t2]) Q NoE s := by
  subst h1 h2
  have hlt : a < s.heap.objs.size := by obtain ⟨n, e⟩ := ha; exact Heap.lt_size e
  refine enter' (σ := s) (k := s.heap.hide a) (l := [(a, .list vs)]) [("heap", .ref a), ("startpos", .int start t1), ("pos", .int pos t2)] (setm (setm (setm (fun _ => none) "heap" (.ref a)) "startpos" (.int start t1)) "pos" (.int pos t2)) (fun _ => [])
    Wd hf hW (by have := hA.depth; omega) (fun b o e => Heap.of_hide e) ?_ (by simp) ⟨rfl, rfl, rfl⟩ ?_
  · intro p hp
    rw [List.mem_singleton.mp hp]
    exact ⟨ha, Heap.hide_self ..⟩
  · intro cd L s₁ hkL F
    refine o_body fun Rb hRb => ?_
    have hk : g.StaysIn (s.heap.hide a) := fun b o e => (Heap.hide_ne _ (fun q => by rw [q, hga] at e; cases e)).trans (hg b o e)
    simp only [List.nil_append] at F
    obtain ⟨x, hx0, hxt⟩ := hx.get (b := xs.getD pos d0) (i := pos) (by simp [hp])
    have hxl := hx.length
    (repeat' walk_at "ir")
    refine r_itemN (by assumption) (by walk_at "in") rfl hx0 (by omega) ?_
    (repeat' walk_at "ir")
    obtain ⟨res, hres⟩ : ∃ r, sdLoop (xs.getD pos d0) start xs pos = r := ⟨_, rfl⟩
    refine x_while (IDown s g L a xs pos start t1 x res) pos
      ⟨_, vs, xs, pos, t2, rfl, by assumption, hx, hp, rfl, by walk_at "lk", by walk_at "lk", by walk_at "lk", by walk_at "lk", hres⟩ ?_
    rintro n s' HJ
    refine o_while fun Rw Kw hRw hKw => ?_
    obtain ⟨m', vs', xs', p, tp, rfl, F', hx', hp', hlen, m1, m2, m3, m4, hloop⟩ := HJ
    (repeat' walk_at "ir")
    refine if_dec (fun hc => ?_) fun hc => ?_
    · (repeat' walk_at "ir")
      refine r_shr (by assumption) (by omega) ?_
      intro _ _ _
      rw [shr1 (by omega)]
      have hpl : (n - 1) / 2 < xs'.length := by omega
      obtain ⟨y, hy0, hyt⟩ := hx'.get (b := xs'.getD ((n - 1) / 2) d0) (i := (n - 1) / 2) (by simp [hpl])
      have hxl' := hx'.length
      (repeat' walk_at "ir")
      refine r_itemN (by assumption) (by walk_at "in") rfl hy0 (by omega) ?_
      (repeat' walk_at "ir")
      refine r_ltTie (hxt.keeps (Fx.kept (by assumption) hk)) (hyt.keeps (Fx.kept (by assumption) hk)) (AOk.u hA.deeper) ?_
      (repeat' walk_at "ir")
      unfold sdLoop at hloop
      rw [dif_pos (show start < n by omega)] at hloop
      refine if_bool (fun hb => ?_) fun hb => ?_
      · rw [if_pos hb] at hloop
        (repeat' walk_at "ir")
        refine r_setItemN (by assumption) (by walk_at "in") rfl (by omega) (by omega) (by walk_at "up") ?_
        intro _ _
        (repeat' walk_at "ir")
        exact ⟨(n - 1) / 2, by omega, _, _, _, _, _, rfl, by assumption, hx'.set hyt n, by simpa using hpl, by simpa using hlen, by walk_at "lk", by walk_at "lk", by walk_at "lk", by walk_at "lk", hloop⟩
      · rw [if_neg (by rw [hb]; exact Bool.false_ne_true)] at hloop
        (repeat' walk_at "ir")
        (repeat' walk_at "ir")
        refine r_setItemN (by assumption) (by walk_at "in") rfl (by omega) (by omega) (by walk_at "up") ?_
        intro s₂ F₂
        (repeat' walk_at "ir")
        refine h s₂ _ ⟨fun b o hb e => F₂.keep b o ((Heap.hide_ne _ (by simpa using hb)).trans e), F₂.rest⟩ (F₂.list (by walk_at "in")) ?_
        show Ties g _ ((sdLoop (xs.getD pos d0) start xs pos).1.set (sdLoop (xs.getD pos d0) start xs pos).2 (xs.getD pos d0))
        rw [hres, ← hloop]
        exact hx'.set hxt n
    · have hxl' := hx'.length
      unfold sdLoop at hloop
      rw [dif_neg (show ¬ start < n by omega)] at hloop
      · (repeat' walk_at "ir")
        refine r_setItemN (by assumption) (by walk_at "in") rfl (by omega) (by omega) (by walk_at "up") ?_
        intro s₂ F₂
        (repeat' walk_at "ir")
        refine h s₂ _ ⟨fun b o hb e => F₂.keep b o ((Heap.hide_ne _ (by simpa using hb)).trans e), F₂.rest⟩ (F₂.list (by walk_at "in")) ?_
        show Ties g _ ((sdLoop (xs.getD pos d0) start xs pos).1.set (sdLoop (xs.getD pos d0) start xs pos).2 (xs.getD pos d0))
        rw [hres, ← hloop]
        exact hx'.set hxt n

inductive MUp (s : Shared) (L a : Addr) (vs vs' : List Value) (xs' : List Tie) (pos p : Nat) (t2 tp te : Tok) (x : Value) (s₂ : Shared) : Prop
  | mk (m₂ : Str → Option Value) (tq : Tok)
    (f1 : Fx s (s.heap.hide a) L s₂ m₂ [(a, .list vs')])
    (f2 : m₂ "heap" = some (.ref a))
    (f3 : m₂ "endpos" = some (.int vs.length te))
    (f4 : m₂ "startpos" = some (.int pos t2))
    (f5 : m₂ "pos" = some (.int (p : Nat) tp))
    (f6 : m₂ "newitem" = some x)
    (f7 : m₂ "childpos" = some (.int (suChild xs' p : Nat) tq))
inductive IUp (s : Shared) (g : Heap) (L a : Addr) (vs : List Value) (xs : List Tie) (pos : Nat) (t2 : Tok) (x : Value) (res : List Tie × Nat) (n : Nat) (s' : Shared) : Prop
  | mk (m' : Str → Option Value) (vs' : List Value) (xs' : List Tie) (p : Nat) (tp : Tok) (tc : Tok)
    (f1 : n = xs.length - p)
    (f2 : Fx s (s.heap.hide a) L s' m' [(a, .list vs')])
    (f3 : Ties g vs' xs')
    (f4 : p < xs'.length)
    (f5 : pos ≤ p)
    (f6 : xs'.length = xs.length)
    (f7 : m' "heap" = some (.ref a))
    (f8 : (∃ te, m' "endpos" = some (.int vs.length te)))
    (f9 : m' "startpos" = some (.int pos t2))
    (f10 : m' "pos" = some (.int (p : Nat) tp))
    (f11 : m' "childpos" = some (.int (2 * (p : Nat) + 1) tc))
    (f12 : m' "newitem" = some x)
    (f13 : suLoop xs' p = res)
theorem C_up (Wd : Wld Wh mg allDefs bltNames) {f a : Addr} {vs : List Value} {xs : List Tie} {pos : Nat} {t2 : Tok} {i2 : Int} {Q : Value → Shared → Prop} (hf : IsFn Wh dUp f) (hW : Wh.StaysIn s.heap) (hA : AOk 2 A)
    (hg : g.StaysIn s.heap) (hga : g.get? a = none) (hWg : Wh.StaysIn g) (ha : s.heap.PlainList a vs.toArray) (hx : Ties g vs xs) (h2 : i2 = (pos : Int)) (hp : pos < xs.length) (hz : xs.length ≤ 1000)
    (h : ∀ s' vs', MoreBut [a] s s' → s'.heap.PlainList a vs'.toArray → Ties g vs' (siftup xs pos) → Q .none s') :
    wpAny (model prog w) A (call (.ref f) [.ref a, .int i2 t2]) Q NoE s := by
  subst h2
  have hlt : a < s.heap.objs.size := by obtain ⟨n, e⟩ := ha; exact Heap.lt_size e
  refine enter' (σ := s) (k := s.heap.hide a) (l := [(a, .list vs)]) [("heap", .ref a), ("pos", .int pos t2)] (setm (setm (fun _ => none) "heap" (.ref a)) "pos" (.int pos t2)) (fun _ => [])
    Wd hf hW (by have := hA.depth; omega) (fun b o e => Heap.of_hide e) ?_ (by simp) ⟨rfl, rfl, rfl⟩ ?_
  · intro p hp
    rw [List.mem_singleton.mp hp]
    exact ⟨ha, Heap.hide_self ..⟩
  · intro cd L s₁ hkL F
    refine o_body fun Rb hRb => ?_
    have hk : g.StaysIn (s.heap.hide a) := fun b o e => (Heap.hide_ne _ (fun q => by rw [q, hga] at e; cases e)).trans (hg b o e)
    have hWk : Wh.StaysIn (s.heap.hide a) := fun b o e => hk b o (hWg b o e)
    simp only [List.nil_append] at F
    obtain ⟨x, hx0, hxt⟩ := hx.get (b := xs.getD pos d0) (i := pos) (by simp [hp])
    have hxl := hx.length
    obtain ⟨res, hres⟩ : ∃ r, suLoop xs pos = r := ⟨_, rfl⟩
    (repeat' walk_at "ir")
    refine r_itemN (by assumption) (by walk_at "in") rfl hx0 (by omega) ?_
    (repeat' walk_at "ir")
    refine x_while (IUp s g L a vs xs pos t2 x res) (xs.length - pos)
      ⟨_, vs, xs, pos, _, _, rfl, by assumption, hx, hp, Nat.le_refl _, rfl, by walk_at "lk", ⟨_, by walk_at "lk"⟩, by walk_at "lk", by walk_at "lk", by walk_at "lk", by walk_at "lk", hres⟩ ?_
    rintro n s' HJ
    refine o_while fun Rw Kw hRw hKw => ?_
    obtain ⟨m', vs', xs', p, tp, tc, rfl, F', hx', hp', hpp, hlen, m1, ⟨te, m2⟩, m3, m4, m5, m6, hloop⟩ := HJ
    have hxl' := hx'.length
    (repeat' walk_at "ir")
    refine if_dec (fun hc => ?_) fun hc => ?_
    · unfold suLoop at hloop
      rw [dif_pos (show 2 * p + 1 < xs'.length by omega)] at hloop
      have hch := suChild_lt xs' p (by omega)
      obtain ⟨y, hy0, hyt⟩ := hx'.get (b := xs'.getD (2 * p + 1) d0) (i := 2 * p + 1) (by simp [show 2 * p + 1 < xs'.length by omega])
      (repeat' walk_at "st")
      refine x_ifMid (MUp s L a vs vs' xs' pos p t2 tp te x) ?_ ?_
      · (repeat' walk_at "ir")
        refine if_dec (fun hr => ?_) fun hr => ?_
        · obtain ⟨z, hz0, hzt⟩ := hx'.get (b := xs'.getD (2 * p + 2) d0) (i := 2 * p + 2) (by simp [show 2 * p + 2 < xs'.length by omega])
          (repeat' walk_at "ir")
          refine r_itemN (by assumption) (by walk_at "in") (by omega) hy0 (by omega) ?_
          (repeat' walk_at "ir")
          refine r_itemN (by assumption) (by walk_at "in") (by omega) hz0 (by omega) ?_
          refine r_ltTie (hyt.keeps (Fx.kept (by assumption) hk)) (hzt.keeps (Fx.kept (by assumption) hk)) (AOk.u hA.deeper) ?_
          (repeat' walk_at "ir")
          refine if_bool (fun hb => ?_) fun hb => ?_
          · have e : suChild xs' p = 2 * p + 2 := by
              unfold suChild; rw [if_pos ⟨by omega, by simpa using hb⟩]
            (repeat' walk_at "ir")
            exact ⟨rfl, _, _, by assumption, by walk_at "lk", by walk_at "lk", by walk_at "lk", by walk_at "lk", by walk_at "lk", lkv (by walk_at "lk") (congrArg (Value.int · _) (by omega))⟩
          · have e : suChild xs' p = 2 * p + 1 := by
              unfold suChild; rw [if_neg (fun q => by rw [q.2] at hb; simp at hb)]
            (repeat' walk_at "ir")
            exact ⟨rfl, _, _, by assumption, by walk_at "lk", by walk_at "lk", by walk_at "lk", by walk_at "lk", by walk_at "lk", lkv (by walk_at "lk") (congrArg (Value.int · _) (by omega))⟩
        · have e : suChild xs' p = 2 * p + 1 := by
            unfold suChild; rw [if_neg (fun q => hr (by have := q.1; omega))]
          (repeat' walk_at "ir")
          exact ⟨rfl, _, _, by assumption, by walk_at "lk", by walk_at "lk", by walk_at "lk", by walk_at "lk", by walk_at "lk", lkv (by walk_at "lk") (congrArg (Value.int · _) (by omega))⟩
      · rintro s₂ ⟨m₂, tq, F₂, n1, n2, n3, n4, n5, n6⟩
        obtain ⟨z, hz0, hzt⟩ := hx'.get (b := xs'.getD (suChild xs' p) d0) (i := suChild xs' p) (by simp [hch.1])
        (repeat' walk_at "ir")
        refine r_itemN (by assumption) (by walk_at "in") rfl hz0 (by omega) ?_
        (repeat' walk_at "ir")
        refine r_setItemN (by assumption) (by walk_at "in") rfl (by omega) (by omega) (by walk_at "up") ?_
        intro _ _
        (repeat' walk_at "ir")
        exact ⟨_, Nat.sub_lt_sub_left (by omega) hch.2, _, _, _, suChild xs' p, _, _, rfl, by assumption, hx'.set hzt p, by simpa using hch.1, by omega, by simpa using hlen, by walk_at "lk", ⟨_, by walk_at "lk"⟩, by walk_at "lk", by walk_at "lk", by walk_at "lk", by walk_at "lk", hloop⟩
    · unfold suLoop at hloop
      rw [dif_neg (show ¬ 2 * p + 1 < xs'.length by omega)] at hloop
      (repeat' walk_at "ir")
      refine r_setItemN (by assumption) (by walk_at "in") rfl (by omega) (by omega) (by walk_at "up") ?_
      intro s₂ F₂
      (repeat' walk_at "ir")
      refine ⟨by walk_at "kp", fun a' ha' => ?_⟩
      refine C_down (g := g) Wd ha' (by walk_at "kp") hA.deeper (by walk_at "kp") hga (by walk_at "ls") (hx'.set hxt p) rfl rfl hpp (by simpa using hp') (by simp; omega) ?_
      intro s₃ vs₃ M₃ L₃ T₃
      (repeat' walk_at "ir")
      refine h s₃ vs₃ (MoreBut.trans ⟨fun b o hb e => F₂.keep b o ((Heap.hide_ne _ (by simpa using hb)).trans e), F₂.rest⟩ M₃) L₃ ?_
      show Ties g vs₃ (siftdown ((suLoop xs pos).1.set (suLoop xs pos).2 (xs.getD pos d0)) pos (suLoop xs pos).2)
      rw [hres, ← hloop]
      exact T₃

theorem C_push (Wd : Wld Wh mg allDefs bltNames) {f a : Addr} {vs : List Value} {xs : List Tie} {v : Value} {x : Tie} {Q : Value → Shared → Prop} (hf : IsFn Wh dPush f) (hW : Wh.StaysIn s.heap) (hA : AOk 2 A)
    (hg : g.StaysIn s.heap) (hga : g.get? a = none) (hWg : Wh.StaysIn g) (ha : s.heap.PlainList a vs.toArray) (hx : Ties g vs xs) (hv : TieAt g v x) (hz : xs.length < 1000)
    (h : ∀ s' vs', MoreBut [a] s s' → s'.heap.PlainList a vs'.toArray → Ties g vs' (heappush xs x) → Q .none s') :
    wpAny (model prog w) A (call (.ref f) [.ref a, v]) Q NoE s := by
  refine enter' (σ := s) (k := s.heap.hide a) (l := [(a, .list vs)]) [("heap", .ref a), ("item", v)] (setm (setm (fun _ => none) "heap" (.ref a)) "item" v) (fun _ => [])
    Wd hf hW (by have := hA.depth; omega) (fun b o e => Heap.of_hide e) ?_ (by simp) ⟨rfl, rfl, rfl⟩ ?_
  · intro p hp
    rw [List.mem_singleton.mp hp]
    exact ⟨ha, Heap.hide_self ..⟩
  · intro cd L s₁ hkL F
    refine o_body fun Rb hRb => ?_
    have hk : g.StaysIn (s.heap.hide a) := fun b o e => (Heap.hide_ne _ (fun q => by rw [q, hga] at e; cases e)).trans (hg b o e)
    have hWk : Wh.StaysIn (s.heap.hide a) := fun b o e => hk b o (hWg b o e)
    simp only [List.nil_append] at F
    have hxl := hx.length
    (repeat' walk_at "ir")
    refine ⟨by walk_at "kp", fun a' ha' => ?_⟩
    refine C_down (g := g) (start := 0) (pos := xs.length) Wd ha' (by walk_at "kp") hA.deeper (by walk_at "kp") hga (by walk_at "ls") (hx.snoc hv) rfl (by simp; omega) (by omega) (by simp) (by simp; omega) ?_
    intro s₃ vs₃ M₃ L₃ T₃
    (repeat' walk_at "ir")
    exact h _ _ (MoreBut.trans (Fx.but (by assumption)) M₃) L₃ T₃

theorem C_pop (Wd : Wld Wh mg allDefs bltNames) {f a : Addr} {vs : List Value} {xs : List Tie} {Q : Value → Shared → Prop} (hf : IsFn Wh dPop f) (hW : Wh.StaysIn s.heap) (hA : AOk 3 A)
    (hg : g.StaysIn s.heap) (hga : g.get? a = none) (hWg : Wh.StaysIn g) (ha : s.heap.PlainList a vs.toArray) (hx : Ties g vs xs) (hn : 0 < xs.length) (hz : xs.length ≤ 1000)
    (h : ∀ v s' vs', MoreBut [a] s s' → s'.heap.PlainList a vs'.toArray → TieAt g v (xs.getD 0 d0) → Ties g vs' (heappop xs) → Q v s') :
    wpAny (model prog w) A (call (.ref f) [.ref a]) Q NoE s := by
  obtain ⟨ys, y, rfl⟩ : ∃ ys y, xs = ys ++ [y] := ⟨xs.dropLast, xs.getLast (fun e => by rw [e] at hn; exact absurd hn (Nat.lt_irrefl _)), (List.dropLast_concat_getLast _).symm⟩
  obtain ⟨us, u, rfl, hus, hu⟩ := hx.unsnoc
  refine enter' (σ := s) (k := s.heap.hide a) (l := [(a, .list (us ++ [u]))]) [("heap", .ref a)] (setm (fun _ => none) "heap" (.ref a)) (fun _ => [])
    Wd hf hW (by have := hA.depth; omega) (fun b o e => Heap.of_hide e) ?_ (by simp) ⟨rfl, rfl, rfl⟩ ?_
  · intro p hp
    rw [List.mem_singleton.mp hp]
    exact ⟨ha, Heap.hide_self ..⟩
  · intro cd L s₁ hkL F
    refine o_body fun Rb hRb => ?_
    have hk : g.StaysIn (s.heap.hide a) := fun b o e => (Heap.hide_ne _ (fun q => by rw [q, hga] at e; cases e)).trans (hg b o e)
    have hWk : Wh.StaysIn (s.heap.hide a) := fun b o e => hk b o (hWg b o e)
    simp only [List.nil_append] at F
    have hxl := hus.length
    have hz' : ys.length < 1000 := by simp at hz; omega
    (repeat' walk_at "ir")
    refine if_bool (fun hb => ?_) fun hb => ?_
    · have hpos : 0 < ys.length := by
        rw [← hxl]
        cases us with
        | nil => simp at hb
        | cons _ _ => simp
      obtain ⟨z, hz0, hzt⟩ := hus.get (b := ys.getD 0 d0) (i := 0) (by simp [hpos])
      (repeat' walk_at "ir")
      refine r_itemN (by assumption) (by walk_at "in") rfl hz0 (by omega) ?_
      (repeat' walk_at "ir")
      refine r_setItemN (i := 0) (by assumption) (by walk_at "in") rfl (by omega) (by omega) (by walk_at "up") ?_
      intro s₂ F₂
      (repeat' walk_at "ir")
      refine ⟨by walk_at "kp", fun a' ha' => ?_⟩
      refine C_up (g := g) (pos := 0) Wd ha' (by walk_at "kp") hA.deeper (by walk_at "kp") hga hWg (by walk_at "ls") (hus.set hu 0) rfl (by simpa using hpos) (by simp; omega) ?_
      intro s₃ vs₃ M₃ L₃ T₃
      have F₃ := Fx.upd (c' := .list vs₃) (l' := [(a, .list vs₃)]) (by assumption) (by walk_at "up") M₃ L₃
      (repeat' walk_at "ir")
      refine h _ _ vs₃ (Fx.but (by assumption)) L₃ ?_ ?_
      · rw [List.getD_eq_getElem?_getD, List.getElem?_append_left hpos, ← List.getD_eq_getElem?_getD]; exact hzt
      · unfold heappop
        rw [if_neg (by rw [List.length_append]; simp only [List.length_cons, List.length_nil]; omega)]
        simpa using T₃
    · have e : us = [] := by simpa using hb
      subst e
      have e : ys = [] := by simpa using hxl.symm
      subst e
      (repeat' walk_at "ir")
      refine h _ _ [] (Fx.but (by assumption)) (by walk_at "ls") (by simpa using hu) ?_
      unfold heappop
      exact .nil
end
end
section
set_option maxHeartbeats 8000000
section
variable {prog : Program} {w : World} {A : Around} {σ s : Shared} {Wh g : Heap} {mg : Str → Option Value}

structure JHeapify (g : Heap) (a : Addr) (xs : List Tie) (i : Nat) (x : List Value × List Tie) (m : Str → Option Value) (l : Led) : Prop where
  f1 : Ties g x.1 x.2
  f2 : l = [(a, .list x.1)]
  f3 : m "x" = some (.ref a)
  f4 : x.2.length = xs.length
  f5 : heapifyLoop x.2 (xs.length / 2 - i) = heapify xs
theorem C_heapify (Wd : Wld Wh mg allDefs bltNames) {f a : Addr} {vs : List Value} {xs : List Tie} {Q : Value → Shared → Prop} (hf : IsFn Wh dHeapify f) (hW : Wh.StaysIn s.heap) (hA : AOk 3 A)
    (hg : g.StaysIn s.heap) (hga : g.get? a = none) (hWg : Wh.StaysIn g) (ha : s.heap.PlainList a vs.toArray) (hx : Ties g vs xs) (hz : xs.length ≤ 1000)
    (h : ∀ s' vs', MoreBut [a] s s' → s'.heap.PlainList a vs'.toArray → Ties g vs' (heapify xs) → Q .none s') :
    wpAny (model prog w) A (call (.ref f) [.ref a]) Q NoE s := by
  refine enter' (σ := s) (k := s.heap.hide a) (l := [(a, .list vs)]) [("x", .ref a)] (setm (fun _ => none) "x" (.ref a)) (fun _ => [])
    Wd hf hW (by have := hA.depth; omega) (fun b o e => Heap.of_hide e) ?_ (by simp) ⟨rfl, rfl, rfl⟩ ?_
  · intro p hp
    rw [List.mem_singleton.mp hp]
    exact ⟨ha, Heap.hide_self ..⟩
  · intro cd L s₁ hkL F
    refine o_body fun Rb hRb => ?_
    have hk : g.StaysIn (s.heap.hide a) := fun b o e => (Heap.hide_ne _ (fun q => by rw [q, hga] at e; cases e)).trans (hg b o e)
    have hWk : Wh.StaysIn (s.heap.hide a) := fun b o e => hk b o (hWg b o e)
    simp only [List.nil_append] at F
    have hxl := hx.length
    (repeat' walk_at "ir")
    refine x_for ?_
    (repeat' walk_at "ir")
    refine r_revRange (j := xs.length / 2) (by assumption) (by walk_at "in") (by rw [Int.fdiv_eq_ediv_of_nonneg _ (by decide)]; omega) (by omega) ?_
    intro b s₂ F₂
    refine for_range hA.handled F₂ hkL (fun _ : List Value × List Tie => g)
      (JHeapify g a xs) (vs, xs) [(a, .list vs)] (by simp) (by simp) hk
      ⟨hx, rfl, by walk_at "lk", rfl, rfl⟩ ?_ ?_
    · rintro i t k' s₃ ⟨vs', xs'⟩ m₃ l₃ hi HJ hkk hgk hkL' F₃
      refine o_turn fun Rt hRt => ?_
      obtain ⟨hx', rfl, m1, hlen, hloop⟩ := HJ
      dsimp only at hx' m1 hlen hloop hgk F₃
      have hWk' : Wh.StaysIn k' := fun b o e => hgk b o (hWg b o e)
      have hxl' := hx'.length
      rw [show xs.length / 2 - i = (xs.length / 2 - (i + 1)) + 1 by omega, heapifyLoop] at hloop
      (repeat' walk_at "ir")
      refine ⟨by walk_at "kp", fun a' ha' => ?_⟩
      refine C_up (g := g) (pos := xs.length / 2 - (i + 1)) Wd ha' (by walk_at "kp") hA.deeper (by walk_at "kp") hga hWg (by walk_at "ls") hx' (by omega) (by omega) (by omega) ?_
      intro s₄ vs₄ M₄ L₄ T₄
      have F₄ := Fx.upd (c' := .list vs₄) (l' := [(a, .list vs₄)]) (by assumption) (by walk_at "up") M₄ L₄
      (repeat' walk_at "ir")
      exact ⟨(vs₄, siftup xs' (xs.length / 2 - (i + 1))), _, _, k', ⟨T₄, rfl, by walk_at "lk", by rw [siftup_length]; exact hlen, hloop⟩, fun _ _ e => e, hgk, Gr.refl, hkL', F₄⟩
    · rintro ⟨vs', xs'⟩ m₃ l₃ k' s₃ ⟨hx', rfl, m1, hlen, hloop⟩ hkk hgk hkL' F₃
      simp only [Nat.sub_self, heapifyLoop] at hx' m1 hlen hloop F₃
      (repeat' walk_at "ir")
      exact h _ _ ⟨fun b o hb e => F₃.keep b o (hkk b o ((Heap.hide_ne _ (by simpa using hb)).trans e)), F₃.rest⟩ (by walk_at "ls") (hloop ▸ hx')
end
end
section
set_option maxHeartbeats 8000000
section
variable {prog : Program} {w : World} {A : Around} {E : Value → Shared → Prop} {σ s : Shared} {k Wh g : Heap} {L : Addr} {m mg : Str → Option Value} {l : Led} {env : Env}

def leads (place : Int) (ns : List Int) (t : Tie) : Bool := (decide (place = t.2.2.1) || decide (place = t.2.2.2)) && (decide (t.2.2.1 ∉ ns) || decide (t.2.2.2 ∉ ns))
def leadM (ts : List Tie) (place : Int) (ns : List Int) : List Tie := ts.filter (leads place ns)
theorem leadM_step {ts : List Tie} {place : Int} {ns : List Int} {i : Nat} {t : Tie} (h : ts[i]? = some t) : leadM (ts.take (i + 1)) place ns = if leads place ns t then leadM (ts.take i) place ns ++ [t] else leadM (ts.take i) place ns := by
  obtain ⟨hi, rfl⟩ := List.getElem?_eq_some_iff.mp h
  unfold leadM
  rw [List.take_succ_eq_append_getElem hi, List.filter_append]
  cases q : leads place ns ts[i] <;> simp [q]

theorem bools_of {vs : List Value} {is : List Int} {ys : List Value} {f : Int → Bool} (hi : IntsAre vs is) (hp : Paired (fun v y => ∃ i t, v = Value.int i t ∧ y = Value.bool (f i)) (vs.filter fun _ => true) ys) : LSm.BoolsAre ys (is.map f) := by
  have e : (vs.filter fun _ => true) = vs := List.filter_eq_self.mpr fun _ _ => rfl
  rw [e] at hp
  clear e
  induction hi generalizing ys with
  | nil => cases hp; exact .nil
  | cons n t _ ih =>
    cases hp with
    | cons h1 h2 =>
      obtain ⟨i, t', e, rfl⟩ := h1
      cases e
      exact .cons _ (ih h2)
theorem ints_mem {vs : List Value} {is : List Int} {v : Value} (hi : IntsAre vs is) (hv : v ∈ vs) : ∃ i t, v = Value.int i t := by
  induction hi with
  | nil => cases hv
  | cons n t _ ih =>
    rcases List.mem_cons.mp hv with rfl | hv
    · exact ⟨_, _, rfl⟩
    · exact ih hv

structure JLead (g : Heap) (L b fa : Addr) (place : Int) (t : Tok) (ts : List Tie) (ns : List Int) (i : Nat) (x : List Value × List Tie) (m : Str → Option Value) (l : Led) : Prop where
  f1 : Ties g x.1 x.2
  f2 : l = [(fa, .list x.1), (L + 1, .cell (some (.ref b)))]
  f3 : m "place" = some (.int place t)
  f4 : m "found" = some (.ref fa)
  f5 : x.2 = leadM (ts.take i) place ns
theorem C_lead (Wd : Wld Wh mg allDefs bltNames) {f a b : Addr} {vs us : List Value} {ts : List Tie} {ns : List Int} {place : Int} {t : Tok} {Q : Value → Shared → Prop} (hf : IsFn Wh dLead f) (hW : Wh.StaysIn s.heap) (hA : AOk 3 A)
    (hg : g.StaysIn s.heap) (hWg : Wh.StaysIn g) (ha : s.heap.PlainList a vs.toArray) (hb : s.heap.PlainList b us.toArray) (hx : Ties g vs ts) (hn : IntsAre us ns) (hz : ts.length ≤ 1000)
    (h : ∀ r vs' s', More s s' → s.heap.get? r = none → s'.heap.PlainList r (List.toArray vs') → Ties g vs' (leadM ts place ns) → Q (.ref r) s') :
    wpAny (model prog w) A (call (.ref f) [.ref a, .int place t, .ref b]) Q NoE s := by
  refine enter' (σ := s) (k := s.heap) (l := []) [("ties", .ref a), ("place", .int place t), ("reached", .ref b)] (setm (setm (fun _ => none) "ties" (.ref a)) "place" (.int place t)) (fun L => [(L + 1, .cell (some (.ref b)))])
    Wd hf hW (by have := hA.depth; omega) (fun _ _ e => e) (fun _ hp => nomatch hp) (by simp) ⟨rfl, rfl, rfl⟩ ?_
  intro cd L s₁ hkL F
  refine o_body fun Rb hRb => ?_
  have hWk : Wh.StaysIn s.heap := hW
  have hxl := hx.length
  simp only [List.append_nil] at F
  (repeat' walk_at "ir")
  intro fa _ _ hfa
  (repeat' walk_at "ir")
  rename Fx _ _ _ _ _ _ => F₂
  refine x_for ?_
  (repeat' walk_at "ir")
  refine for_list hA.handled F₂ hkL (F₂.listK ha) [(fa, .list []), (L + 1, .cell (some (.ref b)))] (fun _ hp => hp) F₂.nd (fun hm => ?_) (fun _ : List Value × List Tie => g)
    (JLead g L b fa place t ts ns) ([], []) hg
    ⟨.nil, rfl, by walk_at "lk", by walk_at "lk", rfl⟩ ?_ ?_
  · obtain ⟨p, hp, q⟩ := List.mem_map.mp hm
    have h1 := (F₂.led p hp).2.2
    obtain ⟨n, e⟩ := ha
    rw [q, e] at h1; cases h1
  · rintro i v k' s₃ ⟨vs', ts'⟩ m₃ l₃ hv HJ kk hak hgk hkL' F₃
    refine o_turn fun Rt hRt => ?_
    obtain ⟨hx', rfl, m1, m2, e'⟩ := HJ
    obtain ⟨tie, htie, hvt⟩ := hx.get' hv
    have hbk := plain_keeps hb kk
    have hWk' : Wh.StaysIn k' := fun _ _ e => hgk _ _ (hWg _ _ e)
    dsimp only at hx' e' F₃
    have hi := (List.getElem?_eq_some_iff.mp htie).1
    have hlen : vs'.length ≤ 1000 := by rw [hx'.length, e']; exact Nat.le_trans (List.length_filter_le _ _) (by rw [List.length_take]; omega)
    (repeat' walk_at "ir")
    refine r_tie2 (hvt.keeps (Fx.kept (by assumption) hgk)) ?_
    intro _
    (repeat' walk_at "ir")
    refine r_tie3 (hvt.keeps (Fx.kept (by assumption) hgk)) ?_
    intro _
    (repeat' walk_at "ir")
    intro fe _ _ _
    (repeat' walk_at "ir")
    refine c_inInts (by walk_at "ls") (.cons _ _ (.cons _ _ .nil)) ?_
    (repeat' walk_at "ir")
    refine if_dec (fun hc => ?_) fun hc => ?_
    · (repeat' walk_at "ir")
      refine e_compL (fun _ => true) (fun v y => ∃ i t, v = Value.int i t ∧ y = Value.bool (decide (i ∉ ns))) [("reached", L + 1)] hA.handled ?_
      (repeat' walk_at "ir")
      refine ⟨by simp, ⟨fun C v s₄ m₄ hv kk₄ F₄ hm => test_none (p := fun _ => true) (v := v) rfl, fun C v s₄ m₄ hv _ kk₄ F₄ hm => ?_⟩, fun s₅ D ys M hD hl hp => ?_⟩
      · obtain ⟨i, t, rfl⟩ := ints_mem (.cons _ _ (.cons _ _ .nil)) hv
        have hc : s₄.heap.IsCell (L + 1) (some (.ref b)) := Heap.IsCell.keeps (Fx.cellL (by assumption) (by walk_at "in")) kk₄
        have hb4 : s₄.heap.PlainList b us.toArray := plain_keeps (Fx.listK (by assumption) hbk) kk₄
        (repeat' walk_at "ir")
        refine c_ninInts (by assumption) hn ?_
        exact ⟨⟨_, _, rfl, rfl⟩, Fx.toMore (by assumption)⟩
      · have F₅ := Fx.add (by assumption) M hD (c := .list ys) hl
        (repeat' walk_at "ir")
        refine r_any hA.handled (by assumption) hkL' (by walk_at "ls") (bools_of (.cons _ _ (.cons _ _ .nil)) hp) ?_
        intro _ _
        (repeat' walk_at "ir")
        refine if_bool (fun hb => ?_) fun hb => ?_
        · (repeat' walk_at "ir")
          refine turn_end (vs' ++ [v], ts' ++ [tie]) (l' := [(fa, .list _), (L + 1, .cell (some (.ref b)))]) (k'' := k') (by walk_at "pk") (fun _ _ e => e) hgk Gr.refl hkL' ⟨hx'.snoc hvt, rfl, by walk_at "lk", by walk_at "lk", ?_⟩
          show ts' ++ [tie] = _
          rw [leadM_step htie, if_pos, e']
          unfold leads
          simp at hc hb
          simp [hc, hb]
        · (repeat' walk_at "ir")
          refine turn_end (vs', ts') (l' := [(fa, .list _), (L + 1, .cell (some (.ref b)))]) (k'' := k') (by walk_at "pk") (fun _ _ e => e) hgk Gr.refl hkL' ⟨hx', rfl, by walk_at "lk", by walk_at "lk", ?_⟩
          show ts' = _
          rw [leadM_step htie, if_neg, e']
          unfold leads
          simpa using fun _ => hb
    · (repeat' walk_at "ir")
      refine turn_end (vs', ts') (l' := [(fa, .list _), (L + 1, .cell (some (.ref b)))]) (k'' := k') (by walk_at "pk") (fun _ _ e => e) hgk Gr.refl hkL' ⟨hx', rfl, by walk_at "lk", by walk_at "lk", ?_⟩
      show ts' = _
      rw [leadM_step htie, if_neg, e']
      unfold leads
      simp at hc
      simp [hc]
  · rintro ⟨vs', ts'⟩ m₃ l₃ k' s₃ ⟨hx', rfl, m1, m2, e'⟩ kk hak hgk hkL' F₃
    dsimp only at hx' e' F₃
    have hWk' : Wh.StaysIn k' := fun _ _ e => hgk _ _ (hWg _ _ e)
    (repeat' walk_at "ir")
    refine h _ vs' _ ⟨fun b o e => F₃.keep _ _ (kk b o e), F₃.rest⟩ (F.fresh hfa).2.1 (by walk_at "ls") ?_
    rw [hxl, List.take_length] at e'
    exact e' ▸ hx'
end
end
section
/-- a tie of ts joins x and y -/
def Step (ts : List Tie) (x y : Int) : Prop := ∃ t ∈ ts, (t.2.2.1 = x ∧ t.2.2.2 = y) ∨ (t.2.2.2 = x ∧ t.2.2.1 = y)
inductive Reach (ts : List Tie) (x : Int) : Int → Prop
  | refl : Reach ts x x
  | step {y z : Int} : Reach ts x y → Step ts y z → Reach ts x z
theorem Step.symm {ts : List Tie} {x y : Int} (h : Step ts x y) : Step ts y x := by
  obtain ⟨t, ht, h | h⟩ := h
  · exact ⟨t, ht, .inr ⟨h.2, h.1⟩⟩
  · exact ⟨t, ht, .inl ⟨h.2, h.1⟩⟩
theorem Step.mono {ts us : List Tie} {x y : Int} (hs : ∀ t ∈ ts, t ∈ us) (h : Step ts x y) : Step us x y := by
  obtain ⟨t, ht, h⟩ := h
  exact ⟨t, hs t ht, h⟩
theorem Reach.mono {ts us : List Tie} {x y : Int} (hs : ∀ t ∈ ts, t ∈ us) (h : Reach ts x y) : Reach us x y := by
  induction h with
  | refl => exact .refl
  | step _ s ih => exact .step ih (s.mono hs)
theorem Reach.trans {ts : List Tie} {x y z : Int} (h : Reach ts x y) (h' : Reach ts y z) : Reach ts x z := by
  induction h' with
  | refl => exact h
  | step _ s ih => exact .step ih s
theorem Reach.one {ts : List Tie} {x y : Int} (h : Step ts x y) : Reach ts x y := .step .refl h
theorem Reach.symm {ts : List Tie} {x y : Int} (h : Reach ts x y) : Reach ts y x := by
  induction h with
  | refl => exact .refl
  | step _ s ih => exact (Reach.one s.symm).trans ih
theorem Reach.of_steps {ts us : List Tie} (hs : ∀ x y, Step ts x y → Reach us x y) {x y : Int} (h : Reach ts x y) : Reach us x y := by
  induction h with
  | refl => exact .refl
  | step _ s ih => exact ih.trans (hs _ _ s)
/-- a set that is closed under the ties has all that is reached -/
theorem Reach.closed {ts : List Tie} {S : Int → Prop} (hc : ∀ x y, S x → Step ts x y → S y) {x y : Int} (h : Reach ts x y) (hx : S x) : S y := by
  induction h with
  | refl => exact hx
  | step _ s ih => exact hc _ _ ih s

/-- ties among six places, no tie from a place to itself -/
structure Web (ts : List Tie) : Prop where
  lo : ∀ t ∈ ts, 0 ≤ t.2.2.1 ∧ 0 ≤ t.2.2.2
  hi : ∀ t ∈ ts, t.2.2.1 < 6 ∧ t.2.2.2 < 6
  ne : ∀ t ∈ ts, t.2.2.1 ≠ t.2.2.2
theorem Web.mono {ts us : List Tie} (h : Web us) (hs : ∀ t ∈ ts, t ∈ us) : Web ts := ⟨fun t ht => h.lo t (hs t ht), fun t ht => h.hi t (hs t ht), fun t ht => h.ne t (hs t ht)⟩
theorem Web.step {ts : List Tie} (h : Web ts) {x y : Int} (s : Step ts x y) : 0 ≤ y ∧ y < 6 := by
  obtain ⟨t, ht, ⟨_, rfl⟩ | ⟨_, rfl⟩⟩ := s
  · exact ⟨(h.lo t ht).2, (h.hi t ht).2⟩
  · exact ⟨(h.lo t ht).1, (h.hi t ht).1⟩
theorem Web.reach {ts : List Tie} (h : Web ts) {x y : Int} (s : Reach ts x y) (hx : 0 ≤ x ∧ x < 6) : 0 ≤ y ∧ y < 6 := by
  induction s with
  | refl => exact hx
  | step _ s _ => exact h.step s

theorem nodup_below : ∀ (n : Nat) (l : List Nat), l.Nodup → (∀ x ∈ l, x < n) → l.length ≤ n
  | 0, l, _, h => by
    cases l with
    | nil => exact Nat.le_refl _
    | cons x _ => exact absurd (h x (.head _)) (Nat.not_lt_zero _)
  | n + 1, l, hd, h => by
    have h1 : (l.erase n).length ≤ n := nodup_below n (l.erase n) (hd.erase n) fun x hx => by
      have h2 := (hd.mem_erase_iff.mp hx)
      have := h x h2.2
      omega
    have := List.le_length_erase (a := n) (l := l)
    omega
theorem nodup_six {ns : List Int} (h : ns.Nodup) (hr : ∀ x ∈ ns, 0 ≤ x ∧ x < 6) : ns.length ≤ 6 := by
  have hnd : (ns.map Int.toNat).Nodup := by
    unfold List.Nodup
    rw [List.pairwise_map]
    exact List.Pairwise.imp_of_mem (fun ha hb hab => by have := hr _ ha; have := hr _ hb; omega) h
  have := nodup_below 6 _ hnd fun x hx => by
    obtain ⟨y, hy, rfl⟩ := List.mem_map.mp hx
    have := hr y hy
    omega
  simpa using this

/-- the breadth-first list of places met -/
structure Met (ts : List Tie) (place : Int) (c : Nat) (ns : List Int) : Prop where
  nd : ns.Nodup
  got : ∀ x ∈ ns, Reach ts place x
  has : place ∈ ns
  shut : ∀ j x y, j < c → ns[j]? = some x → Step ts x y → y ∈ ns
theorem Met.len {ts : List Tie} {place : Int} {c : Nat} {ns : List Int} (h : Met ts place c ns) (hw : Web ts) (hp : 0 ≤ place ∧ place < 6) : ns.length ≤ 6 := nodup_six h.nd fun x hx => hw.reach (h.got x hx) hp
theorem Met.push {ts : List Tie} {place : Int} {c : Nat} {ns : List Int} {x y : Int} (h : Met ts place c ns) (hc : c < ns.length) (hx : ns[c]? = some x) (hs : Step ts x y) (hy : y ∉ ns) : Met ts place c (ns ++ [y]) := by
  refine ⟨List.nodup_append.mpr ⟨h.nd, by simp, fun a ha b hb e => ?_⟩, fun z hz => ?_, List.mem_append_left _ h.has, fun j u v hj hu hs' => ?_⟩
  · rw [List.mem_singleton.mp hb] at e; subst e; exact hy ha
  · rcases List.mem_append.mp hz with hz | hz
    · exact h.got z hz
    · rw [List.mem_singleton.mp hz]; exact .step (h.got x (List.mem_of_getElem? hx)) hs
  · rw [List.getElem?_append_left (by omega)] at hu
    exact List.mem_append_left _ (h.shut j u v hj hu hs')
theorem Met.done {ts : List Tie} {place : Int} {ns : List Int} (h : Met ts place ns.length ns) (x : Int) : x ∈ ns ↔ Reach ts place x := by
  refine ⟨h.got x, fun hr => hr.closed (S := fun x => x ∈ ns) (fun u v hu hs => ?_) h.has⟩
  obtain ⟨j, hj, e⟩ := List.getElem_of_mem hu
  exact h.shut j u v hj (by simp [e, hj]) hs
/-- a way along ties, from b -/
inductive Way (tree : List Tie) (b : Int) : Int → List Tie → Prop
  | nil : Way tree b b []
  | snoc {x y : Int} {wy : List Tie} {t : Tie} : Way tree b x wy → t ∈ tree → ((t.2.2.1 = x ∧ t.2.2.2 = y) ∨ (t.2.2.2 = x ∧ t.2.2.1 = y)) → Way tree b y (wy ++ [t])
theorem Way.sub {tree : List Tie} {b x : Int} {wy : List Tie} (h : Way tree b x wy) : ∀ t ∈ wy, t ∈ tree := by
  induction h with
  | nil => intro t ht; cases ht
  | snoc _ hm _ ih =>
    intro t ht
    rcases List.mem_append.mp ht with ht | ht
    · exact ih t ht
    · rw [List.mem_singleton.mp ht]; exact hm
theorem Way.reach {tree : List Tie} {b x : Int} {wy : List Tie} (h : Way tree b x wy) : Reach wy b x := by
  induction h with
  | nil => exact .refl
  | snoc _ _ hj ih => exact .step (ih.mono fun t ht => List.mem_append_left _ ht) ⟨_, by simp, hj⟩

abbrev Wt := Int × List Tie
/-- what stands while a way is looked for; cur is at work -/
structure Seek (tree : List Tie) (b fin : Int) (cur : Int → Prop) (ns : List Int) (ws : List Wt) : Prop where
  nd : ns.Nodup
  got : ∀ x ∈ ns, Reach tree b x
  has : b ∈ ns
  way : ∀ w ∈ ws, Way tree b w.1 w.2 ∧ w.2.Nodup ∧ (∀ t ∈ w.2, t.2.2.1 ∈ ns ∧ t.2.2.2 ∈ ns) ∧ w.1 ∈ ns ∧ w.2.length ≤ ns.length
  all : ∀ x ∈ ns, x ∈ ws.map (·.1) ∨ cur x ∨ (x ≠ fin ∧ ∀ y, Step tree x y → y ∈ ns)
theorem Seek.len {tree : List Tie} {b fin : Int} {cur : Int → Prop} {ns : List Int} {ws : List Wt} (h : Seek tree b fin cur ns ws) (hw : Web tree) (hp : 0 ≤ b ∧ b < 6) : ns.length ≤ 6 := nodup_six h.nd fun x hx => hw.reach (h.got x hx) hp
theorem Seek.start (tree : List Tie) (b fin : Int) : Seek tree b fin (fun _ => False) [b] [(b, [])] :=
  ⟨by simp, fun x hx => by rw [List.mem_singleton.mp hx]; exact .refl, .head _, fun w hw => by
    rw [List.mem_singleton.mp hw]; exact ⟨.nil, List.nodup_nil, (fun t ht => nomatch ht), .head _, Nat.zero_le _⟩, fun x hx => .inl (by simpa using hx)⟩
theorem Seek.pop {tree : List Tie} {b fin : Int} {ns : List Int} {ws : List Wt} {x : Int} {wy : List Tie} (h : Seek tree b fin (fun _ => False) ns (ws ++ [(x, wy)])) : Seek tree b fin (fun y => y = x) ns ws :=
  ⟨h.nd, h.got, h.has, fun w hw => h.way w (List.mem_append_left _ hw), fun y hy => by
    rcases h.all y hy with q | q | q
    · rw [List.map_append, List.mem_append] at q
      rcases q with q | q
      · exact .inl q
      · exact .inr (.inl (by simpa using q))
    · exact q.elim
    · exact .inr (.inr q)⟩
theorem Seek.push {tree : List Tie} {b fin : Int} {cur : Int → Prop} {ns : List Int} {ws : List Wt} {x y : Int} {wy : List Tie} {t : Tie} (h : Seek tree b fin cur ns ws) (hx : Way tree b x wy ∧ wy.Nodup ∧ (∀ t ∈ wy, t.2.2.1 ∈ ns ∧ t.2.2.2 ∈ ns) ∧ x ∈ ns ∧ wy.length ≤ ns.length)
    (ht : t ∈ tree) (hj : (t.2.2.1 = x ∧ t.2.2.2 = y) ∨ (t.2.2.2 = x ∧ t.2.2.1 = y)) (hy : y ∉ ns) : Seek tree b fin cur (ns ++ [y]) (ws ++ [(y, wy ++ [t])]) := by
  obtain ⟨h1, h2, h3, h4, h5⟩ := hx
  refine ⟨List.nodup_append.mpr ⟨h.nd, by simp, fun a ha b hb e => ?_⟩, fun z hz => ?_, List.mem_append_left _ h.has, fun w hw => ?_, fun z hz => ?_⟩
  · rw [List.mem_singleton.mp hb] at e; subst e; exact hy ha
  · rcases List.mem_append.mp hz with hz | hz
    · exact h.got z hz
    · rw [List.mem_singleton.mp hz]; exact .step (h.got x h4) ⟨t, ht, hj⟩
  · rcases List.mem_append.mp hw with hw | hw
    · obtain ⟨a1, a2, a3, a4, a5⟩ := h.way w hw
      exact ⟨a1, a2, fun t ht => ⟨List.mem_append_left _ (a3 t ht).1, List.mem_append_left _ (a3 t ht).2⟩, List.mem_append_left _ a4, by simp; omega⟩
    · rw [List.mem_singleton.mp hw]
      refine ⟨.snoc h1 ht hj, List.nodup_append.mpr ⟨h2, by simp, fun a ha b hb e => ?_⟩, fun u hu => ?_, by simp, by simp; omega⟩
      · rw [List.mem_singleton.mp hb] at e
        subst e
        rcases hj with ⟨_, rfl⟩ | ⟨_, rfl⟩
        · exact hy (h3 _ ha).2
        · exact hy (h3 _ ha).1
      · rcases List.mem_append.mp hu with hu | hu
        · exact ⟨List.mem_append_left _ (h3 u hu).1, List.mem_append_left _ (h3 u hu).2⟩
        · rw [List.mem_singleton.mp hu]
          rcases hj with ⟨rfl, rfl⟩ | ⟨rfl, rfl⟩
          · exact ⟨List.mem_append_left _ h4, by simp⟩
          · exact ⟨by simp, List.mem_append_left _ h4⟩
  · rcases List.mem_append.mp hz with hz | hz
    · rcases h.all z hz with q | q | q
      · exact .inl (by rw [List.map_append]; exact List.mem_append_left _ q)
      · exact .inr (.inl q)
      · exact .inr (.inr ⟨q.1, fun u hu => List.mem_append_left _ (q.2 u hu)⟩)
    · rw [List.mem_singleton.mp hz]
      exact .inl (by simp)
theorem Seek.shut {tree : List Tie} {b fin x : Int} {ns : List Int} {ws : List Wt} (h : Seek tree b fin (fun y => y = x) ns ws) (hx : x ≠ fin) (hs : ∀ y, Step tree x y → y ∈ ns) : Seek tree b fin (fun _ => False) ns ws :=
  ⟨h.nd, h.got, h.has, h.way, fun y hy => by
    rcases h.all y hy with q | q | q
    · exact .inl q
    · exact .inr (.inr (q ▸ ⟨hx, hs⟩))
    · exact .inr (.inr q)⟩
theorem Seek.none {tree : List Tie} {b fin : Int} {ns : List Int} (h : Seek tree b fin (fun _ => False) ns []) : ¬ Reach tree b fin := fun hr => by
  have hc : ∀ x ∈ ns, x ≠ fin ∧ ∀ y, Step tree x y → y ∈ ns := fun x hx => by
    rcases h.all x hx with q | q | q
    · cases q
    · exact q.elim
    · exact q
  have := hr.closed (S := fun x => x ∈ ns) (fun x y hx hs => (hc x hx).2 y hs) h.has
  exact (hc fin this).1 rfl

def Here (ts : List Tie) (b x : Int) (wy : List Tie) (ns : List Int) : Prop := Way ts b x wy ∧ wy.Nodup ∧ (∀ t ∈ wy, t.2.2.1 ∈ ns ∧ t.2.2.2 ∈ ns) ∧ x ∈ ns ∧ wy.length ≤ ns.length
theorem Here.more {ts : List Tie} {b x y : Int} {wy : List Tie} {ns : List Int} (h : Here ts b x wy ns) : Here ts b x wy (ns ++ [y]) :=
  ⟨h.1, h.2.1, fun t ht => ⟨List.mem_append_left _ (h.2.2.1 t ht).1, List.mem_append_left _ (h.2.2.1 t ht).2⟩, List.mem_append_left _ h.2.2.2.1, by have := h.2.2.2.2; simp; omega⟩
end
section
set_option maxHeartbeats 4000000
section
variable {prog : Program} {w : World} {A : Around} {E : Value → Shared → Prop} {σ s : Shared} {k Wh g : Heap} {L : Addr} {m mg : Str → Option Value} {l : Led} {env : Env}

theorem ints_get {vs : List Value} {is : List Int} (hi : IntsAre vs is) : ∀ {c : Nat} {x : Int}, is[c]? = some x → ∃ t, vs[c]? = some (.int x t) := by
  induction hi with
  | nil => intro c x e; simp at e
  | cons n t _ ih =>
    intro c x e
    cases c with
    | zero => simp at e; subst e; exact ⟨t, by simp⟩
    | succ d => simp at e; simpa using ih e
theorem ints_snoc {vs : List Value} {is : List Int} (hi : IntsAre vs is) {x : Int} {t : Tok} : IntsAre (vs ++ [.int x t]) (is ++ [x]) := by
  induction hi with
  | nil => exact .cons _ _ .nil
  | cons n t _ ih => exact .cons _ _ ih
theorem ints_len {vs : List Value} {is : List Int} (hi : IntsAre vs is) : vs.length = is.length := by
  induction hi with
  | nil => rfl
  | cons n t _ ih => simp [ih]
/-- the tie is done with at cur -/
def Shut1 (ns : List Int) (cur : Int) (t : Tie) : Prop := (t.2.2.1 = cur → t.2.2.2 ∈ ns) ∧ (t.2.2.2 = cur → t.2.2.1 ∈ ns)
theorem Shut1.more {ns ms : List Int} {cur : Int} {t : Tie} (h : Shut1 ns cur t) (hs : ∀ x ∈ ns, x ∈ ms) : Shut1 ms cur t := ⟨fun e => hs _ (h.1 e), fun e => hs _ (h.2 e)⟩

theorem pair_next {j : Nat} {x y cur u v : Int} {ns ms : List Int} (hxy : j = 0 ∧ x = u ∧ y = v ∨ j = 1 ∧ x = v ∧ y = u) (ha1 : 1 ≤ j → u = cur → v ∈ ns) (ha2 : 2 ≤ j → v = cur → u ∈ ns) (hs : ∀ z ∈ ns, z ∈ ms) (hy : x = cur → y ∈ ms) :
    (1 ≤ j + 1 → u = cur → v ∈ ms) ∧ (2 ≤ j + 1 → v = cur → u ∈ ms) := by
  rcases hxy with ⟨rfl, rfl, rfl⟩ | ⟨rfl, rfl, rfl⟩
  · exact ⟨fun _ e => hy e, fun h => by omega⟩
  · exact ⟨fun _ e => hs _ (ha1 (Nat.le_refl _) e), fun _ e => hy e⟩

theorem base_cel {l₀ : Led} {a : Addr} {c : Cel} (F : Fx σ k L s m l) (h : (a, c) ∈ l) (h2 : a ∉ l₀.map (·.1)) : c.At (W.hideAll s.heap (L :: l₀.map (·.1))) a := celOf (F.cel h) fun _ e => base_get e (F.led _ h).2.1 h2

inductive ISide (s : Shared) (L a ma : Addr) (ts : List Tie) (place : Int) (n : Nat) (s' : Shared) : Prop
  | mk (m' : Str → Option Value) (us : List Value) (ns : List Int) (c : Nat) (tc : Tok)
    (f1 : Fx s s.heap L s' m' [(ma, .list us)])
    (f2 : n = 6 - c)
    (f3 : c ≤ ns.length)
    (f4 : IntsAre us ns)
    (f5 : Met ts place c ns)
    (f6 : m' "ties" = some (.ref a))
    (f7 : m' "met" = some (.ref ma))
    (f8 : m' "at" = some (.int (c : Nat) tc))
structure JSideA (a ma : Addr) (ts : List Tie) (place cur : Int) (c : Nat) (tc : Tok) (i : Nat) (x : List Value × List Int) (m : Str → Option Value) (l : Led) : Prop where
  f1 : l = [(ma, .list x.1)]
  f2 : IntsAre x.1 x.2
  f3 : Met ts place c x.2
  f4 : c < x.2.length
  f5 : x.2[c]? = some cur
  f6 : (∀ t ∈ ts.take i, Shut1 x.2 cur t)
  f7 : m "ties" = some (.ref a)
  f8 : m "met" = some (.ref ma)
  f9 : m "at" = some (.int (c : Nat) tc)
structure JSideB (a ma : Addr) (ts : List Tie) (place cur : Int) (c i : Nat) (tc : Tok) (tie : Tie) (j : Nat) (x : List Value × List Int) (m : Str → Option Value) (l : Led) : Prop where
  f1 : l = [(ma, .list x.1)]
  f2 : IntsAre x.1 x.2
  f3 : Met ts place c x.2
  f4 : c < x.2.length
  f5 : x.2[c]? = some cur
  f6 : (∀ t ∈ ts.take i, Shut1 x.2 cur t)
  f7 : (1 ≤ j → tie.2.2.1 = cur → tie.2.2.2 ∈ x.2)
  f8 : (2 ≤ j → tie.2.2.2 = cur → tie.2.2.1 ∈ x.2)
  f9 : m "ties" = some (.ref a)
  f10 : m "met" = some (.ref ma)
  f11 : m "at" = some (.int (c : Nat) tc)
theorem C_side (Wd : Wld Wh mg allDefs bltNames) {f a : Addr} {vs : List Value} {ts : List Tie} {place : Int} {t : Tok} {Q : Value → Shared → Prop} (hf : IsFn Wh dSide f) (hW : Wh.StaysIn s.heap) (hA : AOk 3 A)
    (hg : g.StaysIn s.heap) (hWg : Wh.StaysIn g) (ha : s.heap.PlainList a vs.toArray) (hx : Ties g vs ts) (hw : Web ts) (hp_ : 0 ≤ place ∧ place < 6) (hz : ts.length ≤ 1000)
    (h : ∀ r us ns s', More s s' → s.heap.get? r = none → s'.heap.PlainList r (List.toArray us) → IntsAre us ns → ns.Nodup → ns.Pairwise (· ≤ ·) → (∀ x, x ∈ ns ↔ Reach ts place x) → Q (.ref r) s') :
    wpAny (model prog w) A (call (.ref f) [.ref a, .int place t]) Q NoE s := by
  refine enter' (σ := s) (k := s.heap) (l := []) [("ties", .ref a), ("place", .int place t)] (setm (setm (fun _ => none) "ties" (.ref a)) "place" (.int place t)) (fun L => [])
    Wd hf hW (by have := hA.depth; omega) (fun _ _ e => e) (fun _ hp => nomatch hp) (by simp) ⟨rfl, rfl, rfl⟩ ?_
  intro cd L s₁ hkL F
  refine o_body fun Rb hRb => ?_
  have hWk : Wh.StaysIn s.heap := hW
  have hxl := hx.length
  simp only [List.append_nil] at F
  refine x_tupS hA.handled ?_
  (repeat' walk_at "ir")
  intro ma _ _ hma
  (repeat' walk_at "ir")
  intro tu _ _ _
  (repeat' walk_at "ir")
  refine x_while (ISide s L a ma ts place) (6 - 0)
    ⟨_, [.int place t], [place], 0, _, by walk_at "pk", rfl, Nat.zero_le _, .cons _ _ .nil, ⟨by simp, fun x hx => ?_, .head _, fun j x y hj => absurd hj (Nat.not_lt_zero _)⟩, by walk_at "lk", by walk_at "lk", by walk_at "lk"⟩ ?_
  · rw [List.mem_singleton.mp hx]; exact .refl
  rintro n s' HJ
  refine o_while fun Rw Kw hRw hKw => ?_
  obtain ⟨m', us, ns, c, tc, F₃, rfl, hcl, hi, hm, m1, m2, m3⟩ := HJ
  have hul := ints_len hi
  have hn6 := hm.len hw hp_
  (repeat' walk_at "ir")
  refine if_dec (fun hc => ?_) fun hc => ?_
  · have hcn : c < ns.length := by omega
    obtain ⟨cur, hcur⟩ : ∃ cur, ns[c]? = some cur := ⟨ns[c], by simp [hcn]⟩
    refine x_for ?_
    (repeat' walk_at "ir")
    rename Fx _ _ _ _ _ _ => F₄
    refine for_list hA.handled F₄ hkL (F₄.listK ha) [(ma, .list us)] (fun _ hp => hp) F₄.nd (fun hm => ?_) (fun _ : List Value × List Int => g)
      (JSideA a ma ts place cur c tc) (us, ns) hg
      ⟨rfl, hi, hm, hcn, hcur, (fun t ht => by simp at ht), by walk_at "lk", by walk_at "lk", by walk_at "lk"⟩ ?_ ?_
    · obtain ⟨p, hp, q⟩ := List.mem_map.mp hm
      have h1 := (F₄.led p hp).2.2
      obtain ⟨n, e⟩ := ha
      rw [q, e] at h1; cases h1
    · rintro i v k' s₅ ⟨us', ns'⟩ m₅ l₅ hv HJ kk hak hgk hkL' F₅
      refine o_turn fun Rt hRt => ?_
      obtain ⟨rfl, hi', hm', hcn', hcur', hsh, n1, n2, n3⟩ := HJ
      obtain ⟨tie, htie, hvt⟩ := hx.get' hv
      dsimp only at F₅ hi' hm' hcn' hcur' hsh
      have htm := List.mem_of_getElem? htie
      (repeat' walk_at "ir")
      refine x_for ?_
      (repeat' walk_at "ir")
      refine r_tieFar (by assumption) (hvt.keeps (Fx.kept (by assumption) hgk)) (by walk_at "in") ?_
      intro p1 t3 t4 _ _ _
      (repeat' walk_at "ir")
      refine r_tieBack (by assumption) (hvt.keeps (Fx.kept (by assumption) hgk)) (by walk_at "in") ?_
      intro p2 t3' t4' _ _ _
      (repeat' walk_at "ir")
      intro pl _ _ _
      (repeat' walk_at "ir")
      rename Fx _ _ _ _ _ _ => F₆
      obtain ⟨Fb, hkb, hbL⟩ := F₆.baseS hkL' [(ma, .list us')] (by walk_at "sb")
      have hp1 := base_cel (l₀ := [(ma, .list us')]) (a := p1) F₆ (by walk_at "in") (nd_at0 F₆.nd (by walk_at "sb"))
      have hp2 := base_cel (l₀ := [(ma, .list us')]) (a := p2) F₆ (by walk_at "in") (nd_at0 F₆.nd (by walk_at "sb"))
      generalize W.hideAll _ _ = kb at Fb hkb hbL hp1 hp2
      simp only [Cel.At] at hp1 hp2
      refine for_list hA.handled Fb hbL (F₆.list (by walk_at "in")) [(ma, .list us')] (fun _ hp => hp) (nd_sub F₆.nd (by walk_at "sb")) (nd_at0 F₆.nd (by walk_at "sb")) (fun _ : List Value × List Int => g)
        (JSideB a ma ts place cur c i tc tie) (us', ns') (fun _ _ e => hkb _ _ (hgk _ _ e))
        ⟨rfl, hi', hm', hcn', hcur', hsh, (fun h => by omega), (fun h => by omega), by walk_at "lk", by walk_at "lk", by walk_at "lk"⟩ ?_ ?_
      · rintro j v2 k2 s₇ ⟨us2, ns2⟩ m₇ l₇ hv2 HJ kk2 hak2 hgk2 hkL2 F₇
        refine o_turn fun Rt hRt => ?_
        obtain ⟨rfl, hi2, hm2, hcn2, hcur2, hsh2, ha1, ha2, o1, o2, o3⟩ := HJ
        dsimp only at F₇ hi2 hm2 hcn2 hcur2 hsh2 ha1 ha2
        obtain ⟨p, x, y, tx, ty, rfl, hp, hxy⟩ : ∃ p x y tx ty, v2 = .ref p ∧ k2.get? p = some (tupObj [.int x tx, .int y ty]) ∧ (j = 0 ∧ x = tie.2.2.1 ∧ y = tie.2.2.2 ∨ j = 1 ∧ x = tie.2.2.2 ∧ y = tie.2.2.1) := by
          match j, hv2 with
          | 0, hv2 => exact ⟨p1, _, _, _, _, by simpa using hv2.symm, kk2 _ _ hp1, .inl ⟨rfl, rfl, rfl⟩⟩
          | 1, hv2 => exact ⟨p2, _, _, _, _, by simpa using hv2.symm, kk2 _ _ hp2, .inr ⟨rfl, rfl, rfl⟩⟩
          | j + 2, hv2 => simp at hv2
        have hstep : Step ts x y := ⟨tie, htm, by
          rcases hxy with ⟨_, rfl, rfl⟩ | ⟨_, rfl, rfl⟩
          · exact .inl ⟨rfl, rfl⟩
          · exact .inr ⟨rfl, rfl⟩⟩
        have hn2 := hm2.len hw hp_
        have hul2 := ints_len hi2
        obtain ⟨tq, htq⟩ := ints_get hi2 hcur2
        refine as_tup hA.handled F₇ ⟨_, F₇.keep _ _ hp, rfl, 0, rfl⟩ ?_
        intro _ _
        (repeat' walk_at "ir")
        refine r_itemN (by assumption) (by walk_at "in") rfl htq (by omega) ?_
        (repeat' walk_at "ir")
        refine if_bool (fun hxc => ?_) fun hxc => ?_
        · have hxc : x = cur := by simpa using hxc
          (repeat' walk_at "ir")
          refine c_ninInts (by walk_at "ls") hi2 ?_
          (repeat' walk_at "ir")
          refine if_dec (fun hy => ?_) fun hy => ?_
          · (repeat' walk_at "ir")
            obtain ⟨hb1, hb2⟩ := pair_next (ms := ns2 ++ [y]) hxy ha1 ha2 (fun z hz => List.mem_append_left _ hz) fun _ => by simp
            refine turn_end (us2 ++ [.int y ty], ns2 ++ [y]) (l' := [(ma, .list _)]) (k'' := k2) (by walk_at "pk") (fun _ _ e => e) hgk2 Gr.refl hkL2 ⟨rfl, ints_snoc hi2, hm2.push hcn2 (hxc ▸ hcur2) hstep hy, ?_, ?_,
              fun t ht => (hsh2 t ht).more fun z hz => List.mem_append_left _ hz, hb1, hb2, by walk_at "lk", by walk_at "lk", by walk_at "lk"⟩
            · simp; omega
            · show (ns2 ++ [y])[c]? = _
              rw [List.getElem?_append_left hcn2]; exact hcur2
          · (repeat' walk_at "ir")
            obtain ⟨hb1, hb2⟩ := pair_next hxy ha1 ha2 (fun z hz => hz) fun _ => by simpa using hy
            exact turn_end (us2, ns2) (l' := [(ma, .list _)]) (k'' := k2) (by walk_at "pk") (fun _ _ e => e) hgk2 Gr.refl hkL2 ⟨rfl, hi2, hm2, hcn2, hcur2, hsh2, hb1, hb2, by walk_at "lk", by walk_at "lk", by walk_at "lk"⟩
        · (repeat' walk_at "ir")
          obtain ⟨hb1, hb2⟩ := pair_next hxy ha1 ha2 (fun z hz => hz) fun e => by rw [e] at hxc; simp at hxc
          exact turn_end (us2, ns2) (l' := [(ma, .list _)]) (k'' := k2) (by walk_at "pk") (fun _ _ e => e) hgk2 Gr.refl hkL2 ⟨rfl, hi2, hm2, hcn2, hcur2, hsh2, hb1, hb2, by walk_at "lk", by walk_at "lk", by walk_at "lk"⟩
      · rintro ⟨us2, ns2⟩ m₇ l₇ k2 s₇ ⟨rfl, hi2, hm2, hcn2, hcur2, hsh2, ha1, ha2, o1, o2, o3⟩ kk2 hak2 hgk2 hkL2 F₇
        simp only [List.length_cons, List.length_nil] at F₇ hi2 hm2 hcn2 hcur2 hsh2 ha1 ha2
        (repeat' walk_at "ir")
        refine turn_end (us2, ns2) (l' := [(ma, .list _)]) (k'' := k2) (by walk_at "pk") (fun _ _ e => kk2 _ _ (hkb _ _ e)) hgk2 Gr.refl hkL2 ⟨rfl, hi2, hm2, hcn2, hcur2, fun t ht => ?_, by walk_at "lk", by walk_at "lk", by walk_at "lk"⟩
        obtain ⟨hi9, e9⟩ := List.getElem?_eq_some_iff.mp htie
        rw [List.take_succ_eq_append_getElem hi9] at ht
        rcases List.mem_append.mp ht with ht | ht
        · exact hsh2 t ht
        · rw [List.mem_singleton.mp ht, e9]; exact ⟨ha1 (by omega), ha2 (by omega)⟩
    · rintro ⟨us', ns'⟩ m₅ l₅ k' s₅ ⟨rfl, hi', hm', hcn', hcur', hsh, n1, n2, n3⟩ kk hak hgk hkL' F₅
      dsimp only at F₅ hi' hm' hcn' hcur' hsh
      have hWk' : Wh.StaysIn k' := fun _ _ e => hgk _ _ (hWg _ _ e)
      have hn6' := hm'.len hw hp_
      (repeat' walk_at "ir")
      rename Fx _ _ _ _ _ _ => F₆
      rw [hxl, List.take_length] at hsh
      refine ⟨6 - (c + 1), by omega, _, us', ns', c + 1, _, F₆.mono_k kk, rfl, hcn', hi', ⟨hm'.nd, hm'.got, hm'.has, fun j u v hj hu hs => ?_⟩, by walk_at "lk", by walk_at "lk", by walk_at "lk"⟩
      by_cases hjc : j < c
      · exact hm'.shut j u v hjc hu hs
      · have e : j = c := by omega
        subst e
        rw [hcur'] at hu; cases hu
        obtain ⟨t, ht, ⟨e1, e2⟩ | ⟨e1, e2⟩⟩ := hs
        · exact e2 ▸ (hsh t ht).1 e1
        · exact e2 ▸ (hsh t ht).2 e1
  · have e : c = ns.length := by omega
    subst e
    (repeat' walk_at "ir")
    refine r_sortedI (by assumption) (by walk_at "ls") hi (by omega) fun D us' ns' s₄ F₄ hD hi' hpm hso => ?_
    (repeat' walk_at "ir")
    refine h D us' ns' _ ⟨F₄.keep, F₄.rest⟩ ?_ (by walk_at "ls") hi' (hpm.nodup_iff.mpr hm.nd) hso fun x => (hpm.mem_iff).trans (hm.done x)
    exact (F₄.led _ (.head _)).2.2
end
end
section
set_option maxHeartbeats 8000000
section
variable {prog : Program} {w : World} {A : Around} {E : Value → Shared → Prop} {σ s : Shared} {k Wh g : Heap} {L : Addr} {m mg : Str → Option Value} {l : Led} {env : Env}

def WAt (g h : Heap) (v : Value) (x : Wt) : Prop := ∃ (q wl : Addr) (t : Tok) (us : List Value), v = .ref q ∧ h.get? q = some (tupObj [.int x.1 t, .ref wl]) ∧ h.PlainList wl us.toArray ∧ Ties g us x.2
theorem WAt.keeps {h h' : Heap} {v : Value} {x : Wt} (H : WAt g h v x) (k : h.StaysIn h') : WAt g h' v x := by
  obtain ⟨q, wl, t, us, rfl, e, hp, ht⟩ := H
  exact ⟨q, wl, t, us, rfl, k _ _ e, plain_keeps hp k, ht⟩
def waitD (x : Wt) : PyData := .tuple [.int x.1, tiesD x.2]
theorem reads_wait {h : Heap} (hg : g.StaysIn h) {v : Value} {x : Wt} (H : WAt g h v x) : ∃ as, Reads h v (waitD x) as := by
  obtain ⟨q, wl, t, us, rfl, e, hp, ht⟩ := H
  exact ⟨_, .tuple e rfl rfl (.cons (.int _ _) (.cons (reads_ties hp (tiesKeep ht hg)) .nil))⟩
theorem reads_waits {h : Heap} (hg : g.StaysIn h) {vs : List Value} {ws : List Wt} (H : All2 (WAt g h) vs ws) : ∃ as, ReadsAll h vs (ws.map waitD) as := by
  induction H with
  | nil => exact ⟨_, .nil⟩
  | cons a _ ih =>
    obtain ⟨as, r⟩ := ih
    obtain ⟨bs, r'⟩ := reads_wait hg a
    exact ⟨_, .cons r' r⟩
theorem can_wait (x : Wt) : (waitD x).canLay0 = true := by
  show (true && (tiesD x.2).canLay0 && true) = true
  rw [can_ties]; rfl
theorem depth_wait (x : Wt) : (waitD x).depth ≤ 3 := by
  have := depth_ties x.2
  show max 0 (max (tiesD x.2).depth 0) + 1 ≤ 3
  omega
theorem c_neWaits {a b : Addr} {vs : List Value} {ws : List Wt} {Q : Value → Shared → Prop} (hg : g.StaysIn s.heap) (ha : s.heap.PlainList a vs.toArray) (hv : All2 (WAt g s.heap) vs ws) (hb : s.heap.PlainList b (List.toArray ([] : List Value))) (hA : A.units + 64 < cLine) (h : Q (.bool (!ws.isEmpty)) s) :
    wpAny (model prog w) A (compareOp .NotEq (.ref a) (.ref b)) Q E s := by
  obtain ⟨as, r⟩ := reads_waits hg hv
  obtain ⟨n, e⟩ := ha
  have hl := hv.length
  refine c_neNil (vs := vs) (d := ws.map waitD) (.list e rfl rfl (by simpa using r)) (can_map _ can_wait ws) (by show PyData.depthAll _ + 1 ≤ 60; have := depth_map _ 3 depth_wait ws; omega) (by simp [hl]) hb hA ?_
  have : vs.isEmpty = ws.isEmpty := by cases vs <;> cases ws <;> simp_all
  rw [this]; exact h
theorem Gr.comp {k k' g g1 g2 : Heap} (h1 : Gr k g g1) (hk : k.StaysIn k') (h2 : Gr k' g1 g2) : Gr k g g2 := ⟨fun b o e => h2.1 b o (h1.1 b o e), fun b o e => by
  rcases h2.2 b o e with q | q
  · exact h1.2 b o q
  · right
    cases r : k.get? b with
    | none => rfl
    | some o' => have := hk b o' r; rw [q] at this; cases this⟩

abbrev XW := Heap × (List Value × List Int) × (List Value × List Wt)

inductive IWay (s : Shared) (g : Heap) (L a ma wa : Addr) (ts : List Tie) (b0 fin : Int) (t' : Tok) (n : Nat) (s' : Shared) : Prop
  | mk (m' : Str → Option Value) (kk : Heap) (um : List Value) (ns : List Int) (uw : List Value) (ws : List Wt) (d : Nat)
    (f1 : Fx s kk L s' m' [(wa, .list uw), (ma, .list um)])
    (f2 : s.heap.StaysIn kk)
    (f3 : kk.get? L = none)
    (f4 : n = 6 - d)
    (f5 : ws.length + d = ns.length)
    (f6 : IntsAre um ns)
    (f7 : All2 (WAt g kk) uw ws)
    (f8 : Seek ts b0 fin (fun _ => False) ns ws)
    (f9 : m' "tree" = some (.ref a))
    (f10 : m' "end" = some (.int fin t'))
    (f11 : m' "met" = some (.ref ma))
    (f12 : m' "waiting" = some (.ref wa))
structure JWayA (g : Heap) (a ma wa wl0 : Addr) (us0 : List Value) (ts : List Tie) (b0 fin x : Int) (d : Nat) (wy : List Tie) (t' tx : Tok) (i : Nat) (X : XW) (m : Str → Option Value) (l : Led) : Prop where
  f1 : l = [(wa, .list X.2.2.1), (ma, .list X.2.1.1)]
  f2 : g.StaysIn X.1
  f3 : X.1.PlainList wl0 us0.toArray
  f4 : IntsAre X.2.1.1 X.2.1.2
  f5 : All2 (WAt g X.1) X.2.2.1 X.2.2.2
  f6 : Seek ts b0 fin (fun y => y = x) X.2.1.2 X.2.2.2
  f7 : X.2.2.2.length + (d + 1) = X.2.1.2.length
  f8 : (∀ t ∈ ts.take i, Shut1 X.2.1.2 x t)
  f9 : Here ts b0 x wy X.2.1.2
  f10 : m "tree" = some (.ref a)
  f11 : m "end" = some (.int fin t')
  f12 : m "met" = some (.ref ma)
  f13 : m "waiting" = some (.ref wa)
  f14 : m "here" = some (.int x tx)
  f15 : m "way" = some (.ref wl0)
structure JWayB (g g1 k' : Heap) (a ma wa wl0 : Addr) (ts : List Tie) (b0 fin x : Int) (d i : Nat) (wy : List Tie) (t' tx : Tok) (tie : Tie) (v : Value) (j : Nat) (X : XW) (m : Str → Option Value) (l : Led) : Prop where
  f1 : l = [(wa, .list X.2.2.1), (ma, .list X.2.1.1)]
  f2 : Gr k' g1 X.1
  f3 : IntsAre X.2.1.1 X.2.1.2
  f4 : All2 (WAt g X.1) X.2.2.1 X.2.2.2
  f5 : Seek ts b0 fin (fun y => y = x) X.2.1.2 X.2.2.2
  f6 : X.2.2.2.length + (d + 1) = X.2.1.2.length
  f7 : (∀ t ∈ ts.take i, Shut1 X.2.1.2 x t)
  f8 : Here ts b0 x wy X.2.1.2
  f9 : (1 ≤ j → tie.2.2.1 = x → tie.2.2.2 ∈ X.2.1.2)
  f10 : (2 ≤ j → tie.2.2.2 = x → tie.2.2.1 ∈ X.2.1.2)
  f11 : m "tree" = some (.ref a)
  f12 : m "end" = some (.int fin t')
  f13 : m "met" = some (.ref ma)
  f14 : m "waiting" = some (.ref wa)
  f15 : m "here" = some (.int x tx)
  f16 : m "way" = some (.ref wl0)
  f17 : m "tie" = some v
theorem C_way (Wd : Wld Wh mg allDefs bltNames) {f a : Addr} {vs : List Value} {ts : List Tie} {b0 fin : Int} {t t' : Tok} {Q : Value → Shared → Prop} (hf : IsFn Wh dWay f) (hW : Wh.StaysIn s.heap) (hA : AOk 3 A)
    (hg : g.StaysIn s.heap) (hWg : Wh.StaysIn g) (ha : s.heap.PlainList a vs.toArray) (hx : Ties g vs ts) (hw : Web ts) (hp_ : 0 ≤ b0 ∧ b0 < 6) (hz : ts.length ≤ 1000)
    (h0 : ∀ s', More s s' → ¬ Reach ts b0 fin → Q .none s')
    (h : ∀ r us wy s', More s s' → s'.heap.PlainList r (List.toArray us) → Ties g us wy → Way ts b0 fin wy → wy.Nodup → Q (.ref r) s') :
    wpAny (model prog w) A (call (.ref f) [.ref a, .int b0 t, .int fin t']) Q NoE s := by
  refine enter' (σ := s) (k := s.heap) (l := []) [("tree", .ref a), ("begin", .int b0 t), ("end", .int fin t')] (setm (setm (setm (fun _ => none) "tree" (.ref a)) "begin" (.int b0 t)) "end" (.int fin t')) (fun L => [])
    Wd hf hW (by have := hA.depth; omega) (fun _ _ e => e) (fun _ hp => nomatch hp) (by simp) ⟨rfl, rfl, rfl⟩ ?_
  intro cd L s₁ hkL F
  refine o_body fun Rb hRb => ?_
  have hWk : Wh.StaysIn s.heap := hW
  have hxl := hx.length
  simp only [List.append_nil] at F
  refine x_tupS hA.handled ?_
  (repeat' walk_at "ir")
  intro ma _ _ hma
  (repeat' walk_at "ir")
  intro wl _ _ hwl
  (repeat' walk_at "ir")
  intro q0 _ _ hq0
  (repeat' walk_at "ir")
  intro wa _ _ hwa
  (repeat' walk_at "ir")
  intro tu _ _ _
  (repeat' walk_at "ir")
  rename Fx _ _ _ _ _ _ => F₂
  obtain ⟨Fk, hk1, hL1⟩ := F₂.baseS hkL [(wa, .list [.ref q0]), (ma, .list [.int b0 t])] (by walk_at "sb")
  have hq1 := base_cel (l₀ := [(wa, .list [.ref q0]), (ma, .list [.int b0 t])]) (a := q0) F₂ (by walk_at "in") (nd_at1 F₂.nd (by walk_at "sb"))
  have hw1 := base_cel (l₀ := [(wa, .list [.ref q0]), (ma, .list [.int b0 t])]) (a := wl) F₂ (by walk_at "in") (nd_at1 F₂.nd (by walk_at "sb"))
  generalize W.hideAll _ _ = k1 at Fk hk1 hL1 hq1 hw1
  simp only [Cel.At] at hq1 hw1
  refine x_while (IWay s g L a ma wa ts b0 fin t') 6
    ⟨_, k1, [.int b0 t], [b0], [.ref q0], [(b0, [])], 0, Fk, hk1, hL1, rfl, rfl, .cons _ _ .nil, .cons ⟨q0, wl, t, [], rfl, hq1, hw1, .nil⟩ .nil, Seek.start .., by walk_at "lk", by walk_at "lk", by walk_at "lk", by walk_at "lk"⟩ ?_
  rintro n s' HJ
  refine o_while fun Rw Kw hRw hKw => ?_
  obtain ⟨m', kk, um, ns, uw, ws, d, F₃, hk2, hL2, rfl, hd, hi, hws, hsk, m1, m2, m3, m4⟩ := HJ
  have hgk : g.StaysIn kk := fun _ _ e => hk2 _ _ (hg _ _ e)
  have hWk' : Wh.StaysIn kk := fun _ _ e => hgk _ _ (hWg _ _ e)
  have hn6 := hsk.len hw hp_
  have hul := ints_len hi
  have hwl' := hws.length
  (repeat' walk_at "ir")
  intro nl _ _ _
  (repeat' walk_at "ir")
  rename Fx _ _ _ _ _ _ => F₄
  refine c_neWaits (F₄.kept hgk) (by walk_at "ls") (hws.mono fun _ _ x => x.keeps F₄.keep) (by walk_at "ls") (by have := hA.units; show A.units + 3 + 64 < _; omega) ?_
  (repeat' walk_at "ir")
  refine if_bool (fun hc => ?_) fun hc => ?_
  · obtain ⟨ws1, ⟨x, wy⟩, rfl⟩ : ∃ ws1 w, ws = ws1 ++ [w] := ⟨ws.dropLast, ws.getLast (fun e => by rw [e] at hc; simp at hc), (List.dropLast_concat_getLast _).symm⟩
    obtain ⟨uw1, v, rfl, hws1, hv⟩ := hws.unsnoc
    have hsk' := hsk.pop
    have hu1 := hws1.length
    have hd' : ws1.length + (d + 1) = ns.length := by simp at hd; omega
    have hhere : Here ts b0 x wy ns := hsk.way (x, wy) (by simp)
    obtain ⟨q, wl0, tx, us0, rfl, hq, hwl0, htie0⟩ := hv
    refine x_tup ?_
    (repeat' walk_at "ir")
    rename Fx _ _ _ _ _ _ => F₅
    refine as_tup hA.handled F₅ ⟨_, F₅.keep _ _ hq, rfl, 0, rfl⟩ ?_
    intro _ _
    (repeat' walk_at "ir")
    refine if_bool (fun he => ?_) fun he => ?_
    · have he : x = fin := by simpa using he
      (repeat' walk_at "ir")
      rename Fx _ _ _ _ _ _ => F₆
      exact h wl0 us0 wy _ ⟨fun b o e => F₆.keep b o (hk2 b o e), F₆.rest⟩ (F₆.listK hwl0) htie0 (he ▸ hhere.1) hhere.2.1
    · have he : x ≠ fin := by simpa using he
      (repeat' walk_at "ir")
      refine x_for ?_
      (repeat' walk_at "ir")
      rename Fx _ _ _ _ _ _ => F₆
      obtain ⟨Fb, hkb, hbL⟩ := F₆.baseS hL2 [(wa, .list uw1), (ma, .list um)] (by walk_at "sb")
      generalize W.hideAll _ _ = kb at Fb hkb hbL
      have hab : kb.PlainList a vs.toArray := plain_keeps (plain_keeps ha hk2) hkb
      refine for_list hA.handled Fb hbL (Fb.listK hab) [(wa, .list uw1), (ma, .list um)] (fun _ hp => hp) Fb.nd (fun hm => ?_) (fun x : XW => x.1)
        (JWayA g a ma wa wl0 us0 ts b0 fin x d wy t' tx)
        (kb, (um, ns), (uw1, ws1)) (fun _ _ e => e)
        ⟨rfl, fun _ _ e => hkb _ _ (hgk _ _ e), plain_keeps hwl0 hkb, hi, hws1.mono fun _ _ h => h.keeps hkb, hsk', hd', (fun t ht => by simp at ht), hhere, by walk_at "lk", by walk_at "lk", by walk_at "lk", by walk_at "lk", by walk_at "lk", by walk_at "lk"⟩ ?_ ?_
      · obtain ⟨p, hp, q⟩ := List.mem_map.mp hm
        have h1 := (Fb.led p hp).2.2
        obtain ⟨n, e⟩ := hab
        rw [q, e] at h1; cases h1
      · rintro i v k' s₅ ⟨g1, ⟨um', ns'⟩, ⟨uw', ws'⟩⟩ m₅ l₅ hv HJ kk' hak hgk1 hkL' F₅'
        refine o_turn fun Rt hRt => ?_
        obtain ⟨rfl, hgg, hpw, hi', hws', hsk1, hd1, hsh, hh1, n1, n2, n3, n4, n5, n6⟩ := HJ
        dsimp only at F₅' hgg hpw hi' hws' hsk1 hd1 hsh hh1 hgk1
        obtain ⟨tie, htie, hvt⟩ := hx.get' hv
        have htm := List.mem_of_getElem? htie
        have hgk' : g.StaysIn k' := fun _ _ e => hgk1 _ _ (hgg _ _ e)
        (repeat' walk_at "ir")
        refine x_for ?_
        (repeat' walk_at "ir")
        refine r_tieFar (by assumption) (hvt.keeps (Fx.kept (by assumption) hgk')) (by walk_at "in") ?_
        intro p1 t3 t4 _ _ _
        (repeat' walk_at "ir")
        refine r_tieBack (by assumption) (hvt.keeps (Fx.kept (by assumption) hgk')) (by walk_at "in") ?_
        intro p2 t3' t4' _ _ _
        (repeat' walk_at "ir")
        intro pl _ _ _
        (repeat' walk_at "ir")
        rename Fx _ _ _ _ _ _ => F₇
        obtain ⟨Fc, hkc, hcL⟩ := F₇.baseS hkL' [(wa, .list uw'), (ma, .list um')] (by walk_at "sb")
        have hp1 := base_cel (l₀ := [(wa, .list uw'), (ma, .list um')]) (a := p1) F₇ (by walk_at "in") (nd_at0 F₇.nd (by walk_at "sb"))
        have hp2 := base_cel (l₀ := [(wa, .list uw'), (ma, .list um')]) (a := p2) F₇ (by walk_at "in") (nd_at0 F₇.nd (by walk_at "sb"))
        have hpl : pl ∉ [(wa, Cel.list uw'), (ma, Cel.list um')].map (·.1) := nd_at0 F₇.nd (by walk_at "sb")
        generalize W.hideAll _ _ = kc at Fc hkc hcL hp1 hp2
        simp only [Cel.At] at hp1 hp2
        refine for_list hA.handled Fc hcL (F₇.list (by walk_at "in")) [(wa, .list uw'), (ma, .list um')] (fun _ hp => hp) Fc.nd hpl (fun x : XW => x.1)
          (JWayB g g1 k' a ma wa wl0 ts b0 fin x d i wy t' tx tie v)
          (g1, (um', ns'), (uw', ws')) (fun _ _ e => hkc _ _ (hgk1 _ _ e))
          ⟨rfl, Gr.refl, hi', hws', hsk1, hd1, hsh, hh1, (fun h => by omega), (fun h => by omega), by walk_at "lk", by walk_at "lk", by walk_at "lk", by walk_at "lk", by walk_at "lk", by walk_at "lk", by walk_at "lk"⟩ ?_ ?_
        · rintro j v2 k2 s₇ ⟨g2, ⟨um2, ns2⟩, ⟨uw2, ws2⟩⟩ m₇ l₇ hv2 HJ kk2 hak2 hgk2 hkL2 F₈
          refine o_turn fun Rt hRt => ?_
          obtain ⟨rfl, hgr2, hi2, hws2, hsk2, hd2, hsh2, hh2, ha1, ha2, o1, o2, o3, o4, o5, o6, o7⟩ := HJ
          dsimp only at F₈ hgr2 hi2 hws2 hsk2 hd2 hsh2 hh2 ha1 ha2 hgk2
          obtain ⟨p, u, y, tu', ty, rfl, hp, hxy⟩ : ∃ p u y tu' ty, v2 = .ref p ∧ k2.get? p = some (tupObj [.int u tu', .int y ty]) ∧ (j = 0 ∧ u = tie.2.2.1 ∧ y = tie.2.2.2 ∨ j = 1 ∧ u = tie.2.2.2 ∧ y = tie.2.2.1) := by
            match j, hv2 with
            | 0, hv2 => exact ⟨p1, _, _, _, _, by simpa using hv2.symm, kk2 _ _ hp1, .inl ⟨rfl, rfl, rfl⟩⟩
            | 1, hv2 => exact ⟨p2, _, _, _, _, by simpa using hv2.symm, kk2 _ _ hp2, .inr ⟨rfl, rfl, rfl⟩⟩
            | j + 2, hv2 => simp at hv2
          have hstep : (tie.2.2.1 = u ∧ tie.2.2.2 = y) ∨ (tie.2.2.2 = u ∧ tie.2.2.1 = y) := by
            rcases hxy with ⟨_, rfl, rfl⟩ | ⟨_, rfl, rfl⟩
            · exact .inl ⟨rfl, rfl⟩
            · exact .inr ⟨rfl, rfl⟩
          have hn2 := hsk2.len hw hp_
          have hul2 := ints_len hi2
          have huw2 := hws2.length
          have hgk2' : g.StaysIn k2 := fun _ _ e => hgk2 _ _ (hgr2.1 _ _ (hgg _ _ e))
          have hWk2 : Wh.StaysIn k2 := fun _ _ e => hgk2' _ _ (hWg _ _ e)
          have hpw2 : k2.PlainList wl0 us0.toArray := plain_keeps (plain_keeps hpw hgr2.1) hgk2
          have hu0 : us0.length = wy.length := htie0.length
          have hwyn := hh2.2.2.2.2
          refine as_tup hA.handled F₈ ⟨_, F₈.keep _ _ hp, rfl, 0, rfl⟩ ?_
          intro _ _
          (repeat' walk_at "ir")
          refine if_bool (fun hxc => ?_) fun hxc => ?_
          · have hxc : u = x := by simpa using hxc
            (repeat' walk_at "ir")
            refine c_ninInts (by walk_at "ls") hi2 ?_
            (repeat' walk_at "ir")
            refine if_dec (fun hy => ?_) fun hy => ?_
            · (repeat' walk_at "ir")
              intro nt _ _ _
              (repeat' walk_at "ir")
              refine r_addList (by assumption) (by walk_at "ls") (by walk_at "ls") (by simp; omega) ?_
              intro nw _ _ _
              (repeat' walk_at "ir")
              intro nq _ _ _
              (repeat' walk_at "ir")
              rename Fx _ _ _ _ _ _ => F₉
              obtain ⟨hb1, hb2⟩ := pair_next (ms := ns2 ++ [y]) hxy ha1 ha2 (fun z hz => List.mem_append_left _ hz) fun _ => by simp
              obtain ⟨Fd, hkd, hdL⟩ := F₉.baseS hkL2 [(wa, .list (uw2 ++ [.ref nq])), (ma, .list (um2 ++ [.int y ty]))] (by walk_at "sb")
              have hnq := base_cel (l₀ := [(wa, .list (uw2 ++ [.ref nq])), (ma, .list (um2 ++ [.int y ty]))]) (a := nq) F₉ (by walk_at "in") (nd_at0 F₉.nd (by walk_at "sb"))
              have hnw := base_cel (l₀ := [(wa, .list (uw2 ++ [.ref nq])), (ma, .list (um2 ++ [.int y ty]))]) (a := nw) F₉ (by walk_at "in") (nd_at0 F₉.nd (by walk_at "sb"))
              have hnq0 : k2.get? nq = none := (F₉.led (nq, _) (by walk_at "in")).2.2
              have hnw0 : k2.get? nw = none := (F₉.led (nw, _) (by walk_at "in")).2.2
              generalize W.hideAll _ _ = kd at Fd hkd hdL hnq hnw
              simp only [Cel.At] at hnq hnw
              obtain ⟨g3, hgr3, hg3k, hnew⟩ := grow hgk2 hkd
              obtain ⟨nn, hnw⟩ := hnw
              refine turn_end (g3, (um2 ++ [.int y ty], ns2 ++ [y]), (uw2 ++ [.ref nq], ws2 ++ [(y, wy ++ [tie])])) (l' := [(wa, .list _), (ma, .list _)]) (k'' := kd) (by walk_at "pk") hkd hg3k hgr3 hdL
                ⟨rfl, hgr2.comp (fun _ _ e => kk2 _ _ (hkc _ _ e)) hgr3, ints_snoc hi2, (hws2.mono fun _ _ h => h.keeps hgr3.1).snoc ⟨nq, nw, _, _, rfl, hnew _ _ hnq0 hnq, ⟨nn, hnew _ _ hnw0 hnw⟩, htie0.snoc hvt⟩,
                hsk2.push hh2 htm (hxc ▸ hstep) hy, ?_, fun t ht => (hsh2 t ht).more fun z hz => List.mem_append_left _ hz, hh2.more, hb1, hb2, by walk_at "lk", by walk_at "lk", by walk_at "lk", by walk_at "lk", by walk_at "lk", by walk_at "lk", by walk_at "lk"⟩
              simp; omega
            · (repeat' walk_at "ir")
              obtain ⟨hb1, hb2⟩ := pair_next hxy ha1 ha2 (fun z hz => hz) fun _ => by simpa using hy
              exact turn_end (g2, (um2, ns2), (uw2, ws2)) (l' := [(wa, .list _), (ma, .list _)]) (k'' := k2) (by walk_at "pk") (fun _ _ e => e) hgk2 Gr.refl hkL2 ⟨rfl, hgr2, hi2, hws2, hsk2, hd2, hsh2, hh2, hb1, hb2, by walk_at "lk", by walk_at "lk", by walk_at "lk", by walk_at "lk", by walk_at "lk", by walk_at "lk", by walk_at "lk"⟩
          · (repeat' walk_at "ir")
            obtain ⟨hb1, hb2⟩ := pair_next hxy ha1 ha2 (fun z hz => hz) fun e => by rw [e] at hxc; simp at hxc
            exact turn_end (g2, (um2, ns2), (uw2, ws2)) (l' := [(wa, .list _), (ma, .list _)]) (k'' := k2) (by walk_at "pk") (fun _ _ e => e) hgk2 Gr.refl hkL2 ⟨rfl, hgr2, hi2, hws2, hsk2, hd2, hsh2, hh2, hb1, hb2, by walk_at "lk", by walk_at "lk", by walk_at "lk", by walk_at "lk", by walk_at "lk", by walk_at "lk", by walk_at "lk"⟩
        · rintro ⟨g2, ⟨um2, ns2⟩, ⟨uw2, ws2⟩⟩ m₇ l₇ k2 s₇ ⟨rfl, hgr2, hi2, hws2, hsk2, hd2, hsh2, hh2, ha1, ha2, o1, o2, o3, o4, o5, o6, o7⟩ kk2 hak2 hgk2 hkL2 F₈
          simp only [List.length_cons, List.length_nil] at F₈ hgr2 hi2 hws2 hsk2 hd2 hsh2 hh2 ha1 ha2 hgk2
          (repeat' walk_at "ir")
          refine turn_end (g2, (um2, ns2), (uw2, ws2)) (l' := [(wa, .list _), (ma, .list _)]) (k'' := k2) (by walk_at "pk") (fun _ _ e => kk2 _ _ (hkc _ _ e)) hgk2 hgr2 hkL2 ⟨rfl, fun _ _ e => hgr2.1 _ _ (hgg _ _ e), plain_keeps hpw hgr2.1, hi2, hws2, hsk2, hd2, fun t ht => ?_, hh2, by walk_at "lk", by walk_at "lk", by walk_at "lk", by walk_at "lk", by walk_at "lk", by walk_at "lk"⟩
          obtain ⟨hi9, e9⟩ := List.getElem?_eq_some_iff.mp htie
          rw [List.take_succ_eq_append_getElem hi9] at ht
          rcases List.mem_append.mp ht with ht | ht
          · exact hsh2 t ht
          · rw [List.mem_singleton.mp ht, e9]; exact ⟨ha1 (by omega), ha2 (by omega)⟩
      · rintro ⟨g1, ⟨um', ns'⟩, ⟨uw', ws'⟩⟩ m₅ l₅ k' s₅ ⟨rfl, hgg, hpw, hi', hws', hsk1, hd1, hsh, hh1, n1, n2, n3, n4, n5, n6⟩ kk' hak hgk1 hkL' F₅'
        dsimp only at F₅' hgg hpw hi' hws' hsk1 hd1 hsh hh1 hgk1
        (repeat' walk_at "ir")
        rename Fx _ _ _ _ _ _ => F₇
        rw [hxl, List.take_length] at hsh
        have hn6' := hsk1.len hw hp_
        refine ⟨6 - (d + 1), by omega, _, k', um', ns', uw', ws', d + 1, F₇, fun _ _ e => kk' _ _ (hkb _ _ (hk2 _ _ e)), hkL', rfl, hd1, hi', hws'.mono fun _ _ h => h.keeps hgk1, hsk1.shut he fun y hs => ?_, by walk_at "lk", by walk_at "lk", by walk_at "lk", by walk_at "lk"⟩
        obtain ⟨t, ht, ⟨e1, e2⟩ | ⟨e1, e2⟩⟩ := hs
        · exact e2 ▸ (hsh t ht).1 e1
        · exact e2 ▸ (hsh t ht).2 e1
  · have e : ws = [] := by simpa using hc
    subst e
    (repeat' walk_at "ir")
    exact h0 _ ⟨fun b o e => F₄.keep b o (hk2 b o e), F₄.rest⟩ hsk.none
end
end
section
set_option maxHeartbeats 8000000
theorem minT_spec (b : Tie) (ts : List Tie) : minT b ts ∈ b :: ts ∧ ∀ o ∈ b :: ts, tlt o (minT b ts) = false := by
  induction ts generalizing b with
  | nil => exact ⟨.head _, fun o ho => by rw [List.mem_singleton.mp ho]; exact tlt_irr b⟩
  | cons t ts ih =>
    unfold minT
    obtain ⟨h1, h2⟩ := ih (if tlt t b then t else b)
    refine ⟨?_, fun o ho => ?_⟩
    · rcases List.mem_cons.mp h1 with q | q
      · rw [q]; split
        · exact .tail _ (.head _)
        · exact .head _
      · exact .tail _ (.tail _ q)
    · have hb := h2 _ (.head _)
      rcases List.mem_cons.mp ho with rfl | ho
      · cases hc : tlt t o with
        | true => simp only [hc, if_true] at hb ⊢; exact tlt_tr hb (tlt_asym hc)
        | false => simp only [hc, Bool.false_eq_true, if_false] at hb ⊢; exact hb
      · rcases List.mem_cons.mp ho with rfl | ho
        · cases hc : tlt o b with
          | true => simp only [hc, if_true] at hb ⊢; exact hb
          | false => simp only [hc, Bool.false_eq_true, if_false] at hb ⊢; exact tlt_tr hb hc
        · exact h2 o (.tail _ ho)
theorem maxT_spec (b : Tie) (ts : List Tie) : maxT b ts ∈ b :: ts ∧ ∀ o ∈ b :: ts, tlt (maxT b ts) o = false := by
  induction ts generalizing b with
  | nil => exact ⟨.head _, fun o ho => by rw [List.mem_singleton.mp ho]; exact tlt_irr b⟩
  | cons t ts ih =>
    unfold maxT
    obtain ⟨h1, h2⟩ := ih (if tlt b t then t else b)
    refine ⟨?_, fun o ho => ?_⟩
    · rcases List.mem_cons.mp h1 with q | q
      · rw [q]; split
        · exact .tail _ (.head _)
        · exact .head _
      · exact .tail _ (.tail _ q)
    · have hb := h2 _ (.head _)
      rcases List.mem_cons.mp ho with rfl | ho
      · cases hc : tlt o t with
        | true => simp only [hc, if_true] at hb ⊢; exact tlt_tr (tlt_asym hc) hb
        | false => simp only [hc, Bool.false_eq_true, if_false] at hb ⊢; exact hb
      · rcases List.mem_cons.mp ho with rfl | ho
        · cases hc : tlt b o with
          | true => simp only [hc, if_true] at hb ⊢; exact hb
          | false => simp only [hc, Bool.false_eq_true, if_false] at hb ⊢; exact tlt_tr hc hb
        · exact h2 o (.tail _ ho)

theorem TieAt.uniq {g : Heap} {v : Value} {x y : Tie} (h : TieAt g v x) (h' : TieAt g v y) : x = y := by
  obtain ⟨a, t1, t2, t3, t4, n, rfl, e⟩ := h
  obtain ⟨b, u1, u2, u3, u4, n', e2, e'⟩ := h'
  cases e2
  rw [e] at e'
  cases x; cases y
  simp [tieObj] at e'
  grind
open Classical in
noncomputable def pOf (g : Heap) (q : Tie → Bool) (v : Value) : Bool := decide (∃ x, TieAt g v x ∧ q x = true)
open Classical in
theorem pOf_eq {g : Heap} {q : Tie → Bool} {v : Value} {x : Tie} (h : TieAt g v x) : pOf g q v = q x := by
  unfold pOf
  cases hq : q x with
  | true => exact decide_eq_true ⟨x, h, hq⟩
  | false => exact decide_eq_false fun ⟨y, hy, hqy⟩ => by rw [h.uniq hy, hqy] at hq; cases hq
theorem ties_filter {g : Heap} {vs : List Value} {ts : List Tie} (q : Tie → Bool) (hx : Ties g vs ts) : Ties g (vs.filter (pOf g q)) (ts.filter q) := by
  induction hx with
  | nil => exact .nil
  | cons h _ ih =>
    rw [List.filter_cons, List.filter_cons, pOf_eq h]
    split
    · exact .cons h ih
    · exact ih
theorem paired_id {vs ys : List Value} (h : Paired (fun v y => y = v) vs ys) : ys = vs := by
  induction h with
  | nil => rfl
  | cons h _ ih => rw [h, ih]
theorem ties_mem {g : Heap} {vs : List Value} {ts : List Tie} {v : Value} (hx : Ties g vs ts) (hv : v ∈ vs) : ∃ x, x ∈ ts ∧ TieAt g v x := by
  induction hx with
  | nil => cases hv
  | cons h _ ih =>
    rcases List.mem_cons.mp hv with rfl | hv
    · exact ⟨_, .head _, h⟩
    · obtain ⟨x, h1, h2⟩ := ih hv
      exact ⟨x, .tail _ h1, h2⟩

section
variable {prog : Program} {w : World} {A : Around} {E : Value → Shared → Prop} {σ s : Shared} {k Wh g : Heap} {L : Addr} {m mg : Str → Option Value} {l : Led} {env : Env}

theorem base_list {l₀ : Led} {a : Addr} {xs : Array Value} (F : Fx σ k L s m l) (hp : s.heap.PlainList a xs) (hsub : ∀ p ∈ l₀, p ∈ l) (hc : ∀ p ∈ l₀, ∃ v, p.2 = Cel.cell v) : (W.hideAll s.heap (L :: l₀.map (·.1))).PlainList a xs := by
  obtain ⟨n, e⟩ := hp
  refine ⟨n, base_get e (fun q => ?_) fun hm => ?_⟩
  · obtain ⟨o, es, ep, ho, hd, _⟩ := F.ns
    rw [← q, e] at ho; cases ho; cases hd
  · obtain ⟨p, hp, q⟩ := List.mem_map.mp hm
    obtain ⟨v, hv⟩ := hc p hp
    have := (F.led p (hsub p hp)).1
    rw [hv] at this
    obtain ⟨o, ho, hd⟩ := this
    rw [q, e] at ho; cases ho; cases hd

def crosses (ns : List Int) (o : Tie) : Bool := decide (o.2.2.1 ∈ ns) != decide (o.2.2.2 ∈ ns)

theorem C_least (Wd : Wld Wh mg allDefs bltNames) {f a b : Addr} {vs us : List Value} {ts tk : List Tie} {Q : Value → Shared → Prop} (hf : IsFn Wh dLeast f) (hW : Wh.StaysIn s.heap) (hA : AOk 5 A)
    (hg : g.StaysIn s.heap) (hWg : Wh.StaysIn g) (ha : s.heap.PlainList a vs.toArray) (hb : s.heap.PlainList b us.toArray) (hx : Ties g vs ts) (hu : Ties g us tk) (hw : Web ts) (hz : ts.length ≤ 1000) (hsub : ∀ t ∈ tk, t ∈ ts) (hz2 : tk.length ≤ 1000)
    (hmin : ∀ tie ∈ tk, ∀ ns : List Int, (∀ x, x ∈ ns ↔ Reach (tk.filter fun o => decide (o ≠ tie)) tie.2.2.1 x) → crosses ns tie = true ∧ ∀ o ∈ ts, crosses ns o = true → tlt o tie = false)
    (hmax : ∀ tie ∈ ts, tie ∉ tk → Reach tk tie.2.2.1 tie.2.2.2 ∧ ∀ wy, Way tk tie.2.2.1 tie.2.2.2 wy → wy.Nodup → wy.length ≤ 1000 ∧ ∀ o ∈ wy, tlt tie o = false)
    (h : ∀ s', More s s' → Q (.bool true) s') :
    wpAny (model prog w) A (call (.ref f) [.ref a, .ref b]) Q NoE s := by
  refine enter' (σ := s) (k := s.heap) (l := []) [("ties", .ref a), ("taken", .ref b)] (setm (setm (fun _ => none) "ties" (.ref a)) "taken" (.ref b)) (fun L => [(L + 2, .cell none), (L + 1, .cell none)])
    Wd hf hW (by have := hA.depth; omega) (fun _ _ e => e) (fun _ hp => nomatch hp) (by simp) ⟨rfl, rfl, rfl⟩ ?_
  intro cd L s₁ hkL F
  refine o_body fun Rb hRb => ?_
  have hWk : Wh.StaysIn s.heap := hW
  have hxl := hx.length
  have hul := hu.length
  have hu5 : (A.deeper (envD dLeast L f cd)).units + 64 < cLine := by have := hA.units; show A.units + 3 + 64 < cLine; omega
  simp only [List.append_nil] at F
  refine x_for ?_
  (repeat' walk_at "ir")
  refine for_list hA.handled F hkL (F.listK ha) [(L + 2, .cell none), (L + 1, .cell none)] (fun _ hp => hp) F.nd (fun hm => ?_) (fun _ : Option Value × Option Value => g)
    (fun i x m l => l = [(L + 2, .cell x.1), (L + 1, .cell x.2)] ∧ m "ties" = some (.ref a) ∧ m "taken" = some (.ref b)) (none, none) hg ⟨rfl, by walk_at "lk", by walk_at "lk"⟩ ?_ ?_
  · obtain ⟨p, hp, q⟩ := List.mem_map.mp hm
    have h1 := (F.led p hp).2.2
    obtain ⟨n, e⟩ := ha
    rw [q, e] at h1; cases h1
  · rintro i v k' s₃ ⟨o1, o2⟩ m₃ l₃ hv HJ kk hak hgk hkL' F₃
    refine o_turn fun Rt hRt => ?_
    obtain ⟨rfl, m1, m2⟩ := HJ
    dsimp only at F₃
    obtain ⟨tie, htie, hvt⟩ := hx.get' hv
    have htm := List.mem_of_getElem? htie
    have hbk := plain_keeps hb kk
    have hWk' : Wh.StaysIn k' := fun _ _ e => hgk _ _ (hWg _ _ e)
    (repeat' walk_at "ir")
    rename Fx _ _ _ _ _ _ => F₄
    refine c_inTies (by walk_at "ls") (tiesKeep hu (F₄.kept hgk)) (hvt.keeps (F₄.kept hgk)) hu5 ?_
    (repeat' walk_at "ir")
    refine if_dec (fun hin => ?_) fun hin => ?_
    · (repeat' walk_at "ir")
      refine e_compL (pOf g fun o => decide (o ≠ tie)) (fun v y => y = v) [("tie", L + 1)] hA.handled ?_
      (repeat' walk_at "ir")
      refine ⟨by omega, ⟨fun C v1 s₄ m₄ hv1 kk₄ F₅ hm => ?_, fun C v1 s₄ m₄ hv1 _ kk₄ F₅ hm => ?_⟩, fun s₅ D ys M hD hl hp => ?_⟩
      · obtain ⟨o, ho, hvo⟩ := ties_mem hu hv1
        refine test_one ?_
        have hc : s₄.heap.IsCell (L + 1) (some v) := Heap.IsCell.keeps (Fx.cellL F₄ (by walk_at "in")) kk₄
        have hg4 : g.StaysIn s₄.heap := fun _ _ e => kk₄ _ _ (F₄.kept hgk _ _ e)
        (repeat' walk_at "ir")
        refine c_neTie (hvo.keeps hg4) (hvt.keeps hg4) hu5 ?_
        (repeat' walk_at "ir")
        exact ⟨(pOf_eq (q := fun o => decide (o ≠ tie)) hvo).symm, Fx.toMore (by assumption)⟩
      · (repeat' walk_at "ir")
        exact ⟨rfl, Fx.toMore (by assumption)⟩
      · have F₆ := Fx.add F₄ M hD (c := .list ys) hl
        have hys : Ties g ys (tk.filter fun o => decide (o ≠ tie)) := (paired_id hp) ▸ ties_filter _ hu
        (repeat' walk_at "ir")
        refine r_tie2 (hvt.keeps (Fx.kept (by assumption) hgk)) ?_
        intro _
        (repeat' walk_at "ir")
        refine ⟨by walk_at "kp", fun a' ha' => ?_⟩
        refine C_side (g := g) Wd ha' (by walk_at "kp") (hA.deeper.less (by decide)) (by walk_at "kp") hWg (by walk_at "ls") hys (hw.mono fun t ht => hsub t (List.mem_filter.mp ht).1) ⟨(hw.lo tie htm).1, (hw.hi tie htm).1⟩ (Nat.le_trans (List.length_filter_le _ _) hz2) ?_
        intro r us2 ns s₆ M₆ hr hpl hi hnd hso hreach
        have F₇ := Fx.add (by assumption) M₆ hr (c := .list us2) hpl
        (repeat' walk_at "ir")
        rename Fx _ _ _ _ _ _ => F₈
        refine e_compL (pOf g (crosses ns)) (fun v y => y = v) [("side", L + 2)] hA.handled ?_
        (repeat' walk_at "ir")
        refine ⟨by omega, ⟨fun C v1 s₄ m₄ hv1 kk₄ F₅ hm => ?_, fun C v1 s₄ m₄ hv1 _ kk₄ F₅ hm => ?_⟩, fun s₉ D2 ys2 M2 hD2 hl2 hp2 => ?_⟩
        · obtain ⟨o, ho, hvo⟩ := ties_mem hx hv1
          refine test_one ?_
          have hc : s₄.heap.IsCell (L + 2) (some (.ref r)) := Heap.IsCell.keeps (Fx.cellL F₈ (by walk_at "in")) kk₄
          have hg4 : g.StaysIn s₄.heap := fun _ _ e => kk₄ _ _ (F₈.kept hgk _ _ e)
          have hr4 : s₄.heap.PlainList r us2.toArray := plain_keeps (F₈.list (by walk_at "in")) kk₄
          (repeat' walk_at "ir")
          refine r_tie2 (hvo.keeps (Fx.kept (by assumption) hg4)) ?_
          intro _
          (repeat' walk_at "ir")
          refine c_inInts (Fx.listK (by assumption) hr4) hi ?_
          (repeat' walk_at "ir")
          refine r_tie3 (hvo.keeps (Fx.kept (by assumption) hg4)) ?_
          intro _
          (repeat' walk_at "ir")
          refine c_inInts (Fx.listK (by assumption) hr4) hi ?_
          (repeat' walk_at "ir")
          exact ⟨(pOf_eq (q := crosses ns) hvo).symm, Fx.toMore (by assumption)⟩
        · (repeat' walk_at "ir")
          exact ⟨rfl, Fx.toMore (by assumption)⟩
        · obtain ⟨hcr, hle⟩ := hmin tie hin ns hreach
          have hys2 : Ties g ys2 (ts.filter (crosses ns)) := (paired_id hp2) ▸ ties_filter _ hx
          have htf : tie ∈ ts.filter (crosses ns) := List.mem_filter.mpr ⟨htm, hcr⟩
          obtain ⟨t0, ts0, ht0⟩ : ∃ t0 ts0, ts.filter (crosses ns) = t0 :: ts0 := by
            cases q : ts.filter (crosses ns) with
            | nil => rw [q] at htf; cases htf
            | cons t0 ts0 => exact ⟨t0, ts0, rfl⟩
          rw [ht0] at hys2
          cases hys2 with
          | cons hv0 hvs0 =>
            have hmt : minT t0 ts0 = tie := by
              obtain ⟨q1, q2⟩ := minT_spec t0 ts0
              rw [← ht0] at q1 q2
              exact tlt_eq (hle _ (List.mem_filter.mp q1).1 (List.mem_filter.mp q1).2 |> fun h => h) (q2 tie htf)
            have F₉ := Fx.add F₈ M2 hD2 (c := .list _) hl2
            (repeat' walk_at "ir")
            refine r_min hA.handled hu5 (by assumption) (by walk_at "ls") (hv0.keeps (Fx.kept (by assumption) hgk)) (tiesKeep hvs0 (Fx.kept (by assumption) hgk)) ?_
            intro vm _ _ hvm
            (repeat' walk_at "ir")
            refine c_neTie hvm (hvt.keeps (Fx.kept (by assumption) hgk)) hu5 ?_
            (repeat' walk_at "ir")
            refine if_dec (fun hc => absurd hmt hc) fun hc => ?_
            (repeat' walk_at "ir")
            exact turn_end (some (.ref r), some v) (l' := [(L + 2, .cell _), (L + 1, .cell _)]) (k'' := k') (by walk_at "pk") (fun _ _ e => e) hgk Gr.refl hkL' ⟨rfl, by walk_at "lk", by walk_at "lk"⟩
    · (repeat' walk_at "ir")
      refine r_tie2 (hvt.keeps (Fx.kept (by assumption) hgk)) ?_
      intro _
      (repeat' walk_at "ir")
      refine r_tie3 (hvt.keeps (Fx.kept (by assumption) hgk)) ?_
      intro _
      (repeat' walk_at "ir")
      refine ⟨by walk_at "kp", fun a' ha' => ?_⟩
      obtain ⟨hrch, hway⟩ := hmax tie htm hin
      refine C_way (g := g) Wd ha' (by walk_at "kp") (hA.deeper.less (by decide)) (by walk_at "kp") hWg (by walk_at "ls") hu (hw.mono hsub) ⟨(hw.lo tie htm).1, (hw.hi tie htm).1⟩ hz2 (fun s' _ hno => absurd hrch hno) ?_
      intro r us2 wy s₆ M₆ hpl hus2 hwy hwn
      obtain ⟨hwl, hwb⟩ := hway wy hwy hwn
      have hwlen := hus2.length
      have F₇ := Fx.more (by assumption) M₆
      obtain ⟨Fb, hkb, hbL⟩ := F₇.base hkL' [(L + 2, .cell o1), (L + 1, .cell (some v))] (fun _ hp => hp) F₇.nd
      have hrb := base_list (l₀ := [(L + 2, .cell o1), (L + 1, .cell (some v))]) F₇ hpl (fun _ hp => hp) (fun p hp => by
        simp only [List.mem_cons, List.not_mem_nil, or_false] at hp
        rcases hp with rfl | rfl
        · exact ⟨_, rfl⟩
        · exact ⟨_, rfl⟩)
      generalize W.hideAll _ _ = kb at Fb hkb hbL hrb
      have hgb : g.StaysIn kb := fun _ _ e => hkb _ _ (hgk _ _ e)
      have hWb : Wh.StaysIn kb := fun _ _ e => hgb _ _ (hWg _ _ e)
      clear F₇ F₄ F₃
      refine OpqV.fin (by assumption) ?_
      refine r_store Fb hbL ?_
      intro _ _
      (repeat' walk_at "ir")
      refine c_isNone (b := false) rfl rfl ?_
      (repeat' walk_at "ir")
      intro ln _ _ _
      (repeat' walk_at "ir")
      refine r_addList (by assumption) (by walk_at "ls") (by walk_at "ls") (by simp; omega) ?_
      intro lw _ F₈ _
      (repeat' walk_at "ir")
      have hall := hus2.snoc hvt
      obtain ⟨v0, vs0, hv0e⟩ : ∃ v0 vs0, us2 ++ [v] = v0 :: vs0 := by cases us2 <;> exact ⟨_, _, rfl⟩
      obtain ⟨t0, ts0, ht0e⟩ : ∃ t0 ts0, wy ++ [tie] = t0 :: ts0 := by cases wy <;> exact ⟨_, _, rfl⟩
      have hlw := F₈.list (a := lw) (.head _)
      rw [hv0e] at hlw
      rw [hv0e, ht0e] at hall
      have hmt : maxT t0 ts0 = tie := by
        obtain ⟨q1, q2⟩ := maxT_spec t0 ts0
        rw [← ht0e] at q1 q2
        refine tlt_eq (q2 tie (by simp)) ?_
        rcases List.mem_append.mp q1 with q | q
        · exact hwb _ q
        · rw [List.mem_singleton.mp q]; exact tlt_irr _
      cases hall with
      | cons hv0 hvs0 =>
        refine r_max hA.handled hu5 F₈ hlw (hv0.keeps (Fx.kept F₈ hgb)) (tiesKeep hvs0 (Fx.kept F₈ hgb)) ?_
        intro vm _ _ hvm
        (repeat' walk_at "ir")
        refine c_neTie hvm (hvt.keeps (Fx.kept (by assumption) hgb)) hu5 ?_
        (repeat' walk_at "ir")
        refine if_dec (fun hc => absurd hmt hc) fun hc => ?_
        (repeat' walk_at "ir")
        exact turn_end (o1, some v) (l' := [(L + 2, .cell _), (L + 1, .cell _)]) (k'' := kb) (by walk_at "pk") hkb hgb Gr.refl hbL ⟨rfl, by walk_at "lk", by walk_at "lk"⟩
  · rintro ⟨o1, o2⟩ m₃ l₃ k' s₃ ⟨rfl, m1, m2⟩ kk hak hgk hkL' F₃
    (repeat' walk_at "ir")
    exact h _ ⟨fun b o e => F₃.keep b o (kk b o e), F₃.rest⟩
end
end
section
theorem tle_rf (a : Tie) : tlt a a = false := tlt_irr a

-- rearrangements
theorem getD_lt {xs : List Tie} {i : Nat} (h : i < xs.length) : xs.getD i d0 = xs[i] := by simp [h]
theorem swap_perm {xs : List Tie} {i j : Nat} (hi : i < xs.length) (hj : j < xs.length) : ((xs.set i (xs.getD j d0)).set j (xs.getD i d0)).Perm xs := by
  rw [getD_lt hi, getD_lt hj]
  exact List.set_set_perm hi hj
theorem getD_set {xs : List Tie} {i j : Nat} {x : Tie} (hi : i < xs.length) : (xs.set i x).getD j d0 = if i = j then x else xs.getD j d0 := by
  simp only [List.getD_eq_getElem?_getD, List.getElem?_set]
  split
  · rfl
  · rfl
theorem set_get_self {xs : List Tie} {i : Nat} (h : i < xs.length) : xs.set i (xs.getD i d0) = xs := by
  rw [getD_lt h]; exact List.set_getElem_self h
/-- a hole at p filled from j, and the hole then at j -/
theorem move_perm {xs : List Tie} {p j : Nat} {x : Tie} (hp : p < xs.length) (hj : j < xs.length) (hne : j ≠ p) : ((xs.set p (xs.getD j d0)).set j x).Perm (xs.set p x) := by
  have h := swap_perm (xs := xs.set p x) (i := p) (j := j) (by simpa using hp) (by simpa using hj)
  rw [getD_set hp, getD_set hp, if_neg hne.symm, if_pos rfl, List.set_set] at h
  exact h

theorem sd_perm (x : Tie) (start : Nat) (xs : List Tie) (pos : Nat) (h : pos < xs.length) : ((sdLoop x start xs pos).1.set (sdLoop x start xs pos).2 x).Perm (xs.set pos x) := by
  fun_induction sdLoop x start xs pos with
  | case1 xs pos h1 h2 ih => exact (ih (by simp; omega)).trans (move_perm h (by omega) (by omega))
  | case2 xs pos h1 h2 => exact List.Perm.refl _
  | case3 xs pos h1 => exact List.Perm.refl _
theorem siftdown_perm (xs : List Tie) (start pos : Nat) (h : pos < xs.length) : (siftdown xs start pos).Perm xs := by
  have := sd_perm (xs.getD pos d0) start xs pos h
  rw [set_get_self h] at this
  exact this
theorem su_perm (xs : List Tie) (pos : Nat) (h : pos < xs.length) (x : Tie) : ((suLoop xs pos).1.set (suLoop xs pos).2 x).Perm (xs.set pos x) := by
  fun_induction suLoop xs pos with
  | case1 xs pos h1 ih =>
    have hc := suChild_lt xs pos h1
    exact (ih (by simpa using hc.1)).trans (move_perm h hc.1 (by omega))
  | case2 xs pos h1 => exact List.Perm.refl _
theorem siftup_perm (xs : List Tie) (pos : Nat) (h : pos < xs.length) : (siftup xs pos).Perm xs := by
  have h2 := suLoop_pos xs pos h
  refine (siftdown_perm _ _ _ (by simp [suLoop_length]; exact h2.2)).trans ?_
  have := su_perm xs pos h (xs.getD pos d0)
  rw [set_get_self h] at this
  exact this
theorem heappush_perm (xs : List Tie) (x : Tie) : (heappush xs x).Perm (xs ++ [x]) := siftdown_perm _ _ _ (by simp)
theorem heappop_perm (xs : List Tie) (h : 0 < xs.length) : (xs.getD 0 d0 :: heappop xs).Perm xs := by
  obtain ⟨ys, y, rfl⟩ : ∃ ys y, xs = ys ++ [y] := ⟨xs.dropLast, xs.getLast (fun e => by rw [e] at h; exact absurd h (Nat.lt_irrefl _)), (List.dropLast_concat_getLast _).symm⟩
  unfold heappop
  split
  · rename_i h1
    have e : ys = [] := by
      cases ys with
      | nil => rfl
      | cons _ _ => simp at h1
    subst e
    exact List.Perm.refl _
  · rename_i h1
    have hy : 0 < ys.length := by have e : (ys ++ [y]).length = ys.length + 1 := by simp
                                  omega
    have e1 : (ys ++ [y]).getD ((ys ++ [y]).length - 1) d0 = y := by simp
    have e2 : (ys ++ [y]).getD 0 d0 = ys.getD 0 d0 := by rw [List.getD_eq_getElem?_getD, List.getElem?_append_left hy, ← List.getD_eq_getElem?_getD]
    rw [e1, e2, List.dropLast_concat]
    have h3 := siftup_perm (ys.set 0 y) 0 (by simpa using hy)
    refine (h3.cons _).trans ?_
    obtain ⟨z, zs, rfl⟩ : ∃ z zs, ys = z :: zs := by cases ys with
      | nil => cases hy
      | cons z zs => exact ⟨z, zs, rfl⟩
    simp only [List.set_cons_zero, List.getD_cons_zero, List.cons_append]
    exact (List.perm_append_singleton y zs).symm.cons z |> fun h => by simpa using h
theorem heapifyLoop_perm : ∀ (n : Nat) (xs : List Tie), n ≤ xs.length → (heapifyLoop xs n).Perm xs
  | 0, xs, _ => List.Perm.refl _
  | n + 1, xs, h => (heapifyLoop_perm n (siftup xs n) (by rw [siftup_length]; omega)).trans (siftup_perm xs n (by omega))
theorem heapify_perm (xs : List Tie) : (heapify xs).Perm xs := heapifyLoop_perm _ _ (by omega)

-- order
abbrev tle (a b : Tie) : Prop := tlt b a = false
/-- below s each child is no less than its parent -/
def Hp (s : Nat) (xs : List Tie) : Prop := ∀ c, 0 < c → c < xs.length → s ≤ (c - 1) / 2 → tle (xs.getD ((c - 1) / 2) d0) (xs.getD c d0)
/-- p stands under s -/
inductive Under (s : Nat) : Nat → Prop
  | refl : Under s s
  | step {p : Nat} : 0 < p → Under s ((p - 1) / 2) → Under s p
theorem Under.le {s p : Nat} (h : Under s p) : s ≤ p := by
  induction h with
  | refl => exact Nat.le_refl _
  | step h1 _ ih => omega
theorem Under.up {s p : Nat} (h : Under s p) (hne : s ≠ p) : 0 < p ∧ Under s ((p - 1) / 2) := by
  cases h with
  | refl => exact absurd rfl hne
  | step h1 h2 => exact ⟨h1, h2⟩
theorem Under.zero : ∀ p, Under 0 p := fun p => by
  induction p using Nat.strongRecOn with
  | _ p ih =>
    cases p with
    | zero => exact .refl
    | succ p => exact .step (Nat.succ_pos _) (ih _ (by omega))

theorem tle_trans {a b c : Tie} (h1 : tle a b) (h2 : tle b c) : tle a c := tlt_tr h1 h2
theorem tle_of_lt {a b : Tie} (h : tlt a b = true) : tle a b := tlt_asym h
theorem tle_refl (a : Tie) : tle a a := tle_rf a

/-- all is in order but at the hole p, where x is to come; and over the hole -/
structure Hole (s : Nat) (xs : List Tie) (p : Nat) : Prop where
  ok : ∀ c, 0 < c → c < xs.length → s ≤ (c - 1) / 2 → c ≠ p → (c - 1) / 2 ≠ p → tle (xs.getD ((c - 1) / 2) d0) (xs.getD c d0)
  over : ∀ c, 0 < c → c < xs.length → (c - 1) / 2 = p → 0 < p → s ≤ (p - 1) / 2 → tle (xs.getD ((p - 1) / 2) d0) (xs.getD c d0)

theorem sd_heap (x : Tie) (s : Nat) (xs : List Tie) (p : Nat) (hp : p < xs.length) (hu : Under s p) (hh : Hole s xs p) (hx : ∀ c, 0 < c → c < xs.length → (c - 1) / 2 = p → tle x (xs.getD c d0)) :
    Hp s ((sdLoop x s xs p).1.set (sdLoop x s xs p).2 x) := by
  fun_induction sdLoop x s xs p with
  | case1 xs p h1 h2 ih =>
    obtain ⟨hp0, hup⟩ := hu.up (by omega)
    have hsp := hup.le
    refine ih (by simp; omega) hup ⟨fun c c0 cl cs cne cpe => ?_, fun c c0 cl cp p0 ps => ?_⟩ fun c c0 cl cp => ?_
    · simp only [List.length_set] at cl
      rw [getD_set hp, getD_set hp]
      by_cases hcp : p = c
      · subst hcp; exact absurd rfl cpe
      · rw [if_neg hcp]
        by_cases hpp : p = (c - 1) / 2
        · rw [if_pos hpp]; exact hh.over c c0 cl hpp.symm hp0 hsp
        · rw [if_neg hpp]; exact hh.ok c c0 cl cs (Ne.symm hcp) (Ne.symm hpp)
    · simp only [List.length_set] at cl
      rw [getD_set hp, getD_set hp, if_neg (by omega)]
      have hpar : tle (xs.getD (((p - 1) / 2 - 1) / 2) d0) (xs.getD ((p - 1) / 2) d0) := hh.ok ((p - 1) / 2) p0 (by omega) ps (by omega) (by omega)
      by_cases hcp : p = c
      · rw [if_pos hcp]; exact hpar
      · rw [if_neg hcp]
        exact tle_trans hpar (cp ▸ hh.ok c c0 cl (by omega) (Ne.symm hcp) (by omega))
    · simp only [List.length_set] at cl
      rw [getD_set hp]
      by_cases hcp : p = c
      · rw [if_pos hcp]; exact tle_of_lt h2
      · rw [if_neg hcp]
        exact tle_trans (tle_of_lt h2) (cp ▸ hh.ok c c0 cl (by omega) (Ne.symm hcp) (by omega))
  | case2 xs p h1 h2 =>
    intro c c0 cl cs
    simp only [List.length_set] at cl
    rw [getD_set hp, getD_set hp]
    by_cases hcp : p = c
    · rw [if_pos hcp, if_neg (by omega)]
      rw [← hcp]; simpa using h2
    · rw [if_neg hcp]
      by_cases hpp : p = (c - 1) / 2
      · rw [if_pos hpp]; exact hx c c0 cl hpp.symm
      · rw [if_neg hpp]; exact hh.ok c c0 cl cs (Ne.symm hcp) (Ne.symm hpp)
  | case3 xs p h1 =>
    have hsp := hu.le
    intro c c0 cl cs
    simp only [List.length_set] at cl
    rw [getD_set hp, getD_set hp, if_neg (show ¬ p = c by omega)]
    by_cases hpp : p = (c - 1) / 2
    · rw [if_pos hpp]; exact hx c c0 cl hpp.symm
    · rw [if_neg hpp]; exact hh.ok c c0 cl cs (by omega) (Ne.symm hpp)

theorem su_heap (s : Nat) (xs : List Tie) (p : Nat) (hp : p < xs.length) (hu : Under s p) (hh : Hole s xs p) : Hole s (suLoop xs p).1 (suLoop xs p).2 ∧ Under s (suLoop xs p).2 ∧ (suLoop xs p).1.length ≤ 2 * (suLoop xs p).2 + 1 := by
  fun_induction suLoop xs p with
  | case1 xs p h1 ih =>
    have hc := suChild_lt xs p h1
    have hpar : (suChild xs p - 1) / 2 = p := by unfold suChild; split <;> omega
    have hmin : ∀ c, 0 < c → c < xs.length → (c - 1) / 2 = p → tle (xs.getD (suChild xs p) d0) (xs.getD c d0) := fun c c0 cl cp => by
      have : c = 2 * p + 1 ∨ c = 2 * p + 2 := by omega
      unfold suChild
      split
      · rename_i h
        rcases this with rfl | rfl
        · exact h.2
        · exact tle_refl _
      · rename_i h
        rcases this with rfl | rfl
        · exact tle_refl _
        · by_cases h3 : tlt (xs.getD (2 * p + 1) d0) (xs.getD (2 * p + 2) d0) = false
          · exact absurd ⟨cl, h3⟩ h
          · exact tle_of_lt (by simpa using h3)
    have hsp := hu.le
    refine ih (by simpa using hc.1) (.step (by omega) (by rw [hpar]; exact hu)) ⟨fun c c0 cl cs cne cpe => ?_, fun c c0 cl cp p0 ps => ?_⟩
    · simp only [List.length_set] at cl
      rw [getD_set hp, getD_set hp]
      by_cases hcp : p = c
      · subst hcp
        rw [if_pos rfl, if_neg (by omega)]
        exact hh.over _ (by omega) hc.1 hpar c0 cs
      · rw [if_neg hcp]
        by_cases hpp : p = (c - 1) / 2
        · rw [if_pos hpp]; exact hmin c c0 cl hpp.symm
        · rw [if_neg hpp]; exact hh.ok c c0 cl cs (Ne.symm hcp) (Ne.symm hpp)
    · simp only [List.length_set] at cl
      rw [getD_set hp, getD_set hp, hpar, if_pos rfl, if_neg (by omega)]
      rw [← cp]
      exact hh.ok c c0 cl (by omega) (by omega) (by omega)
  | case2 xs p h1 => exact ⟨hh, hu, by show xs.length ≤ 2 * p + 1; omega⟩

theorem siftup_heap (s : Nat) (xs : List Tie) (h : s < xs.length) (hh : Hp (s + 1) xs) : Hp s (siftup xs s) := by
  have h0 : Hole s xs s := ⟨fun c c0 cl cs cne cpe => hh c c0 cl (by omega), fun c c0 cl cp p0 ps => by omega⟩
  obtain ⟨h1, h2, h3⟩ := su_heap s xs s h .refl h0
  have h4 := suLoop_pos xs s h
  have hlen := suLoop_length xs s
  show Hp s (siftdown _ _ _)
  unfold siftdown
  have hp : (suLoop xs s).2 < (suLoop xs s).1.length := by omega
  rw [getD_set hp, if_pos rfl]
  refine sd_heap _ s _ _ (by simpa using hp) h2 ⟨fun c c0 cl cs cne cpe => ?_, fun c c0 cl cp => ?_⟩ fun c c0 cl cp => ?_
  · simp only [List.length_set] at cl
    rw [getD_set hp, getD_set hp, if_neg (Ne.symm cne), if_neg (Ne.symm cpe)]
    exact h1.ok c c0 cl cs cne cpe
  · simp only [List.length_set] at cl; omega
  · simp only [List.length_set] at cl; omega
theorem heapify_heap (xs : List Tie) : Hp 0 (heapify xs) := by
  have go : ∀ (n : Nat) (xs : List Tie), n ≤ xs.length → Hp n xs → Hp 0 (heapifyLoop xs n) := fun n => by
    induction n with
    | zero => intro xs _ h; exact h
    | succ n ih => intro xs hn h; exact ih _ (by rw [siftup_length]; omega) (siftup_heap n xs (by omega) h)
  exact go _ xs (by omega) fun c c0 cl cs => by omega
theorem heappush_heap (xs : List Tie) (x : Tie) (h : Hp 0 xs) : Hp 0 (heappush xs x) := by
  unfold heappush siftdown
  have e : (xs ++ [x]).getD xs.length d0 = x := by simp
  rw [e]
  refine sd_heap x 0 _ _ (by simp) (Under.zero _) ⟨fun c c0 cl cs cne cpe => ?_, fun c c0 cl cp => ?_⟩ fun c c0 cl cp => ?_
  · simp only [List.length_append, List.length_cons, List.length_nil] at cl
    have h1 : c < xs.length := by omega
    rw [List.getD_eq_getElem?_getD, List.getElem?_append_left (by omega), List.getD_eq_getElem?_getD, List.getElem?_append_left h1, ← List.getD_eq_getElem?_getD, ← List.getD_eq_getElem?_getD]
    exact h c c0 h1 cs
  · simp only [List.length_append, List.length_cons, List.length_nil] at cl; omega
  · simp only [List.length_append, List.length_cons, List.length_nil] at cl; omega
theorem heappop_heap (xs : List Tie) (h : Hp 0 xs) : Hp 0 (heappop xs) := by
  unfold heappop
  split
  · intro c c0 cl; simp at cl
  · rename_i h1
    refine siftup_heap 0 _ (by simp; omega) fun c c0 cl cs => ?_
    simp only [List.length_set, List.length_dropLast] at cl
    have hd : ∀ i, 0 < i → i < xs.length - 1 → ((xs.dropLast).set 0 (xs.getD (xs.length - 1) d0)).getD i d0 = xs.getD i d0 := fun i i0 il => by
      rw [getD_set (by simp; omega), if_neg (by omega)]
      simp only [List.getD_eq_getElem?_getD]
      rw [List.getElem?_dropLast, if_pos il]
    rw [hd c c0 cl, hd _ (by omega) (by omega)]
    exact h c c0 (by omega) (Nat.zero_le _)
/-- the root is least -/
theorem heap_least (xs : List Tie) (h : Hp 0 xs) : ∀ t ∈ xs, tle (xs.getD 0 d0) t := by
  have go : ∀ c, c < xs.length → tle (xs.getD 0 d0) (xs.getD c d0) := fun c => by
    induction c using Nat.strongRecOn with
    | _ c ih =>
      intro hc
      by_cases c0 : c = 0
      · subst c0; exact tle_refl _
      · exact tle_trans (ih ((c - 1) / 2) (by omega) (by omega)) (h c (by omega) hc (Nat.zero_le _))
  intro t ht
  obtain ⟨c, hc, rfl⟩ := List.getElem_of_mem ht
  have := go c hc
  rwa [getD_lt hc] at this
end
section
theorem nodup_len : ∀ {ws ts : List Tie}, ws.Nodup → (∀ t ∈ ws, t ∈ ts) → ws.length ≤ ts.length
  | [], ts, _, _ => Nat.zero_le _
  | w :: ws, ts, hn, hs => by
    have hw := hs w (.head _)
    have h := nodup_len (ws := ws) (ts := ts.erase w) (List.nodup_cons.mp hn).2 fun t ht => by
      refine (List.mem_erase_of_ne ?_).mpr (hs t (.tail _ ht))
      intro e; subst e; exact (List.nodup_cons.mp hn).1 ht
    rw [List.length_erase_of_mem hw] at h
    have : 0 < ts.length := List.length_pos_of_mem hw
    simp only [List.length_cons]; omega

/-- one more tie -/
theorem reach_more {tk : List Tie} {t : Tie} {x y : Int} : Reach (tk ++ [t]) x y ↔ Reach tk x y ∨ (Reach tk x t.2.2.1 ∧ Reach tk t.2.2.2 y) ∨ (Reach tk x t.2.2.2 ∧ Reach tk t.2.2.1 y) := by
  constructor
  · intro h
    induction h with
    | refl => exact .inl .refl
    | step _ s ih =>
      obtain ⟨u, hu, hs⟩ := s
      rcases List.mem_append.mp hu with hu | hu
      · have st : Step tk _ _ := ⟨u, hu, hs⟩
        rcases ih with q | ⟨q1, q2⟩ | ⟨q1, q2⟩
        · exact .inl (.step q st)
        · exact .inr (.inl ⟨q1, .step q2 st⟩)
        · exact .inr (.inr ⟨q1, .step q2 st⟩)
      · rw [List.mem_singleton.mp hu] at hs
        rcases hs with ⟨rfl, rfl⟩ | ⟨rfl, rfl⟩
        · rcases ih with q | ⟨q1, q2⟩ | ⟨q1, q2⟩
          · exact .inr (.inl ⟨q, .refl⟩)
          · exact .inr (.inl ⟨q1, .refl⟩)
          · exact .inl q1
        · rcases ih with q | ⟨q1, q2⟩ | ⟨q1, q2⟩
          · exact .inr (.inr ⟨q, .refl⟩)
          · exact .inl q1
          · exact .inr (.inr ⟨q1, .refl⟩)
  · have hm : ∀ u ∈ tk, u ∈ tk ++ [t] := fun u hu => List.mem_append_left _ hu
    have ht : t ∈ tk ++ [t] := by simp
    rintro (q | ⟨q1, q2⟩ | ⟨q1, q2⟩)
    · exact q.mono hm
    · exact ((q1.mono hm).trans (Reach.one ⟨t, ht, .inl ⟨rfl, rfl⟩⟩)).trans (q2.mono hm)
    · exact ((q1.mono hm).trans (Reach.one ⟨t, ht, .inr ⟨rfl, rfl⟩⟩)).trans (q2.mono hm)

def without (tk : List Tie) (t : Tie) : List Tie := tk.filter fun o => decide (o ≠ t)
theorem mem_without {tk : List Tie} {t o : Tie} : o ∈ without tk t ↔ o ∈ tk ∧ o ≠ t := by simp [without, List.mem_filter]
theorem without_none {tk : List Tie} {t : Tie} (h : t ∉ tk) : without (tk ++ [t]) t = tk := by
  unfold without
  rw [List.filter_append, List.filter_eq_self.mpr fun o ho => decide_eq_true (p := o ≠ t) fun e => h (e ▸ ho)]
  simp
theorem without_one {tk : List Tie} {t o : Tie} (h : t ≠ o) : without (tk ++ [t]) o = without tk o ++ [t] := by
  unfold without
  rw [List.filter_append]; simp [h]

def upTo (tk : List Tie) (t : Tie) : List Tie := tk.filter fun o => !tlt t o
theorem mem_upTo {tk : List Tie} {t o : Tie} : o ∈ upTo tk t ↔ o ∈ tk ∧ tle o t := by simp [upTo, List.mem_filter]

/-- what the gathering has taken so far -/
structure Forest (tk os : List Tie) : Prop where
  sub : ∀ t ∈ tk, t ∈ os
  nd : tk.Nodup
  cut : ∀ t ∈ tk, ¬ Reach (without tk t) t.2.2.1 t.2.2.2
  span : ∀ t ∈ os, Reach (upTo tk t) t.2.2.1 t.2.2.2
theorem Forest.nil : Forest [] [] := ⟨(fun _ h => nomatch h), List.nodup_nil, (fun _ h => nomatch h), (fun _ h => nomatch h)⟩
theorem Forest.take {tk os : List Tie} {t : Tie} (h : Forest tk os) (hr : ∀ o ∈ os, tle o t) (hn : t ∉ os) (hc : ¬ Reach tk t.2.2.1 t.2.2.2) : Forest (tk ++ [t]) (os ++ [t]) := by
  have hnt : t ∉ tk := fun q => hn (h.sub t q)
  refine ⟨fun o ho => ?_, List.nodup_append.mpr ⟨h.nd, by simp, fun a ha b hb e => ?_⟩, fun o ho => ?_, fun o ho => ?_⟩
  · rcases List.mem_append.mp ho with ho | ho
    · exact List.mem_append_left _ (h.sub o ho)
    · exact List.mem_append_right _ ho
  · rw [List.mem_singleton.mp hb] at e; subst e; exact hnt ha
  · rcases List.mem_append.mp ho with ho | ho
    · have hne : t ≠ o := fun e => hnt (e ▸ ho)
      rw [without_one hne, reach_more]
      have up : ∀ {x y : Int}, Reach (without tk o) x y → Reach tk x y := fun q => q.mono fun u hu => (mem_without.mp hu).1
      have st : Reach tk o.2.2.1 o.2.2.2 := Reach.one ⟨o, ho, .inl ⟨rfl, rfl⟩⟩
      rintro (q | ⟨q1, q2⟩ | ⟨q1, q2⟩)
      · exact h.cut o ho q
      · exact hc (((up q1).symm.trans st).trans (up q2).symm)
      · exact hc (((up q2).trans st.symm).trans (up q1))
    · rw [List.mem_singleton.mp ho, without_none hnt]; exact hc
  · rcases List.mem_append.mp ho with ho | ho
    · refine (h.span o ho).mono fun u hu => ?_
      rw [mem_upTo] at hu ⊢
      exact ⟨List.mem_append_left _ hu.1, hu.2⟩
    · rw [List.mem_singleton.mp ho]
      exact Reach.one ⟨t, mem_upTo.mpr ⟨by simp, tle_refl t⟩, .inl ⟨rfl, rfl⟩⟩
theorem Forest.pass {tk os : List Tie} {t : Tie} (h : Forest tk os) (hr : ∀ o ∈ os, tle o t) (hc : Reach tk t.2.2.1 t.2.2.2) : Forest tk (os ++ [t]) := by
  refine ⟨fun o ho => List.mem_append_left _ (h.sub o ho), h.nd, h.cut, fun o ho => ?_⟩
  rcases List.mem_append.mp ho with ho | ho
  · exact h.span o ho
  · rw [List.mem_singleton.mp ho]
    exact hc.mono fun u hu => mem_upTo.mpr ⟨hu, hr u (h.sub u hu)⟩

theorem crosses_iff {ns : List Int} {S : Int → Prop} (h : ∀ x, x ∈ ns ↔ S x) (o : Tie) : (decide (o.2.2.1 ∈ ns) != decide (o.2.2.2 ∈ ns)) = true ↔ ¬ (S o.2.2.1 ↔ S o.2.2.2) := by
  rw [← h, ← h]
  by_cases h1 : o.2.2.1 ∈ ns <;> by_cases h2 : o.2.2.2 ∈ ns <;> simp [h1, h2]

theorem Forest.least {tk ts : List Tie} (h : Forest tk ts) : ∀ tie ∈ tk, ∀ ns : List Int, (∀ x, x ∈ ns ↔ Reach (without tk tie) tie.2.2.1 x) →
    (decide (tie.2.2.1 ∈ ns) != decide (tie.2.2.2 ∈ ns)) = true ∧ ∀ o ∈ ts, (decide (o.2.2.1 ∈ ns) != decide (o.2.2.2 ∈ ns)) = true → tlt o tie = false := by
  intro tie ht ns hns
  refine ⟨(crosses_iff hns tie).mpr fun q => h.cut tie ht (q.mp .refl), fun o ho hc => ?_⟩
  cases hlt : tlt o tie with
  | false => rfl
  | true =>
    exfalso
    refine (crosses_iff hns o).mp hc ?_
    have hr : Reach (without tk tie) o.2.2.1 o.2.2.2 := (h.span o ho).mono fun u hu => by
      rw [mem_upTo] at hu
      refine mem_without.mpr ⟨hu.1, fun e => ?_⟩
      rw [e] at hu
      have := hu.2
      unfold tle at this
      rw [hlt] at this; cases this
    exact ⟨fun q => q.trans hr, fun q => q.trans hr.symm⟩

theorem Way.split {tree tk : List Tie} {b x : Int} {wy : List Tie} {o : Tie} (h : Way tree b x wy) (hn : wy.Nodup) (ho : o ∈ wy) (hs : ∀ t ∈ wy, t ≠ o → t ∈ tk) :
    (Reach tk b o.2.2.1 ∧ Reach tk o.2.2.2 x) ∨ (Reach tk b o.2.2.2 ∧ Reach tk o.2.2.1 x) := by
  induction h with
  | nil => cases ho
  | snoc hw hm hj ih =>
    rename_i x y wy t
    obtain ⟨n1, _, n3⟩ := List.nodup_append.mp hn
    by_cases e : t = o
    · subst e
      have hr : Reach tk b x := hw.reach.mono fun u hu => hs u (List.mem_append_left _ hu) fun e => n3 u hu t (by simp) e
      rcases hj with ⟨rfl, rfl⟩ | ⟨rfl, rfl⟩
      · exact .inl ⟨hr, .refl⟩
      · exact .inr ⟨hr, .refl⟩
    · have ho' : o ∈ wy := by
        rcases List.mem_append.mp ho with q | q
        · exact q
        · exact absurd (List.mem_singleton.mp q).symm e
      have st : Step tk x y := ⟨t, hs t (by simp) e, hj⟩
      rcases ih n1 ho' fun u hu => hs u (List.mem_append_left _ hu) with ⟨q1, q2⟩ | ⟨q1, q2⟩
      · exact .inl ⟨q1, .step q2 st⟩
      · exact .inr ⟨q1, .step q2 st⟩

theorem Forest.most {tk ts : List Tie} (h : Forest tk ts) : ∀ tie ∈ ts, tie ∉ tk → Reach tk tie.2.2.1 tie.2.2.2 ∧ ∀ wy, Way tk tie.2.2.1 tie.2.2.2 wy → wy.Nodup → wy.length ≤ tk.length ∧ ∀ o ∈ wy, tlt tie o = false := by
  intro tie ht hnt
  refine ⟨(h.span tie ht).mono fun u hu => (mem_upTo.mp hu).1, fun wy hw hn => ⟨nodup_len hn hw.sub, fun o ho => ?_⟩⟩
  cases hlt : tlt tie o with
  | false => rfl
  | true =>
    exfalso
    have hok := hw.sub o ho
    have hr : Reach (without tk o) tie.2.2.1 tie.2.2.2 := (h.span tie ht).mono fun u hu => by
      rw [mem_upTo] at hu
      refine mem_without.mpr ⟨hu.1, fun e => ?_⟩
      rw [e] at hu
      have := hu.2
      unfold tle at this
      rw [hlt] at this; cases this
    rcases hw.split (tk := without tk o) hn ho fun t ht' hne => mem_without.mpr ⟨hw.sub t ht', hne⟩ with ⟨q1, q2⟩ | ⟨q1, q2⟩
    · exact h.cut o hok ((q1.symm.trans hr).trans q2.symm)
    · exact h.cut o hok ((q2.trans hr.symm).trans q1)

/-- the whole state of the gathering -/
structure Krus (ts hs : List Tie) (ps : List Int) (tk os : List Tie) : Prop where
  perm : (os ++ hs).Perm ts
  heap : Hp 0 hs
  rise : ∀ a ∈ os, ∀ b ∈ hs, tle a b
  outs : os.Pairwise tle
  psl : ps.length = 6
  part : ∀ x y : Nat, x < 6 → y < 6 → (ps.getD x 0 = ps.getD y 0 ↔ Reach tk x y)
  fo : Forest tk os
theorem Krus.start (ts : List Tie) : Krus ts (heapify ts.reverse) [0, 1, 2, 3, 4, 5] [] [] := by
  refine ⟨by simpa using (heapify_perm ts.reverse).trans ts.reverse_perm, heapify_heap _, (fun _ h => nomatch h), List.Pairwise.nil, rfl, fun x y hx hy => ?_, .nil⟩
  have nr : ∀ {x y : Int}, Reach [] x y → x = y := fun h => by
    induction h with
    | refl => rfl
    | step _ s _ => obtain ⟨_, h, _⟩ := s; cases h
  constructor
  · intro h
    have : x = y := by
      match x, y, hx, hy with
      | 0, 0, _, _ | 1, 1, _, _ | 2, 2, _, _ | 3, 3, _, _ | 4, 4, _, _ | 5, 5, _, _ => rfl
      | 0, 1, _, _ | 0, 2, _, _ | 0, 3, _, _ | 0, 4, _, _ | 0, 5, _, _ => simp at h
      | 1, 0, _, _ | 1, 2, _, _ | 1, 3, _, _ | 1, 4, _, _ | 1, 5, _, _ => simp at h
      | 2, 0, _, _ | 2, 1, _, _ | 2, 3, _, _ | 2, 4, _, _ | 2, 5, _, _ => simp at h
      | 3, 0, _, _ | 3, 1, _, _ | 3, 2, _, _ | 3, 4, _, _ | 3, 5, _, _ => simp at h
      | 4, 0, _, _ | 4, 1, _, _ | 4, 2, _, _ | 4, 3, _, _ | 4, 5, _, _ => simp at h
      | 5, 0, _, _ | 5, 1, _, _ | 5, 2, _, _ | 5, 3, _, _ | 5, 4, _, _ => simp at h
    subst this; exact .refl
  · intro h
    have := nr h
    have : x = y := by omega
    rw [this]

section
variable {ts hs : List Tie} {ps : List Int} {tk os : List Tie}
theorem Krus.head (h : Krus ts hs ps tk os) (hn : ts.Nodup) (hl : 0 < hs.length) : hs.getD 0 d0 ∈ hs ∧ hs.getD 0 d0 ∉ os ∧ (∀ o ∈ os, tle o (hs.getD 0 d0)) := by
  have hm : hs.getD 0 d0 ∈ hs := by rw [getD_lt hl]; exact List.getElem_mem hl
  have hnd := h.perm.nodup_iff.mpr hn
  exact ⟨hm, fun q => (List.nodup_append.mp hnd).2.2 _ q _ hm rfl, fun o ho => h.rise o ho _ hm⟩
theorem Krus.pop' (h : Krus ts hs ps tk os) (hl : 0 < hs.length) : ((os ++ [hs.getD 0 d0]) ++ heappop hs).Perm ts ∧ Hp 0 (heappop hs) ∧ (∀ a ∈ os ++ [hs.getD 0 d0], ∀ b ∈ heappop hs, tle a b) ∧ (os ++ [hs.getD 0 d0]).Pairwise tle := by
  have hp := heappop_perm hs hl
  have hsub : ∀ b ∈ heappop hs, b ∈ hs := fun b hb => hp.mem_iff.mp (.tail _ hb)
  have hm : hs.getD 0 d0 ∈ hs := hp.mem_iff.mp (.head _)
  refine ⟨?_, heappop_heap hs h.heap, fun a ha b hb => ?_, List.pairwise_append.mpr ⟨h.outs, List.pairwise_singleton .., fun a ha b hb => ?_⟩⟩
  · refine List.Perm.trans ?_ h.perm
    rw [List.append_assoc]
    exact List.Perm.append_left os hp
  · rcases List.mem_append.mp ha with ha | ha
    · exact h.rise a ha b (hsub b hb)
    · rw [List.mem_singleton.mp ha]; exact heap_least hs h.heap b (hsub b hb)
  · rw [List.mem_singleton.mp hb]; exact h.rise a ha _ hm
theorem Krus.pass (h : Krus ts hs ps tk os) (hn : ts.Nodup) (hl : 0 < hs.length) (hc : Reach tk (hs.getD 0 d0).2.2.1 (hs.getD 0 d0).2.2.2) : Krus ts (heappop hs) ps tk (os ++ [hs.getD 0 d0]) := by
  obtain ⟨a1, a2, a3, a4⟩ := h.pop' hl
  exact ⟨a1, a2, a3, a4, h.psl, h.part, h.fo.pass (h.head hn hl).2.2 hc⟩
theorem Krus.take (h : Krus ts hs ps tk os) (hn : ts.Nodup) (hl : 0 < hs.length) {u v : Nat} (hu : u < 6) (hv : v < 6) (e1 : (hs.getD 0 d0).2.2.1 = u) (e2 : (hs.getD 0 d0).2.2.2 = v) (hc : ps.getD u 0 ≠ ps.getD v 0) :
    Krus ts (heappop hs) (ps.map fun p => if p = ps.getD v 0 then ps.getD u 0 else p) (tk ++ [hs.getD 0 d0]) (os ++ [hs.getD 0 d0]) := by
  obtain ⟨a1, a2, a3, a4⟩ := h.pop' hl
  have hnr : ¬ Reach tk u v := fun q => hc ((h.part u v hu hv).mpr q)
  refine ⟨a1, a2, a3, a4, by rw [List.length_map]; exact h.psl, fun x y hx hy => ?_, h.fo.take (h.head hn hl).2.2 (h.head hn hl).2.1 (by rw [e1, e2]; exact hnr)⟩
  have gm : ∀ z : Nat, z < 6 → (ps.map fun p => if p = ps.getD v 0 then ps.getD u 0 else p).getD z 0 = if ps.getD z 0 = ps.getD v 0 then ps.getD u 0 else ps.getD z 0 := fun z hz => by
    have hz' : z < ps.length := by rw [h.psl]; exact hz
    simp [hz']
  rw [gm x hx, gm y hy, reach_more, e1, e2]
  have pxv := h.part x v hx hv
  have pyv := h.part y v hy hv
  have pxu := h.part x u hx hu
  have pyu := h.part y u hy hu
  have pxy := h.part x y hx hy
  by_cases hxv : ps.getD x 0 = ps.getD v 0
  · rw [if_pos hxv]
    by_cases hyv : ps.getD y 0 = ps.getD v 0
    · rw [if_pos hyv]
      exact ⟨fun _ => .inl (pxy.mp (hxv.trans hyv.symm)), fun _ => rfl⟩
    · rw [if_neg hyv]
      constructor
      · intro e; exact .inr (.inr ⟨pxv.mp hxv, (pyu.mp e.symm).symm⟩)
      · rintro (q | ⟨q1, q2⟩ | ⟨q1, q2⟩)
        · exact absurd ((pxy.mpr q).symm.trans hxv) hyv
        · exact absurd (pyv.mpr q2.symm) hyv
        · exact (pyu.mpr q2.symm).symm
  · rw [if_neg hxv]
    by_cases hyv : ps.getD y 0 = ps.getD v 0
    · rw [if_pos hyv]
      constructor
      · intro e; exact .inr (.inl ⟨pxu.mp e, (pyv.mp hyv).symm⟩)
      · rintro (q | ⟨q1, q2⟩ | ⟨q1, q2⟩)
        · exact absurd ((pxy.mpr q).trans hyv) hxv
        · exact pxu.mpr q1
        · exact absurd (pxv.mpr q1) hxv
    · rw [if_neg hyv]
      constructor
      · intro e; exact .inl (pxy.mp e)
      · rintro (q | ⟨q1, q2⟩ | ⟨q1, q2⟩)
        · exact pxy.mpr q
        · exact absurd (pyv.mpr q2.symm) hyv
        · exact absurd (pxv.mpr q1) hxv
end
end
section
set_option maxHeartbeats 8000000
section
variable {prog : Program} {w : World} {A : Around} {E : Value → Shared → Prop} {σ s : Shared} {k Wh g : Heap} {L : Addr} {m mg : Str → Option Value} {l : Led} {env : Env}

theorem rev2 {α β : Type} {R : α → β → Prop} {l : List α} {r : List β} (h : All2 R l r) : All2 R l.reverse r.reverse := by
  induction h with
  | nil => exact .nil
  | cons x _ ih => rw [List.reverse_cons, List.reverse_cons]; exact ih.snoc x

theorem g_none {a : Addr} (hg : g.StaysIn k) (h : k.get? a = none) : g.get? a = none := by
  cases q : g.get? a with
  | none => rfl
  | some o => rw [hg _ _ q] at h; cases h
theorem c_neTiesNil {a b : Addr} {vs : List Value} {ts : List Tie} {Q : Value → Shared → Prop} (hg : g.StaysIn s.heap) (ha : s.heap.PlainList a vs.toArray) (hv : Ties g vs ts) (hb : s.heap.PlainList b (List.toArray ([] : List Value))) (hA : A.units + 64 < cLine) (h : Q (.bool (!ts.isEmpty)) s) :
    wpAny (model prog w) A (compareOp .NotEq (.ref a) (.ref b)) Q E s := by
  have hl := hv.length
  refine c_neNil (vs := vs) (d := ts.map tieD) (reads_ties ha (tiesKeep hv hg)) (can_ties ts) (Nat.le_trans (depth_ties ts) (by decide)) (by simp [hl]) hb hA ?_
  have : vs.isEmpty = ts.isEmpty := by cases vs <;> cases ts <;> simp_all
  rw [this]; exact h
theorem ints_map {vs ys : List Value} {is : List Int} {f : Int → Int} (hi : IntsAre vs is) (hp : Paired (fun v y => ∃ i t t', v = Value.int i t ∧ y = Value.int (f i) t') (vs.filter fun _ => true) ys) : IntsAre ys (is.map f) := by
  have e : (vs.filter fun _ => true) = vs := List.filter_eq_self.mpr fun _ _ => rfl
  rw [e] at hp
  clear e
  induction hi generalizing ys with
  | nil => cases hp; exact .nil
  | cons n t _ ih =>
    cases hp with
    | cons h1 h2 =>
      obtain ⟨i, t', t2, e, rfl⟩ := h1
      cases e
      exact .cons _ _ (ih h2)

inductive IGath (s : Shared) (g : Heap) (L hp0 ta oa : Addr) (ts : List Tie) (n : Nat) (s' : Shared) : Prop
  | mk (m' : Str → Option Value) (hs : List Tie) (uh : List Value) (ps : List Int) (up : List Value) (tk : List Tie) (ut : List Value) (os : List Tie) (uo : List Value) (o1 : Option Value) (o2 : Option Value) (pa : Addr)
    (f1 : Fx s s.heap L s' m' [(pa, .list up), (oa, .list uo), (ta, .list ut), (hp0, .list uh), (L + 2, .cell o2), (L + 1, .cell o1)])
    (f2 : n = hs.length)
    (f3 : Krus ts hs ps tk os)
    (f4 : Ties g uh hs)
    (f5 : Ties g ut tk)
    (f6 : Ties g uo os)
    (f7 : IntsAre up ps)
    (f8 : m' "heap" = some (.ref hp0))
    (f9 : m' "part_of" = some (.ref pa))
    (f10 : m' "taken" = some (.ref ta))
    (f11 : m' "out" = some (.ref oa))
theorem C_gath (Wd : Wld Wh mg allDefs bltNames) {f a : Addr} {vs : List Value} {ts : List Tie} {Q : Value → Shared → Prop} (hf : IsFn Wh dGath f) (hW : Wh.StaysIn s.heap) (hA : AOk 5 A)
    (hg : g.StaysIn s.heap) (hWg : Wh.StaysIn g) (ha : s.heap.PlainList a vs.toArray) (hx : Ties g vs ts) (hw : Web ts) (hn : ts.Nodup) (hz : ts.length ≤ 1000)
    (h : ∀ q r1 r2 us1 us2 tk os ps s', More s s' → s'.heap.IsTuple q #[.ref r1, .ref r2] → s.heap.get? r1 = none → s.heap.get? r2 = none → s'.heap.PlainList r1 (List.toArray us1) → s'.heap.PlainList r2 (List.toArray us2) → Ties g us1 tk → Ties g us2 os → Krus ts [] ps tk os → Q (.ref q) s') :
    wpAny (model prog w) A (call (.ref f) [.ref a]) Q NoE s := by
  refine enter' (σ := s) (k := s.heap) (l := []) [("ties", .ref a)] (setm (fun _ => none) "ties" (.ref a)) (fun L => [(L + 2, .cell none), (L + 1, .cell none)])
    Wd hf hW (by have := hA.depth; omega) (fun _ _ e => e) (fun _ hp => nomatch hp) (by simp) ⟨rfl, rfl, rfl⟩ ?_
  intro cd L s₁ hkL F
  refine o_body fun Rb hRb => ?_
  have hWk : Wh.StaysIn s.heap := hW
  have hxl := hx.length
  simp only [List.append_nil] at F
  refine x_tup ?_
  (repeat' walk_at "ir")
  refine r_listSlice (by assumption) (by walk_at "in") (by walk_at "ls") (by omega) .none .none (.int _ _) (by decide) ?_
  intro hp0 _ F₁ hh0
  rw [show (slicePick vs.toArray none none (some (-1))).toList = vs.reverse from by rw [W.krv_pick]] at F₁
  (repeat' walk_at "ir")
  refine r_listRange (n := 6) hA.handled (by assumption) hkL (by walk_at "in") (by decide) ?_
  intro pa ps0 _ F₂ hpa hps0
  (repeat' walk_at "ir")
  intro ta _ _ hta
  (repeat' walk_at "ir")
  intro oa _ _ hoa
  (repeat' walk_at "ir")
  intro tu _ F₃ _
  refine as_tup hA.handled F₃ (tupIs F₃ (by walk_at "in")) ?_
  intro _ _
  (repeat' walk_at "ir")
  rename Fx _ _ _ _ _ _ => F₄
  have hu5 : (A.deeper (envD dGath L f cd)).units + 64 < cLine := by have := hA.units; show A.units + 3 + 64 < cLine; omega
  have hgh : g.get? hp0 = none := g_none hg (F₄.led (hp0, _) (by walk_at "in")).2.2
  have F₅ : Fx s s.heap L _ _ [(oa, .list []), (ta, .list []), (pa, .list ps0), (hp0, .list vs.reverse), (L + 2, .cell none), (L + 1, .cell none)] := Fx.pick F₄ (by walk_at "sb")
  clear F₄ F₃ F₂ F₁ F
  refine ⟨by walk_at "kp", fun a' ha' => ?_⟩
  refine C_heapify (g := g) Wd ha' (by walk_at "kp") (hA.deeper.less (by decide)) (by walk_at "kp") hgh hWg (F₅.list (by walk_at "in")) (rev2 hx) (by simp; omega) ?_
  intro s₆ uh0 M₆ hpl6 hx6
  have F₆ : Fx s s.heap L s₆ _ [(oa, .list []), (ta, .list []), (pa, .list ps0), (hp0, .list uh0), (L + 2, .cell none), (L + 1, .cell none)] := Fx.upd (c' := .list uh0) F₅ (by walk_at "up") M₆ hpl6
  (repeat' walk_at "ir")
  refine c_isNotNone (b := true) rfl rfl ?_
  (repeat' walk_at "ir")
  refine if_f ?_
  (repeat' walk_at "ir")
  have F₆' : Fx s s.heap L s₆ _ [(pa, .list ps0), (oa, .list []), (ta, .list []), (hp0, .list uh0), (L + 2, .cell none), (L + 1, .cell none)] := F₆.sub (fun p hp => by
    simp only [List.mem_cons, List.not_mem_nil, or_false] at hp ⊢; grind) (by have := F₆.nd; simp at this ⊢; grind)
  refine x_while (IGath s g L hp0 ta oa ts) (heapify ts.reverse).length
    ⟨_, _, uh0, _, ps0, [], [], [], [], _, _, pa, F₆', rfl, Krus.start ts, hx6, .nil, .nil, hps0, by walk_at "lk", by walk_at "lk", by walk_at "lk", by walk_at "lk"⟩ ?_
  clear hx6 M₆ hpl6 F₆' F₆ F₅
  rintro n s' HJ
  refine o_while fun Rw Kw hRw hKw => ?_
  obtain ⟨m', hs, uh, ps, up, tk, ut, os, uo, o1, o2, pa, F₃, rfl, hk, hh, ht, ho, hi, m1, m2, m3, m4⟩ := HJ
  have hlen := hk.perm.length_eq
  rw [List.length_append] at hlen
  have hhl := hh.length
  have hol := ho.length
  have htl := ht.length
  have htk : tk.length ≤ os.length := nodup_len hk.fo.nd hk.fo.sub
  have hpl := ints_len hi
  have hp6 := hk.psl
  (repeat' walk_at "ir")
  intro nl _ _ _
  (repeat' walk_at "ir")
  rename Fx _ _ _ _ _ _ => F₄
  refine c_neTiesNil (F₄.kept hg) (by walk_at "ls") hh (by walk_at "ls") hu5 ?_
  (repeat' walk_at "ir")
  refine if_bool (fun hc => ?_) fun hc => ?_
  · have hpos : 0 < hs.length := by cases hs <;> simp_all
    obtain ⟨hin, _, _⟩ := hk.head hn hpos
    have htm : hs.getD 0 d0 ∈ ts := hk.perm.mem_iff.mp (List.mem_append_right _ hin)
    have hlo := hw.lo _ htm
    have hhi := hw.hi _ htm
    (repeat' walk_at "ir")
    refine ⟨by walk_at "kp", fun a' ha' => ?_⟩
    refine C_pop (g := g) Wd ha' (by walk_at "kp") (hA.deeper.less (by decide)) (by walk_at "kp") hgh hWg (by walk_at "ls") hh hpos (by omega) ?_
    intro v s₅ uh' M₅ hpl5 hvt hh'
    have F₅ : Fx s s.heap L s₅ _ [(pa, .list up), (oa, .list uo), (ta, .list ut), (hp0, .list uh'), (L + 2, .cell o2), (L + 1, .cell o1)] := Fx.upd (c' := .list uh') (Fx.pick (l' := [(pa, .list up), (oa, .list uo), (ta, .list ut), (hp0, .list uh), (L + 2, .cell o2), (L + 1, .cell o1)]) F₄ (by walk_at "sb")) (by walk_at "up") M₅ hpl5
    (repeat' walk_at "ir")
    refine x_tup ?_
    (repeat' walk_at "ir")
    refine r_tie2 (hvt.keeps (Fx.kept (by assumption) hg)) ?_
    intro _
    obtain ⟨p1, hp1⟩ : ∃ p, ps[(hs.getD 0 d0).2.2.1.toNat]? = some p := ⟨ps[(hs.getD 0 d0).2.2.1.toNat]'(by omega), by rw [List.getElem?_eq_getElem]⟩
    obtain ⟨p2, hp2⟩ : ∃ p, ps[(hs.getD 0 d0).2.2.2.toNat]? = some p := ⟨ps[(hs.getD 0 d0).2.2.2.toNat]'(by omega), by rw [List.getElem?_eq_getElem]⟩
    obtain ⟨q1, hq1⟩ := ints_get hi hp1
    obtain ⟨q2, hq2⟩ := ints_get hi hp2
    refine r_itemN (by assumption) (by walk_at "in") (by omega) hq1 (by omega) ?_
    (repeat' walk_at "ir")
    refine r_tie3 (hvt.keeps (Fx.kept (by assumption) hg)) ?_
    intro _
    refine r_itemN (by assumption) (by walk_at "in") (by omega) hq2 (by omega) ?_
    (repeat' walk_at "ir")
    intro tq _ F₆ _
    refine as_tup hA.handled F₆ (tupIs F₆ (by walk_at "in")) ?_
    intro _ _
    (repeat' walk_at "ir")
    have g1 : ps.getD (hs.getD 0 d0).2.2.1.toNat 0 = p1 := by rw [List.getD_eq_getElem?_getD, hp1]; rfl
    have g2 : ps.getD (hs.getD 0 d0).2.2.2.toNat 0 = p2 := by rw [List.getD_eq_getElem?_getD, hp2]; rfl
    have hlt : (heappop hs).length < hs.length := by rw [heappop_length]; omega
    refine if_bool (fun hne => ?_) fun hne => ?_
    · have hne : p1 ≠ p2 := by simpa using hne
      (repeat' walk_at "ir")
      rename Fx _ _ _ _ _ _ => F₇
      refine x_compL (fun _ => true) (fun v y => ∃ i t t', v = Value.int i t ∧ y = Value.int (if i = p2 then p1 else i) t') [("other", L + 2), ("one", L + 1)] hA.handled ?_
      (repeat' walk_at "ir")
      refine ⟨by omega, ⟨fun C v s₄ m₄ hv kk₄ F₈ hm => test_none (p := fun _ => true) (v := v) rfl, fun C v s₄ m₄ hv _ kk₄ F₈ hm => ?_⟩, s, s.heap, _, _, F₇, hkL, fun s₈ D ys hD F₈ hp => ?_⟩
      · obtain ⟨i, t, rfl⟩ := ints_mem hi hv
        have hc1 := Heap.IsCell.keeps (Fx.cellL (a := L + 1) F₇ (by walk_at "in")) kk₄
        have hc2 := Heap.IsCell.keeps (Fx.cellL (a := L + 2) F₇ (by walk_at "in")) kk₄
        (repeat' walk_at "ir")
        refine if_bool (fun hi2 => ?_) fun hi2 => ?_
        · have hi2 : i = p2 := by simpa using hi2
          (repeat' walk_at "ir")
          exact ⟨⟨i, t, _, rfl, by rw [if_pos hi2]⟩, Fx.toMore (by assumption)⟩
        · have hi2 : i ≠ p2 := by simpa using hi2
          (repeat' walk_at "ir")
          exact ⟨⟨i, t, _, rfl, by rw [if_neg hi2]⟩, Fx.toMore (by assumption)⟩
      · (repeat' walk_at "ir")
        have hip := ints_map (f := fun i => if i = p2 then p1 else i) hi hp
        have hkt := hk.take hn hpos (u := (hs.getD 0 d0).2.2.1.toNat) (v := (hs.getD 0 d0).2.2.2.toNat) (by omega) (by omega) (by omega) (by omega) (by rw [g1, g2]; exact hne)
        rw [g1, g2] at hkt
        exact ⟨(heappop hs).length, hlt, _, heappop hs, uh', _, ys, tk ++ [hs.getD 0 d0], ut ++ [v], os ++ [hs.getD 0 d0], uo ++ [v], _, _, D, Fx.pick (l' := [(D, .list ys), (oa, .list _), (ta, .list _), (hp0, .list _), (L + 2, .cell _), (L + 1, .cell _)]) F₈ (by walk_at "sb"), rfl,
          hkt, hh', ht.snoc hvt, ho.snoc hvt, hip, by walk_at "lk", by walk_at "lk", by walk_at "lk", by walk_at "lk"⟩
    · have hne : p1 = p2 := by simpa using hne
      (repeat' walk_at "ir")
      refine ⟨(heappop hs).length, hlt, _, heappop hs, uh', ps, up, tk, ut, os ++ [hs.getD 0 d0], uo ++ [v], _, _, pa, Fx.pick (l' := [(pa, .list up), (oa, .list _), (ta, .list _), (hp0, .list _), (L + 2, .cell _), (L + 1, .cell _)]) (by assumption) (by walk_at "sb"), rfl,
        hk.pass hn hpos ?_, hh', ht, ho.snoc hvt, hi, by walk_at "lk", by walk_at "lk", by walk_at "lk", by walk_at "lk"⟩
      have := (hk.part (hs.getD 0 d0).2.2.1.toNat (hs.getD 0 d0).2.2.2.toNat (by omega) (by omega)).mp (by rw [g1, g2]; exact hne)
      rwa [show (((hs.getD 0 d0).2.2.1.toNat : Nat) : Int) = (hs.getD 0 d0).2.2.1 by omega, show (((hs.getD 0 d0).2.2.2.toNat : Nat) : Int) = (hs.getD 0 d0).2.2.2 by omega] at this
  · have e : hs = [] := by simpa using hc
    subst e
    (repeat' walk_at "ir")
    intro tq _ F₆ _
    have e1 := (F₆.led (ta, .list ut) (by walk_at "in")).2.2
    have e2 := (F₆.led (oa, .list uo) (by walk_at "in")).2.2
    have e3 := F₆.list (a := ta) (vs := ut) (by walk_at "in")
    have e4 := F₆.list (a := oa) (vs := uo) (by walk_at "in")
    refine Opq.fin (by assumption) ?_
    exact h tq ta oa ut uo tk os ps _ ⟨F₆.keep, F₆.rest⟩ (tupIs F₆ (.head _)) e1 e2 e3 e4 ht ho hk
end
end
section
section
variable {prog : Program} {w : World} {A : Around} {E : Value → Shared → Prop} {σ s : Shared} {k Wh g : Heap} {L : Addr} {m mg : Str → Option Value} {l : Led} {env : Env} {rest : List Stmt}

theorem x_compT {elt iter : Expr} {x y : Str} {px py : Pos} {ifs : List Expr} {scope : Scope} {pos sp : Pos} {Q : Flow → Shared → Prop} (p : Value → Bool) (R : Value → Value → Prop) (cl : List (Str × Addr)) (hh : A.handled = none)
    (h : wpAny (model prog w) A (eval iter env) (fun xv s₁ => ∃ (a : Addr) (vs : List Value), xv = .ref a ∧ s₁.heap.IsTuple a vs.toArray ∧ vs.length ≤ 100000 ∧ CompIn prog w A env scope cl x ifs elt (fun v => v ∈ vs) p R s₁ ∧
      ∃ σ k m l, Fx σ k env.locals s₁ m l ∧ k.get? env.locals = none ∧ ∀ s' D ys, s₁.heap.get? D = none → Fx σ k env.locals s' (setm m y (.ref D)) ((D, .list ys) :: l) → Paired R (vs.filter p) ys → wpAny (model prog w) A (execs rest env) Q NoE s') NoE s)
    (hsw : swapsWith (.ListComp elt [⟨.Name x px, iter, ifs, 0⟩] scope pos) (some (.Name y py)) sp.line env = pure true := by rfl)
    (hclos : closureFor scope env = pure cl := by rfl) (hcell : (scope.names.all fun y => !(y.2 == .cell)) = true := by rfl) (hkind : scope.kind = .function := by rfl)
    (hnames : (scope.names.all fun y => !(y.2 == .local) || scope.names.lookup y.1 == some .local) = true := by rfl) (hx : scope.names.lookup x = some .local := by rfl)
    (hy : env.kindOf y = some .local := by rfl) (hek : env.scope.kind = .function := by rfl)
    (hs : ∀ x, foldedSetIterable iter env x = pure x := by intro _; rfl) : wpAny (model prog w) A (execs (.Assign [.Name y py] (.ListComp elt [⟨.Name x px, iter, ifs, 0⟩] scope pos) sp :: rest) env) Q NoE s := by
  refine wpAny_execs_cons (wpAny_Assign_ListComp_free p R hsw hclos (fun y hy e => by have := List.all_eq_true.mp hcell y hy; rw [e] at this; cases this) hkind
    (fun y hy e => by have := List.all_eq_true.mp hnames y hy; rw [e] at this; simpa using this) hx hy (by rw [hek]; rfl) (wpAny_mono h (fun xv s₁ h₁ => ?_) fun _ _ z => z) hs)
  obtain ⟨a, vs, rfl, hl, hz, hC, σ, k, m, l, F, hkL, hQ⟩ := h₁
  refine wpAny_pyIter_tuple hl ?_
  obtain ⟨oa, ea, hca, hda⟩ := hl
  have hLs : env.locals ≠ s₁.heap.objs.size := by obtain ⟨o, _, _, ho, _⟩ := F.ns; exact size_ne ho
  refine ⟨_, _, _, _, _, _, m, rfl, Walks.tuple hh s₁.heap.objs.size a (size_ne ea) vs.toArray, ?_, ⟨⟨_, Heap.get?_push_size _ rfl, rfl, rfl⟩, ⟨_, Heap.get?_push_of_some _ ea, hca, hda⟩⟩, ?_, by simpa using hLs, F.ns.push _, quiet hC (fun b o e => ⟨?_, Heap.get?_push_of_some _ e⟩) ?_, ?_⟩
  · rw [List.size_toArray]; exact Nat.le_trans hz (by decide +kernel)
  · intro b hb
    rw [Heap.size_push]
    simp only [List.mem_cons, List.not_mem_nil, or_false] at hb
    rcases hb with rfl | rfl
    · exact Nat.lt_succ_self _
    · exact Nat.lt_succ_of_lt (Heap.lt_size ea)
  · simpa using size_ne e
  · intro i v hv
    exact List.mem_of_getElem? (by simpa using hv)
  · intro D h' tk ys us hD _ hpl hlen hP hF hns hk
    have hus : us = vs := list_eq_of (by simpa using hlen) fun j v e => by simpa using hP j v e
    subst hus
    have hD1 : s₁.heap.get? D = none := by
      cases q : s₁.heap.get? D with
      | none => rfl
      | some o => have := Heap.get?_push_of_some { cls := .type "tuple_iterator", dict := none, data := .fields #[.ref a, .int 0 0] } q; rw [hD] at this; cases this
    have kk : ∀ b o, b ≠ env.locals → s₁.heap.get? b = some o → h'.get? b = some o := fun b o hb e => hk b o hb (by simpa using size_ne e) (Heap.get?_push_of_some _ e)
    obtain ⟨n1, n2, n3⟩ := F.fresh hD1
    refine hQ { s₁ with heap := h', toks := tk } D ys.toList hD1 ⟨hns, fun b o e => kk b o (fun q => by rw [q, hkL] at e; cases e) (F.keep b o e), fun q hq => ?_, ?_, F.rest⟩ hF
    · rcases List.mem_cons.mp hq with rfl | hq
      · refine ⟨?_, n1, n2⟩
        show h'.PlainList D ys.toList.toArray
        simpa using hpl
      · exact ⟨celOf (F.led q hq).1 fun o e => kk _ o (F.led q hq).2.1 e, (F.led q hq).2⟩
    · rw [List.map_cons]; exact List.nodup_cons.mpr ⟨n3, F.nd⟩
end
end
section
theorem tle_anti {a b : Tie} (h1 : tle a b) (h2 : tle b a) : a = b := (tlt_eq h1 h2).symm ▸ rfl
theorem Reach.cross {us : List Tie} {S : Int → Prop} {x y : Int} (h : Reach us x y) (hx : S x) (hy : ¬ S y) : ∃ e ∈ us, (S e.2.2.1 ∧ ¬ S e.2.2.2) ∨ (S e.2.2.2 ∧ ¬ S e.2.2.1) := by
  induction h with
  | refl => exact absurd hx hy
  | @step u v _ s ih =>
    by_cases hu : S u
    · obtain ⟨e, he, ⟨rfl, rfl⟩ | ⟨rfl, rfl⟩⟩ := s
      · exact ⟨e, he, .inl ⟨hu, hy⟩⟩
      · exact ⟨e, he, .inr ⟨hu, hy⟩⟩
    · exact ih hu

/-- ties with an end in rs -/
def touch (rs : List Int) (t : Tie) : Bool := decide (t.2.2.1 ∈ rs) || decide (t.2.2.2 ∈ rs)
def leadsP (z : Int) (rs : List Int) (t : Tie) : Bool := (decide (z = t.2.2.1) || decide (z = t.2.2.2)) && (decide (t.2.2.1 ∉ rs) || decide (t.2.2.2 ∉ rs))
theorem touch_iff {rs : List Int} {t : Tie} : touch rs t = true ↔ t.2.2.1 ∈ rs ∨ t.2.2.2 ∈ rs := by simp [touch]
theorem touch_more {ts : List Tie} (hw : Web ts) {rs : List Int} {z : Int} (hz : z ∉ rs) : (ts.filter (touch rs) ++ ts.filter (leadsP z (rs ++ [z]))).Perm (ts.filter (touch (rs ++ [z]))) := by
  have key : ∀ t ∈ ts, touch (rs ++ [z]) t = (touch rs t || leadsP z (rs ++ [z]) t) ∧ ¬ (touch rs t = true ∧ leadsP z (rs ++ [z]) t = true) := fun t ht => by
    have hne := hw.ne t ht
    refine ⟨?_, ?_⟩
    · rw [Bool.eq_iff_iff]
      simp only [touch, leadsP, List.mem_append, List.mem_singleton, Bool.or_eq_true, Bool.and_eq_true, decide_eq_true_eq, not_or]
      grind
    · simp only [touch, leadsP, List.mem_append, List.mem_singleton, Bool.or_eq_true, Bool.and_eq_true, decide_eq_true_eq, not_or]
      grind
  clear hw
  induction ts with
  | nil => exact List.Perm.refl _
  | cons t ts ih =>
    have ih := ih fun u hu => key u (.tail _ hu)
    obtain ⟨k1, k2⟩ := key t (.head _)
    rw [List.filter_cons, List.filter_cons, List.filter_cons, k1]
    cases h1 : touch rs t with
    | true =>
      have h2 : leadsP z (rs ++ [z]) t = false := by
        cases h : leadsP z (rs ++ [z]) t with
        | false => rfl
        | true => exact absurd ⟨h1, h⟩ k2
      simp only [h2, Bool.or_false, if_true, Bool.false_eq_true, if_false, List.cons_append]
      exact ih.cons t
    | false =>
      cases h2 : leadsP z (rs ++ [z]) t with
      | true =>
        simp only [Bool.or_true, if_true, Bool.false_eq_true, if_false]
        exact List.perm_middle.trans (ih.cons t)
      | false =>
        simp only [Bool.or_self, Bool.false_eq_true, if_false]
        exact ih

/-- one tree under growth: rs0 is what was reached before it, ms its places -/
structure Grow (ts tk : List Tie) (b : Int) (rs0 ms : List Int) (hs tr os : List Tie) : Prop where
  nd : (rs0 ++ ms).Nodup
  heap : Hp 0 hs
  perm : (os ++ hs).Perm (ts.filter (touch (rs0 ++ ms)))
  outs : ∀ t ∈ os, t.2.2.1 ∈ rs0 ++ ms ∧ t.2.2.2 ∈ rs0 ++ ms
  sub : ∀ t ∈ tr, t ∈ tk ∧ t ∈ os ∧ t.2.2.1 ∈ ms ∧ t.2.2.2 ∈ ms
  tnd : tr.Nodup
  got : ∀ x, x ∈ ms ↔ Reach tr b x
  len : tr.length + 1 = ms.length

/-- all that was reached so far is shut, its trees stand -/
structure Grown (ts tk : List Tie) (rs : List Int) (trs : List (Int × List Tie)) (os : List Tie) : Prop where
  nd : rs.Nodup
  rng : ∀ x ∈ rs, 0 ≤ x ∧ x < 6
  shut : ∀ x y, x ∈ rs → Step ts x y → y ∈ rs
  perm : os.Perm (ts.filter (touch rs))
  tree : ∀ p ∈ trs, p.1 ∈ rs ∧ (∀ t ∈ p.2, t ∈ tk) ∧ p.2.Nodup ∧ (∀ x, Reach p.2 p.1 x ↔ Reach ts p.1 x) ∧ ∀ ns : List Int, ns.Nodup → (∀ x, x ∈ ns ↔ Reach p.2 p.1 x) → p.2.length + 1 = ns.length
  apart : trs.Pairwise fun p q => ¬ Reach ts p.1 q.1
  all : ∀ x ∈ rs, ∃ p ∈ trs, Reach ts p.1 x
  home : ∀ p ∈ trs, ∀ t ∈ p.2, Reach p.2 p.1 t.2.2.1

theorem Grown.start (ts tk : List Tie) : Grown ts tk [] [] [] :=
  ⟨List.nodup_nil, (fun _ h => nomatch h), (fun _ _ h => nomatch h), by
    rw [List.filter_eq_nil_iff.mpr fun t _ => by simp [touch]], (fun _ h => nomatch h), List.Pairwise.nil, (fun _ h => nomatch h), (fun _ h => nomatch h)⟩

theorem pushes_spec (ls : List Tie) : ∀ hs : List Tie, Hp 0 hs → Hp 0 (ls.foldl heappush hs) ∧ (ls.foldl heappush hs).Perm (hs ++ ls) := by
  induction ls with
  | nil => intro hs h; exact ⟨h, by simp⟩
  | cons t ls ih =>
    intro hs h
    obtain ⟨h1, h2⟩ := ih (heappush hs t) (heappush_heap hs t h)
    refine ⟨h1, h2.trans ?_⟩
    have := (heappush_perm hs t).append_right ls
    simpa using this

section
variable {ts tk : List Tie} {b : Int} {rs0 ms : List Int} {hs tr os : List Tie} {trs : List (Int × List Tie)}

theorem Grown.begin (h : Grown ts tk rs0 trs os) (hw : Web ts) (hb : b ∉ rs0) : Grow ts tk b rs0 [b] ((ts.filter (leadsP b (rs0 ++ [b]))).foldl heappush []) [] os := by
  obtain ⟨h1, h2⟩ := pushes_spec (ts.filter (leadsP b (rs0 ++ [b]))) [] fun c _ cl => absurd cl (Nat.not_lt_zero _)
  refine ⟨List.nodup_append.mpr ⟨h.nd, by simp, fun x hx y hy e => ?_⟩, h1, ?_, fun t ht => ?_, (fun _ h => nomatch h), List.nodup_nil, fun x => ?_, rfl⟩
  · rw [List.mem_singleton.mp hy] at e; subst e; exact hb hx
  · exact ((h.perm.append (h2.trans (by simp))).trans (touch_more hw hb))
  · have hm := h.perm.mem_iff.mp ht
    rw [List.mem_filter, touch_iff] at hm
    obtain ⟨m1, m2 | m2⟩ := hm
    · exact ⟨List.mem_append_left _ m2, List.mem_append_left _ (h.shut _ _ m2 ⟨t, m1, .inl ⟨rfl, rfl⟩⟩)⟩
    · exact ⟨List.mem_append_left _ (h.shut _ _ m2 ⟨t, m1, .inr ⟨rfl, rfl⟩⟩), List.mem_append_left _ m2⟩
  · rw [List.mem_singleton]
    constructor
    · rintro rfl; exact .refl
    · intro hr
      cases hr with
      | refl => rfl
      | step _ s => obtain ⟨_, q, _⟩ := s; cases q

theorem Grow.pop' (h : Grow ts tk b rs0 ms hs tr os) (hl : 0 < hs.length) : hs.getD 0 d0 ∈ hs ∧ (os ++ [hs.getD 0 d0] ++ heappop hs).Perm (ts.filter (touch (rs0 ++ ms))) := by
  have hp := heappop_perm hs hl
  refine ⟨hp.mem_iff.mp (.head _), List.Perm.trans ?_ h.perm⟩
  rw [List.append_assoc]
  exact List.Perm.append_left os hp
theorem Grow.stale (h : Grow ts tk b rs0 ms hs tr os) (hl : 0 < hs.length) (h1 : (hs.getD 0 d0).2.2.1 ∈ rs0 ++ ms) (h2 : (hs.getD 0 d0).2.2.2 ∈ rs0 ++ ms) : Grow ts tk b rs0 ms (heappop hs) tr (os ++ [hs.getD 0 d0]) := by
  obtain ⟨_, hp⟩ := h.pop' hl
  refine ⟨h.nd, heappop_heap hs h.heap, hp, fun t ht => ?_, fun t ht => ⟨(h.sub t ht).1, List.mem_append_left _ (h.sub t ht).2.1, (h.sub t ht).2.2⟩, h.tnd, h.got, h.len⟩
  rcases List.mem_append.mp ht with ht | ht
  · exact h.outs t ht
  · rw [List.mem_singleton.mp ht]; exact ⟨h1, h2⟩
theorem Grow.take (h : Grow ts tk b rs0 ms hs tr os) (g : Grown ts tk rs0 trs os0) (hw : Web ts) (hn : ts.Nodup) (hf : Forest tk ts) (hl : 0 < hs.length) {u z : Int} (hj : ((hs.getD 0 d0).2.2.1 = u ∧ (hs.getD 0 d0).2.2.2 = z) ∨ ((hs.getD 0 d0).2.2.2 = u ∧ (hs.getD 0 d0).2.2.1 = z))
    (hu : u ∈ rs0 ++ ms) (hz : z ∉ rs0 ++ ms) :
    Grow ts tk b rs0 (ms ++ [z]) ((ts.filter (leadsP z (rs0 ++ ms ++ [z]))).foldl heappush (heappop hs)) (tr ++ [hs.getD 0 d0]) (os ++ [hs.getD 0 d0]) := by
  obtain ⟨hm, hp⟩ := h.pop' hl
  have hmt : hs.getD 0 d0 ∈ ts := (List.mem_filter.mp (h.perm.mem_iff.mp (List.mem_append_right _ hm))).1
  obtain ⟨k1, k2⟩ := pushes_spec (ts.filter (leadsP z (rs0 ++ ms ++ [z]))) (heappop hs) (heappop_heap hs h.heap)
  have hstep : Step ts u z := ⟨_, hmt, hj⟩
  have hums : u ∈ ms := by
    rcases List.mem_append.mp hu with q | q
    · exact absurd (List.mem_append_left _ (g.shut u z q hstep)) hz
    · exact q
  have hfn : (os ++ hs).Nodup := h.perm.nodup_iff.mpr (hn.filter _)
  have htk : hs.getD 0 d0 ∈ tk := by
    have hsp : Reach (upTo tk (hs.getD 0 d0)) u z := by
      have := hf.span _ hmt
      rcases hj with ⟨e1, e2⟩ | ⟨e1, e2⟩
      · rw [e1, e2] at this; exact this
      · rw [e1, e2] at this; exact this.symm
    obtain ⟨e, he, hc⟩ := hsp.cross (S := fun x => x ∈ rs0 ++ ms) hu hz
    rw [mem_upTo] at he
    have hets := hf.sub e he.1
    have htouch : e ∈ os ++ hs := h.perm.mem_iff.mpr (List.mem_filter.mpr ⟨hets, touch_iff.mpr (by
      rcases hc with ⟨q, _⟩ | ⟨q, _⟩
      · exact .inl q
      · exact .inr q)⟩)
    rcases List.mem_append.mp htouch with q | q
    · have := h.outs e q
      rcases hc with ⟨_, c⟩ | ⟨_, c⟩
      · exact absurd this.2 c
      · exact absurd this.1 c
    · have h1 := heap_least hs h.heap e q
      have : e = hs.getD 0 d0 := tle_anti he.2 h1
      exact this ▸ he.1
  have hnew : ∀ x, x ∈ ms → x ≠ z := fun x hx e => hz (e ▸ List.mem_append_right _ hx)
  refine ⟨?_, k1, ?_, fun t ht => ?_, fun t ht => ?_, ?_, fun x => ?_, by simp; have := h.len; omega⟩
  · rw [← List.append_assoc]
    refine List.nodup_append.mpr ⟨h.nd, by simp, fun x hx y hy e => ?_⟩
    rw [List.mem_singleton.mp hy] at e; subst e; exact hz hx
  · rw [← List.append_assoc rs0 ms [z]]
    refine List.Perm.trans ?_ (touch_more hw hz)
    refine ((List.Perm.append_left _ k2).trans ?_)
    rw [← List.append_assoc]
    exact hp.append_right _
  · rw [← List.append_assoc]
    rcases List.mem_append.mp ht with ht | ht
    · exact ⟨List.mem_append_left _ (h.outs t ht).1, List.mem_append_left _ (h.outs t ht).2⟩
    · rw [List.mem_singleton.mp ht]
      rcases hj with ⟨e1, e2⟩ | ⟨e1, e2⟩
      · rw [e1, e2]; exact ⟨List.mem_append_left _ hu, by simp⟩
      · rw [e1, e2]; exact ⟨by simp, List.mem_append_left _ hu⟩
  · rcases List.mem_append.mp ht with ht | ht
    · obtain ⟨a1, a2, a3, a4⟩ := h.sub t ht
      exact ⟨a1, List.mem_append_left _ a2, List.mem_append_left _ a3, List.mem_append_left _ a4⟩
    · rw [List.mem_singleton.mp ht]
      refine ⟨htk, by simp, ?_⟩
      rcases hj with ⟨e1, e2⟩ | ⟨e1, e2⟩
      · rw [e1, e2]; exact ⟨List.mem_append_left _ hums, by simp⟩
      · rw [e1, e2]; exact ⟨by simp, List.mem_append_left _ hums⟩
  · refine List.nodup_append.mpr ⟨h.tnd, by simp, fun x hx y hy e => ?_⟩
    rw [List.mem_singleton.mp hy] at e
    exact (List.nodup_append.mp hfn).2.2 x (h.sub x hx).2.1 _ hm e
  · constructor
    · intro hx
      rcases List.mem_append.mp hx with hx | hx
      · exact ((h.got x).mp hx).mono fun t ht => List.mem_append_left _ ht
      · rw [List.mem_singleton.mp hx]
        exact .step (((h.got u).mp hums).mono fun t ht => List.mem_append_left _ ht) ⟨_, by simp, hj⟩
    · intro hr
      refine hr.closed (S := fun x => x ∈ ms ++ [z]) (fun x y hx hs => ?_) (List.mem_append_left _ ((h.got b).mpr .refl))
      obtain ⟨t, ht, hh⟩ := hs
      rcases List.mem_append.mp ht with ht | ht
      · obtain ⟨_, _, a3, a4⟩ := h.sub t ht
        rcases hh with ⟨_, rfl⟩ | ⟨_, rfl⟩
        · exact List.mem_append_left _ a4
        · exact List.mem_append_left _ a3
      · rw [List.mem_singleton.mp ht] at hh
        rcases hj with ⟨e1, e2⟩ | ⟨e1, e2⟩ <;> rcases hh with ⟨_, rfl⟩ | ⟨_, rfl⟩
        · rw [e2]; simp
        · rw [e1]; exact List.mem_append_left _ hums
        · rw [e1]; exact List.mem_append_left _ hums
        · rw [e2]; simp

theorem Grow.done (h : Grow ts tk b rs0 ms [] tr os) (g : Grown ts tk rs0 trs os0) (hw : Web ts) (hf : Forest tk ts) (hb : 0 ≤ b ∧ b < 6) : Grown ts tk (rs0 ++ ms) (trs ++ [(b, tr)]) os := by
  have hp : os.Perm (ts.filter (touch (rs0 ++ ms))) := by simpa using h.perm
  have hsub : ∀ t ∈ tr, t ∈ ts := fun t ht => hf.sub t (h.sub t ht).1
  have shut : ∀ x y, x ∈ rs0 ++ ms → Step ts x y → y ∈ rs0 ++ ms := fun x y hx hs => by
    obtain ⟨t, ht, hh⟩ := hs
    have hto : t ∈ os := hp.mem_iff.mpr (List.mem_filter.mpr ⟨ht, touch_iff.mpr (by
      rcases hh with ⟨rfl, _⟩ | ⟨rfl, _⟩
      · exact .inl hx
      · exact .inr hx)⟩)
    rcases hh with ⟨_, rfl⟩ | ⟨_, rfl⟩
    · exact (h.outs t hto).2
    · exact (h.outs t hto).1
  have hap : ∀ x ∈ rs0, ∀ y ∈ ms, x ≠ y := (List.nodup_append.mp h.nd).2.2
  have shutm : ∀ x y, x ∈ ms → Step ts x y → y ∈ ms := fun x y hx hs => by
    rcases List.mem_append.mp (shut x y (List.mem_append_right _ hx) hs) with q | q
    · exact absurd rfl (hap _ (g.shut y x q hs.symm) _ hx)
    · exact q
  have hbm : b ∈ ms := (h.got b).mpr .refl
  have hiff : ∀ x, Reach tr b x ↔ Reach ts b x := fun x => ⟨fun q => q.mono hsub, fun q => (h.got x).mp (q.closed (S := fun x => x ∈ ms) (fun x y hx hs => shutm x y hx hs) hbm)⟩
  refine ⟨h.nd, fun x hx => ?_, shut, hp, fun p hpm => ?_, List.pairwise_append.mpr ⟨g.apart, List.pairwise_singleton .., fun p hp' q hq hr => ?_⟩, fun x hx => ?_, fun p hpm t ht => ?_⟩
  · rcases List.mem_append.mp hx with q | q
    · exact g.rng x q
    · exact hw.reach ((hiff x).mp ((h.got x).mp q)) hb
  · rcases List.mem_append.mp hpm with q | q
    · obtain ⟨a1, a2⟩ := g.tree p q
      exact ⟨List.mem_append_left _ a1, a2⟩
    · rw [List.mem_singleton.mp q]
      refine ⟨List.mem_append_right _ hbm, fun t ht => (h.sub t ht).1, h.tnd, hiff, fun ns hnn hns => ?_⟩
      have hpm : ns.Perm ms := (List.perm_ext_iff_of_nodup hnn (List.nodup_append.mp h.nd).2.1).mpr fun x => (hns x).trans (h.got x).symm
      show tr.length + 1 = ns.length
      rw [hpm.length_eq]; exact h.len
  · rw [List.mem_singleton.mp hq] at hr
    have := hr.closed (S := fun x => x ∈ rs0) (fun x y hx hs => g.shut x y hx hs) (g.tree p hp').1
    exact hap _ this _ hbm rfl
  · rcases List.mem_append.mp hx with q | q
    · obtain ⟨p, hp', hr⟩ := g.all x q
      exact ⟨p, List.mem_append_left _ hp', hr⟩
    · exact ⟨(b, tr), by simp, (hiff x).mp ((h.got x).mp q)⟩
  · rcases List.mem_append.mp hpm with q | q
    · exact g.home p q t ht
    · rw [List.mem_singleton.mp q] at ht ⊢
      exact (h.got _).mp (h.sub t ht).2.2.1
end
end
section
set_option maxHeartbeats 8000000
section
variable {prog : Program} {w : World} {A : Around} {E : Value → Shared → Prop} {σ s : Shared} {k Wh g : Heap} {L : Addr} {m mg : Str → Option Value} {l : Led} {env : Env}

theorem leadM_eq (ts : List Tie) (z : Int) (rs : List Int) : leadM ts z rs = ts.filter (leadsP z rs) := rfl

theorem push_loop (Wd : Wld Wh mg allDefs bltNames) {f D hp : Addr} {cd : Value} {vls uh : List Value} {ls hs : List Tie} {l₀ : Led} {rest : List Stmt} {p1 p2 p3 p4 p5 p6 : Pos} {Q : Flow → Shared → Prop} (hA : AOk 6 A) (F : Fx σ k L s m l) (hkL : k.get? L = none) (hl : s.heap.PlainList D vls.toArray) (hD : D ∉ ((hp, Cel.list uh) :: l₀).map (·.1))
    (hsub : ∀ p ∈ (hp, Cel.list uh) :: l₀, p ∈ l) (hnd : (((hp, Cel.list uh) :: l₀).map (·.1)).Nodup) (hgk : g.StaysIn k) (hWg : Wh.StaysIn g) (hgh : g.get? hp = none) (hls : Ties g vls ls) (hh : Ties g uh hs) (hz : hs.length + ls.length ≤ 900) (mh : m "heap" = some (.ref hp))
    (done : ∀ m' k' s' uh', Fx σ k' L s' m' ((hp, .list uh') :: l₀) → k.StaysIn k' → k'.get? L = none → Ties g uh' (ls.foldl heappush hs) → (∀ x, x ≠ ("late" : Str) → m' x = m x) → wpAny (model prog w) (A.deeper (envD dGrown L f cd)) (execs rest (envD dGrown L f cd)) Q NoE s') :
    wpAny (model prog w) (A.deeper (envD dGrown L f cd)) (pyIter (.ref D)) (fun it s₂ => codeAny (model prog w) (A.deeper (envD dGrown L f cd)) (.forLoop (Expr.Name "late" p1) it [Stmt.Expr (Expr.Call (Expr.Name "heappush" p2) [Expr.Name "heap" p3, Expr.Name "late" p4] [] p5) p6] [] (envD dGrown L f cd))
      (ForR prog w (A.deeper (envD dGrown L f cd)) (envD dGrown L f cd) rest Q) s₂) NoE s := by
  have hll := hls.length
  refine for_list hA.handled F hkL hl ((hp, .list uh) :: l₀) hsub hnd hD (fun _ : List Value => g)
    (fun i x m' l => l = (hp, .list x) :: l₀ ∧ Ties g x ((ls.take i).foldl heappush hs) ∧ (∀ y, y ≠ ("late" : Str) → m' y = m y)) uh hgk ⟨rfl, by simpa using hh, fun _ _ => rfl⟩ ?_ ?_
  · rintro i v k' s₃ x m₃ l₃ hv HJ kk hak hgk' hkL' F₃
    refine o_turn fun Rt hRt => ?_
    obtain ⟨rfl, hx, hm⟩ := HJ
    obtain ⟨t, ht, hvt⟩ := hls.get' hv
    have hWk' : Wh.StaysIn k' := fun _ _ e => hgk' _ _ (hWg _ _ e)
    have hlen : ((ls.take i).foldl heappush hs).length = hs.length + (ls.take i).length := by
      have go : ∀ (us : List Tie) (ys : List Tie), (us.foldl heappush ys).length = ys.length + us.length := fun us => by
        induction us with
        | nil => intro ys; rfl
        | cons u us ih => intro ys; rw [List.foldl_cons, ih, heappush_length]; simp; omega
      exact go _ _
    have hli : (ls.take i).length ≤ ls.length := by rw [List.length_take]; omega
    have mh3 : m₃ "heap" = some (.ref hp) := (hm _ (by decide)).trans mh
    (repeat' walk_at "ir")
    refine ⟨by walk_at "kp", fun a' ha' => ?_⟩
    refine C_push (g := g) Wd ha' (by walk_at "kp") (hA.deeper.less (by decide)) (by walk_at "kp") hgh hWg (by walk_at "ls") hx hvt (by omega) ?_
    intro s₄ uh' M₄ hpl4 hx4
    have F₄ := Fx.upd (c' := .list uh') (l' := (hp, .list uh') :: l₀) (by assumption) .here M₄ hpl4
    (repeat' walk_at "ir")
    refine turn_end uh' (l' := (hp, .list uh') :: l₀) (k'' := k') F₄ (fun _ _ e => e) hgk' Gr.refl hkL' ⟨rfl, ?_, fun y hy => (if_neg hy).trans (hm y hy)⟩
    obtain ⟨h9, e9⟩ := List.getElem?_eq_some_iff.mp ht
    rw [List.take_succ_eq_append_getElem h9, List.foldl_append, e9]
    exact hx4
  · rintro x m₃ l₃ k' s₃ ⟨rfl, hx, hm⟩ kk hak hgk' hkL' F₃
    rw [hll, List.take_length] at hx
    exact done m₃ k' s₃ x F₃ kk hkL' hx hm

def freshP (rs : List Int) (v : Value) : Bool := match v with
  | .int i _ => decide (i ∉ rs)
  | _ => false
theorem fresh_ints {rs : List Int} {vs ys : List Value} {is : List Int} (hi : IntsAre vs is) (hp : Paired (fun v y => y = v) (vs.filter (freshP rs)) ys) : IntsAre ys (is.filter fun i => decide (i ∉ rs)) := by
  rw [paired_id hp]
  clear hp
  induction hi with
  | nil => exact .nil
  | cons n t _ ih =>
    rw [List.filter_cons, List.filter_cons]
    show IntsAre (if decide (n ∉ rs) = true then _ else _) (if decide (n ∉ rs) = true then _ else _)
    split
    · exact .cons _ _ ih
    · exact ih
theorem fresh_cases {rs : List Int} {t : Tie} (h : t.2.2.1 ∈ rs ∨ t.2.2.2 ∈ rs) (hne : t.2.2.1 ≠ t.2.2.2) : (([t.2.2.1, t.2.2.2].filter fun i => decide (i ∉ rs)) = [] ∧ t.2.2.1 ∈ rs ∧ t.2.2.2 ∈ rs) ∨
    ∃ u z, ([t.2.2.1, t.2.2.2].filter fun i => decide (i ∉ rs)) = [z] ∧ u ∈ rs ∧ z ∉ rs ∧ ((t.2.2.1 = u ∧ t.2.2.2 = z) ∨ (t.2.2.2 = u ∧ t.2.2.1 = z)) := by
  by_cases h1 : t.2.2.1 ∈ rs
  · by_cases h2 : t.2.2.2 ∈ rs
    · left; simp [h1, h2]
    · right; exact ⟨_, _, by simp [h1, h2], h1, h2, .inl ⟨rfl, rfl⟩⟩
  · right
    have h2 := h.resolve_left h1
    exact ⟨_, _, by simp [h1, h2], h2, h1, .inr ⟨rfl, rfl⟩⟩

abbrev XG := Heap × (List Value × List Wt) × (List Value × List Tie) × (List Value × List Int)

structure JGrown (s : Shared) (g : Heap) (L a ra ta oa : Addr) (ts tk : List Tie) (ns : List Int) (i : Nat) (X : XG) (m : Str → Option Value) (l : Led) : Prop where
  f1 : l = [(oa, .list X.2.2.1.1), (ta, .list X.2.1.1), (ra, .list X.2.2.2.1), (L + 1, .cell (some (.ref ra)))]
  f2 : Gr s.heap g X.1
  f3 : All2 (WAt g X.1) X.2.1.1 X.2.1.2
  f4 : Ties g X.2.2.1.1 X.2.2.1.2
  f5 : IntsAre X.2.2.2.1 X.2.2.2.2
  f6 : Grown ts tk X.2.2.2.2 X.2.1.2 X.2.2.1.2
  f7 : (∀ x ∈ ns.take i, x ∈ X.2.2.2.2)
  f8 : X.2.1.2.length ≤ i
  f9 : m "ties" = some (.ref a)
  f10 : m "trees" = some (.ref ta)
  f11 : m "out" = some (.ref oa)
inductive IGrow (s : Shared) (g k' : Heap) (L a ra ta oa hp tr0 : Addr) (ut : List Value) (ts tk : List Tie) (bg : Int) (tb : Tok) (rs : List Int) (n : Nat) (s' : Shared) : Prop
  | mk (m' : Str → Option Value) (kk' : Heap) (uh : List Value) (hs : List Tie) (utr : List Value) (tr : List Tie) (uo2 : List Value) (os2 : List Tie) (ur2 : List Value) (ms : List Int)
    (f1 : Fx s kk' L s' m' [(hp, .list uh), (tr0, .list utr), (oa, .list uo2), (ta, .list ut), (ra, .list ur2), (L + 1, .cell (some (.ref ra)))])
    (f2 : k'.StaysIn kk')
    (f3 : kk'.get? L = none)
    (f4 : n = ts.length - os2.length)
    (f5 : Grow ts tk bg rs ms hs tr os2)
    (f6 : Ties g uh hs)
    (f7 : Ties g utr tr)
    (f8 : Ties g uo2 os2)
    (f9 : IntsAre ur2 (rs ++ ms))
    (f10 : m' "heap" = some (.ref hp))
    (f11 : m' "tree" = some (.ref tr0))
    (f12 : m' "ties" = some (.ref a))
    (f13 : m' "trees" = some (.ref ta))
    (f14 : m' "out" = some (.ref oa))
    (f15 : m' "begin" = some (.int bg tb))
theorem C_grown (Wd : Wld Wh mg allDefs bltNames) {f a b : Addr} {vs us : List Value} {ts tk : List Tie} {ns : List Int} {Q : Value → Shared → Prop} (hf : IsFn Wh dGrown f) (hW : Wh.StaysIn s.heap) (hA : AOk 6 A)
    (hg : g.StaysIn s.heap) (hWg : Wh.StaysIn g) (ha : s.heap.PlainList a vs.toArray) (hb : s.heap.PlainList b us.toArray) (hx : Ties g vs ts) (hu : IntsAre us ns) (hw : Web ts) (hn : ts.Nodup) (hfo : Forest tk ts) (hr : ∀ x ∈ ns, 0 ≤ x ∧ x < 6) (hz : ts.length ≤ 100) (hz2 : ns.length ≤ 100)
    (h : ∀ q r1 r2 gg ut uo trs os rs s', More s s' → s'.heap.IsTuple q #[.ref r1, .ref r2] → s.heap.get? r1 = none → s.heap.get? r2 = none → s'.heap.PlainList r1 (List.toArray ut) → s'.heap.PlainList r2 (List.toArray uo) → Gr s.heap g gg → gg.StaysIn s'.heap →
      All2 (WAt g gg) ut trs → Ties g uo os → Grown ts tk rs trs os → (∀ x ∈ ns, x ∈ rs) → Q (.ref q) s') :
    wpAny (model prog w) A (call (.ref f) [.ref a, .ref b]) Q NoE s := by
  refine enter' (σ := s) (k := s.heap) (l := []) [("ties", .ref a), ("begins", .ref b)] (setm (setm (fun _ => none) "ties" (.ref a)) "begins" (.ref b)) (fun L => [(L + 1, .cell none)])
    Wd hf hW (by have := hA.depth; omega) (fun _ _ e => e) (fun _ hp => nomatch hp) (by simp) ⟨rfl, rfl, rfl⟩ ?_
  intro cd L s₁ hkL F
  refine o_body fun Rb hRb => ?_
  have hWk : Wh.StaysIn s.heap := hW
  have hxl := hx.length
  have hul := ints_len hu
  have hu5 : (A.deeper (envD dGrown L f cd)).units + 64 < cLine := by have := hA.units; show A.units + 3 + 64 < cLine; omega
  simp only [List.append_nil] at F
  refine x_tup ?_
  (repeat' walk_at "ir")
  intro ra _ _ hra
  (repeat' walk_at "ir")
  intro ta _ _ hta
  (repeat' walk_at "ir")
  intro oa _ _ hoa
  (repeat' walk_at "ir")
  intro tu _ F₃ _
  refine as_tup hA.handled F₃ (tupIs F₃ (by walk_at "in")) ?_
  intro _ _
  (repeat' walk_at "ir")
  refine x_for ?_
  (repeat' walk_at "ir")
  rename Fx _ _ _ _ _ _ => F₄
  have F₅ : Fx s s.heap L _ _ [(oa, .list []), (ta, .list []), (ra, .list []), (L + 1, .cell (some (.ref ra)))] := Fx.pick F₄ (by walk_at "sb")
  refine for_list hA.handled F₅ hkL (F₅.listK hb) [(oa, .list []), (ta, .list []), (ra, .list []), (L + 1, .cell (some (.ref ra)))] (fun _ hp => hp) F₅.nd (fun hm => ?_) (fun X : XG => X.1)
    (JGrown s g L a ra ta oa ts tk ns)
    (g, ([], []), ([], []), ([], [])) hg ⟨rfl, Gr.refl, .nil, .nil, .nil, Grown.start ts tk, (fun x hx => by simp at hx), Nat.zero_le _, by walk_at "lk", by walk_at "lk", by walk_at "lk"⟩ ?_ ?_
  · obtain ⟨p, hp, q⟩ := List.mem_map.mp hm
    have h1 := (F₅.led p hp).2.2
    obtain ⟨n, e⟩ := hb
    rw [q, e] at h1; cases h1
  · rintro i v k' s₃ ⟨gg, ⟨ut, trs⟩, ⟨uo, os⟩, ⟨ur, rs⟩⟩ m₃ l₃ hv HJ kk hak hgk hkL' F₆
    refine o_turn fun Rt hRt => ?_
    obtain ⟨rfl, hgr, htr, hos, hrs, hG, hin, htl, m1, m2, m3⟩ := HJ
    dsimp only at F₆ hgr htr hos hrs hG hin hgk htl
    clear F₅ F₄ F₃ F
    obtain ⟨bg, hbg⟩ : ∃ x, ns[i]? = some x := ⟨ns[i]'(by have := (List.getElem?_eq_some_iff.mp hv).1; omega), by rw [List.getElem?_eq_getElem]⟩
    obtain ⟨tb, htb⟩ := ints_get hu hbg
    rw [hv] at htb; cases htb
    have hbm := List.mem_of_getElem? hbg
    have hgk' : g.StaysIn k' := fun _ _ e => hgk _ _ (hgr.1 _ _ e)
    have hWk' : Wh.StaysIn k' := fun _ _ e => hgk' _ _ (hWg _ _ e)
    have hak' := plain_keeps ha kk
    have hrn := nodup_six hG.nd hG.rng
    have hrl := ints_len hrs
    have hol := hos.length
    have htrl := htr.length
    have hosn : os.length ≤ ts.length := by rw [hG.perm.length_eq]; exact List.length_filter_le _ _
    have hi9 := (List.getElem?_eq_some_iff.mp hbg)
    have hib : i < ns.length := hi9.1
    (repeat' walk_at "ir")
    refine c_inInts (by walk_at "ls") hrs ?_
    (repeat' walk_at "ir")
    refine if_dec (fun hc => ?_) fun hc => ?_
    · (repeat' walk_at "ir")
      refine turn_end (gg, (ut, trs), (uo, os), (ur, rs)) (l' := [(oa, .list _), (ta, .list _), (ra, .list _), (L + 1, .cell _)]) (k'' := k') (by walk_at "pk") (fun _ _ e => e) hgk Gr.refl hkL' ⟨rfl, hgr, htr, hos, hrs, hG, fun x hx => ?_, Nat.le_succ_of_le htl, by walk_at "lk", by walk_at "lk", by walk_at "lk"⟩
      obtain ⟨h9, e9⟩ := hi9
      rw [List.take_succ_eq_append_getElem h9] at hx
      rcases List.mem_append.mp hx with hx | hx
      · exact hin x hx
      · rw [List.mem_singleton.mp hx, e9]; exact hc
    · (repeat' walk_at "ir")
      refine x_tupS hA.handled ?_
      (repeat' walk_at "ir")
      intro hp _ _ hhp
      (repeat' walk_at "ir")
      intro tr0 _ _ htr0
      (repeat' walk_at "ir")
      intro tu2 _ _ _
      (repeat' walk_at "ir")
      refine x_for ?_
      (repeat' walk_at "ir")
      rename Fx _ _ _ _ _ _ => F₇
      refine ⟨by walk_at "kp", fun a' ha' => ?_⟩
      refine C_lead (g := g) Wd ha' (by walk_at "kp") (hA.deeper.less (by decide)) (by walk_at "kp") hWg (by walk_at "ls") (F₇.list (a := ra) (by walk_at "in")) hx (ints_snoc hrs) (by omega) ?_
      intro D vls s₈ M₈ hD hpl8 hx8
      have F₈ := Fx.add F₇ M₈ hD (c := .list vls) hpl8
      have hgh : g.get? hp = none := g_none hgk' (F₇.led (hp, .list []) (by walk_at "in")).2.2
      have hlen8 : (leadM ts bg (rs ++ [bg])).length ≤ ts.length := List.length_filter_le _ _
      refine push_loop (hp := hp) (uh := []) (hs := []) (l₀ := [(tr0, .list []), (oa, .list uo), (ta, .list ut), (ra, .list (ur ++ [.int bg tb])), (L + 1, .cell (some (.ref ra)))]) Wd hA F₈ hkL' hpl8 (fun e => by have := F₈.nd; simp at e this; grind)
        (fun p hp' => by simp only [List.mem_cons, List.not_mem_nil, or_false] at hp' ⊢; grind) (by have := F₈.nd; simp at this ⊢; grind) hgk' hWg hgh hx8 .nil (by simp; omega) (by walk_at "lk") ?_
      intro m₉ k₉ s₉ uh₉ F₉ kk₉ hkL₉ hh₉ hm₉
      clear F₈ F₇ F₆
      have hgrow := hG.begin hw hc
      rw [leadM_eq] at hh₉
      have n1 : m₉ "heap" = some (.ref hp) := (hm₉ _ (by decide)).trans (by walk_at "lk")
      have n2 : m₉ "tree" = some (.ref tr0) := (hm₉ _ (by decide)).trans (by walk_at "lk")
      have n3 : m₉ "ties" = some (.ref a) := (hm₉ _ (by decide)).trans (by walk_at "lk")
      have n4 : m₉ "trees" = some (.ref ta) := (hm₉ _ (by decide)).trans (by walk_at "lk")
      have n5 : m₉ "out" = some (.ref oa) := (hm₉ _ (by decide)).trans (by walk_at "lk")
      have n6 : m₉ "begin" = some (.int bg tb) := (hm₉ _ (by decide)).trans (by walk_at "lk")
      refine x_while (IGrow s g k' L a ra ta oa hp tr0 ut ts tk bg tb rs) (ts.length - os.length)
        ⟨m₉, k₉, uh₉, _, [], [], uo, os, _, [bg], F₉, kk₉, hkL₉, rfl, hgrow, hh₉, .nil, hos, ints_snoc hrs, n1, n2, n3, n4, n5, n6⟩ ?_
      clear n1 n2 n3 n4 n5 n6 hm₉ hh₉ F₉ hgrow M₈ hpl8 hx8 hD m1 m2 m3
      rintro n s' HJ
      refine o_while fun Rw Kw hRw hKw => ?_
      obtain ⟨m', kb, uh, hs, utr, tr, uo2, os2, ur2, ms, Fa, hkb, hkLb, rfl, hgw, hh, htr2, hos2, hrs2, n1, n2, n3, n4, n5, n6⟩ := HJ
      have hgb : g.StaysIn kb := fun _ _ e => hkb _ _ (hgk' _ _ e)
      have hWb : Wh.StaysIn kb := fun _ _ e => hgb _ _ (hWg _ _ e)
      have hab := plain_keeps hak' hkb
      have hlen1 : os2.length + hs.length ≤ ts.length := by
        have e := hgw.perm.length_eq
        rw [List.length_append] at e
        have := List.length_filter_le (touch (rs ++ ms)) ts
        omega
      have hol2 := hos2.length
      have hhl := hh.length
      have hrl2 := ints_len hrs2
      have hbr := hr bg hbm
      have hrn2 : (rs ++ ms).length ≤ 6 := nodup_six hgw.nd fun x hx => by
        rcases List.mem_append.mp hx with q | q
        · exact hG.rng x q
        · exact (hw.mono fun t ht => hfo.sub t (hgw.sub t ht).1).reach ((hgw.got x).mp q) hbr
      have htl2 : utr.length ≤ 6 := by rw [htr2.length]; have := hgw.len; rw [List.length_append] at hrn2; omega
      (repeat' walk_at "ir")
      intro nl _ _ _
      (repeat' walk_at "ir")
      rename Fx _ _ _ _ _ _ => Fb
      refine c_neTiesNil (Fb.kept hgb) (by walk_at "ls") hh (by walk_at "ls") hu5 ?_
      (repeat' walk_at "ir")
      refine if_bool (fun hc2 => ?_) fun hc2 => ?_
      · have hpos : 0 < hs.length := by cases hs <;> simp_all
        obtain ⟨hin0, _⟩ := hgw.pop' hpos
        obtain ⟨hmt, htch⟩ := List.mem_filter.mp (hgw.perm.mem_iff.mp (List.mem_append_right os2 hin0))
        rw [touch_iff] at htch
        (repeat' walk_at "ir")
        refine ⟨by walk_at "kp", fun a' ha' => ?_⟩
        refine C_pop (g := g) Wd ha' (by walk_at "kp") (hA.deeper.less (by decide)) (by walk_at "kp") hgh hWg (by walk_at "ls") hh hpos (by omega) ?_
        intro v s₅ uh' M₅ hpl5 hvt hh'
        have hhl' := hh'.length
        rw [heappop_length] at hhl'
        have Fc : Fx s kb L s₅ _ [(hp, .list uh'), (tr0, .list utr), (oa, .list uo2), (ta, .list ut), (ra, .list ur2), (L + 1, .cell (some (.ref ra)))] :=
          Fx.upd (c' := .list uh') (Fx.pick (l' := [(hp, .list uh), (tr0, .list utr), (oa, .list uo2), (ta, .list ut), (ra, .list ur2), (L + 1, .cell (some (.ref ra)))]) Fb (by walk_at "sb")) .here M₅ hpl5
        clear Fb Fa
        (repeat' walk_at "ir")
        rename Fx _ _ _ _ _ _ => Fd
        refine x_compT (freshP (rs ++ ms)) (fun v y => y = v) [("reached", L + 1)] hA.handled ?_
        (repeat' walk_at "ir")
        refine r_tieFar (by assumption) (hvt.keeps (Fx.kept (by assumption) hgb)) (by walk_at "in") ?_
        intro pt t3 t4 _ Fe _
        refine ⟨pt, _, rfl, tupIs Fe (.head _), by simp, ⟨fun C v1 s₄ m₄ hv1 kk₄ Ff hm => ?_, fun C v1 s₄ m₄ hv1 _ kk₄ Ff hm => ?_⟩, s, kb, _, _, Fe, hkLb, fun s₆ D ys hD Fg hpr => ?_⟩
        · obtain ⟨i1, t1, rfl⟩ := ints_mem (.cons _ _ (.cons _ _ .nil)) hv1
          refine test_one ?_
          have hc1 : s₄.heap.IsCell (L + 1) (some (.ref ra)) := Heap.IsCell.keeps (Fx.cellL Fe (by walk_at "in")) kk₄
          have hr1 : s₄.heap.PlainList ra ur2.toArray := plain_keeps (Fe.list (a := ra) (vs := ur2) (by walk_at "in")) kk₄
          (repeat' walk_at "ir")
          refine c_ninInts (Fx.listK (by assumption) hr1) hrs2 ?_
          (repeat' walk_at "ir")
          exact ⟨rfl, Fx.toMore (by assumption)⟩
        · (repeat' walk_at "ir")
          exact ⟨rfl, Fx.toMore (by assumption)⟩
        · have hfi := fresh_ints (.cons _ _ (.cons _ _ .nil)) hpr
          have hfl := ints_len hfi
          (repeat' walk_at "ir")
          intro nl2 _ _ _
          (repeat' walk_at "ir")
          refine c_neInts (by walk_at "ls") (by walk_at "ls") hfi .nil hu5 ?_
          (repeat' walk_at "ir")
          rcases fresh_cases htch (hw.ne _ hmt) with ⟨e0, i1, i2⟩ | ⟨u, z, e0, hu0, hz0, hj⟩
          · rw [e0]
            refine if_dec (fun hx => absurd rfl hx) fun _ => ?_
            (repeat' walk_at "ir")
            exact ⟨ts.length - (os2.length + 1), by omega, _, kb, uh', heappop hs, utr, tr, uo2 ++ [v], os2 ++ [hs.getD 0 d0], ur2, ms,
              Fx.pick (l' := [(hp, .list uh'), (tr0, .list utr), (oa, .list (uo2 ++ [v])), (ta, .list ut), (ra, .list ur2), (L + 1, .cell (some (.ref ra)))]) (by assumption) (by walk_at "sb"), hkb, hkLb, by simp, hgw.stale hpos i1 i2, hh', htr2, hos2.snoc hvt, hrs2,
              by walk_at "lk", by walk_at "lk", by walk_at "lk", by walk_at "lk", by walk_at "lk", by walk_at "lk"⟩
          · rw [e0] at hfi hfl ⊢
            obtain ⟨tz, htz⟩ := ints_get hfi (c := 0) (x := z) rfl
            refine if_dec (fun _ => ?_) fun hx => absurd (List.cons_ne_nil _ _) hx
            (repeat' walk_at "ir")
            refine r_itemN (i := 0) (by assumption) (by walk_at "in") rfl htz (by simp at hfl; omega) ?_
            (repeat' walk_at "ir")
            refine x_for ?_
            (repeat' walk_at "ir")
            refine r_itemN (i := 0) (by assumption) (by walk_at "in") rfl htz (by simp at hfl; omega) ?_
            (repeat' walk_at "ir")
            rename Fx _ _ _ _ _ _ => Fh
            refine ⟨by walk_at "kp", fun a'' ha'' => ?_⟩
            refine C_lead (g := g) Wd ha'' (by walk_at "kp") (hA.deeper.less (by decide)) (by walk_at "kp") hWg (by walk_at "ls") (Fh.list (a := ra) (by walk_at "in")) hx (ints_snoc hrs2) (by omega) ?_
            intro D2 vls2 s₈ M₈ hD2 hpl8 hx8
            have F₈ := Fx.add Fh M₈ hD2 (c := .list vls2) hpl8
            have hlen8 : (leadM ts z (rs ++ ms ++ [z])).length ≤ ts.length := List.length_filter_le _ _
            have hpl0 : (heappop hs).length ≤ hs.length := by rw [heappop_length]; omega
            refine push_loop (hp := hp) (uh := uh') (hs := heappop hs) (l₀ := [(tr0, .list (utr ++ [v])), (oa, .list (uo2 ++ [v])), (ta, .list ut), (ra, .list (ur2 ++ [.int z tz])), (L + 1, .cell (some (.ref ra)))]) Wd hA F₈ hkLb hpl8 (nd_at0 F₈.nd (by walk_at "sb"))
              (mem_sub (by walk_at "sb")) (nd_sub F₈.nd (by walk_at "sb")) hgb hWg hgh hx8 hh' (by omega) (by walk_at "lk") ?_
            intro m₉ k₉ s₉ uh₉ F₉ kk₉ hkL₉ hh₉ hm₉
            rw [leadM_eq] at hh₉
            (repeat' walk_at "ir")
            refine ⟨ts.length - (os2.length + 1), by omega, m₉, k₉, uh₉, _, utr ++ [v], tr ++ [hs.getD 0 d0], uo2 ++ [v], os2 ++ [hs.getD 0 d0], ur2 ++ [.int z tz], ms ++ [z], F₉, fun _ _ e => kk₉ _ _ (hkb _ _ e), hkL₉, by simp,
              hgw.take hG hw hn hfo hpos hj hu0 hz0, hh₉, htr2.snoc hvt, hos2.snoc hvt, ?_, (hm₉ _ (by decide)).trans (by walk_at "lk"), (hm₉ _ (by decide)).trans (by walk_at "lk"), (hm₉ _ (by decide)).trans (by walk_at "lk"), (hm₉ _ (by decide)).trans (by walk_at "lk"),
              (hm₉ _ (by decide)).trans (by walk_at "lk"), (hm₉ _ (by decide)).trans (by walk_at "lk")⟩
            rw [← List.append_assoc]; exact ints_snoc hrs2
      · have e : hs = [] := by simpa using hc2
        rw [e] at hgw
        (repeat' walk_at "ir")
        intro q _ _ _
        (repeat' walk_at "ir")
        rename Fx _ _ _ _ _ _ => Fz
        obtain ⟨Fy, hkd, hdL⟩ := Fz.baseS hkLb [(oa, .list uo2), (ta, .list (ut ++ [.ref q])), (ra, .list ur2), (L + 1, .cell (some (.ref ra)))] (by walk_at "sb")
        have hq := base_cel (l₀ := [(oa, .list uo2), (ta, .list (ut ++ [.ref q])), (ra, .list ur2), (L + 1, .cell (some (.ref ra)))]) (a := q) Fz (by walk_at "in") (nd_at0 Fz.nd (by walk_at "sb"))
        have htq := base_cel (l₀ := [(oa, .list uo2), (ta, .list (ut ++ [.ref q])), (ra, .list ur2), (L + 1, .cell (some (.ref ra)))]) (a := tr0) (c := .list utr) Fz (by walk_at "in") (nd_at0 Fz.nd (by walk_at "sb"))
        have hq0 : k'.get? q = none := g_none hkb (Fz.led (q, _) (by walk_at "in")).2.2
        have htq0 : k'.get? tr0 = none := g_none hkb (Fz.led (tr0, .list utr) (by walk_at "in")).2.2
        generalize W.hideAll _ _ = kd at Fy hkd hdL hq htq
        simp only [Cel.At] at hq htq
        obtain ⟨g3, hgr3, hg3k, hnew⟩ := grow hgk (fun _ _ e => hkd _ _ (hkb _ _ e))
        obtain ⟨nn, htq⟩ := htq
        refine turn_end (G := fun X : XG => X.1) (g3, (ut ++ [.ref q], trs ++ [(bg, tr)]), (uo2, os2), (ur2, rs ++ ms)) (l' := [(oa, .list _), (ta, .list _), (ra, .list _), (L + 1, .cell _)]) (k'' := kd) (by walk_at "pk") (fun _ _ e => hkd _ _ (hkb _ _ e)) hg3k hgr3 hdL
          ⟨rfl, hgr.comp kk hgr3, (htr.mono fun _ _ h => h.keeps hgr3.1).snoc ⟨q, tr0, tb, utr, rfl, hnew _ _ hq0 hq, ⟨nn, hnew _ _ htq0 htq⟩, htr2⟩, hos2, hrs2, hgw.done hG hw hfo hbr, fun x hx => ?_, by simp; omega, by walk_at "lk", by walk_at "lk", by walk_at "lk"⟩
        obtain ⟨h9, e9⟩ := hi9
        rw [List.take_succ_eq_append_getElem h9] at hx
        rcases List.mem_append.mp hx with hx | hx
        · exact List.mem_append_left _ (hin x hx)
        · rw [List.mem_singleton.mp hx, e9]; exact List.mem_append_right _ ((hgw.got bg).mpr .refl)
  · rintro ⟨gg, ⟨ut, trs⟩, ⟨uo, os⟩, ⟨ur, rs⟩⟩ m₃ l₃ k' s₃ ⟨rfl, hgr, htr, hos, hrs, hG, hin, htl, m1, m2, m3⟩ kk hak hgk hkL' F₆
    dsimp only at F₆ hgr htr hos hrs hG hin hgk
    rw [hul, List.take_length] at hin
    (repeat' walk_at "ir")
    intro tq _ F₇ _
    have e1 : s.heap.get? ta = none := by
      have := (F₇.led (ta, .list ut) (by walk_at "in")).2.2
      cases q : s.heap.get? ta with
      | none => rfl
      | some o => rw [kk _ _ q] at this; cases this
    have e2 : s.heap.get? oa = none := by
      have := (F₇.led (oa, .list uo) (by walk_at "in")).2.2
      cases q : s.heap.get? oa with
      | none => rfl
      | some o => rw [kk _ _ q] at this; cases this
    have e3 := F₇.list (a := ta) (vs := ut) (by walk_at "in")
    have e4 := F₇.list (a := oa) (vs := uo) (by walk_at "in")
    refine Opq.fin (by assumption) ?_
    exact h tq ta oa gg ut uo trs os rs _ ⟨fun b o e => F₇.keep _ _ (kk _ _ e), F₇.rest⟩ (tupIs F₇ (.head _)) e1 e2 e3 e4 hgr (F₇.kept hgk) htr hos hG hin
end
end
section
set_option maxHeartbeats 8000000
section
variable {prog : Program} {w : World} {A : Around} {E : Value → Shared → Prop} {σ s : Shared} {k Wh g : Heap} {L : Addr} {m mg : Str → Option Value} {l : Led} {env : Env}

theorem r_pow {a n : Int} {t u : Tok} {Q : Value → Shared → Prop} (F : Fx σ k L s m l) (h0 : 0 ≤ n) (hz : (Builtin.Int.intBits a : Int) * n ≤ 2 ^ 27) (h : ∀ t s', Fx σ k L s' m l → Q (.int (a ^ n.toNat) t) s') : wpAny (model prog w) A (binaryOp .Pow (.int a t) (.int n u)) Q E s :=
  pow_int h0 hz (h _ _ (F.tok _))

theorem e_call0 {d : DefRec} {x : Str} {p pos : Pos} {ds : List DefRec} {ns : List Str} {Q : Value → Shared → Prop} (Wd : Wld Wh mg ds ns) (hW : Wh.StaysIn s.heap) (hd : d ∈ ds) (hn : d.name = x)
    (h : ∀ a, IsFn Wh d a → wpAny (model prog w) A (call (.ref a) []) Q E s)
    (hg : env.globals = mainGlobals := by rfl) (hk : env.scope.kind = .function := by rfl) (hl : env.kindOf x = some .globalImplicit := by rfl) (hdb : (x == ("__debug__" : Str)) = false := by rfl) :
    wpAny (model prog w) A (eval (.Call (.Name x p) [] [] pos) env) Q E s := by
  obtain ⟨a, ha, hf⟩ := Wd.fn d hd
  obtain ⟨o, pm, code, doc, ho, hdt, _⟩ := id hf
  refine Call_ (r_glob Wd hW (by rw [← hn]; exact ha) ?_ hg hk hl hdb)
  exact PySem.Calls.callWith_function (o := o) (fd := _) (PyProof.Rows.evalArgs_none ⟨⟨hW _ _ ho, hdt⟩, h a hf⟩)

theorem C_own (Wd : Wld Wh mg allDefs bltNames) {f : Addr} {Q : Value → Shared → Prop} (hf : IsFn Wh dOwn f) (hW : Wh.StaysIn s.heap) (hA : AOk 1 A)
    (h : ∀ r us s', More s s' → s.heap.get? r = none → s'.heap.PlainList r (List.toArray us) → IntsAre us [90, 61, 37, 8, 130, 19, 92] → Q (.ref r) s') :
    wpAny (model prog w) A (call (.ref f) []) Q NoE s := by
  refine enter' (σ := s) (k := s.heap) (l := []) [] (fun _ => none) (fun L => [])
    Wd hf hW (by have := hA.depth; omega) (fun _ _ e => e) (fun _ hp => nomatch hp) (by simp) ⟨rfl, rfl, rfl⟩ ?_
  intro cd L s₁ hkL F
  refine o_body fun Rb hRb => ?_
  simp only [List.append_nil] at F
  (repeat' walk_at "ir")
  intro r _ F₂ _
  refine Opq.fin (by assumption) ?_
  exact h r _ _ F₂.toMore (F₂.led _ (.head _)).2.2 (F₂.list (.head _)) (.cons _ _ (.cons _ _ (.cons _ _ (.cons _ _ (.cons _ _ (.cons _ _ (.cons _ _ .nil)))))))

theorem C_cut (Wd : Wld Wh mg allDefs bltNames) {f : Addr} {n : Int} {t : Tok} {Q : Value → Shared → Prop} (hf : IsFn Wh dCut f) (hW : Wh.StaysIn s.heap) (hA : AOk 1 A)
    (h : ∀ c t s', More s s' → -(10 ^ 60) ≤ c ∧ c ≤ 10 ^ 60 → Q (.int c t) s') :
    wpAny (model prog w) A (call (.ref f) [.int n t]) Q NoE s := by
  refine enter' (σ := s) (k := s.heap) (l := []) [("number", .int n t)] (setm (fun _ => none) "number" (.int n t)) (fun L => [])
    Wd hf hW (by have := hA.depth; omega) (fun _ _ e => e) (fun _ hp => nomatch hp) (by simp) ⟨rfl, rfl, rfl⟩ ?_
  intro cd L s₁ hkL F
  refine o_body fun Rb hRb => ?_
  have hWk : Wh.StaysIn s.heap := hW
  simp only [List.append_nil] at F
  (repeat' walk_at "ir")
  have hb : ∀ m : Int, 0 ≤ m.fmod ((10 : Int) ^ (60 : Int).toNat) ∧ m.fmod ((10 : Int) ^ (60 : Int).toNat) < 10 ^ 60 := fun m => ⟨Int.fmod_nonneg_of_pos _ (by decide), Int.fmod_lt_of_pos _ (by decide)⟩
  refine if_dec (fun hc => ?_) fun hc => ?_
  · (repeat' walk_at "ir")
    refine r_pow (by assumption) (by decide) (by decide) ?_
    intro _ _ _
    (repeat' walk_at "ir")
    rename Fx _ _ _ _ _ _ => F₂
    refine h _ _ _ F₂.toMore ?_
    have := hb n
    omega
  · (repeat' walk_at "ir")
    refine r_pow (by assumption) (by decide) (by decide) ?_
    intro _ _ _
    (repeat' walk_at "ir")
    rename Fx _ _ _ _ _ _ => F₂
    refine h _ _ _ F₂.toMore ?_
    have := hb (0 - n)
    omega
end
end
section
open PySem.W (hideAll hideAll_size of_hideAll hideAll_get hideAll_none)
section
variable {prog : Program} {w : World} {A : Around} {E : Value → Shared → Prop} {σ s : Shared} {k Wh g : Heap} {L : Addr} {m mg : Str → Option Value} {l : Led} {env : Env} {rest : List Stmt}

/-- a list, told through enumerate -/
theorem for_enum {X : Type} {elts : List Expr} {kk : Nat} {tp : Pos} {a : Addr} {vs : List Value} {body : List Stmt} {Q : Flow → Shared → Prop} (hh : A.handled = none) (F : Fx σ k L s m l) (hkL : k.get? L = none) (hl : s.heap.PlainList a vs.toArray) (l₀ : Led) (hsub : ∀ p ∈ l₀, p ∈ l) (hnd : (l₀.map (·.1)).Nodup)
    (ha : a ∉ l₀.map (·.1)) (G : X → Heap) (J : Nat → X → (Str → Option Value) → Led → Prop) (x₀ : X) (hG : (G x₀).StaysIn k) (hJ : J 0 x₀ m l₀)
    (turn : ∀ i v t T k' s x m l, vs[i]? = some v → s.heap.IsTuple T #[.int (i : Nat) t, v] → J i x m l → k.StaysIn k' → (G x).StaysIn k' → k'.get? L = none → Fx σ k' L s m l →
      wpAny (model prog w) A (assign (.Tuple elts kk tp) env (.ref T)) (fun _ s₂ => wpAny (model prog w) A (execs body env) (fun f s₃ => match f with
        | .next | .cont => ∃ x' m' l' k'', J (i + 1) x' m' l' ∧ k'.StaysIn k'' ∧ (G x').StaysIn k'' ∧ Gr k' (G x) (G x') ∧ k''.get? L = none ∧ Fx σ k'' L s₃ m' l'
        | .brk => wpAny (model prog w) A (execs rest env) Q NoE s₃
        | .ret v => Q (.ret v) s₃) NoE s₂) NoE s)
    (done : ∀ x m l k' s', J vs.length x m l → k.StaysIn k' → (G x).StaysIn k' → k'.get? L = none → Fx σ k' L s' m l → wpAny (model prog w) A (execs rest env) Q NoE s') :
    wpAny (model prog w) A (call (.type "enumerate") [.ref a]) (fun v s₁ => wpAny (model prog w) A (pyIter v) (fun it s₂ => codeAny (model prog w) A (.forLoop (.Tuple elts kk tp) it body [] env) (ForR prog w A env rest Q) s₂) NoE s₁) NoE s := by
  refine call_enumerate_list (plain_isList hl) fun h' he hit hsz hk => ?_
  obtain ⟨na, ea⟩ := hl
  have hlt : a < s.heap.objs.size := Heap.lt_size ea
  have haL : a ≠ L := fun q => by
    obtain ⟨o, es, ep, ho, hd, _⟩ := F.ns
    rw [← q, ea] at ho
    cases ho; cases hd
  have hLlt : L < s.heap.objs.size := by obtain ⟨o, _, _, ho, _⟩ := F.ns; exact Heap.lt_size ho
  have W := WalksT.enumerate (prog := prog) (w := w) hh (s.heap.objs.size + 1) s.heap.objs.size a (Nat.succ_ne_self _) (Nat.ne_of_lt (Nat.lt_succ_of_lt hlt)) (Nat.ne_of_lt hlt) vs.toArray
  have M : More s { s with heap := h' } := ⟨hk, rfl, rfl, rfl⟩
  have F₁ := (F.sub hsub hnd).more M
  have st : (∃ old, IsEnum h' (s.heap.objs.size + 1) s.heap.objs.size ((0 : Nat) : Int) old) ∧ h'.IsListIter s.heap.objs.size a 0 ∧ h'.IsList a vs.toArray := ⟨⟨_, he⟩, hit, ⟨_, hk _ _ ea, rfl, na, rfl⟩⟩
  refine W.self 0 _ _ _ st ?_
  -- all of old that is not L's or the ledger's
  have F₂ : Fx σ (hideAll s.heap (L :: l₀.map (·.1))) L { s with heap := h' } m l₀ :=
    ⟨F₁.ns, fun b o e => hk _ _ (of_hideAll _ e), fun p hp => ⟨(F₁.led p hp).1, (F₁.led p hp).2.1, hideAll_none _ (.tail _ (List.mem_map_of_mem hp))⟩, F₁.nd, F₁.rest⟩
  have hin : k.StaysIn (hideAll s.heap (L :: l₀.map (·.1))) := fun b o e => by
    refine hideAll_get _ (F.keep b o e) fun hm => ?_
    rcases List.mem_cons.mp hm with q | q
    · rw [q, hkL] at e; cases e
    · obtain ⟨p, hp, rfl⟩ := List.mem_map.mp q
      rw [(F.led p (hsub p hp)).2.2] at e; cases e
  have hno : ∀ b, s.heap.objs.size ≤ b → (hideAll s.heap (L :: l₀.map (·.1))).get? b = none := fun b hb => by
    cases q : (hideAll s.heap (L :: l₀.map (·.1))).get? b with
    | none => rfl
    | some o => exact absurd (Heap.lt_size (of_hideAll _ q)) (Nat.not_lt.mpr hb)
  have hnl : ∀ b, s.heap.objs.size ≤ b → b ≠ L ∧ b ∉ l₀.map (·.1) := fun b hb => ⟨fun q => absurd hLlt (Nat.not_lt.mpr (q ▸ hb)), fun hm => by
    obtain ⟨p, hp, q⟩ := List.mem_map.mp hm
    obtain ⟨o, e⟩ := celEx (F.led p (hsub p hp)).1
    have e2 : p.1 = b := q
    rw [e2] at e
    exact absurd (Heap.lt_size e) (Nat.not_lt.mpr hb)⟩
  refine for_itr (Itr.ofWalksT W ?_) G J x₀ F₂ (hideAll_none _ (.head _)) (fun b o e => hin b o (hG b o e)) (fun b hb => ?_) (fun b hb => ?_) st hJ
    (fun i v k' s x m l hlt' hP hJ hk' hg hL F => ?_) (fun x m l k' s' hJ hk' hg hL F => done x m l k' s' (by simpa using hJ) (fun b o e => hk' b o (hin b o e)) hg hL F)
  · rintro i h ⟨⟨old, he⟩, ⟨o1, ho1, _⟩, ⟨o2, ho2, _⟩⟩ b hb
    simp only [List.mem_cons, List.not_mem_nil, or_false] at hb
    rcases hb with rfl | rfl | rfl
    · exact ⟨_, he⟩
    · exact ⟨_, ho1⟩
    · exact ⟨_, ho2⟩
  · simp only [List.mem_cons, List.not_mem_nil, or_false] at hb
    rcases hb with rfl | rfl
    · exact hno _ (Nat.le_succ _)
    · exact hno _ (Nat.le_refl _)
  · simp only [List.mem_cons, List.not_mem_nil, or_false] at hb
    rcases hb with rfl | rfl | rfl
    · exact hnl _ (Nat.le_succ _)
    · exact hnl _ (Nat.le_refl _)
    · exact ⟨haL, ha⟩
  · obtain ⟨T, vals, rfl, ⟨t, y, hy, rfl⟩, hT⟩ := hP
    exact turn i y t T k' s x m l (by simpa using hy) hT hJ (fun b o e => hk' b o (hin b o e)) hg hL F
end
end
section
set_option maxHeartbeats 8000000
section
variable {prog : Program} {w : World} {A : Around} {E : Value → Shared → Prop} {σ s : Shared} {k Wh g : Heap} {L : Addr} {m mg : Str → Option Value} {l : Led} {env : Env}

def CellAt (v : Value) : Prop := ∃ c t, v = .int c t ∧ -(10 ^ 60) ≤ c ∧ c ≤ 10 ^ 60

structure Good (i : Nat) (t : Tie) : Prop where
  tick : t.2.1 = i
  near : 0 ≤ t.2.2.1 ∧ t.2.2.1 < 6
  far : 0 ≤ t.2.2.2 ∧ t.2.2.2 < 6
  ne : t.2.2.1 ≠ t.2.2.2
  worth : -(10 ^ 60) ≤ t.1 ∧ t.1 ≤ 10 ^ 60

theorem good_of {c : Int} {i : Nat} {x : Int} (hx : -(10 ^ 60) ≤ x ∧ x ≤ 10 ^ 60) : Good i (x, (i : Int), c.fmod 6, (c.fmod 6 + 1 + (c.fdiv 6).fmod 5).fmod 6) := by
  have e1 : ∀ z : Int, z.fmod 6 = z % 6 := fun z => Int.fmod_eq_emod_of_nonneg z (by decide)
  have e2 : ∀ z : Int, z.fmod 5 = z % 5 := fun z => Int.fmod_eq_emod_of_nonneg z (by decide)
  refine ⟨rfl, ?_, ?_, ?_, hx⟩
  · show 0 ≤ c.fmod 6 ∧ c.fmod 6 < 6
    rw [e1]; omega
  · show 0 ≤ (c.fmod 6 + 1 + (c.fdiv 6).fmod 5).fmod 6 ∧ (c.fmod 6 + 1 + (c.fdiv 6).fmod 5).fmod 6 < 6
    rw [e1, e1]; omega
  · show c.fmod 6 ≠ (c.fmod 6 + 1 + (c.fdiv 6).fmod 5).fmod 6
    rw [e1, e1, e2]; omega
theorem worth_of {c : Int} (hc : -(10 ^ 60) ≤ c ∧ c ≤ 10 ^ 60) : (-(10 ^ 60) ≤ c.fdiv 30 ∧ c.fdiv 30 ≤ 10 ^ 60) ∧ (-(10 ^ 60) ≤ (c.fdiv 30).fmod 4 ∧ (c.fdiv 30).fmod 4 ≤ 10 ^ 60) := by
  rw [Int.fmod_eq_emod_of_nonneg _ (by decide), Int.fdiv_eq_ediv_of_nonneg _ (by decide)]
  omega
theorem log_of {x : Int} (hx : -(10 ^ 60) ≤ x ∧ x ≤ 10 ^ 60) : x.natAbs.log2 < 1920 := by
  by_cases h : x.natAbs = 0
  · rw [h]; decide
  · rw [Nat.log2_lt h]
    have : x.natAbs ≤ 10 ^ 60 := by omega
    exact Nat.lt_of_le_of_lt this (by decide +kernel)
theorem goods {ts : List Tie} (h : ∀ j t, ts[j]? = some t → Good j t) : Web ts ∧ ts.Nodup ∧ (ts.length ≤ 100 → ∀ t ∈ ts, Small t) := by
  have hm : ∀ t ∈ ts, ∃ j, j < ts.length ∧ Good j t := fun t ht => by
    obtain ⟨j, hj, e⟩ := List.getElem_of_mem ht
    exact ⟨j, hj, h j t (by simp [e, hj])⟩
  refine ⟨⟨fun t ht => ?_, fun t ht => ?_, fun t ht => ?_⟩, ?_, fun hl t ht => ?_⟩
  · obtain ⟨j, _, q⟩ := hm t ht; exact ⟨q.near.1, q.far.1⟩
  · obtain ⟨j, _, q⟩ := hm t ht; exact ⟨q.near.2, q.far.2⟩
  · obtain ⟨j, _, q⟩ := hm t ht; exact q.ne
  · unfold List.Nodup
    rw [List.pairwise_iff_getElem]
    intro i j hi hj hij e
    have a1 := (h i ts[i] (by simp [hi])).tick
    have a2 := (h j ts[j] (by simp [hj])).tick
    rw [e, a2] at a1
    omega
  · obtain ⟨j, hj, q⟩ := hm t ht
    have c1 := q.near; have c2 := q.far; have c3 := q.tick
    exact ⟨log_of q.worth, log_of (by omega), log_of (by omega), log_of (by omega)⟩

theorem cells_ints {vs : List Value} {ns : List Int} (hi : IntsAre vs ns) (hb : ∀ n ∈ ns, -(10 ^ 60) ≤ n ∧ n ≤ 10 ^ 60) : ∀ v ∈ vs, CellAt v := by
  induction hi with
  | nil => intro v hv; cases hv
  | cons n t _ ih =>
    intro v hv
    rcases List.mem_cons.mp hv with rfl | hv
    · exact ⟨n, t, rfl, (hb n (.head _)).1, (hb n (.head _)).2⟩
    · exact ih (fun n hn => hb n (.tail _ hn)) v hv
theorem paired_cells {vs ys : List Value} (h : Paired (fun _ y => CellAt y) vs ys) : (∀ y ∈ ys, CellAt y) ∧ ys.length = vs.length := by
  induction h with
  | nil => exact ⟨fun y hy => (nomatch hy), rfl⟩
  | cons h1 _ ih =>
    refine ⟨fun y hy => ?_, by simp [ih.2]⟩
    rcases List.mem_cons.mp hy with rfl | hy
    · exact h1
    · exact ih.1 y hy

structure JTies (s : Shared) (g : Heap) (fa : Addr) (i : Nat) (X : Heap × List Value × List Tie) (m : Str → Option Value) (l : Led) : Prop where
  f1 : l = [(fa, .list X.2.1)]
  f2 : Gr s.heap g X.1
  f3 : Ties X.1 X.2.1 X.2.2
  f4 : X.2.2.length = i
  f5 : (∀ j t, X.2.2[j]? = some t → Good j t)
  f6 : m "found" = some (.ref fa)
theorem C_ties (Wd : Wld Wh mg allDefs bltNames) {f a : Addr} {vs : List Value} {ns : List Int} {Q : Value → Shared → Prop} (hf : IsFn Wh dTies f) (hW : Wh.StaysIn s.heap) (hA : AOk 3 A)
    (hg : g.StaysIn s.heap) (hWg : Wh.StaysIn g) (ha : s.heap.PlainList a vs.toArray) (hx : IntsAre vs ns) (hz : ns.length ≤ 1000)
    (h : ∀ r gg us ts s', More s s' → s.heap.get? r = none → s'.heap.PlainList r (List.toArray us) → Gr s.heap g gg → gg.StaysIn s'.heap → Ties gg us ts → (∀ j t, ts[j]? = some t → Good j t) → ts.length ≤ 14 → Q (.ref r) s') :
    wpAny (model prog w) A (call (.ref f) [.ref a]) Q NoE s := by
  refine enter' (σ := s) (k := s.heap) (l := []) [("script", .ref a)] (setm (fun _ => none) "script" (.ref a)) (fun L => [])
    Wd hf hW (by have := hA.depth; omega) (fun _ _ e => e) (fun _ hp => nomatch hp) (by simp) ⟨rfl, rfl, rfl⟩ ?_
  intro cd L s₁ hkL F
  refine o_body fun Rb hRb => ?_
  have hWk : Wh.StaysIn s.heap := hW
  have hxl := ints_len hx
  simp only [List.append_nil] at F
  (repeat' walk_at "ir")
  refine e_compL (fun _ => true) (fun _ y => CellAt y) [] hA.handled ?_
  (repeat' walk_at "ir")
  refine r_listSlice (by assumption) (by walk_at "in") (by walk_at "ls") (by omega) .none (.int _ _) .none (by decide) ?_
  intro c1 _ F₁ _
  have hi1 : IntsAre (slicePick vs.toArray none (some 7) none).toList (ns.take (7 : Int).toNat) := W.kmk_upto hx (by decide)
  have hl1 : (slicePick vs.toArray none (some 7) none).toList.length ≤ 7 := by rw [ints_len hi1, List.length_take]; exact Nat.min_le_left _ _
  (repeat' walk_at "ir")
  refine ⟨by omega, ⟨fun C v s₄ m₄ hv kk₄ F₄ hm => test_none (p := fun _ => true) (v := v) rfl, fun C v s₄ m₄ hv _ kk₄ F₄ hm => ?_⟩, fun s₅ D ys M hD hl hp => ?_⟩
  · obtain ⟨i, t, rfl⟩ := ints_mem hi1 hv
    have hW4 : Wh.StaysIn s₄.heap := fun _ _ e => kk₄ _ _ (F₁.kept hWk _ _ e)
    (repeat' walk_at "ir")
    refine ⟨by walk_at "kp", fun a' ha' => ?_⟩
    refine C_cut Wd ha' (by walk_at "kp") (hA.deeper.less (by decide)) fun c t' s₅ M₅ hb => ?_
    (repeat' walk_at "ir")
    exact ⟨⟨c, t', rfl, hb⟩, M₅⟩
  · have e : ((slicePick vs.toArray none (some 7) none).toList.filter fun _ => true) = (slicePick vs.toArray none (some 7) none).toList := List.filter_eq_self.mpr fun _ _ => rfl
    rw [e] at hp
    obtain ⟨hcy, hly⟩ := paired_cells hp
    have F₂ := Fx.add F₁ M hD (c := .list ys) hl
    (repeat' walk_at "ir")
    refine e_call0 (d := dOwn) Wd (by walk_at "kp") mOwn rfl (fun a' ha' => ?_)
    refine C_own Wd ha' (by walk_at "kp") (hA.deeper.less (by decide)) fun r us s₆ M₆ hr hpl hi => ?_
    have F₃ := Fx.add F₂ M₆ hr (c := .list us) hpl
    (repeat' walk_at "ir")
    refine r_sum hA.handled (by assumption) hkL (by walk_at "ls") hx ?_
    intro _ _ _
    (repeat' walk_at "ir")
    refine r_listSlice (by assumption) (by walk_at "in") (by walk_at "ls") (by rw [ints_len hi]; decide) .none (.int _ _) .none (by decide) ?_
    intro c2 _ F₄ _
    have hk7 : 0 ≤ 7 - ((vs.length : Int) + ns.sum).fmod 4 := by rw [Int.fmod_eq_emod_of_nonneg _ (by decide)]; omega
    have hi2 := W.kmk_upto hi hk7
    have hl2 := ints_len hi2
    rw [List.length_take] at hl2
    have hl2' : (slicePick us.toArray none (some (7 - ((vs.length : Int) + ns.sum).fmod 4)) none).toList.length ≤ 7 := by rw [hl2]; exact Nat.min_le_right _ _
    have hc2 := cells_ints hi2 (fun n hn => by
      have := List.mem_of_mem_take hn
      simp only [List.mem_cons, List.not_mem_nil, or_false] at this
      omega)
    (repeat' walk_at "ir")
    refine r_addList (by assumption) (by walk_at "ls") (by walk_at "ls") (by omega) ?_
    intro ca _ F₅ _
    obtain ⟨cs, hcs⟩ : ∃ cs, cs = ys ++ (slicePick us.toArray none (some (7 - ((vs.length : Int) + ns.sum).fmod 4)) none).toList := ⟨_, rfl⟩
    have hcell : ∀ v ∈ cs, CellAt v := fun v hv => by
      rw [hcs] at hv
      rcases List.mem_append.mp hv with q | q
      · exact hcy v q
      · exact hc2 v q
    have hcl : cs.length ≤ 14 := by rw [hcs, List.length_append]; omega
    rw [← hcs] at F₅
    (repeat' walk_at "ir")
    intro fa _ _ _
    (repeat' walk_at "ir")
    refine x_for ?_
    (repeat' walk_at "ir")
    rename Fx _ _ _ _ _ _ => F₆
    refine for_enum hA.handled F₆ hkL (F₆.list (a := ca) (vs := cs) (by walk_at "in")) [(fa, .list [])] (mem_sub (by walk_at "sb")) (nd_sub F₆.nd (by walk_at "sb")) (nd_at1 F₆.nd (by walk_at "sb")) (fun X : Heap × List Value × List Tie => X.1)
      (JTies s g fa) (g, [], []) hg
      ⟨rfl, Gr.refl, .nil, rfl, (fun j t e => by simp at e), by walk_at "lk"⟩ ?_ ?_
    · rintro i v t T k' s₇ ⟨gg, uf, fs⟩ m₇ l₇ hv hT HJ kk hgk hkL' F₇
      refine o_turn fun Rt hRt => ?_
      obtain ⟨rfl, hgr, hfs, hfl, hgd, n1⟩ := HJ
      dsimp only at F₇ hgr hfs hfl hgd hgk
      obtain ⟨c, tc, rfl, hc⟩ := hcell v (List.mem_of_getElem? hv)
      have hci := (List.getElem?_eq_some_iff.mp hv).1
      have hufl := hfs.length
      obtain ⟨w1, w2⟩ := worth_of hc
      have hgk' : g.StaysIn k' := fun _ _ e => hgk _ _ (hgr.1 _ _ e)
      refine as_tup hA.handled F₇ hT ?_
      intro _ _
      (repeat' walk_at "ir")
      refine x_tupS hA.handled ?_
      (repeat' walk_at "ir")
      intro tu _ _ _
      (repeat' walk_at "ir")
      have fin : ∀ (x : Int) (tx t2 t3 t4 : Tok) (s₈ : Shared) (m₈ : Str → Option Value) (l₈ : Led) (q : Addr), -(10 ^ 60) ≤ x ∧ x ≤ 10 ^ 60 → Fx s k' L s₈ m₈ l₈ → (q, Cel.obj (tupObj [.int x tx, .int (i : Int) t2, .int (c.fmod 6) t3, .int ((c.fmod 6 + 1 + (c.fdiv 6).fmod 5).fmod 6) t4])) ∈ l₈ → (fa, Cel.list (uf ++ [.ref q])) ∈ l₈ → m₈ "found" = some (.ref fa) →
          ∃ (x' : Heap × List Value × List Tie) (m' : Str → Option Value) (l' : Led) (k'' : Heap), JTies s g fa (i + 1) x' m' l' ∧ k'.StaysIn k'' ∧ (Prod.fst x').StaysIn k'' ∧ Gr k' gg (Prod.fst x') ∧ k''.get? L = none ∧ Fx s k'' L s₈ m' l' := fun x tx t2 t3 t4 s₈ m₈ l₈ q hxw F₈ hq hfa hm => by
        obtain ⟨Fd, hkd, hdL⟩ := F₈.base hkL' [(fa, .list (uf ++ [.ref q]))] (fun p hp => by rw [List.mem_singleton.mp hp]; exact hfa) (by simp)
        have hqo : s₈.heap.get? q = some (tupObj [.int x tx, .int (i : Int) t2, .int (c.fmod 6) t3, .int ((c.fmod 6 + 1 + (c.fdiv 6).fmod 5).fmod 6) t4]) := F₈.cel hq
        have hqd := base_cel (l₀ := [(fa, .list (uf ++ [.ref q]))]) F₈ hq (fun e => by
          simp only [List.map_cons, List.map_nil, List.mem_singleton] at e
          obtain ⟨nf, hf⟩ := F₈.list hfa
          rw [← e, hqo] at hf
          have := congrArg Obj.cls (Option.some.inj hf)
          simp [tupObj] at this)
        have hq0 := (F₈.led _ hq).2.2
        generalize W.hideAll _ _ = kd at Fd hkd hdL hqd
        simp only [Cel.At] at hqd
        obtain ⟨g3, hgr3, hg3k, hnew⟩ := grow hgk hkd
        refine turn_end (G := fun X : Heap × List Value × List Tie => X.1) (g3, uf ++ [.ref q], fs ++ [(x, (i : Int), c.fmod 6, (c.fmod 6 + 1 + (c.fdiv 6).fmod 5).fmod 6)]) (l' := [(fa, .list _)]) (k'' := kd) Fd hkd hg3k hgr3 hdL
          ⟨rfl, hgr.comp kk hgr3, (tiesKeep hfs hgr3.1).snoc ⟨q, tx, t2, t3, t4, 0, rfl, hnew _ _ hq0 hqd⟩, by simp [hfl], fun j t e => ?_, hm⟩
        by_cases hj : j < fs.length
        · rw [List.getElem?_append_left hj] at e; exact hgd j t e
        · have hj' : j = fs.length := by
            have := (List.getElem?_eq_some_iff.mp e).1
            simp at this; omega
          subst hj'
          rw [List.getElem?_append_right (Nat.le_refl _)] at e
          simp at e
          rw [← e, hfl]
          exact good_of hxw
      refine if_bool (fun _ => ?_) fun _ => ?_
      · (repeat' walk_at "ir")
        intro q _ _ _
        (repeat' walk_at "ir")
        rename Fx _ _ _ _ _ _ => F₈
        exact fin _ _ _ _ _ _ _ _ q w1 F₈ (by walk_at "in") (by walk_at "in") (by walk_at "lk")
      · (repeat' walk_at "ir")
        intro q _ _ _
        (repeat' walk_at "ir")
        rename Fx _ _ _ _ _ _ => F₈
        exact fin _ _ _ _ _ _ _ _ q w2 F₈ (by walk_at "in") (by walk_at "in") (by walk_at "lk")
    · rintro ⟨gg, uf, fs⟩ m₇ l₇ k' s₇ ⟨rfl, hgr, hfs, hfl, hgd, n1⟩ kk hgk hkL' F₇
      dsimp only at F₇ hgr hfs hfl hgd hgk
      (repeat' walk_at "ir")
      have e1 : s.heap.get? fa = none := by
        have := (F₇.led (fa, .list uf) (.head _)).2.2
        cases q : s.heap.get? fa with
        | none => rfl
        | some o => rw [kk _ _ q] at this; cases this
      exact h fa gg uf fs _ ⟨fun b o e => F₇.keep _ _ (kk _ _ e), F₇.rest⟩ e1 (F₇.list (.head _)) hgr (F₇.kept hgk) hfs hgd (by omega)
end
end
section
section
variable {prog : Program} {w : World} {A : Around} {E : Value → Shared → Prop} {σ s : Shared} {k Wh g : Heap} {L : Addr} {m mg : Str → Option Value} {l : Led} {env : Env} {rest : List Stmt}

theorem ints_of_get : ∀ {ns : List Int} {vs : List Value}, vs.length = ns.length → (∀ (j : Nat) (v : Value), vs[j]? = some v → ∃ i t, ns[j]? = some i ∧ v = .int i t) → IntsAre vs ns
  | [], vs, hl, _ => by
    cases vs with
    | nil => exact .nil
    | cons _ _ => simp at hl
  | n :: ns, vs, hl, h => by
    cases vs with
    | nil => simp at hl
    | cons v vs =>
      obtain ⟨i, t, e, rfl⟩ := h 0 v rfl
      have e' : n = i := by simpa using e
      subst e'
      exact .cons _ _ (ints_of_get (by simpa using hl) fun j v hv => by simpa using h (j + 1) v (by simpa using hv))
theorem paired_ints {f : Int → Int} {vs ys : List Value} {ns : List Int} (hi : IntsAre vs ns) (hp : Paired (fun v y => ∀ i t, v = .int i t → ∃ t', y = .int (f i) t') vs ys) : IntsAre ys (ns.map f) := by
  induction hi generalizing ys with
  | nil => cases hp; exact .nil
  | cons n t _ ih =>
    cases hp with
    | cons h1 h2 =>
      obtain ⟨t', rfl⟩ := h1 n t rfl
      exact .cons _ _ (ih h2)

/-- y = [elt for x in range(6) ..] -/
theorem x_compR {elt iter : Expr} {x y : Str} {px py : Pos} {ifs : List Expr} {scope : Scope} {pos sp : Pos} {Q : Flow → Shared → Prop} (p : Value → Bool) (R : Value → Value → Prop) (cl : List (Str × Addr)) (hh : A.handled = none)
    (h : wpAny (model prog w) A (eval iter env) (fun xv s₁ => ∃ (r : Addr) (t u v : Tok) (σ : Shared) (k : Heap) (m : Str → Option Value) (l : Led), xv = .ref r ∧ Fx σ k env.locals s₁ m l ∧ k.get? env.locals = none ∧ (r, Cel.obj (rangeO 6 t u v)) ∈ l ∧
      CompIn prog w A env scope cl x ifs elt (fun v => ∃ i t, v = .int i t) p R s₁ ∧
      ∀ s' D ys vs, s₁.heap.get? D = none → Fx σ k env.locals s' (setm m y (.ref D)) ((D, .list ys) :: l) → IntsAre vs [0, 1, 2, 3, 4, 5] → Paired R (vs.filter p) ys → wpAny (model prog w) A (execs rest env) Q NoE s') NoE s)
    (hsw : swapsWith (.ListComp elt [⟨.Name x px, iter, ifs, 0⟩] scope pos) (some (.Name y py)) sp.line env = pure true := by rfl)
    (hclos : closureFor scope env = pure cl := by rfl) (hcell : (scope.names.all fun y => !(y.2 == .cell)) = true := by rfl) (hkind : scope.kind = .function := by rfl)
    (hnames : (scope.names.all fun y => !(y.2 == .local) || scope.names.lookup y.1 == some .local) = true := by rfl) (hx : scope.names.lookup x = some .local := by rfl)
    (hy : env.kindOf y = some .local := by rfl) (hek : env.scope.kind = .function := by rfl)
    (hs : ∀ x, foldedSetIterable iter env x = pure x := by intro _; rfl) : wpAny (model prog w) A (execs (.Assign [.Name y py] (.ListComp elt [⟨.Name x px, iter, ifs, 0⟩] scope pos) sp :: rest) env) Q NoE s := by
  refine wpAny_execs_cons (wpAny_Assign_ListComp_free p R hsw hclos (fun y hy e => by have := List.all_eq_true.mp hcell y hy; rw [e] at this; cases this) hkind
    (fun y hy e => by have := List.all_eq_true.mp hnames y hy; rw [e] at this; simpa using this) hx hy (by rw [hek]; rfl) (wpAny_mono h (fun xv s₁ h₁ => ?_) fun _ _ z => z) hs)
  obtain ⟨r, t, u, v, σ, k, m, l, rfl, F, hkL, hr, hC, hQ⟩ := h₁
  have hro : IsRange s₁.heap r 0 6 1 t u v := F.cel hr
  refine wpAny_pyIter_range hro (by decide +kernel) ?_
  have hLs : env.locals ≠ s₁.heap.objs.size := by obtain ⟨o, _, _, ho, _⟩ := F.ns; exact size_ne ho
  have hsz : Builtin.Range.rangeSize 0 6 1 = ((6 : Nat) : Int) := by decide +kernel
  refine ⟨_, _, _, 6, _, _, m, rfl, (Walks.range hh s₁.heap.objs.size 0 1 6).bound, (by decide +kernel), (by show IsRangeIter _ _ _ _ _; rw [hsz]; simpa using Heap.get?_push_size _ rfl), ?_, by simpa using hLs, F.ns.push _, quiet hC (fun b o e => ⟨?_, Heap.get?_push_of_some _ e⟩) ?_, ?_⟩
  · intro b hb
    rw [Heap.size_push]
    simp only [List.mem_cons, List.not_mem_nil, or_false] at hb
    rcases hb with rfl
    exact Nat.lt_succ_self _
  · simpa using size_ne e
  · rintro i v ⟨_, t, rfl⟩
    exact ⟨_, _, rfl⟩
  · intro D h' tk ys us hD _ hpl hlen hP hF hns hk
    have hi : IntsAre us [0, 1, 2, 3, 4, 5] := ints_of_get hlen fun j v e => by
      obtain ⟨hj, t, rfl⟩ := hP j v e
      refine ⟨_, t, ?_, rfl⟩
      match j, hj with
      | 0, _ | 1, _ | 2, _ | 3, _ | 4, _ | 5, _ => rfl
    have hD1 : s₁.heap.get? D = none := by
      cases q : s₁.heap.get? D with
      | none => rfl
      | some o =>
        have := Heap.get?_push_of_some { cls := .type "range_iterator", data := .fields #[rawInt 0, rawInt (Builtin.Range.rangeSize 0 6 1), rawInt 1] } q
        rw [hD] at this; cases this
    have kk : ∀ b o, b ≠ env.locals → s₁.heap.get? b = some o → h'.get? b = some o := fun b o hb e => hk b o hb (by simpa using size_ne e) (Heap.get?_push_of_some _ e)
    obtain ⟨n1, n2, n3⟩ := F.fresh hD1
    refine hQ { s₁ with heap := h', toks := tk } D ys.toList us hD1 ⟨hns, fun b o e => kk b o (fun q => by rw [q, hkL] at e; cases e) (F.keep b o e), fun q hq => ?_, ?_, F.rest⟩ hi hF
    · rcases List.mem_cons.mp hq with rfl | hq
      · refine ⟨?_, n1, n2⟩
        show h'.PlainList D ys.toList.toArray
        simpa using hpl
      · exact ⟨celOf (F.led q hq).1 fun o e => kk _ o (F.led q hq).2.1 e, (F.led q hq).2⟩
    · rw [List.map_cons]; exact List.nodup_cons.mpr ⟨n3, F.nd⟩

/-- o.extend(e) for a list o -/
theorem e_ext {o e : Expr} {ap pos : Pos} {pl : Sem Bool} {Q : Value → Shared → Prop}
    (h : wpAny (model prog w) A (eval o env) (fun ov s₁ => ∃ (D : Addr) (vs : List Value), ov = .ref D ∧ s₁.heap.PlainList D vs.toArray ∧
      wpAny (model prog w) A (eval e env) (fun v s₁ => ∃ σ k L m l l' b us, Fx σ k L s₁ m l ∧ v = .ref b ∧ (D, Cel.list vs) ∈ l ∧ s₁.heap.PlainList b (List.toArray us) ∧ Upd D (.list (vs ++ us)) l l' ∧ vs.length + us.length ≤ 1000 ∧ ∀ s', Fx σ k L s' m l' → Q .none s') E s₁) E s)
    (hev : eval (.Call (.Attribute o "extend" ap) [e] [] pos) env = (do let ov ← eval o env; standAt ap.atName; let (f, first) ← holding [ov] (getMethod ov "extend" pl); callWith pos f first (backTo pos (starEach [e] env)) []) := by rfl)
    (hse : starEach [e] env = [(false, eval e env)] := by rfl) :
    wpAny (model prog w) A (eval (.Call (.Attribute o "extend" ap) [e] [] pos) env) Q E s := by
  refine MethodCall_ (pl := pl) (wpAny_mono h (fun ov s₁ h₁ => ?_) fun _ _ z => z) hev
  obtain ⟨D, vs, rfl, hl, h2⟩ := h₁
  refine r_getM hl PySem.F.slot_list_extend PySem.F.type_list_extend ?_
  rw [hse]
  exact r_extend (vs := vs) (us := []) (l' := []) (b := 0) (x := if false = true then _ else eval e env) h2
end
end
section
theorem Forest.perm {tk os ts : List Tie} (h : Forest tk os) (hp : os.Perm ts) : Forest tk ts :=
  ⟨fun t ht => hp.mem_iff.mp (h.sub t ht), h.nd, h.cut, fun t ht => h.span t (hp.mem_iff.mpr ht)⟩

/-- two rising lists of the same ties are one -/
theorem rising_eq : ∀ {xs ys : List Tie}, xs.Pairwise tle → ys.Pairwise tle → xs.Perm ys → xs = ys
  | [], ys, _, _, h => (List.nil_perm.mp h).symm
  | x :: xs, [], _, _, h => absurd (List.perm_nil.mp h) (List.cons_ne_nil _ _)
  | x :: xs, y :: ys, hx, hy, h => by
    have e : x = y := by
      have h1 : x ∈ y :: ys := h.mem_iff.mp (.head _)
      have h2 : y ∈ x :: xs := h.mem_iff.mpr (.head _)
      rcases List.mem_cons.mp h1 with e | h1
      · exact e
      · rcases List.mem_cons.mp h2 with e | h2
        · exact e.symm
        · exact tle_anti ((List.pairwise_cons.mp hx).1 _ h2) ((List.pairwise_cons.mp hy).1 _ h1)
    subst e
    rw [rising_eq (List.pairwise_cons.mp hx).2 (List.pairwise_cons.mp hy).2 (List.Perm.cons_inv h)]

theorem ints_eq : ∀ {xs ys : List Int}, xs.Pairwise (· ≤ ·) → ys.Pairwise (· ≤ ·) → xs.Perm ys → xs = ys
  | [], ys, _, _, h => (List.nil_perm.mp h).symm
  | x :: xs, [], _, _, h => absurd (List.perm_nil.mp h) (List.cons_ne_nil _ _)
  | x :: xs, y :: ys, hx, hy, h => by
    have e : x = y := by
      have h1 : x ∈ y :: ys := h.mem_iff.mp (.head _)
      have h2 : y ∈ x :: xs := h.mem_iff.mpr (.head _)
      rcases List.mem_cons.mp h1 with e | h1
      · exact e
      · rcases List.mem_cons.mp h2 with e | h2
        · exact e.symm
        · exact Int.le_antisymm ((List.pairwise_cons.mp hx).1 _ h2) ((List.pairwise_cons.mp hy).1 _ h1)
    subst e
    rw [ints_eq (List.pairwise_cons.mp hx).2 (List.pairwise_cons.mp hy).2 (List.Perm.cons_inv h)]

/-- a forest stands for any ties -/
theorem forest_up : ∀ (n : Nat) (os : List Tie), os.length = n → os.Nodup → os.Pairwise tle → ∃ tk, Forest tk os
  | 0, os, hl, _, _ => by
    cases os with
    | nil => exact ⟨[], .nil⟩
    | cons _ _ => simp at hl
  | n + 1, os, hl, hn, hp => by
    obtain ⟨o', t, rfl⟩ : ∃ o' t, os = o' ++ [t] := ⟨os.dropLast, os.getLast (by intro e; rw [e] at hl; simp at hl), (List.dropLast_concat_getLast _).symm⟩
    obtain ⟨h1, _, h3⟩ := List.nodup_append.mp hn
    obtain ⟨p1, _, p3⟩ := List.pairwise_append.mp hp
    obtain ⟨tk, F⟩ := forest_up n o' (by simp at hl; exact hl) h1 p1
    have hr : ∀ o ∈ o', tle o t := fun o ho => p3 o ho t (by simp)
    by_cases hc : Reach tk t.2.2.1 t.2.2.2
    · exact ⟨tk, F.pass hr hc⟩
    · exact ⟨tk ++ [t], F.take hr (fun q => h3 t q t (by simp) rfl) hc⟩
theorem forest_some {ts : List Tie} (hn : ts.Nodup) : ∃ tk, Forest tk ts := by
  have hs : (ts.mergeSort (fun a b => !tlt b a)).Pairwise tle := by
    refine (List.pairwise_mergeSort (le := fun a b => !tlt b a) (fun a b c h1 h2 => ?_) (fun a b => ?_) ts).imp fun {a b} h => ?_
    · simp only [Bool.not_eq_true'] at *; exact tlt_tr h1 h2
    · cases h : tlt b a with
      | false => rfl
      | true => simp [tlt_asym h]
    · unfold tle; simpa using h
  have hp := List.mergeSort_perm ts (fun a b => !tlt b a)
  obtain ⟨tk, F⟩ := forest_up _ _ rfl (hp.nodup_iff.mpr hn) hs
  exact ⟨tk, F.perm hp⟩

theorem Forest.same {tk tk' ts : List Tie} (h : Forest tk ts) (h' : Forest tk' ts) : ∀ t ∈ tk, t ∈ tk' := by
  intro t ht
  refine Classical.byContradiction fun hc => h.cut t ht ?_
  refine (h'.span t (h.sub t ht)).of_steps fun x y hs => ?_
  obtain ⟨u, hu, hj⟩ := hs
  rw [mem_upTo] at hu
  have hr : Reach (without tk t) u.2.2.1 u.2.2.2 := (h.span u (h'.sub u hu.1)).mono fun v hv => by
    rw [mem_upTo] at hv
    refine mem_without.mpr ⟨hv.1, fun e => ?_⟩
    subst e
    exact hc (tle_anti hv.2 hu.2 ▸ hu.1)
  rcases hj with ⟨rfl, rfl⟩ | ⟨rfl, rfl⟩
  · exact hr
  · exact hr.symm
theorem Forest.one {tk tk' ts : List Tie} (h : Forest tk ts) (h' : Forest tk' ts) : tk.Perm tk' :=
  (List.perm_ext_iff_of_nodup h.nd h'.nd).mpr fun t => ⟨h.same h' t, h'.same h t⟩

def flat (trs : List (Int × List Tie)) : List Tie := trs.flatMap (·.2)
theorem flat_take {trs : List (Int × List Tie)} {i : Nat} {p : Int × List Tie} (h : trs[i]? = some p) : flat (trs.take (i + 1)) = flat (trs.take i) ++ p.2 := by
  obtain ⟨h1, e⟩ := List.getElem?_eq_some_iff.mp h
  rw [List.take_succ_eq_append_getElem h1, e]
  unfold flat
  rw [List.flatMap_append]; simp
theorem flat_len (trs : List (Int × List Tie)) (i : Nat) : (flat (trs.take i)).length ≤ (flat trs).length := by
  have : flat trs = flat (trs.take i) ++ flat (trs.drop i) := by
    unfold flat
    rw [← List.flatMap_append, List.take_append_drop]
  rw [this, List.length_append]; omega
theorem take_snoc {α : Type} {xs : List α} {i : Nat} {x : α} (h : xs[i]? = some x) : xs.take (i + 1) = xs.take i ++ [x] := by
  obtain ⟨h1, e⟩ := List.getElem?_eq_some_iff.mp h
  rw [List.take_succ_eq_append_getElem h1, e]
section
variable {ts tk : List Tie} {rs : List Int} {trs : List (Int × List Tie)} {os : List Tie}
theorem Grown.flatNd (g : Grown ts tk rs trs os) : (flat trs).Nodup := by
  have h1 := g.tree
  have h2 := g.apart
  have h3 := g.home
  clear g
  induction trs with
  | nil => exact List.nodup_nil
  | cons p trs ih =>
    have ih := ih (fun q hq => h1 q (.tail _ hq)) (List.pairwise_cons.mp h2).2 fun q hq => h3 q (.tail _ hq)
    show (p.2 ++ flat trs).Nodup
    refine List.nodup_append.mpr ⟨(h1 p (.head _)).2.2.1, ih, fun a ha b hb e => ?_⟩
    subst e
    obtain ⟨q, hq, hb⟩ := List.mem_flatMap.mp hb
    refine (List.pairwise_cons.mp h2).1 q hq ?_
    exact (((h1 p (.head _)).2.2.2.1 _).mp (h3 p (.head _) a ha)).trans (((h1 q (.tail _ hq)).2.2.2.1 _).mp (h3 q (.tail _ hq) a hb)).symm
theorem Grown.flatPerm (g : Grown ts tk rs trs os) (hf : Forest tk ts) (hr : ∀ t ∈ ts, t.2.2.1 ∈ rs) : (flat trs).Perm tk := by
  refine (List.perm_ext_iff_of_nodup g.flatNd hf.nd).mpr fun t => ⟨fun h => ?_, fun h => ?_⟩
  · obtain ⟨q, hq, hb⟩ := List.mem_flatMap.mp h
    exact (g.tree q hq).2.1 t hb
  · have hts := hf.sub t h
    obtain ⟨p, hp, h1⟩ := g.all _ (hr t hts)
    have h2 : Reach ts p.1 t.2.2.2 := .step h1 ⟨t, hts, .inl ⟨rfl, rfl⟩⟩
    obtain ⟨_, a2, _, a4, _⟩ := g.tree p hp
    have h3 : Reach p.2 t.2.2.1 t.2.2.2 := ((a4 _).mpr h1).symm.trans ((a4 _).mpr h2)
    refine List.mem_flatMap.mpr ⟨p, hp, Classical.byContradiction fun hc => hf.cut t h (h3.mono fun u hu => ?_)⟩
    exact mem_without.mpr ⟨a2 u hu, fun e => hc (e ▸ hu)⟩
theorem Grown.outPerm (g : Grown ts tk rs trs os) (hr : ∀ t ∈ ts, t.2.2.1 ∈ rs) : os.Perm ts := by
  refine g.perm.trans (List.Perm.of_eq (List.filter_eq_self.mpr fun t ht => touch_iff.mpr (.inl (hr t ht))))

theorem Grown.trsLen (g : Grown ts tk rs trs os) : trs.length ≤ 6 := by
  have h : (trs.map (·.1)).Nodup := by
    unfold List.Nodup
    rw [List.pairwise_map]
    exact g.apart.imp fun {a b} hab (e : a.1 = b.1) => hab (e ▸ Reach.refl)
  have := nodup_six h fun x hx => by
    obtain ⟨p, hp, rfl⟩ := List.mem_map.mp hx
    exact g.rng _ (g.tree p hp).1
  simpa using this

/-- the sides, tree by tree: side i has what is reached from place i -/
def SideOf (ts : List Tie) (p : Int × List Tie) (ns : List Int) : Prop := ns.Nodup ∧ ∀ x, x ∈ ns ↔ Reach ts p.1 x
theorem sides_flat {pss : List (List Int)} (h : All2 (SideOf ts) trs pss) (ha : trs.Pairwise fun p q => ¬ Reach ts p.1 q.1) : (pss.flatMap id).Nodup ∧ ∀ x, x ∈ pss.flatMap id ↔ ∃ p ∈ trs, Reach ts p.1 x := by
  induction h with
  | nil => exact ⟨List.nodup_nil, fun x => by simp⟩
  | cons hp hr ih =>
    rename_i p ns trs pss
    obtain ⟨i1, i2⟩ := ih (List.pairwise_cons.mp ha).2
    have e : (ns :: pss).flatMap id = ns ++ pss.flatMap id := rfl
    rw [e]
    refine ⟨List.nodup_append.mpr ⟨hp.1, i1, fun a h1 b h2 e => ?_⟩, fun x => ?_⟩
    · subst e
      obtain ⟨q, hq, hr⟩ := (i2 a).mp h2
      exact (List.pairwise_cons.mp ha).1 q hq (((hp.2 a).mp h1).trans hr.symm)
    · rw [List.mem_append, hp.2, i2]
      constructor
      · rintro (q | ⟨q, hq, hr⟩)
        · exact ⟨p, .head _, q⟩
        · exact ⟨q, .tail _ hq, hr⟩
      · rintro ⟨q, hq, hr⟩
        rcases List.mem_cons.mp hq with rfl | hq
        · exact .inl hr
        · exact .inr ⟨q, hq, hr⟩
theorem lens_sum (pss : List (List Int)) : (pss.map fun ns => (ns.length : Int)).sum = ((pss.flatMap id).length : Int) := by
  induction pss with
  | nil => rfl
  | cons ns pss ih =>
    have e : (ns :: pss).flatMap id = ns ++ pss.flatMap id := rfl
    rw [e, List.map_cons, List.sum_cons, ih, List.length_append]; omega
theorem Grown.six (g : Grown ts tk rs trs os) (hw : Web ts) (hc : ∀ x : Int, 0 ≤ x ∧ x < 6 → x ∈ rs) {pss : List (List Int)} (h : All2 (SideOf ts) trs pss) : (pss.map fun ns => (ns.length : Int)).sum = 6 := by
  obtain ⟨h1, h2⟩ := sides_flat h g.apart
  have hp : (pss.flatMap id).Perm [0, 1, 2, 3, 4, 5] := by
    refine (List.perm_ext_iff_of_nodup h1 (by decide)).mpr fun x => ?_
    rw [h2]
    constructor
    · rintro ⟨p, hp, hr⟩
      have := hw.reach hr (g.rng _ (g.tree p hp).1)
      simp only [List.mem_cons, List.not_mem_nil, or_false]; omega
    · intro hx
      simp only [List.mem_cons, List.not_mem_nil, or_false] at hx
      exact g.all x (hc x (by omega))
  rw [lens_sum, hp.length_eq]; rfl
/-- a new side was not told before -/
theorem side_new {i : Nat} {p : Int × List Tie} {pss : List (List Int)} {ns : List Int} (h : All2 (SideOf ts) (trs.take i) pss) (ha : trs.Pairwise fun p q => ¬ Reach ts p.1 q.1) (hp : trs[i]? = some p) (hn : SideOf ts p ns) : ns ∉ pss := by
  intro hm
  obtain ⟨j, hj, e⟩ := List.getElem_of_mem hm
  obtain ⟨q, hq, hs⟩ := h.get (i := j) (b := ns) (by simp [e, hj])
  have hl := h.length
  obtain ⟨hi, ei⟩ := List.getElem?_eq_some_iff.mp hp
  have hq' : (trs.take i)[j]? = some q := hq
  rw [List.getElem?_take] at hq'
  split at hq'
  · rename_i hji
    obtain ⟨hj', ej⟩ := List.getElem?_eq_some_iff.mp hq'
    refine List.pairwise_iff_getElem.mp ha j i hj' hi hji ?_
    rw [ej, ei]
    exact ((hs.2 p.1).mp ((hn.2 p.1).mpr .refl))
  · cases hq'

/-- the six beginnings -/
theorem begins_all (n : Int) : (∀ x ∈ ([0, 1, 2, 3, 4, 5] : List Int).map (fun i => (n + i).fmod 6), 0 ≤ x ∧ x < 6) ∧ ∀ x : Int, 0 ≤ x ∧ x < 6 → x ∈ ([0, 1, 2, 3, 4, 5] : List Int).map (fun i => (n + i).fmod 6) := by
  have f : ∀ z : Int, z.fmod 6 = z % 6 := fun z => Int.fmod_eq_emod_of_nonneg z (by decide)
  constructor
  · intro x hx
    obtain ⟨i, _, rfl⟩ := List.mem_map.mp hx
    rw [f]; omega
  · intro x hx
    refine List.mem_map.mpr ⟨(x - n) % 6, ?_, ?_⟩
    · simp only [List.mem_cons, List.not_mem_nil, or_false]; omega
    · rw [f]; omega
end
end
section
set_option maxHeartbeats 8000000
local macro_rules | `(tactic| walk_at "cm") => `(tactic| ((with_reducible show wpAny _ _ (eval (Expr.Call (Expr.Attribute _ (Str.ofString "extend") _) _ _ _) _) _ _ _); refine e_ext ?_))
section
variable {prog : Program} {w : World} {A : Around} {E : Value → Shared → Prop} {σ s : Shared} {k Wh g : Heap} {L : Addr} {m mg : Str → Option Value} {l : Led} {env : Env}

def dLaw := recOf (stAt 16)

theorem r_sumK {a : Addr} {vs : List Value} {ns : List Int} {Q : Value → Shared → Prop} (hh : A.handled = none) (F : Fx σ k L s m l) (ha : s.heap.PlainList a vs.toArray) (hi : IntsAre vs ns)
    (h : ∀ t s', Fx σ k L s' m l → Q (.int ns.sum t) s') : wpAny (model prog w) A (call (.builtin "sum") [.ref a]) Q E s := by
  obtain ⟨xs, hx⟩ := hi.allInts.items
  have hl' : s.heap.IsList a (intItems xs) := hx ▸ plain_isList ha
  refine sum_intListG hh hl' fun h' tk t' hk => ?_
  have e1 : ns = xs.toList.map (·.1) := by
    rw [← nums_intItems, ← hx]
    exact (show numsOf vs.toArray.toList = ns from hi.numsOf).symm
  have e2 : preSum (numAt xs) xs.size = ns.sum := by
    rw [preSum_eq, List.take_of_length_le (by simp), e1]
  rw [e2]
  exact h _ _ (F.heap hk)

/-- all that stands but L and the ledger is kept from now on -/
theorem Fx.rebase {s' : Shared} (F : Fx σ k L s m l) (hkL : k.get? L = none) (M : More s s') : ∃ kb, Fx σ kb L s' m l ∧ k.StaysIn kb ∧ kb.get? L = none ∧ (∀ b o, b ≠ L → b ∉ l.map (·.1) → s'.heap.get? b = some o → kb.get? b = some o) ∧ (∀ b o, s.heap.get? b = none → s'.heap.get? b = some o → kb.get? b = some o) := by
  have F' := F.more M
  obtain ⟨Fb, h1, h2⟩ := F'.base hkL l (fun _ h => h) F.nd
  refine ⟨_, Fb, h1, h2, fun b o n1 n2 e => base_get e n1 n2, fun b o e1 e2 => base_get e2 (fun q => ?_) fun q => ?_⟩
  · exact (F.fresh e1).1 q
  · exact (F.fresh e1).2.2 q
theorem gr_in {s' : Shared} {gg kb : Heap} (hgr : Gr s.heap g gg) (hg : g.StaysIn kb) (hgg : gg.StaysIn s'.heap) (h : ∀ b o, s.heap.get? b = none → s'.heap.get? b = some o → kb.get? b = some o) : gg.StaysIn kb := fun b o e => by
  rcases hgr.2 b o e with q | q
  · exact hg b o q
  · exact h b o q (hgg b o e)
theorem plain_fresh {s' : Shared} {kb : Heap} {r : Addr} {xs : Array Value} (hp : s'.heap.PlainList r xs) (hr : s.heap.get? r = none) (h : ∀ b o, s.heap.get? b = none → s'.heap.get? b = some o → kb.get? b = some o) : kb.PlainList r xs := by
  obtain ⟨n, e⟩ := hp
  exact ⟨n, h _ _ hr e⟩

theorem tup_kept {h kb : Heap} {q c : Addr} {items : Array Value} {v : Option Value} (ht : h.IsTuple q items) (hL : h.Ns L m) (hc : h.IsCell c v) (hk : ∀ b o, b ≠ L → b ∉ [c] → h.get? b = some o → kb.get? b = some o) : kb.IsTuple q items := by
  obtain ⟨o, e, h1, h2⟩ := ht
  obtain ⟨n, h3⟩ := h2
  refine ⟨o, hk q o (fun hq => ?_) (fun hq => ?_) e, h1, n, h3⟩
  · obtain ⟨o', es, ep, ho, hd, _⟩ := hL
    rw [← hq, e] at ho
    cases ho
    rw [h3] at hd; cases hd
  · obtain ⟨o', ho, hd⟩ := hc
    rw [← List.mem_singleton.mp hq, e] at ho
    cases ho
    rw [h3] at hd; cases hd
theorem tup_keeps {h h' : Heap} {q : Addr} {items : Array Value} (ht : h.IsTuple q items) (hk : h.StaysIn h') : h'.IsTuple q items := by
  obtain ⟨o, e, h1, h2⟩ := ht
  exact ⟨o, hk _ _ e, h1, h2⟩

theorem part_len {h : Heap} {v : Value} {ps ps' : List Int} (a : PartAt h v ps) (b : PartAt h v ps') : ps.length = ps'.length := by
  obtain ⟨x, vs, rfl, ⟨n, e⟩, hi⟩ := a
  obtain ⟨y, us, e', ⟨n', e''⟩, hi'⟩ := b
  cases e'
  rw [e] at e''
  have e3 := congrArg Obj.data (Option.some.inj e'')
  have e4 : vs.toArray = us.toArray := by injection e3
  have e5 : vs = us := by simpa using e4
  subst e5
  rw [← ints_len hi, ← ints_len hi']
theorem paired_lens {h : Heap} {vs ys : List Value} {pss : List (List Int)} (hv : All2 (PartAt h) vs pss) (hp : Paired (fun v y => ∀ ps, PartAt h v ps → ∃ t, y = .int (ps.length : Nat) t) vs ys) : IntsAre ys (pss.map fun ns => (ns.length : Int)) := by
  induction hv generalizing ys with
  | nil => cases hp; exact .nil
  | cons hx _ ih =>
    cases hp with
    | cons h1 h2 =>
      obtain ⟨t, rfl⟩ := h1 _ hx
      exact .cons _ _ (ih h2)
theorem all2_mem {α β : Type} {R : α → β → Prop} {l : List α} {r : List β} (h : All2 R l r) {x : α} (hx : x ∈ l) : ∃ y ∈ r, R x y := by
  obtain ⟨i, hi, e⟩ := List.getElem_of_mem hx
  obtain ⟨y, hy, hr⟩ := h.get' (i := i) (a := x) (by simp [e, hi])
  exact ⟨y, List.mem_of_getElem? hy, hr⟩

abbrev XL := Heap × (List Value × List (List Int)) × List Value
structure JLaw (gg : Heap) (L a r ga pa r2 r3 r4 : Addr) (ts : List Tie) (trs : List Wt) (u : Tok) (i : Nat) (X : XL) (m : Str → Option Value) (l : Led) : Prop where
  f1 : l = [(pa, .list X.2.1.1), (ga, .list X.2.2), (L + 1, .cell (some (.ref a)))]
  f2 : All2 (PartAt X.1) X.2.1.1 X.2.1.2
  f3 : Ties gg X.2.2 (flat (trs.take i))
  f4 : All2 (SideOf ts) (trs.take i) X.2.1.2
  f5 : (∀ ps ∈ X.2.1.2, ps.length ≤ 6)
  f6 : m "ties" = some (.ref r)
  f7 : m "grown" = some (.ref ga)
  f8 : m "parts" = some (.ref pa)
  f9 : m "out" = some (.ref r2)
  f10 : m "taken" = some (.ref r3)
  f11 : m "rising" = some (.ref r4)
  f12 : m "shown" = some (.str (tiesD ts).shown u)
theorem law_body (Wd : Wld Wh mg allDefs bltNames) {f a : Addr} {cd : Value} {vs : List Value} {ns : List Int} {Q : Flow → Shared → Prop} (hA : AOk 8 A)
    (F : Fx σ k L s (fun _ => none) [(L + 1, .cell (some (.ref a)))]) (hkL : k.get? L = none) (hWk : Wh.StaysIn k) (ha : k.PlainList a vs.toArray) (hx : IntsAre vs ns) (hz : ns.length ≤ 63)
    (h : ∀ k' s' m l, k.StaysIn k' → Fx σ k' L s' m l → Q (.ret (.bool true)) s') :
    wpAny (model prog w) (A.deeper (envD dLaw L f cd)) (execs dLaw.body (envD dLaw L f cd)) Q NoE s := by
  have hxl := ints_len hx
  have hu5 : (A.deeper (envD dLaw L f cd)).units + 64 < cLine := by have := hA.units; show A.units + 3 + 64 < cLine; omega
  have hA0 : AOk 0 (A.deeper (envD dLaw L f cd)) := hA.deeper.less (by decide)
  (repeat' walk_at "ir")
  refine ⟨by walk_at "kp", fun a' ha' => ?_⟩
  refine C_ties (g := k) Wd ha' (by walk_at "kp") (hA.deeper.less (by decide)) F.keep hWk (F.listK ha) hx (by omega) ?_
  intro r gg us ts s₂ M hr hpl hgr hgg hts hgd hlen
  obtain ⟨kb, F₂, hkb, hbL, hb1, hb2⟩ := F.rebase hkL M
  have hgk : gg.StaysIn kb := gr_in hgr hkb hgg hb2
  have hWg : Wh.StaysIn gg := fun _ _ e => hgr.1 _ _ (hWk _ _ e)
  have hWb : Wh.StaysIn kb := fun _ _ e => hgk _ _ (hWg _ _ e)
  have hrk := plain_fresh hpl hr hb2
  have hak := plain_keeps ha hkb
  obtain ⟨hweb, hnd, hsm⟩ := goods hgd
  have hul := hts.length
  clear hb1 hb2 hgr hgg hpl hr M F
  (repeat' walk_at "ir")
  refine r_repr (by assumption) hA0 (by walk_at "ls") (tiesKeep hts (Fx.kept (by assumption) hgk)) (hsm (by omega)) (by omega) ?_
  intro u _ _
  (repeat' walk_at "ir")
  refine x_compR (fun _ => true) (fun v y => ∀ i t, v = .int i t → ∃ t', y = .int ((ns.sum + i).fmod 6) t') [("script", L + 1)] hA.handled ?_
  (repeat' walk_at "ir")
  rename Fx _ _ _ _ _ _ => F₃
  refine ⟨_, _, _, _, _, _, _, _, rfl, F₃, hbL, .head _, ⟨fun C v s₄ m₄ hv kk₄ F₄ hm => test_none (p := fun _ => true) (v := v) rfl, fun C v s₄ m₄ hv _ kk₄ F₄ hm => ?_⟩, fun s₅ D ys zs hD F₄ hi hp => ?_⟩
  · obtain ⟨i, t, rfl⟩ := hv
    have hc1 : s₄.heap.IsCell (L + 1) (some (.ref a)) := Heap.IsCell.keeps (Fx.cellL F₃ (by walk_at "in")) kk₄
    have hW4 : Wh.StaysIn s₄.heap := fun _ _ e => kk₄ _ _ (F₃.kept hWb _ _ e)
    have ha4 : s₄.heap.PlainList a vs.toArray := plain_keeps (F₃.listK hak) kk₄
    (repeat' walk_at "ir")
    refine r_sumK hA.handled (by assumption) (Fx.listK (by assumption) ha4) hx ?_
    intro _ _ _
    (repeat' walk_at "ir")
    refine ⟨fun j t e => ?_, Fx.toMore (by assumption)⟩
    cases e
    exact ⟨_, rfl⟩
  · have e : (zs.filter fun _ => true) = zs := List.filter_eq_self.mpr fun _ _ => rfl
    rw [e] at hp
    have hys := paired_ints hi hp
    obtain ⟨hb6, hb7⟩ := begins_all ns.sum
    obtain ⟨tk0, hfo⟩ := forest_some hnd
    refine x_tup ?_
    (repeat' walk_at "ir")
    replace F₄ : Fx σ kb L s₅ _ _ := F₄
    refine ⟨by walk_at "kp", fun a' ha' => ?_⟩
    refine C_grown (g := gg) Wd ha' (by walk_at "kp") (hA.deeper.less (by decide)) (F₄.kept hgk) hWg (by walk_at "ls") (F₄.list (.head _)) hts hys hweb hnd hfo hb6 (by omega) (by simp) ?_
    intro q1 r1 r2 gg2 ut uo trs os rs s₆ M₆ hq1 hr1 hr2 hpl1 hpl2 hgr2 hgg2 hut huo hG hin
    have F₅ := Fx.pick (l' := [(L + 1, .cell (some (.ref a)))]) F₄ (by walk_at "sb")
    obtain ⟨kc, F₆, hkc, hcL, hc1, hc2⟩ := F₅.rebase hbL M₆
    have hgc : gg.StaysIn kc := fun _ _ e => hkc _ _ (hgk _ _ e)
    have hWc : Wh.StaysIn kc := fun _ _ e => hkc _ _ (hWb _ _ e)
    have hut := hut.mono fun _ _ x => x.keeps (gr_in hgr2 hgc hgg2 hc2)
    have h1k := plain_fresh hpl1 hr1 hc2
    have h2k := plain_fresh hpl2 hr2 hc2
    have hrk := plain_keeps hrk hkc
    have hak := plain_keeps hak hkc
    clear hc1 hc2 hgg2 hgr2 hpl1 hpl2 hr1 hr2 M₆ F₅ F₄ F₃ F₂
    refine as_tup (items := [.ref r1, .ref r2]) hA.handled F₆ hq1 ?_
    intro _ _
    (repeat' walk_at "ir")
    rename Fx _ _ _ _ _ _ => F₇
    refine ⟨by walk_at "kp", fun a' ha' => ?_⟩
    refine C_gath (g := gg) Wd ha' (by walk_at "kp") (hA.deeper.less (by decide)) (F₇.kept hgc) hWg (by walk_at "ls") hts hweb hnd (by omega) ?_
    intro q2 r3 r4 u3 u4 tk os4 ps s₇ M₇ hq2 hr3 hr4 hpl3 hpl4 h3 h4 hK
    obtain ⟨kd, F₈, hkd, hdL, hd1, hd2⟩ := F₇.rebase hcL M₇
    have hq2k := tup_kept hq2 F₈.ns (F₈.cellL (.head _)) hd1
    have h3k := plain_fresh hpl3 hr3 hd2
    have h4k := plain_fresh hpl4 hr4 hd2
    have h1k := plain_keeps h1k hkd
    have h2k := plain_keeps h2k hkd
    have hrk := plain_keeps hrk hkd
    have hgd' : gg.StaysIn kd := fun _ _ e => hkd _ _ (hgc _ _ e)
    have hWd : Wh.StaysIn kd := fun _ _ e => hkd _ _ (hWc _ _ e)
    have hut := hut.mono fun _ _ x => x.keeps hkd
    clear hd1 hd2 hpl3 hpl4 hr3 hr4 M₇ F₇ F₆ hq2 hq1
    (repeat' walk_at "ir")
    refine c_isNone (b := false) rfl rfl ?_
    (repeat' walk_at "ir")
    refine x_tup ?_
    (repeat' walk_at "ir")
    rename Fx _ _ _ _ _ _ => F₉
    refine as_tup (items := [.ref r3, .ref r4]) hA.handled F₉ (tup_keeps hq2k F₉.keep) ?_
    intro _ _
    (repeat' walk_at "ir")
    refine x_tupS hA.handled ?_
    (repeat' walk_at "ir")
    intro ga _ _ hga
    (repeat' walk_at "ir")
    intro pa _ _ hpa
    (repeat' walk_at "ir")
    intro tu _ _ _
    (repeat' walk_at "ir")
    refine x_for ?_
    (repeat' walk_at "ir")
    rename Fx _ _ _ _ _ _ => F₁
    have hcover : ∀ x : Int, 0 ≤ x ∧ x < 6 → x ∈ rs := fun x hx => hin x (hb7 x hx)
    have hcov2 : ∀ t ∈ ts, t.2.2.1 ∈ rs := fun t ht => hcover _ ⟨(hweb.lo t ht).1, (hweb.hi t ht).1⟩
    have hfo2 : Forest tk ts := hK.fo.perm (by simpa using hK.perm)
    have hflat : (flat trs).Perm tk := (hG.flatPerm hfo hcov2).trans (hfo.one hfo2)
    have htkl : tk.length ≤ 14 := Nat.le_trans (nodup_len hfo2.nd hfo2.sub) hlen
    have hfl : (flat trs).length ≤ 14 := by rw [hflat.length_eq]; exact htkl
    have hutl := hut.length
    have htr6 := hG.trsLen
    refine for_list hA.handled F₁ hdL (F₁.listK h1k) [(pa, .list []), (ga, .list []), (L + 1, .cell (some (.ref a)))] (mem_sub (by walk_at "sb")) (nd_sub F₁.nd (by walk_at "sb")) (fun e => ?_) (fun X : XL => X.1)
      (JLaw gg L a r ga pa r2 r3 r4 ts trs u)
      (gg, ([], []), []) hgd' ⟨rfl, .nil, .nil, .nil, (fun _ h => nomatch h), by walk_at "lk", by walk_at "lk", by walk_at "lk", by walk_at "lk", by walk_at "lk", by walk_at "lk", by walk_at "lk"⟩ ?_ ?_
    · obtain ⟨n, e1⟩ := h1k
      have e2 : ∀ p ∈ [(pa, Cel.list []), (ga, .list []), (L + 1, .cell (some (.ref a)))], kd.get? p.1 = none := fun p hp => (F₁.led p (by
        simp only [List.mem_cons, List.not_mem_nil, or_false] at hp
        rcases hp with rfl | rfl | rfl <;> walk_at "in")).2.2
      obtain ⟨p, hp, q⟩ := List.mem_map.mp e
      have := e2 p hp
      rw [q, e1] at this; cases this
    · rintro i v k' s₃ ⟨G', ⟨up, pss⟩, uf⟩ m₃ l₃ hv HJ kk hrk1 hgk' hkL' F₂
      refine o_turn fun Rt hRt => ?_
      obtain ⟨rfl, hpar, huf, hsid, hl6, n1, n2, n3, n4, n5, n6, n7⟩ := HJ
      dsimp only at F₂ hpar huf hsid hl6 hgk'
      clear F₁ F₉ F₈
      obtain ⟨p, hp, hwat⟩ := hut.get' hv
      obtain ⟨q, wl, tb, utr, rfl, hq, hwl, htr⟩ := hwat
      obtain ⟨pl, tr⟩ := p
      dsimp only at hq htr
      have hpm := List.mem_of_getElem? hp
      obtain ⟨b1, b2, b3, b4, b5⟩ := hG.tree _ hpm
      dsimp only at b1 b2 b3 b4 b5
      have hpl := hG.rng _ b1
      have hwl' := plain_keeps hwl kk
      have hrk' := plain_keeps hrk kk
      have hgg' : gg.StaysIn k' := fun _ _ e => kk _ _ (hgd' _ _ e)
      have hWk' : Wh.StaysIn k' := fun _ _ e => kk _ _ (hWd _ _ e)
      have htrl : tr.length ≤ 14 := Nat.le_trans (nodup_len b3 fun t ht => hfo.sub t (b2 t ht)) hlen
      have hutr := htr.length
      have hufl := huf.length
      have hfli := flat_len trs i
      have hpsl : up.length = pss.length := hpar.length
      have hsl := hsid.length
      rw [List.length_take] at hsl
      refine as_tup (items := [.int pl tb, .ref wl]) hA.handled F₂ ⟨_, F₂.keep _ _ (kk _ _ hq), rfl, 0, rfl⟩ ?_
      intro _ _
      (repeat' walk_at "ir")
      refine ⟨_, _, _, _, _, [(pa, .list up), (ga, .list (uf ++ utr)), (L + 1, .cell (some (.ref a)))], wl, utr, by assumption, rfl, by walk_at "in", by walk_at "ls", by walk_at "up", by omega, ?_⟩
      intro s₄ F₄
      (repeat' walk_at "ir")
      rename Fx _ _ _ _ _ _ => F₅
      refine ⟨by walk_at "kp", fun a' ha' => ?_⟩
      refine C_side (g := gg) Wd ha' (by walk_at "kp") (hA.deeper.less (by decide)) (F₅.kept hgg') hWg (by walk_at "ls") htr (hweb.mono fun t ht => hfo.sub t (b2 t ht)) hpl (by omega) ?_
      intro r5 u5 n5 s₆ M₆ hr5 hpl5 hi5 hn5 hs5 hm5
      have F₆ := Fx.add F₅ M₆ hr5 (c := .list u5) hpl5
      have h56 : n5.length ≤ 6 := nodup_six hn5 fun x hx => hweb.reach ((b4 x).mp ((hm5 x).mp hx)) hpl
      have hi5l := ints_len hi5
      have htr5 := b5 n5 hn5 hm5
      clear F₅ F₂
      (repeat' walk_at "ir")
      rename Fx _ _ _ _ _ _ => F₇
      refine ⟨by walk_at "kp", fun a' ha' => ?_⟩
      refine C_side (g := gg) Wd ha' (by walk_at "kp") (hA.deeper.less (by decide)) (F₇.kept hgg') hWg (by walk_at "ls") hts hweb hpl (by omega) ?_
      intro r6 u6 n6 s₈ M₈ hr6 hpl6 hi6 hn6 hs6 hm6
      have F₈ := Fx.add F₇ M₈ hr6 (c := .list u6) hpl6
      have e56 : n5 = n6 := ints_eq hs5 hs6 ((List.perm_ext_iff_of_nodup hn5 hn6).mpr fun x => ((hm5 x).trans (b4 x)).trans (hm6 x).symm)
      have hside : SideOf ts (pl, tr) n5 := ⟨hn5, fun x => (hm5 x).trans (b4 x)⟩
      have hnew : n5 ∉ pss := side_new hsid hG.apart hp hside
      clear F₇ F₆
      (repeat' walk_at "ir")
      refine c_neInts (by walk_at "ls") (by walk_at "ls") hi5 hi6 hu5 ?_
      (repeat' walk_at "ir")
      refine if_dec (fun hc => absurd e56 hc) fun _ => ?_
      (repeat' walk_at "ir")
      refine if_bool (fun hc => ?_) fun _ => ?_
      · exfalso
        simp at hc
        omega
      (repeat' walk_at "ir")
      refine c_inParts (by walk_at "ls") (hpar.mono fun _ _ x => x.keeps (Fx.kept (by assumption) hgk')) (by walk_at "ls") hi5 hu5 ?_
      (repeat' walk_at "ir")
      refine if_dec (fun hc => absurd hc hnew) fun _ => ?_
      (repeat' walk_at "ir")
      rename Fx _ _ _ _ _ _ => Fz
      obtain ⟨Fy, hkd2, hdL2⟩ := Fz.baseS hkL' [(pa, .list (up ++ [.ref r5])), (ga, .list (uf ++ utr)), (L + 1, .cell (some (.ref a)))] (by walk_at "sb")
      have hq5 := base_cel (l₀ := [(pa, .list (up ++ [.ref r5])), (ga, .list (uf ++ utr)), (L + 1, .cell (some (.ref a)))]) (a := r5) (c := .list u5) Fz (by walk_at "in") (nd_at0 Fz.nd (by walk_at "sb"))
      have hr0 : k'.get? r5 = none := (Fz.led (r5, .list u5) (by walk_at "in")).2.2
      generalize W.hideAll _ _ = kd2 at Fy hkd2 hdL2 hq5
      simp only [Cel.At] at hq5
      obtain ⟨g3, hgr3, hg3k, hnw⟩ := grow hgk' hkd2
      obtain ⟨nn, hq5⟩ := hq5
      refine turn_end (G := fun X : XL => X.1) (g3, (up ++ [.ref r5], pss ++ [n5]), uf ++ utr) (l' := [(pa, .list _), (ga, .list _), (L + 1, .cell _)]) (k'' := kd2) Fy hkd2 hg3k hgr3 hdL2
        ⟨rfl, (hpar.mono fun _ _ x => x.keeps hgr3.1).snoc ⟨r5, u5, rfl, ⟨nn, hnw _ _ hr0 hq5⟩, hi5⟩, ?_, ?_, fun ps hps => ?_, by walk_at "lk", by walk_at "lk", by walk_at "lk", by walk_at "lk", by walk_at "lk", by walk_at "lk", by walk_at "lk"⟩
      · rw [flat_take hp]; exact huf.append htr
      · rw [take_snoc hp]; exact hsid.snoc hside
      · rcases List.mem_append.mp hps with q | q
        · exact hl6 ps q
        · rw [List.mem_singleton.mp q]; exact h56
    · rintro ⟨G', ⟨up, pss⟩, uf⟩ m₃ l₃ k' s₃ ⟨rfl, hpar, huf, hsid, hl6, n1, n2, n3, n4, n5, n6, n7⟩ kk hrk1 hgk' hkL' F₂
      dsimp only at F₂ hpar huf hsid hl6 hgk'
      clear F₁ F₉ F₈
      rw [hutl, List.take_length] at huf hsid
      have hgg' : gg.StaysIn k' := fun _ _ e => kk _ _ (hgd' _ _ e)
      have hWk' : Wh.StaysIn k' := fun _ _ e => kk _ _ (hWd _ _ e)
      have hrk' := plain_keeps hrk kk
      have h2k' := plain_keeps h2k kk
      have h3k' := plain_keeps h3k kk
      have h4k' := plain_keeps h4k kk
      have hpsl : up.length = pss.length := hpar.length
      have hsl := hsid.length
      have hufl := huf.length
      have huol := huo.length
      have h3l := h3.length
      have h4l := h4.length
      have hop := hG.outPerm hcov2
      have hol := hop.length_eq
      have hop4 : os4.Perm ts := by simpa using hK.perm
      have hol4 := hop4.length_eq
      (repeat' walk_at "ir")
      refine e_compL (fun _ => true) (fun v y => ∀ ps, PartAt G' v ps → ∃ t, y = .int (ps.length : Nat) t) [] hA.handled ?_
      (repeat' walk_at "ir")
      refine ⟨by omega, ⟨fun C v s₄ m₄ hv kk₄ F₄ hm => test_none (p := fun _ => true) (v := v) rfl, fun C v s₄ m₄ hv _ kk₄ F₄ hm => ?_⟩, fun s₅ D5 y5 M5 hD5 hl5 hp5 => ?_⟩
      · obtain ⟨ps, hps, hpa⟩ := all2_mem hpar hv
        obtain ⟨b, vb, rfl, hpb, hib⟩ := id hpa
        have hb6 := hl6 ps hps
        have hbl := ints_len hib
        have hW4 : Wh.StaysIn s₄.heap := fun _ _ e => kk₄ _ _ (F₂.kept hWk' _ _ e)
        have hb4 : s₄.heap.PlainList b vb.toArray := plain_keeps (F₂.listK (plain_keeps hpb hgk')) kk₄
        (repeat' walk_at "ir")
        refine ⟨fun ps' hps' => ?_, Fx.toMore (by assumption)⟩
        rw [part_len hps' hpa, ← hbl]
        exact ⟨_, rfl⟩
      · have e : (up.filter fun _ => true) = up := List.filter_eq_self.mpr fun _ _ => rfl
        rw [e] at hp5
        have hi5 := paired_lens hpar hp5
        have F₃ := Fx.add F₂ M5 hD5 (c := .list y5) hl5
        (repeat' walk_at "ir")
        refine r_sum hA.handled (by assumption) hkL' (by walk_at "ls") hi5 ?_
        rw [hG.six hweb hcover hsid]
        intro _ _ _
        (repeat' walk_at "ir")
        refine if_bool (fun hc => absurd hc (by decide)) fun _ => ?_
        (repeat' walk_at "ir")
        refine r_sortedT (by assumption) hkL' (by walk_at "ls") (tiesKeep huf hgg') (by omega) ?_
        intro D1 w1 t1 _ _ _ hw1 hp1 hr1
        (repeat' walk_at "ir")
        refine r_sortedT (by assumption) hkL' (by walk_at "ls") (tiesKeep h3 hgg') (by omega) ?_
        intro D2 w2 t2 _ _ _ hw2 hp2 hr2
        (repeat' walk_at "ir")
        refine c_neTies (by walk_at "ls") (by walk_at "ls") (tiesKeep hw1 (Fx.keep (by assumption))) (tiesKeep hw2 (Fx.keep (by assumption))) hu5 ?_
        (repeat' walk_at "ir")
        refine if_dec (fun hc => absurd (rising_eq hr1 hr2 (hp1.trans (hflat.trans hp2.symm))) hc) fun _ => ?_
        (repeat' walk_at "ir")
        refine r_sortedT (by assumption) hkL' (by walk_at "ls") (tiesKeep huo hgg') (by omega) ?_
        intro D3 w3 t3 _ _ _ hw3 hp3 hr3
        (repeat' walk_at "ir")
        refine r_sortedT (by assumption) hkL' (by walk_at "ls") (tiesKeep hts hgg') (by omega) ?_
        intro D4 w4 t4 _ _ _ hw4 hp4 hr4
        (repeat' walk_at "ir")
        refine c_neTies (by walk_at "ls") (by walk_at "ls") (tiesKeep hw3 (Fx.keep (by assumption))) (tiesKeep hw4 (Fx.keep (by assumption))) hu5 ?_
        (repeat' walk_at "ir")
        refine if_dec (fun hc => absurd (rising_eq hr3 hr4 (hp3.trans (hop.trans hp4.symm))) hc) fun _ => ?_
        (repeat' walk_at "ir")
        refine r_sortedT (by assumption) hkL' (by walk_at "ls") (tiesKeep hts hgg') (by omega) ?_
        intro D5 w5 t5 _ _ _ hw5 hp5 hr5
        (repeat' walk_at "ir")
        refine c_neTies (by walk_at "ls") (by walk_at "ls") (tiesKeep (tiesKeep h4 hgg') (Fx.keep (by assumption))) (tiesKeep hw5 (Fx.keep (by assumption))) hu5 ?_
        (repeat' walk_at "ir")
        refine if_dec (fun hc => absurd (rising_eq hK.outs hr5 (hop4.trans hp5.symm)) hc) fun _ => ?_
        (repeat' walk_at "ir")
        refine BoolOp_and ?_
        (repeat' walk_at "ir")
        rename Fx _ _ _ _ _ _ => F₆
        refine ⟨by walk_at "kp", fun a' ha' => ?_⟩
        refine C_least (g := gg) Wd ha' (by walk_at "kp") (hA.deeper.less (by decide)) (F₆.kept hgg') hWg (by walk_at "ls") (F₆.listK h3k') hts h3 hweb (by omega) hfo2.sub (by omega)
          (fun tie ht ns hns => hfo2.least tie ht ns hns) (fun tie ht hn => ⟨(hfo2.most tie ht hn).1, fun wy hw hwn => ⟨by have := ((hfo2.most tie ht hn).2 wy hw hwn).1; omega, ((hfo2.most tie ht hn).2 wy hw hwn).2⟩⟩) ?_
        intro s₇ M₇
        have F₇ := F₆.more M₇
        (repeat' walk_at "ir")
        refine BoolOp_one ?_
        (repeat' walk_at "ir")
        refine r_repr (by assumption) hA0 (by walk_at "ls") (tiesKeep hts (Fx.kept (by assumption) hgg')) (hsm (by omega)) (by omega) ?_
        intro _ _ _
        (repeat' walk_at "ir")
        refine c_eqStr ?_
        (repeat' walk_at "ir")
        rename Fx _ _ _ _ _ _ => F₈
        exact h k' _ _ _ (fun _ _ e => kk _ _ (hkd _ _ (hkc _ _ (hkb _ _ e)))) F₈
end
end
section
open PySem.W
set_option maxHeartbeats 8000000
section
variable {prog : Program} {w : World} {A : Around} {E : Value → Shared → Prop} {mg mb : Str → Option Value} {s₁ : Shared}

theorem well_plain {P : Params} {h : Heap} {a : Addr} {xs : List PyData} {vs : List Value} (W : Well P h (.ref a) (ofPy (.list xs))) (hl : h.IsList a vs.toArray) : h.PlainList a vs.toArray := by
  rw [show ofPy (.list xs) = .list (ofPys xs) from by simp [ofPy]] at W
  cases W with
  | list h1 _ =>
    obtain ⟨o, e, _, n, hd⟩ := hl
    rw [h1] at e
    cases e
    injection hd with e1 e2
    refine ⟨n, ?_⟩
    rw [← e1, ← e2]
    exact h1

theorem wld_of {p : Program} {loose : List Str} {mean : ExcName → Option Value} {h : Heap} {defs : List DefItem} {consts : List (Str × PyData)} {objs : List (Str × (Obj → Prop))} {names : List Str} (T : Top p loose mean mg mb h) (G : Glob 0 mg mb defs consts objs names h)
    (hd : ∀ d ∈ allDefs, d ∈ recsOf p) (hn : (bltNames.all fun x => !names.contains x && !bootMainNames.contains x) = true) : Wld h mg allDefs bltNames :=
  ⟨T.g, ⟨mb, T.b, T.builtins⟩, T.nolimit, fun d hd' => by
    obtain ⟨a, o, pm, code, doc, h1, h2, h3, h4⟩ := T.fn d (hd d hd')
    exact ⟨a, h1, o, pm, code, doc, h2, h3, h4⟩, fun x hx => by
    have := List.all_eq_true.mp hn x hx
    simp only [Bool.and_eq_true, Bool.not_eq_true', List.contains_eq_mem, decide_eq_false_iff_not] at this
    exact G.free x this.1 this.2⟩

theorem law_head {h₁ : Heap} {tk : Nat} {a f : Addr} {cd : Value} {vs : List Value} {ns : List Int} {oc : Obj} {m : Str → Option Value} {Q : Flow → Shared → Prop} (Wd : Wld s₁.heap mg allDefs bltNames) (F : Fr s₁.heap s₁.heap.objs.size h₁ m) (hm : m = fun _ => none)
    (N : News s₁.heap s₁.heap.objs.size h₁ [(s₁.heap.objs.size + 1, oc)]) (hoc : oc.data = .cell (some (.ref a))) (hI : IntsAre vs ns) (hl : s₁.heap.PlainList a vs.toArray) (hz : ns.length ≤ 63)
    (h : ∀ s' m', Fr s₁.heap s₁.heap.objs.size s'.heap m' → s'.gens = s₁.gens → s'.os = s₁.os → Q (.ret (.bool true)) s') :
    wpAny (model prog w) (callerA.deeper (envD dLaw s₁.heap.objs.size f cd)) (execs dLaw.body (envD dLaw s₁.heap.objs.size f cd)) Q E { s₁ with heap := h₁, toks := tk } := by
  subst hm
  obtain ⟨n1, n2, n3⟩ := N _ (.head _)
  have F₀ : Fx s₁ s₁.heap s₁.heap.objs.size { s₁ with heap := h₁, toks := tk } (fun _ => none) [(s₁.heap.objs.size + 1, .cell (some (.ref a)))] := by
    refine ⟨F.ns, F.keep, fun p hp => ?_, by simp, rfl, rfl, rfl⟩
    rw [List.mem_singleton.mp hp]
    exact ⟨⟨oc, n1, hoc⟩, n2, n3⟩
  refine wpAny_mono (law_body (A := callerA) Wd ⟨rfl, rfl, by decide, by decide⟩ F₀ (fresh_size _) (fun _ _ e => e) hl hI hz fun k' s' m' l' hk F' => ?_) (fun _ _ z => z) fun _ _ z => z.elim
  exact h s' m' ⟨F'.ns, fun b o e => F'.keep b o (hk b o e), Nat.le_refl _⟩ F'.rest.1 F'.rest.2.1
end
end
end Mine
open PySem.W Mine
set_option maxRecDepth 100000 in
set_option maxHeartbeats 8000000 in
theorem PySem.Challenge.cw_ir0006_01_holds : PySem.Challenge.rw_ir0006_01.Holds := by
  w_on
  o_law
  o_head Hook.none
  (case hw => w_witness2)
  intro w s₀ s₁ mg mb G Y fa o pm cd doc dV kV ho hd hcd hD hmg hg args vals as hpre hlay hrd hwl hlo
  w_strict (k_behind G ho hd hcd hD hmg hpre hlay hrd hwl hlo cd)
  rename Top _ _ _ _ _ _ => T
  rename Glob _ _ _ _ _ _ _ _ => GL
  rename Fr _ _ _ _ => F
  rename News _ _ _ _ => N
  rename IntsAre _ _ => hI
  rename Heap.IsList _ _ _ => hL
  rename Well _ _ _ _ => hW
  have Wd := wld_of T GL (fun d hd' => by
    simp only [allDefs, List.mem_cons, List.not_mem_nil, or_false] at hd'
    rcases hd' with rfl | rfl | rfl | rfl | rfl | rfl | rfl | rfl | rfl | rfl | rfl | rfl | rfl | rfl
    · exact List.mem_of_getElem? (i := 0) (by kernel_rfl)
    · exact List.mem_of_getElem? (i := 1) (by kernel_rfl)
    · exact List.mem_of_getElem? (i := 2) (by kernel_rfl)
    · exact List.mem_of_getElem? (i := 3) (by kernel_rfl)
    · exact List.mem_of_getElem? (i := 4) (by kernel_rfl)
    · exact List.mem_of_getElem? (i := 5) (by kernel_rfl)
    · exact List.mem_of_getElem? (i := 6) (by kernel_rfl)
    · exact List.mem_of_getElem? (i := 7) (by kernel_rfl)
    · exact List.mem_of_getElem? (i := 8) (by kernel_rfl)
    · exact List.mem_of_getElem? (i := 9) (by kernel_rfl)
    · exact List.mem_of_getElem? (i := 10) (by kernel_rfl)
    · exact List.mem_of_getElem? (i := 11) (by kernel_rfl)
    · exact List.mem_of_getElem? (i := 12) (by kernel_rfl)
    · exact List.mem_of_getElem? (i := 13) (by kernel_rfl)) (by decide +kernel)
  refine law_head Wd F rfl N (by assumption) hI (well_plain hW hL) (by omega) fun s' m' F' h1 h2 => ?_
  have hgn : s'.gens = #[] := h1.trans (by assumption)
  refine goodW_bool F' hgn (raisesW_false ?_) ?_ h2
  · wrow_none_raised
  · wrow_post
