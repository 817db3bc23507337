import PyProof.Rows.All
import Wide.All
import OpenK.AllK
import Wide.FinOn
import PySem.Challenge.RW_pk0023_01

/-! ### C1 -/
open PySem PySem.W PyProof.Rows
set_option Elab.async false
namespace Mine

/-! ## A view: the data that stand, and what the tokens tell -/
abbrev TM := Nat → Option Value
structure Cx where
  o : Addr → Option Obj
  m : TM
structure Le (c c' : Cx) : Prop where
  o : ∀ b x, c.o b = some x → c'.o b = some x
  m : ∀ t v, c.m t = some v → c'.m t = some v
theorem Le.refl (c : Cx) : Le c c := ⟨fun _ _ e => e, fun _ _ e => e⟩
theorem Le.trans {a b c : Cx} (x : Le a b) (y : Le b c) : Le a c := ⟨fun i o e => y.o i o (x.o i o e), fun i o e => y.m i o (x.m i o e)⟩
/-- no namespace -/
def NoD (o : Obj) : Prop := ∀ es ep, o.data ≠ .dict es ep
structure InS (c : Cx) (s : Shared) : Prop where
  o : ∀ b x, c.o b = some x → s.heap.get? b = some x
  nf : ∀ b x, c.o b = some x → NoD x
  pos : 0 < s.toks
  lt : ∀ t v, c.m t = some v → t < s.toks
def Cx.tok (c : Cx) (t : Nat) (v : Value) : Cx := ⟨c.o, fun u => if u = t then some v else c.m u⟩
def Cx.put (c : Cx) (a : Addr) (x : Obj) : Cx := ⟨fun b => if b = a then some x else c.o b, c.m⟩

/-- the last address that stood when the law was called: the things up to it stay as they are -/
def topN : Nat := 100
/-- the same thing; of a namespace the slots may differ (a raise writes them in the frames) -/
structure Sm (i : Addr) (o o' : Obj) : Prop where
  cls : o'.cls = o.cls
  data : o'.data = o.data
  nf : NoD o ∨ i ≤ topN → o' = o
theorem Sm.refl (i : Addr) (o : Obj) : Sm i o o := ⟨rfl, rfl, fun _ => rfl⟩
theorem Sm.trans {i : Addr} {a b c : Obj} (x : Sm i a b) (y : Sm i b c) : Sm i a c := ⟨y.cls.trans x.cls, y.data.trans x.data, fun h => by
  have e := x.nf h
  subst e
  exact y.nf h⟩
def Gt (h : Heap) (b : Addr) (o : Obj) : Prop := ∃ o', h.get? b = some o' ∧ Sm b o o'
theorem Gt.of {h : Heap} {b : Addr} {o : Obj} (e : h.get? b = some o) : Gt h b o := ⟨o, e, .refl b o⟩
theorem Gt.exact {h : Heap} {b : Addr} {o : Obj} (g : Gt h b o) (nf : NoD o) : h.get? b = some o := by
  obtain ⟨o', e, s⟩ := g
  rw [e, s.nf (.inl nf)]
theorem Gt.top {h : Heap} {b : Addr} {o : Obj} (g : Gt h b o) (hb : b ≤ topN) : h.get? b = some o := by
  obtain ⟨o', e, s⟩ := g
  rw [e, s.nf (.inr hb)]
theorem Gt.live {h : Heap} {b : Addr} {o : Obj} (g : Gt h b o) : ∃ o, h.get? b = some o := let ⟨o', e, _⟩ := g; ⟨o', e⟩
theorem Gt.on {h h' : Heap} {b : Addr} {o : Obj} (g : Gt h b o) (k : ∀ o, h.get? b = some o → Gt h' b o) : Gt h' b o := by
  obtain ⟨o', e, s⟩ := g
  obtain ⟨o'', e', s'⟩ := k o' e
  exact ⟨o'', e', s.trans s'⟩
abbrev HX (h h' : Heap) : Prop := ∀ b o, h.get? b = some o → Gt h' b o
theorem HX.refl (h : Heap) : HX h h := fun _ _ e => .of e
theorem HX.trans {a b c : Heap} (x : HX a b) (y : HX b c) : HX a c := fun i o e => (x i o e).on fun o e => y i o e
theorem HX.ex {h h' : Heap} (k : ∀ b o, h.get? b = some o → h'.get? b = some o) : HX h h' := fun b o e => .of (k b o e)
theorem HX.push (h : Heap) (o : Obj) : HX h (h.push o) := fun _ _ e => .of (Heap.get?_push_of_some _ e)
theorem ns_gt {h h' : Heap} {a : Addr} {m : Str → Option Value} (x : h.Ns a m) (k : ∀ o, h.get? a = some o → Gt h' a o) : h'.Ns a m := by
  obtain ⟨o, es, ep, e, d, r⟩ := x
  obtain ⟨o', e', s⟩ := k o e
  exact ⟨o', es, ep, e', s.data.trans d, r⟩
theorem ns_hx {h h' : Heap} {a : Addr} {m : Str → Option Value} (x : h.Ns a m) (k : HX h h') : h'.Ns a m := ns_gt x fun o e => k a o e
theorem cell_gt {h h' : Heap} {a : Addr} {v : Option Value} (x : h.IsCell a v) (k : ∀ o, h.get? a = some o → Gt h' a o) : h'.IsCell a v := by
  obtain ⟨o, e, d⟩ := x
  obtain ⟨o', e', s⟩ := k o e
  exact ⟨o', e', s.data.trans d⟩
theorem cell_hx {h h' : Heap} {a : Addr} {v : Option Value} (x : h.IsCell a v) (k : HX h h') : h'.IsCell a v := cell_gt x fun o e => k a o e
theorem nolimit_hx {h h' : Heap} (x : h.NoLimit) (k : HX h h') : h'.NoLimit := let ⟨mc, a, b⟩ := x; ⟨mc, ns_hx a k, b⟩
theorem codeRec_hx {h h' : Heap} {v : Value} {q : Str} (x : h.CodeRec v q) (k : HX h h') : h'.CodeRec v q := by
  obtain ⟨c, o, vs, t, e, g, d, r⟩ := x
  obtain ⟨o', g', s⟩ := k c o g
  exact ⟨c, o', vs, t, e, g', s.data.trans d, r⟩

/-- from s to s' nothing that stood is changed; the view grows by new things alone -/
structure Kp (s : Shared) (c : Cx) (s' : Shared) (c' : Cx) : Prop where
  same : ∃ h tk, s' = { s with heap := h, toks := tk }
  keep : HX s.heap s'.heap
  le : Le c c'
  ins : InS c' s'
  new : ∀ b x, c'.o b = some x → c.o b = some x ∨ s.heap.get? b = none
theorem Kp.refl {s : Shared} {c : Cx} (x : InS c s) : Kp s c s c := ⟨⟨s.heap, s.toks, rfl⟩, HX.refl _, Le.refl _, x, fun _ _ e => .inl e⟩
theorem none_of_keep {h h' : Heap} (k : HX h h') {b : Addr} (e : h'.get? b = none) : h.get? b = none := by
  cases q : h.get? b with
  | none => rfl
  | some o => obtain ⟨o', e', _⟩ := k _ _ q; rw [e'] at e; cases e
theorem Kp.trans {s₁ s₂ s₃ : Shared} {c₁ c₂ c₃ : Cx} (x : Kp s₁ c₁ s₂ c₂) (y : Kp s₂ c₂ s₃ c₃) : Kp s₁ c₁ s₃ c₃ := by
  refine ⟨?_, x.keep.trans y.keep, x.le.trans y.le, y.ins, fun b o e => ?_⟩
  · obtain ⟨h, t, rfl⟩ := x.same
    obtain ⟨h', t', rfl⟩ := y.same
    exact ⟨h', t', rfl⟩
  · rcases y.new b o e with e | e
    · exact x.new b o e
    · exact .inr (none_of_keep x.keep e)
/-- a new token, bearing v -/
theorem Kp.fresh {s : Shared} {c : Cx} (x : InS c s) (v : Value) : Kp s c { s with toks := s.toks + 1 } (c.tok s.toks v) where
  same := ⟨s.heap, s.toks + 1, rfl⟩
  keep := HX.refl _
  le := ⟨fun _ _ e => e, fun t u e => by
    show (if t = s.toks then some v else c.m t) = some u
    rw [if_neg (Nat.ne_of_lt (x.lt t u e))]; exact e⟩
  ins := ⟨x.o, x.nf, Nat.succ_pos _, fun t u e => by
    have e' : (if t = s.toks then some v else c.m t) = some u := e
    by_cases q : t = s.toks
    · rw [q]; exact Nat.lt_succ_self _
    · rw [if_neg q] at e'; exact Nat.lt_succ_of_lt (x.lt t u e')⟩
  new := fun _ _ e => .inl e
theorem Kp.grow {s : Shared} {c : Cx} {h : Heap} {t : Nat} (x : InS c s) (k : HX s.heap h) (hl : s.toks ≤ t) : Kp s c { s with heap := h, toks := t } c :=
  ⟨⟨h, t, rfl⟩, k, Le.refl _, ⟨fun b o e => (k _ _ (x.o b o e)).exact (x.nf b o e), x.nf, Nat.lt_of_lt_of_le x.pos hl, fun t v e => Nat.lt_of_lt_of_le (x.lt t v e) hl⟩, fun _ _ e => .inl e⟩
theorem Kp.heap {s : Shared} {c : Cx} {h : Heap} (x : InS c s) (k : HX s.heap h) : Kp s c { s with heap := h } c := Kp.grow x k (Nat.le_refl _)
theorem Kp.toks {s : Shared} {c : Cx} {t : Nat} (x : InS c s) (hl : s.toks ≤ t) : Kp s c { s with toks := t } c := Kp.grow x (HX.refl _) hl
theorem Kp.fromTo {s s' : Shared} {c : Cx} (x : InS c s) (same : ∃ h tk, s' = { s with heap := h, toks := tk }) (k : HX s.heap s'.heap) (hl : s.toks ≤ s'.toks) : Kp s c s' c := by
  obtain ⟨h, t, rfl⟩ := same; exact Kp.grow x k hl
/-- a new thing comes into the view -/
theorem Kp.put {s s' : Shared} {c c' : Cx} (x : Kp s c s' c') {a : Addr} {o : Obj} (ha : s.heap.get? a = none) (hn : c'.o a = none) (he : s'.heap.get? a = some o) (hf : NoD o) : Kp s c s' (c'.put a o) where
  same := x.same
  keep := x.keep
  le := ⟨fun b z e => by
    show (if b = a then some o else c'.o b) = some z
    have := x.le.o b z e
    rw [if_neg (fun q => by rw [q, hn] at this; cases this)]; exact this, x.le.m⟩
  ins := ⟨fun b z e => by
    have e' : (if b = a then some o else c'.o b) = some z := e
    by_cases q : b = a
    · rw [if_pos q] at e'; cases e'; rw [q]; exact he
    · rw [if_neg q] at e'; exact x.ins.o b z e', fun b z e => by
    have e' : (if b = a then some o else c'.o b) = some z := e
    by_cases q : b = a
    · rw [if_pos q] at e'; cases e'; exact hf
    · rw [if_neg q] at e'; exact x.ins.nf b z e', x.ins.pos, x.ins.lt⟩
  new := fun b z e => by
    have e' : (if b = a then some o else c'.o b) = some z := e
    by_cases q : b = a
    · rw [q]; exact .inr ha
    · rw [if_neg q] at e'; exact x.new b z e'
theorem Cx.put_self (c : Cx) (a : Addr) (x : Obj) : (c.put a x).o a = some x := if_pos rfl
theorem Cx.put_le {c : Cx} {a : Addr} (hn : c.o a = none) (o : Obj) : Le c (c.put a o) := ⟨fun b z e => by
    show (if b = a then some o else c.o b) = some z
    rw [if_neg (fun q => by rw [q, hn] at e; cases e)]; exact e, fun _ _ e => e⟩
theorem InS.none {c : Cx} {s : Shared} (x : InS c s) {a : Addr} (e : s.heap.get? a = none) : c.o a = none := by
  cases q : c.o a with
  | none => rfl
  | some o => rw [x.o a o q] at e; cases e
theorem get_size (h : Heap) : h.get? h.objs.size = none := Heap.get?_none_of_le (Nat.le_refl _)
/-- the next place is taken, and comes into the view -/
theorem Kp.push {s : Shared} {c : Cx} (x : InS c s) (o : Obj) (hf : o.isFreed = false := by rfl) (hc : NoD o := by intro _ _ h; cases h) : Kp s c { s with heap := s.heap.push o } (c.put s.heap.objs.size o) :=
  (Kp.heap x (HX.push s.heap o)).put (get_size _) (x.none (get_size _)) (Heap.get?_push_size _ hf) hc

/-! ## What a value is, told so that it stays true while the view grows -/
structure VP where
  ok : Cx → Value → Prop
  mono : ∀ {c c' : Cx} {v : Value}, Le c c' → ok c v → ok c' v

abbrev AllOk (c : Cx) (l : List VP) (vs : List Value) : Prop := Paired (fun (P : VP) v => P.ok c v) l vs
theorem AllOk.mono {c c' : Cx} (x : Le c c') : ∀ {l : List VP} {vs : List Value}, AllOk c l vs → AllOk c' l vs
  | _, _, .nil => .nil
  | _, _, .cons p r => .cons (VP.mono _ x p) (AllOk.mono x r)
theorem AllOk.len {c : Cx} {l : List VP} {vs : List Value} (x : AllOk c l vs) : l.length = vs.length := Paired.length x
theorem AllOk.append {c : Cx} : ∀ {l l' : List VP} {vs vs' : List Value}, AllOk c l vs → AllOk c l' vs' → AllOk c (l ++ l') (vs ++ vs')
  | _, _, _, _, .nil, y => y
  | _, _, _, _, .cons p r, y => .cons p (AllOk.append r y)

/-- an int whose token tells it -/
def IntV (i : Int) : VP := ⟨fun c v => ∃ t, v = .int i t ∧ t ≠ 0 ∧ c.m t = some v, fun x ⟨t, e, z, p⟩ => ⟨t, e, z, x.m _ _ p⟩⟩
/-- an int, whatever its token -/
def IntW (i : Int) : VP := ⟨fun _ v => ∃ t, v = .int i t, fun _ x => x⟩
def StrV (x : Str) : VP := ⟨fun _ v => ∃ t, v = .str x t, fun _ x => x⟩
/-- a str whose token tells it -/
def StrT (x : Str) : VP := ⟨fun c v => ∃ t, v = .str x t ∧ t ≠ 0 ∧ c.m t = some v, fun x ⟨t, e, z, p⟩ => ⟨t, e, z, x.m _ _ p⟩⟩
def BoolV (b : Bool) : VP := ⟨fun _ v => v = .bool b, fun _ x => x⟩
def IsV (v : Value) : VP := ⟨fun _ x => x = v, fun _ x => x⟩
def AnyV : VP := ⟨fun _ _ => True, fun _ x => x⟩
structure IsLst (c : Cx) (a : Addr) (vs : List Value) : Prop where
  out : ∃ x, c.o a = some x ∧ x.cls = .type "list" ∧ ∃ n, x.data = .seq vs.toArray n
theorem IsLst.mono {c c' : Cx} {a : Addr} {vs : List Value} (l : IsLst c a vs) (x : Le c c') : IsLst c' a vs := let ⟨o, e, r⟩ := l.out; ⟨o, x.o _ _ e, r⟩
theorem IsLst.list {c : Cx} {s : Shared} {a : Addr} {vs : List Value} (l : IsLst c a vs) (x : InS c s) : s.heap.IsList a vs.toArray := let ⟨o, e, r⟩ := l.out; ⟨o, x.o _ _ e, r⟩
def ListV (l : List VP) : VP := ⟨fun c v => ∃ a vs, v = .ref a ∧ IsLst c a vs ∧ AllOk c l vs, by
  rintro c c' v x ⟨a, vs, e, i, p⟩
  exact ⟨a, vs, e, i.mono x, p.mono x⟩⟩
structure IsTup (c : Cx) (a : Addr) (vs : List Value) : Prop where
  out : ∃ x, c.o a = some x ∧ x.cls = .type "tuple" ∧ ∃ n, x.data = .seq vs.toArray n
theorem IsTup.mono {c c' : Cx} {a : Addr} {vs : List Value} (l : IsTup c a vs) (x : Le c c') : IsTup c' a vs := let ⟨o, e, r⟩ := l.out; ⟨o, x.o _ _ e, r⟩
def TupV (l : List VP) : VP := ⟨fun c v => ∃ a vs, v = .ref a ∧ IsTup c a vs ∧ AllOk c l vs, by
  rintro c c' v x ⟨a, vs, e, i, p⟩
  exact ⟨a, vs, e, i.mono x, p.mono x⟩⟩
def rangeObj (a b : Int) (t u v : Tok) : Obj := { cls := .type "range", dict := none, data := .fields #[.int a t, .int b u, .int 1 v], slots := #[] }
def RangeV (a b : Int) : VP := ⟨fun c v => ∃ r t u w, v = .ref r ∧ c.o r = some (rangeObj a b t u w), by
  rintro c c' v x ⟨r, t, u, w, e, i⟩
  exact ⟨r, t, u, w, e, x.o _ _ i⟩⟩
abbrev IntsV (l : List Int) : VP := ListV (l.map IntV)
theorem IntV.weak {c : Cx} {i : Int} {v : Value} (x : (IntV i).ok c v) : (IntW i).ok c v := let ⟨t, e, _⟩ := x; ⟨t, e⟩
theorem StrT.weak {c : Cx} {i : Str} {v : Value} (x : (StrT i).ok c v) : (StrV i).ok c v := let ⟨t, e, _⟩ := x; ⟨t, e⟩
theorem IntV.fresh {s : Shared} {c : Cx} (x : InS c s) (i : Int) : (IntV i).ok (c.tok s.toks (.int i s.toks)) (.int i s.toks) :=
  ⟨s.toks, rfl, Nat.ne_of_gt x.pos, if_pos rfl⟩
theorem StrT.fresh {s : Shared} {c : Cx} (x : InS c s) (i : Str) : (StrT i).ok (c.tok s.toks (.str i s.toks)) (.str i s.toks) :=
  ⟨s.toks, rfl, Nat.ne_of_gt x.pos, if_pos rfl⟩
theorem ListV.new {c : Cx} {a : Addr} {l : List VP} {vs : List Value} {n : Nat} (hn : c.o a = none) (x : AllOk c l vs) : (ListV l).ok (c.put a { cls := .type "list", data := .seq vs.toArray n }) (.ref a) :=
  ⟨a, vs, rfl, ⟨_, Cx.put_self .., rfl, n, rfl⟩, x.mono (Cx.put_le hn _)⟩

/-! ## The world, the room -/
structure Wd where
  prog : Program
  w : World
abbrev Wd.M (W : Wd) : Model := model W.prog W.w

/-- a frame of the stack stands in the heap -/
def LiveE (h : Heap) (env : Env) : Prop := env.scope.kind ≠ .module ∧ ∃ L m, env.frame = some L ∧ h.Ns L m ∧ topN < L
theorem LiveE.on {h h' : Heap} {env : Env} (x : LiveE h env) (k : HX h h') : LiveE h' env := let ⟨a, L, m, b, d, z⟩ := x; ⟨a, L, m, b, ns_hx d k, z⟩
structure Room (n : Nat) (A : Around) (h : Heap) : Prop where
  handled : A.handled = none
  depth : A.depth + n < recursionLimit
  units : A.units + 32 * (n + 1) < cLine
  fr : ∃ l, A.frames = some l ∧ ∀ env ∈ l, LiveE h env
  top : ∃ o, h.get? topN = some o
theorem Room.on {n : Nat} {A : Around} {h h' : Heap} (r : Room n A h) (k : HX h h') : Room n A h' :=
  ⟨r.handled, r.depth, r.units, let ⟨l, e, x⟩ := r.fr; ⟨l, e, fun env hm => (x env hm).on k⟩, let ⟨_, e⟩ := r.top; (k _ _ e).live⟩
/-- the room of a def's body: its own frame, and those below, that stood when it was called -/
structure RoomB (n : Nat) (A : Around) (h : Heap) (env : Env) : Prop where
  handled : A.handled = none
  depth : A.depth + n < recursionLimit
  units : A.units + 32 * (n + 1) < cLine
  fr : ∃ l, A.frames = some (env :: l) ∧ ∀ env ∈ l, LiveE h env
  top : ∃ o, h.get? topN = some o
theorem Room.deeper {n : Nat} {A : Around} {h : Heap} {env : Env} (r : Room (n + 1) A h) : RoomB n (A.deeper env) h env :=
  ⟨r.handled, by have := r.depth; show A.depth + 1 + n < _; omega, by have := r.units; show A.units + 3 + _ < _; omega, let ⟨l, e, x⟩ := r.fr; ⟨l, Around.frames_deeper e, x⟩, r.top⟩
theorem Room.le {n m : Nat} {A : Around} {h' : Heap} (r : Room n A h') (h : m ≤ n) : Room m A h' :=
  ⟨r.handled, by have := r.depth; omega, by have := r.units; omega, r.fr, r.top⟩

/-- a tree that makes new things alone -/
abbrev Post (s : Shared) (c : Cx) (P : VP) (v : Value) (s' : Shared) : Prop := ∃ c', Kp s c s' c' ∧ P.ok c' v
def Pure (W : Wd) (n : Nat) (H : Heap) (c : Cx) (t : Sem Value) (P : VP) : Prop :=
  ∀ (A : Around) (E : Value → Shared → Prop) (s : Shared) (c₁ : Cx), Room n A s.heap → HX H s.heap → Le c c₁ → InS c₁ s → wpAny W.M A t (Post s c₁ P) E s
def PE (W : Wd) (n : Nat) (env : Env) (H : Heap) (c : Cx) (e : Expr) (P : VP) : Prop := Pure W n H c (eval e env) P
/-- a test -/
def PT (W : Wd) (n : Nat) (env : Env) (H : Heap) (c : Cx) (e : Expr) (b : Bool) : Prop :=
  ∀ (A : Around) (E : Value → Shared → Prop) (s : Shared) (c₁ : Cx), Room n A s.heap → HX H s.heap → Le c c₁ → InS c₁ s → wpAny W.M A (isTrue e env (eval e env)) (fun r s' => ∃ c', Kp s c₁ s' c' ∧ r = b) E s
/-- a name -/
def Rd (W : Wd) (env : Env) (H : Heap) (c : Cx) (x : Str) (P : VP) : Prop :=
  ∀ (A : Around) (E : Value → Shared → Prop) (s : Shared) (c₁ : Cx), HX H s.heap → Le c c₁ → wpAny W.M A (loadName env x) (fun v s' => s' = s ∧ P.ok c₁ v) E s

theorem Pure.mono {W : Wd} {n : Nat} {H H' : Heap} {c c' : Cx} {P : VP} {t : Sem Value} (p : Pure W n H c t P) (k : HX H H') (l : Le c c') : Pure W n H' c' t P := fun A E s c₁ r x y z => p A E s c₁ r (k.trans x) (l.trans y) z
section
variable {W : Wd} {n : Nat} {env : Env} {H H' : Heap} {c c' : Cx} {e e₁ e₂ : Expr} {P P₁ P₂ P' : VP} {b : Bool} {x : Str}
theorem PE.mono (p : PE W n env H c e P) (k : HX H H') (l : Le c c') : PE W n env H' c' e P := Pure.mono p k l
theorem PE.weak (p : PE W n env H c e P) (k : ∀ c v, P.ok c v → P'.ok c v) : PE W n env H c e P' :=
  fun A E s c₁ r x y z => wpAny_mono (p A E s c₁ r x y z) (fun _ _ ⟨m', q, z⟩ => ⟨m', q, k _ _ z⟩) fun _ _ x => x
theorem PT.mono (p : PT W n env H c e b) (k : HX H H') (l : Le c c') : PT W n env H' c' e b := fun A E s c₁ r x y z => p A E s c₁ r (k.trans x) (l.trans y) z
theorem Rd.mono (p : Rd W env H c x P) (k : HX H H') (l : Le c c') : Rd W env H' c' x P := fun A E s c₁ y z => p A E s c₁ (k.trans y) (l.trans z)

theorem PE.at {A : Around} {E : Value → Shared → Prop} {s : Shared} {Q : Value → Shared → Prop} (p : PE W n env s.heap c e P) (r : Room n A s.heap) (ins : InS c s)
    (k : ∀ v s' c', Kp s c s' c' → P.ok c' v → Q v s') : wpAny W.M A (eval e env) Q E s :=
  wpAny_mono (p A E s c r (HX.refl _) (Le.refl _) ins) (fun v s' ⟨c', q, z⟩ => k v s' c' q z) fun _ _ x => x
theorem PT.at {A : Around} {E : Value → Shared → Prop} {s : Shared} {Q : Bool → Shared → Prop} (p : PT W n env s.heap c e b) (r : Room n A s.heap) (ins : InS c s)
    (k : ∀ s' c', Kp s c s' c' → Q b s') : wpAny W.M A (isTrue e env (eval e env)) Q E s :=
  wpAny_mono (p A E s c r (HX.refl _) (Le.refl _) ins) (fun v s' ⟨c', q, z⟩ => by subst z; exact k s' c' q) fun _ _ x => x

theorem PE.name {pos : Pos} (p : Rd W env H c x P) (hd : (x == ("__debug__" : Str)) = false := by decide) : PE W n env H c (.Name x pos) P :=
  fun A E s c₁ _ y z ins => wpAny_Name (wpAny_mono (p A E s c₁ y z) (fun _ _ hq => by obtain ⟨rfl, q⟩ := hq; exact ⟨c₁, .refl ins, q⟩) fun _ _ x => x) hd
theorem PE.int {i : Int} {k : Nat} {pos : Pos} : PE W n env H c (.Constant (.int i) k pos) (IntV i) :=
  fun _ _ _ _ _ _ _ ins => wpAny_Constant_int ⟨_, .fresh ins _, IntV.fresh ins _⟩
theorem PE.str {x : Str} {k : Nat} {pos : Pos} : PE W n env H c (.Constant (.str x) k pos) (StrT x) :=
  fun _ _ _ _ _ _ _ ins => wpAny_Constant_str ⟨_, .fresh ins _, StrT.fresh ins _⟩

/-- an operation upon two values -/
def Op2 (W : Wd) (n : Nat) (f : Value → Value → Sem Value) (P₁ P₂ P : VP) : Prop :=
  ∀ (A : Around) (E : Value → Shared → Prop) (s : Shared) (c : Cx) (v₁ v₂ : Value), Room n A s.heap → InS c s → P₁.ok c v₁ → P₂.ok c v₂ → wpAny W.M A (f v₁ v₂) (Post s c P) E s
/-- two trees, one behind the other -/
theorem two_at {α : Type} {A : Around} {E : Value → Shared → Prop} {s : Shared} {c₁ : Cx} {f : Value → Value → Sem α} {R : Shared → Cx → α → Shared → Prop}
    (p₁ : PE W n env H c e₁ P₁) (p₂ : PE W n env H c e₂ P₂) (r : Room n A s.heap) (y : HX H s.heap) (l : Le c c₁) (ins : InS c₁ s)
    (o : ∀ s₂ c₂ v₁ v₂, Kp s c₁ s₂ c₂ → P₁.ok c₂ v₁ → P₂.ok c₂ v₂ → wpAny W.M A (f v₁ v₂) (R s₂ c₂) E s₂)
    {Q : α → Shared → Prop} (k : ∀ s₂ c₂ a s₃, Kp s c₁ s₂ c₂ → R s₂ c₂ a s₃ → Q a s₃) :
    wpAny W.M A (eval e₁ env) (fun a s₁ => wpAny W.M A (eval e₂ env) (fun b s₂ => wpAny W.M A (f a b) Q E s₂) E s₁) E s :=
  wpAny_mono (p₁ A E s c₁ r y l ins) (fun v₁ s₁ ⟨m₁, k₁, o₁⟩ => wpAny_mono (p₂ A E s₁ m₁ (r.on k₁.keep) (y.trans k₁.keep) (l.trans k₁.le) k₁.ins) (fun v₂ s₂ ⟨m₂, k₂, o₂⟩ =>
    wpAny_mono (o s₂ m₂ v₁ v₂ (k₁.trans k₂) (P₁.mono k₂.le o₁) o₂) (fun a s₃ h₃ => k s₂ m₂ a s₃ (k₁.trans k₂) h₃) fun _ _ x => x) fun _ _ x => x) fun _ _ x => x
theorem PE.two {op : Operator} {pos : Pos} (p₁ : PE W n env H c e₁ P₁) (p₂ : PE W n env H c e₂ P₂) (o : Op2 W n (binaryOp op) P₁ P₂ P) : PE W n env H c (.BinOp e₁ op e₂ pos) P :=
  fun A E _ _ r y l ins => wpAny_BinOp (two_at p₁ p₂ r y l ins (R := fun s c => Post s c P) (fun s₂ c₂ v₁ v₂ k z₁ z₂ => o A E s₂ c₂ v₁ v₂ (r.on k.keep) k.ins z₁ z₂) fun _ _ _ _ k ⟨m', k', z⟩ => ⟨m', k.trans k', z⟩)
theorem PE.cmp {op : CmpOp} {pos : Pos} (p₁ : PE W n env H c e₁ P₁) (p₂ : PE W n env H c e₂ P₂) (o : Op2 W n (compareOp op) P₁ P₂ P)
    (hm : behindInMarks op e₂ = false := by with_unfolding_all rfl) : PE W n env H c (.Compare e₁ [op] [e₂] pos) P :=
  fun A E _ _ r y l ins => wpAny_Compare1 (two_at p₁ p₂ r y l ins (R := fun s c => Post s c P) (fun s₂ c₂ v₁ v₂ k z₁ z₂ => o A E s₂ c₂ v₁ v₂ (r.on k.keep) k.ins z₁ z₂) fun _ _ _ _ k ⟨m', k', z⟩ => ⟨m', k.trans k', z⟩) hm
theorem PT.cmp {op : CmpOp} {pos : Pos} (p₁ : PE W n env H c e₁ P₁) (p₂ : PE W n env H c e₂ P₂) (o : Op2 W n (compareOp op) P₁ P₂ (BoolV b))
    (hm : behindInMarks op e₂ = false := by with_unfolding_all rfl) : PT W n env H c (.Compare e₁ [op] [e₂] pos) b :=
  fun A E _ _ r y l ins => wpAny_isTrue_Compare1 (two_at p₁ p₂ r y l ins (R := fun s c => Post s c (BoolV b)) (fun s₂ c₂ v₁ v₂ k z₁ z₂ => o A E s₂ c₂ v₁ v₂ (r.on k.keep) k.ins z₁ z₂) fun _ _ _ _ k ⟨m', k', z⟩ => by
    cases z
    exact wpAny_truthy_bool ⟨m', k.trans k', rfl⟩) hm
/-- a test by a value that is a bool -/
theorem PT.val (p : PE W n env H c e (BoolV b)) (he : ∀ t, isTrue e env t = (do let v ← t; standAt e.pos; holding [v] (truthy v)) := by intro _; rfl) : PT W n env H c e b :=
  fun A E s m r y l ins => wpAny_isTrue_value (wpAny_mono (p A E s m r y l ins) (fun _ _ ⟨m', k, z⟩ => by
    cases z
    exact wpAny_truthy_bool ⟨m', k, rfl⟩) fun _ _ x => x) (he _)
theorem PT.not {pos : Pos} (p : PT W n env H c e b) : PT W n env H c (.UnaryOp .Not e pos) (!b) :=
  fun A E s m r y l ins => wpAny_isTrue_Not (wpAny_mono (p A E s m r y l ins) (fun _ _ ⟨m', k, z⟩ => ⟨m', k, by rw [z]⟩) fun _ _ x => x)
theorem PT.or {pos : Pos} {b₁ b₂ : Bool} (p₁ : PT W n env H c e₁ b₁) (p₂ : b₁ = false → PT W n env H c e₂ b₂) : PT W n env H c (.BoolOp .Or [e₁, e₂] pos) (b₁ || b₂) :=
  fun A E s m r y l ins => wpAny_isTrue_BoolOp (wpAny_allTrue_Or_cons (wpAny_mono (p₁ A E s m r y l ins) (fun b s₁ ⟨m₁, k₁, z⟩ => by
    subst z
    cases b with
    | true => exact ⟨m₁, k₁, rfl⟩
    | false => exact wpAny_allTrue_Or_cons (wpAny_mono (p₂ rfl A E s₁ m₁ (r.on k₁.keep) (y.trans k₁.keep) (l.trans k₁.le) k₁.ins) (fun b s₂ ⟨m₂, k₂, z⟩ => by
      subst z
      cases b with
      | true => exact ⟨m₂, k₁.trans k₂, rfl⟩
      | false => exact wpAny_allTrue_Or_nil ⟨m₂, k₁.trans k₂, rfl⟩) fun _ _ x => x)) fun _ _ x => x))
theorem PT.and {pos : Pos} {b₁ b₂ : Bool} (p₁ : PT W n env H c e₁ b₁) (p₂ : b₁ = true → PT W n env H c e₂ b₂) : PT W n env H c (.BoolOp .And [e₁, e₂] pos) (b₁ && b₂) :=
  fun A E s m r y l ins => wpAny_isTrue_BoolOp (wpAny_allTrue_And_cons (wpAny_mono (p₁ A E s m r y l ins) (fun b s₁ ⟨m₁, k₁, z⟩ => by
    subst z
    cases b with
    | false => exact ⟨m₁, k₁, rfl⟩
    | true => exact wpAny_allTrue_And_cons (wpAny_mono (p₂ rfl A E s₁ m₁ (r.on k₁.keep) (y.trans k₁.keep) (l.trans k₁.le) k₁.ins) (fun b s₂ ⟨m₂, k₂, z⟩ => by
      subst z
      cases b with
      | false => exact ⟨m₂, k₁.trans k₂, rfl⟩
      | true => exact wpAny_allTrue_And_nil ⟨m₂, k₁.trans k₂, rfl⟩) fun _ _ x => x)) fun _ _ x => x))
theorem PE.ite {t : Expr} {pos : Pos} (p : PT W n env H c t b) (p₁ : b = true → PE W n env H c e₁ P) (p₂ : b = false → PE W n env H c e₂ P) : PE W n env H c (.IfExp t e₁ e₂ pos) P :=
  fun A E s m r y l ins => wpAny_IfExp (wpAny_mono (p A E s m r y l ins) (fun b s₁ ⟨m₁, k₁, z⟩ => by
    subst z
    cases b with
    | true => exact wpAny_mono (p₁ rfl A E s₁ m₁ (r.on k₁.keep) (y.trans k₁.keep) (l.trans k₁.le) k₁.ins) (fun v s₂ ⟨m₂, k₂, z⟩ => ⟨m₂, k₁.trans k₂, z⟩) fun _ _ x => x
    | false => exact wpAny_mono (p₂ rfl A E s₁ m₁ (r.on k₁.keep) (y.trans k₁.keep) (l.trans k₁.le) k₁.ins) (fun v s₂ ⟨m₂, k₂, z⟩ => ⟨m₂, k₁.trans k₂, z⟩) fun _ _ x => x) fun _ _ x => x)
/-- any rule that says what it makes, and no more -/
theorem post_of {A : Around} {E : Value → Shared → Prop} {s : Shared} {t : Sem Value} (h : wpAny W.M A t (fun v s' => s.toks ≤ s'.toks → Post s c P v s') E s) : wpAny W.M A t (Post s c P) E s :=
  wpAny_with_toks (Nat.le_refl _) (wpAny_mono h (fun _ _ x => x) fun _ _ x _ => x)
end
end Mine

/-! ### C2 -/
open PySem PySem.W PyProof.Rows
set_option Elab.async false
namespace Mine

/-! ## Ints -/
def IsI (P : VP) (a : Int) : Prop := ∀ c v, P.ok c v → ∃ t, v = .int a t
theorem isI_v (a : Int) : IsI (IntV a) a := fun _ _ ⟨t, e, _⟩ => ⟨t, e⟩
theorem isI_w (a : Int) : IsI (IntW a) a := fun _ _ x => x
def IsS (P : VP) (a : Str) : Prop := ∀ c v, P.ok c v → ∃ t, v = .str a t
theorem isS_t (a : Str) : IsS (StrT a) a := fun _ _ ⟨t, e, _⟩ => ⟨t, e⟩
theorem isS_v (a : Str) : IsS (StrV a) a := fun _ _ x => x
section
variable {W : Wd} {n : Nat} {env : Env} {H : Heap} {c : Cx} {e e₁ e₂ : Expr} {P P₁ P₂ : VP} {a b : Int} {pos : Pos}
theorem PE.w (p : PE W n env H c e (IntV a)) : PE W n env H c e (IntW a) := p.weak fun _ _ x => IntV.weak x
theorem PE.sw {x : Str} (p : PE W n env H c e (StrT x)) : PE W n env H c e (StrV x) := p.weak fun _ _ x => StrT.weak x
theorem op_int {op : Operator} {a b r : Int} (i₁ : IsI P₁ a) (i₂ : IsI P₂ b)
    (o : ∀ (A : Around) (E Q : Value → Shared → Prop) (s : Shared) (t u : Tok), Q (.int r s.toks) { s with toks := s.toks + 1 } → wpAny W.M A (binaryOp op (.int a t) (.int b u)) Q E s) : Op2 W n (binaryOp op) P₁ P₂ (IntV r) := by
  intro A E s c v₁ v₂ _ ins z₁ z₂
  obtain ⟨t, rfl⟩ := i₁ _ _ z₁
  obtain ⟨u, rfl⟩ := i₂ _ _ z₂
  exact o _ _ _ _ _ _ ⟨_, .fresh ins _, IntV.fresh ins _⟩
theorem PE.add (p₁ : PE W n env H c e₁ P₁) (p₂ : PE W n env H c e₂ P₂) (i₁ : IsI P₁ a := by first | exact isI_v _ | exact isI_w _) (i₂ : IsI P₂ b := by first | exact isI_v _ | exact isI_w _) :
    PE W n env H c (.BinOp e₁ .Add e₂ pos) (IntV (a + b)) := .two p₁ p₂ (op_int i₁ i₂ fun _ _ _ _ _ _ h => add_int h)
theorem PE.sub (p₁ : PE W n env H c e₁ P₁) (p₂ : PE W n env H c e₂ P₂) (i₁ : IsI P₁ a := by first | exact isI_v _ | exact isI_w _) (i₂ : IsI P₂ b := by first | exact isI_v _ | exact isI_w _) :
    PE W n env H c (.BinOp e₁ .Sub e₂ pos) (IntV (a - b)) := .two p₁ p₂ (op_int i₁ i₂ fun _ _ _ _ _ _ h => sub_int h)
theorem PE.mul (p₁ : PE W n env H c e₁ P₁) (p₂ : PE W n env H c e₂ P₂) (hm : IntMulOk a b) (i₁ : IsI P₁ a := by first | exact isI_v _ | exact isI_w _) (i₂ : IsI P₂ b := by first | exact isI_v _ | exact isI_w _) :
    PE W n env H c (.BinOp e₁ .Mult e₂ pos) (IntV (a * b)) := .two p₁ p₂ (op_int i₁ i₂ fun _ _ _ _ _ _ h => mul_int h hm)
theorem PE.mod (p₁ : PE W n env H c e₁ P₁) (p₂ : PE W n env H c e₂ P₂) (hb : b ≠ 0) (i₁ : IsI P₁ a := by first | exact isI_v _ | exact isI_w _) (i₂ : IsI P₂ b := by first | exact isI_v _ | exact isI_w _) :
    PE W n env H c (.BinOp e₁ .Mod e₂ pos) (IntV (a.fmod b)) := .two p₁ p₂ (op_int i₁ i₂ fun _ _ _ _ _ _ h => mod_int' hb h)
theorem PE.fdiv (p₁ : PE W n env H c e₁ P₁) (p₂ : PE W n env H c e₂ P₂) (hb : b ≠ 0 ∧ b.natAbs < 1073741824) (i₁ : IsI P₁ a := by first | exact isI_v _ | exact isI_w _) (i₂ : IsI P₂ b := by first | exact isI_v _ | exact isI_w _) :
    PE W n env H c (.BinOp e₁ .FloorDiv e₂ pos) (IntV (a.fdiv b)) := .two p₁ p₂ (op_int i₁ i₂ fun _ _ _ _ _ _ h => floordiv_int hb.1 h (Or.inl (PyProof.noPylong_small hb.2)))
theorem PE.pow (p₁ : PE W n env H c e₁ P₁) (p₂ : PE W n env H c e₂ P₂) (hn : 0 ≤ b) (hsz : (Builtin.Int.intBits a : Int) * b ≤ 2 ^ 27) (i₁ : IsI P₁ a := by first | exact isI_v _ | exact isI_w _) (i₂ : IsI P₂ b := by first | exact isI_v _ | exact isI_w _) :
    PE W n env H c (.BinOp e₁ .Pow e₂ pos) (IntV (a ^ b.toNat)) := .two p₁ p₂ (op_int i₁ i₂ fun _ _ _ _ _ _ h => pow_int hn hsz h)
theorem PE.neg (p : PE W n env H c e P) (i : IsI P a := by first | exact isI_v _ | exact isI_w _) : PE W n env H c (.UnaryOp .USub e pos) (IntV (-a)) :=
  fun A E s m r y l ins => wpAny_UnaryOp (wpAny_mono (p A E s m r y l ins) (fun v s₁ ⟨m₁, k, z⟩ => by
    obtain ⟨t, rfl⟩ := i _ _ z
    exact neg_int ⟨_, k.trans (.fresh k.ins _), IntV.fresh k.ins _⟩) fun _ _ x => x)
theorem op_cmp {op : CmpOp} {a b : Int} {d : Bool} (i₁ : IsI P₁ a) (i₂ : IsI P₂ b)
    (o : ∀ (A : Around) (E Q : Value → Shared → Prop) (s : Shared) (t u : Tok), Q (.bool d) s → wpAny W.M A (compareOp op (.int a t) (.int b u)) Q E s) : Op2 W n (compareOp op) P₁ P₂ (BoolV d) := by
  intro A E s c v₁ v₂ _ ins z₁ z₂
  obtain ⟨t, rfl⟩ := i₁ _ _ z₁
  obtain ⟨u, rfl⟩ := i₂ _ _ z₂
  exact o _ _ _ _ _ _ ⟨_, .refl ins, rfl⟩
theorem o_eq (i₁ : IsI P₁ a := by first | exact isI_v _ | exact isI_w _) (i₂ : IsI P₂ b := by first | exact isI_v _ | exact isI_w _) : Op2 W n (compareOp .Eq) P₁ P₂ (BoolV (a == b)) := op_cmp i₁ i₂ fun _ _ _ _ _ _ h => eq_int h
theorem o_ne (i₁ : IsI P₁ a := by first | exact isI_v _ | exact isI_w _) (i₂ : IsI P₂ b := by first | exact isI_v _ | exact isI_w _) : Op2 W n (compareOp .NotEq) P₁ P₂ (BoolV (a != b)) := op_cmp i₁ i₂ fun _ _ _ _ _ _ h => ne_int h
theorem o_lt (i₁ : IsI P₁ a := by first | exact isI_v _ | exact isI_w _) (i₂ : IsI P₂ b := by first | exact isI_v _ | exact isI_w _) : Op2 W n (compareOp .Lt) P₁ P₂ (BoolV (decide (a < b))) := op_cmp i₁ i₂ fun _ _ _ _ _ _ h => lt_int h
theorem o_gt (i₁ : IsI P₁ a := by first | exact isI_v _ | exact isI_w _) (i₂ : IsI P₂ b := by first | exact isI_v _ | exact isI_w _) : Op2 W n (compareOp .Gt) P₁ P₂ (BoolV (decide (b < a))) := op_cmp i₁ i₂ fun _ _ _ _ _ _ h => gt_int h
theorem o_ge (i₁ : IsI P₁ a := by first | exact isI_v _ | exact isI_w _) (i₂ : IsI P₂ b := by first | exact isI_v _ | exact isI_w _) : Op2 W n (compareOp .GtE) P₁ P₂ (BoolV (decide (b ≤ a))) := op_cmp i₁ i₂ fun _ _ _ _ _ _ h => ge_int h
theorem o_eqb {a b : Bool} : Op2 W n (compareOp .Eq) (BoolV a) (BoolV b) (BoolV (a == b)) := by
  intro A E s c v₁ v₂ _ ins z₁ z₂
  cases z₁; cases z₂
  exact eq_bool ⟨_, .refl ins, rfl⟩
theorem o_eqs {a b : Str} (i₁ : IsS P₁ a := by first | exact isS_t _ | exact isS_v _) (i₂ : IsS P₂ b := by first | exact isS_t _ | exact isS_v _) : Op2 W n (compareOp .Eq) P₁ P₂ (BoolV (a == b)) := by
  intro A E s c v₁ v₂ _ ins z₁ z₂
  obtain ⟨t, rfl⟩ := i₁ _ _ z₁
  obtain ⟨u, rfl⟩ := i₂ _ _ z₂
  exact eq_str ⟨_, .refl ins, rfl⟩
theorem o_nes {a b : Str} (i₁ : IsS P₁ a := by first | exact isS_t _ | exact isS_v _) (i₂ : IsS P₂ b := by first | exact isS_t _ | exact isS_v _) : Op2 W n (compareOp .NotEq) P₁ P₂ (BoolV (a != b)) := by
  intro A E s c v₁ v₂ _ ins z₁ z₂
  obtain ⟨t, rfl⟩ := i₁ _ _ z₁
  obtain ⟨u, rfl⟩ := i₂ _ _ z₂
  exact ne_str ⟨_, .refl ins, rfl⟩
theorem o_adds {a b : Str} (hsz : a.length + b.length ≤ sizeLine) (i₁ : IsS P₁ a := by first | exact isS_t _ | exact isS_v _) (i₂ : IsS P₂ b := by first | exact isS_t _ | exact isS_v _) : Op2 W n (binaryOp .Add) P₁ P₂ (StrV (a ++ b)) := by
  intro A E s c v₁ v₂ _ ins z₁ z₂
  obtain ⟨t, rfl⟩ := i₁ _ _ z₁
  obtain ⟨u, rfl⟩ := i₂ _ _ z₂
  exact post_of (add_str (hsz := hsz) fun t' tk hl => ⟨_, .toks ins hl, t', rfl⟩)
/-- «is» upon two ints whose tokens tell them; the one that is sought is small -/
theorem o_is (hb : smallInt b = true) : Op2 W n (compareOp .Is) (IntV a) (IntV b) (BoolV (a == b)) := by
  intro A E s c v₁ v₂ _ ins z₁ z₂
  obtain ⟨t, rfl, t0, tm⟩ := z₁
  obtain ⟨u, rfl, u0, um⟩ := z₂
  have h0 : (t == 0 || u == 0) = false := by simp [t0, u0]
  show wpAny W.M A (do return Value.bool (← isSame (.int a t) (.int b u)) : Sem Value) _ _ _
  refine wpAny_bind ?_
  show wpAny W.M A (if (a == b && smallInt a) = true then isSame.cachedInt t u else isSame.created (a == b) t u) _ _ _
  by_cases q : a = b
  · subst q
    rw [if_pos (by simp [hb])]
    unfold isSame.cachedInt
    rw [h0]
    exact wpAny_bind (wpAny_rule (wpAny_pure (wpAny_pure ⟨_, .refl ins, by simp [BoolV]⟩)))
  · have tu : (t == u) = false := by
      rw [beq_eq_false_iff_ne]; rintro rfl
      rw [tm] at um; injection um with um; injection um with um; exact q um
    have ab : (a == b) = false := beq_eq_false_iff_ne.mpr q
    rw [if_neg (by simp [ab])]
    unfold isSame.created
    simp only [h0, ab, tu, Bool.not_false, if_true, Bool.false_eq_true, if_false]
    exact wpAny_pure (wpAny_pure ⟨_, .refl ins, rfl⟩)
/-- «is» upon two texts whose tokens tell them: true at most where they are alike -/
theorem is_str {A : Around} {E Q : Value → Shared → Prop} {s : Shared} {a b : Str} {v₁ v₂ : Value} (hb : NoneBooked s.heap) (z₁ : (StrT a).ok c v₁) (z₂ : (StrT b).ok c v₂)
    (h : ∀ d : Bool, (d = true → a = b) → Q (.bool d) s) : wpAny W.M A (compareOp .Is v₁ v₂) Q E s := by
  obtain ⟨t, rfl, t0, tm⟩ := z₁
  obtain ⟨u, rfl, u0, um⟩ := z₂
  have h0 : (t == 0 || u == 0) = false := by simp [t0, u0]
  show wpAny W.M A (do return Value.bool (← isSame (.str a t) (.str b u)) : Sem Value) _ _ _
  refine wpAny_bind ?_
  by_cases q : a = b
  · exact wpAny_isSame_str h0 hb fun d => wpAny_pure (h d fun _ => q)
  · have tu : (t == u) = false := by
      rw [beq_eq_false_iff_ne]; rintro rfl
      rw [tm] at um; injection um with um; injection um with um; exact q um
    have ab : (a == b) = false := beq_eq_false_iff_ne.mpr q
    show wpAny W.M A (isSame.created (a == b) t u) _ _ _
    unfold isSame.created
    simp only [h0, ab, tu, Bool.not_false, if_true, Bool.false_eq_true, if_false]
    exact wpAny_pure (wpAny_pure (h false fun e => nomatch e))
end
end Mine

/-! ### C3 -/
open PySem PySem.W PyProof.Rows
set_option Elab.async false
namespace Mine

/-! ## Texts as lists of numbers -/
def S (l : List Nat) : Str := ⟨l.toArray⟩
theorem S_append (a b : List Nat) : S a ++ S b = S (a ++ b) := by
  apply Str.ext'; rw [Str.cps_append]; simp [S]
theorem S_length (a : List Nat) : (S a).length = a.length := by simp [S, Str.length]
theorem S_inj {a b : List Nat} : S a = S b ↔ a = b := by
  constructor
  · intro h; have := congrArg (fun x => x.cps.toList) h; simpa [S] using this
  · rintro rfl; rfl
theorem S_beq (a b : List Nat) : (S a == S b) = (a == b) := by
  by_cases h : a = b
  · subst h; simp
  · have : S a ≠ S b := fun q => h (S_inj.mp q)
    rw [beq_eq_false_iff_ne.mpr this, beq_eq_false_iff_ne.mpr h]
theorem S_bne (a b : List Nat) : (S a != S b) = (a != b) := by simp only [bne, S_beq]
theorem fold_rep (l : List Nat) : ∀ (k : Nat) (acc : Array Nat), ((List.replicate k l.toArray).foldl (· ++ ·) acc).toList = acc.toList ++ (List.replicate k l).flatten
  | 0, acc => by simp
  | k + 1, acc => by
    rw [List.replicate_succ, List.foldl_cons, fold_rep l k]
    simp [List.replicate_succ, List.append_assoc]
theorem mul_S (c : Nat) (k : Nat) : Txt.mul (S [c]) (k : Int) = S (List.replicate k c) := by
  unfold Txt.mul
  by_cases h : (k : Int) < 1
  · rw [if_pos h]
    have : k = 0 := by omega
    subst this; rfl
  · rw [if_neg h]
    by_cases h1 : k = 1
    · subst h1; rw [if_pos (by simp)]; rfl
    · rw [if_neg (by simp [S_length]; omega)]
      apply Str.ext'
      apply Array.toList_inj.mp
      show ((List.replicate ((k : Int)).toNat (S [c]).cps).foldl (· ++ ·) #[]).toList = _
      rw [show (S [c]).cps = [c].toArray from rfl, fold_rep]
      simp only [Int.toNat_natCast, S]
      clear h h1
      induction k with
      | zero => rfl
      | succ k ih => simp only [List.replicate_succ, List.flatten_cons] at ih ⊢; simp at ih ⊢

section
variable {W : Wd} {n : Nat} {env : Env} {H : Heap} {c : Cx} {e e₁ e₂ : Expr} {P P₁ P₂ : VP} {pos : Pos}
theorem o_muls {c k : Nat} (hk : k ≤ 100000) (i₁ : IsS P₁ (S [c]) := by first | exact isS_t _ | exact isS_v _) (i₂ : IsI P₂ (k : Int) := by first | exact isI_v _ | exact isI_w _) : Op2 W n (binaryOp .Mult) P₁ P₂ (StrV (S (List.replicate k c))) := by
  intro A E s c' v₁ v₂ _ ins z₁ z₂
  obtain ⟨t, rfl⟩ := i₁ _ _ z₁
  obtain ⟨u, rfl⟩ := i₂ _ _ z₂
  refine post_of (SB.mul ⟨?_, fun h1 _ => ?_, fun _ _ => ?_⟩ fun t' tk hl => ⟨_, .toks ins hl, t', ?_⟩)
  · simp; omega
  · rw [S_length]
    have : (1 : Int) ≤ (2 ^ 63 - 1) / (k : Int) := by
      rw [Int.le_ediv_iff_mul_le (by omega)]; omega
    intro hh
    have h2 : (([c].length : Nat) : Int) = 1 := rfl
    rw [h2] at hh; omega
  · rw [S_length]
    have h2 : [c].length * ((k : Int)).toNat = k := by simp
    rw [h2]
    exact decide_eq_false (by rw [sizeLine_eq]; omega)
  · rw [mul_S]
end
end Mine

/-! ### C4 -/
open PySem PySem.W PyProof.Rows
set_option Elab.async false
namespace Mine

/-! ## Several expressions, displays, calls -/
def plainE : Expr → Bool
  | .Starred .. => false
  | _ => true
theorem starEach_plain {e : Expr} {rest : List Expr} {env : Env} (h : plainE e = true) : starEach (e :: rest) env = (false, eval e env) :: starEach rest env := by
  cases e <;> first | rfl | cases h
theorem no_star : ∀ {es : List Expr} {env : Env} {pos : Pos}, es.all plainE = true → (backTo pos (starEach es env)).any (·.1) = false
  | [], _, _, _ => rfl
  | e :: r, env, pos, h => by
    rw [List.all_cons, Bool.and_eq_true] at h
    rw [starEach_plain h.1]
    show (false || (backTo pos (starEach r env)).any (·.1)) = false
    rw [no_star h.2]; rfl
inductive PEs (W : Wd) (n : Nat) (env : Env) (H : Heap) (c : Cx) : List Expr → List VP → Prop
  | nil : PEs W n env H c [] []
  | cons {e : Expr} {es : List Expr} {P : VP} {Ps : List VP} : plainE e = true → PE W n env H c e P → PEs W n env H c es Ps → PEs W n env H c (e :: es) (P :: Ps)
section
variable {W : Wd} {n : Nat} {env : Env} {H : Heap} {c : Cx} {e e₁ e₂ : Expr} {P P₁ P₂ : VP} {pos : Pos}
theorem PEs.one (p : PE W n env H c e P) (h : plainE e = true := by rfl) : PEs W n env H c [e] [P] := .cons h p .nil
theorem PEs.two (p₁ : PE W n env H c e₁ P₁) (p₂ : PE W n env H c e₂ P₂) (h₁ : plainE e₁ = true := by rfl) (h₂ : plainE e₂ = true := by rfl) : PEs W n env H c [e₁, e₂] [P₁, P₂] := .cons h₁ p₁ (.one p₂ h₂)
theorem PEs.plain {es : List Expr} {Ps : List VP} (p : PEs W n env H c es Ps) : es.all plainE = true := by
  induction p with
  | nil => rfl
  | cons h _ _ ih => rw [List.all_cons, h, ih]; rfl
theorem PEs.run {es : List Expr} {Ps : List VP} (p : PEs W n env H c es Ps) {A : Around} : ∀ (E : Value → Shared → Prop) (s : Shared) (c₁ : Cx), Room n A s.heap → HX H s.heap → Le c c₁ → InS c₁ s →
    wpAny W.M A (spliced (backTo pos (starEach es env))) (fun vs s' => ∃ c', Kp s c₁ s' c' ∧ AllOk c' Ps vs) E s := by
  induction p with
  | nil => exact fun E s c₁ _ _ _ ins => wpAny_items_nil ⟨c₁, .refl ins, .nil⟩
  | cons h p _ ih =>
    intro E s c₁ r y l ins
    rw [starEach_plain h]
    refine Calls.spliced_cons (wpAny_mono (p A E s c₁ r y l ins) (fun v s₁ ⟨c₂, k, z⟩ => ?_) fun _ _ x => x)
    exact wpAny_mono (ih E s₁ c₂ (r.on k.keep) (y.trans k.keep) (l.trans k.le) k.ins) (fun vs s₂ ⟨c₃, k', z'⟩ => ⟨c₃, k.trans k', .cons (VP.mono _ k'.le z) z'⟩) fun _ _ x => x
/-- a list display -/
theorem PE.list {es : List Expr} {Ps : List VP} (p : PEs W n env H c es Ps) (hsz : Ps.length ≤ 1000) : PE W n env H c (.List es pos) (ListV Ps) := by
  intro A E s c₁ r y l ins
  refine List_ (wpAny_mono (p.run E s c₁ r y l ins) (fun vs s₁ ⟨c₂, k, z⟩ => ?_) fun _ _ x => x)
  refine wpAny_newList ⟨_, k.trans (.push k.ins _), ListV.new (k.ins.none (get_size _)) z⟩ ?_
  rw [← z.len, sizeLine_eq]; omega
theorem PE.nil : PE W n env H c (.List [] pos) (ListV []) := .list .nil (by decide)

/-- what may be called -/
def Callee (c : Heap) (f : Value) : Prop := (∃ id, f = .builtin id) ∨ (∃ T, f = .type T) ∨ ∃ q, f = .ref q ∧ FnAt q c
theorem Callee.mono {h h' : Heap} {f : Value} (x : Callee h f) (k : HX h h') : Callee h' f := by
  rcases x with x | x | ⟨q, e, oc, od, fd, sl, g⟩
  · exact .inl x
  · exact .inr (.inl x)
  · obtain ⟨⟨oc', od', data', sl'⟩, g', s⟩ := k _ _ g
    have hd : data' = .func fd := s.data
    subst hd
    exact .inr (.inr ⟨q, e, oc', od', fd, sl', g'⟩)
theorem callWith_callee {A : Around} {E Q : Value → Shared → Prop} {s : Shared} {f : Value} {e : Expr} {es : List Expr} (x : Callee s.heap f) (hp : (e :: es).all plainE = true)
    (h : wpAny W.M A (spliced (backTo pos (starEach (e :: es) env))) (fun vs s₁ => Callee s₁.heap f ∧ wpAny W.M A (call f vs) Q E s₁) E s) :
    wpAny W.M A (callWith pos f [] (backTo pos (starEach (e :: es) env)) []) Q E s := by
  rw [List.all_cons, Bool.and_eq_true] at hp
  rcases x with ⟨id, rfl⟩ | ⟨T, rfl⟩ | ⟨q, rfl, x⟩
  · rw [starEach_plain hp.1] at h ⊢
    exact Calls.callWith_builtin (by show (false || (backTo pos (starEach es env)).any (·.1)) = false; rw [no_star hp.2]; rfl) (Calls.evalArgs_plain (wpAny_mono h (fun _ _ z => z.2) fun _ _ x => x))
  · exact callWith_type1 (wpAny_mono h (fun _ _ z => z.2) fun _ _ x => x) (starEach_plain hp.1) (no_star hp.2)
  · refine callWith_F x (wpAny_mono h (fun vs s₁ z => ⟨?_, z.2⟩) fun _ _ x => x) (starEach_plain hp.1) (no_star hp.2)
    rcases z.1 with ⟨_, q⟩ | ⟨_, q⟩ | ⟨_, q, z⟩
    · cases q
    · cases q
    · cases q; exact z
/-- a call of f upon values like these gives a value like that, and makes new things alone -/
def Cl (W : Wd) (n : Nat) (H : Heap) (f : Value) (Ps : List VP) (P : VP) : Prop :=
  ∀ (A : Around) (E : Value → Shared → Prop) (s : Shared) (c : Cx) (vs : List Value), Room n A s.heap → HX H s.heap → InS c s → AllOk c Ps vs → wpAny W.M A (call f vs) (Post s c P) E s
theorem Cl.mono {H' : Heap} {f : Value} {Ps : List VP} (x : Cl W n H f Ps P) (k : HX H H') : Cl W n H' f Ps P := fun A E s c vs r y ins z => x A E s c vs r (k.trans y) ins z
/-- a name that is bound to what may be called -/
def Fn (W : Wd) (n : Nat) (env : Env) (H : Heap) (x : Str) (Ps : List VP) (P : VP) : Prop :=
  ∀ (A : Around) (E : Value → Shared → Prop) (s : Shared), HX H s.heap → wpAny W.M A (loadName env x) (fun f s' => s' = s ∧ Callee s.heap f ∧ Cl W n s.heap f Ps P) E s
theorem PE.call {x : Str} {np : Pos} {es : List Expr} {Ps : List VP} (f : Fn W n env H x Ps P) (p : PEs W n env H c es Ps) (hne : es ≠ [] := by intro h; cases h) (hd : (x == ("__debug__" : Str)) = false := by decide) :
    PE W n env H c (.Call (.Name x np) es [] pos) P := by
  intro A E s c₁ r y l ins
  refine wpAny_Call_NameR (wpAny_Name (wpAny_mono (f A E s y) (fun v s₁ hq => ?_) fun _ _ x => x) hd)
  obtain ⟨rfl, hc, cl⟩ := hq
  cases es with
  | nil => exact absurd rfl hne
  | cons e es =>
    refine callWith_callee hc p.plain (wpAny_mono (p.run E s₁ c₁ r y l ins) (fun vs s₂ ⟨c₂, k, z⟩ => ⟨hc.mono k.keep, ?_⟩) fun _ _ x => x)
    exact wpAny_mono (cl A E s₂ c₂ vs (r.on k.keep) k.keep k.ins z) (fun v s₃ ⟨c₃, k', z'⟩ => ⟨c₃, k.trans k', z'⟩) fun _ _ x => x

/-! ## Items and slices -/
theorem AllOk.get {c : Cx} {l : List VP} {vs : List Value} (x : AllOk c l vs) : ∀ {i : Nat} {P : VP}, l[i]? = some P → ∃ v, vs[i]? = some v ∧ P.ok c v := by
  induction x with
  | nil => intro i P h; simp at h
  | cons p _ ih =>
    intro i Q h
    cases i with
    | zero => simp at h; subst h; exact ⟨_, rfl, p⟩
    | succ i => simp at h; obtain ⟨v, e, z⟩ := ih h; exact ⟨v, by simpa using e, z⟩
theorem PE.item {l : List VP} {k : Int} (p₁ : PE W n env H c e₁ (ListV l)) (p₂ : PE W n env H c e₂ P₂) (h0 : 0 ≤ k ∧ k < 2 ^ 63) (hx : l[k.toNat]? = some P)
    (i : IsI P₂ k := by first | exact isI_v _ | exact isI_w _) (hs : ∀ o i, subscripted e₂ false o i = operate [o, i] (getItem o i) := by intro _ _; rfl) : PE W n env H c (.Subscript e₁ e₂ pos) P := by
  intro A E s c₁ r y ll ins
  refine Subscript_ (two_at p₁ p₂ r y ll ins (R := fun s c => Post s c P) (fun s₂ c₂ v₁ v₂ kk z₁ z₂ => ?_) fun _ _ _ _ k ⟨m', k', z⟩ => ⟨m', k.trans k', z⟩)
  obtain ⟨a, vs, rfl, il, ok⟩ := z₁
  obtain ⟨t, rfl⟩ := i _ _ z₂
  obtain ⟨v, ev, ov⟩ := ok.get hx
  exact tail_any (il.list kk.ins).typeIs slot_list_getitem.lookup (wpAny_getItem_list (il.list kk.ins) h0.1 h0.2 (by simpa using ev) ⟨_, .refl kk.ins, ov⟩) (hs _ _)
theorem PE.itemS {x : List Nat} {k : Int} {d : Nat} (p₁ : PE W n env H c e₁ P₁) (p₂ : PE W n env H c e₂ P₂) (h0 : 0 ≤ k ∧ k < 2 ^ 63) (hx : x[k.toNat]? = some d) (i₁ : IsS P₁ (S x) := by first | exact isS_t _ | exact isS_v _)
    (i : IsI P₂ k := by first | exact isI_v _ | exact isI_w _) (hs : ∀ o i, subscripted e₂ false o i = operate [o, i] (getItem o i) := by intro _ _; rfl) : PE W n env H c (.Subscript e₁ e₂ pos) (StrT (S [d])) := by
  intro A E s c₁ r y ll ins
  refine Subscript_ (two_at p₁ p₂ r y ll ins (R := fun s c => Post s c (StrT (S [d]))) (fun s₂ c₂ v₁ v₂ kk z₁ z₂ => ?_) fun _ _ _ _ k ⟨m', k', z⟩ => ⟨m', k.trans k', z⟩)
  obtain ⟨t, rfl⟩ := i₁ _ _ z₁
  obtain ⟨u, rfl⟩ := i _ _ z₂
  refine tail_any (typeIs_str _ _ _) slot_str_getitem.lookup (getItem_str (c := d) ?_ ?_ ⟨_, .fresh kk.ins _, StrT.fresh kk.ins _⟩) (hs _ _)
  · simp; omega
  · have hlt : k.toNat < x.length := (List.getElem?_eq_some_iff.mp hx).1
    have e1 : seqIndex? k (S x).length = some k.toNat := by
      rw [S_length]; unfold seqIndex?; simp; omega
    rw [e1]
    simpa [S] using hx
end
end Mine

/-! ### C5 -/
open PySem PySem.W PyProof.Rows PySem.SeqAt
set_option Elab.async false
namespace Mine
section
variable {W : Wd} {n : Nat} {env : Env} {H : Heap} {c : Cx} {e e₁ e₂ : Expr} {P P₁ P₂ : VP} {pos : Pos}

/-! ## Lists: +, ==, !=, in -/
theorem o_addl {l₁ l₂ : List VP} (hsz : l₁.length + l₂.length ≤ 100000) : Op2 W n (binaryOp .Add) (ListV l₁) (ListV l₂) (ListV (l₁ ++ l₂)) := by
  intro A E s c v₁ v₂ _ ins z₁ z₂
  obtain ⟨a, vs, rfl, il, ok⟩ := z₁
  obtain ⟨b, ws, rfl, il', ok'⟩ := z₂
  obtain ⟨⟨cls, dd, data, sl⟩, ho, hc, k, hd⟩ := il.list ins
  obtain ⟨⟨cls2, dd2, data2, sl2⟩, ho2, hc2, k2, hd2⟩ := il'.list ins
  simp only at hc hd hc2 hd2
  subst hc hd hc2 hd2
  have e : vs.toArray ++ ws.toArray = (vs ++ ws).toArray := by simp
  refine concat_meets ⟨_, ho, rfl⟩ ⟨_, ho2, rfl⟩ noFill_list_add seq_list_add PySem.F.slot_list_add PySem.F.entry_list_add (PySem.F.args_list_add_2 _ _) (list_addW a b vs.toArray ws.toArray k k2 dd dd2 sl sl2 (by
    have h1 := ok.len; have h2 := ok'.len
    rw [sizeLine_eq]; simp only [List.size_toArray]; omega)) ⟨ho, ho2, ?_⟩
  rw [e]
  exact ⟨_, .push ins _, ListV.new (ins.none (get_size _)) (ok.append ok')⟩

/-- two lists whose items compare as told -/
theorem eq_lists {A : Around} {E Q : Value → Shared → Prop} {s : Shared} {a b : Addr} {vs ws : List Value} {r : Bool} (hl : s.heap.IsList a vs.toArray) (hb : s.heap.IsList b ws.toArray) (hu : A.units < cLine)
    (h : (vs.length ≠ ws.length ∧ r = false) ∨ (vs.length = ws.length ∧ ∃ e : Nat → Bool, (∀ j (h1 : j < vs.length) (h2 : j < ws.length), EqAt A.in1 s vs[j] ws[j] (e j)) ∧ (List.range vs.length).all e = r)) :
    Q (.bool r) s → wpAny W.M A (compareOp .Eq (.ref a) (.ref b)) Q E s := by
  intro hq
  rcases h with ⟨hne, rfl⟩ | ⟨he, e, hj, rfl⟩
  · exact eq_list_lengthsAt hl hb (by simpa using hne) hu hq
  · exact eq_listAt (e := e) hl hb (by simpa using he) hu (fun j h1 h2 => by simpa using hj j (by simpa using h1) (by simpa using h2)) (by simpa using hq)
theorem ne_lists {A : Around} {E Q : Value → Shared → Prop} {s : Shared} {a b : Addr} {vs ws : List Value} {r : Bool} (hl : s.heap.IsList a vs.toArray) (hb : s.heap.IsList b ws.toArray) (hu : A.units < cLine)
    (h : (vs.length ≠ ws.length ∧ r = false) ∨ (vs.length = ws.length ∧ ∃ e : Nat → Bool, (∀ j (h1 : j < vs.length) (h2 : j < ws.length), EqAt A.in1 s vs[j] ws[j] (e j)) ∧ (List.range vs.length).all e = r)) :
    Q (.bool (!r)) s → wpAny W.M A (compareOp .NotEq (.ref a) (.ref b)) Q E s := by
  intro hq
  rcases h with ⟨hne, rfl⟩ | ⟨he, e, hj, rfl⟩
  · exact RcNeAt.lists_lengths hl hb (by simpa using hne) hu _ _ _ _ hq
  · exact RcNeAt.lists (e := e) hl hb (by simpa using he) hu (fun j h1 h2 => by simpa using hj j (by simpa using h1) (by simpa using h2)) _ _ _ _ (by simpa using hq)
/-- texts told by their numbers, compared item by item -/
theorem strs_eqAt {A : Around} {s : Shared} {c : Cx} {xs ys : List Str} {vs ws : List Value} (ok : AllOk c (xs.map StrV) vs) (ok' : AllOk c (ys.map StrV) ws) :
    (vs.length ≠ ws.length ∧ (xs == ys) = false) ∨ (vs.length = ws.length ∧ ∃ e : Nat → Bool, (∀ j (h1 : j < vs.length) (h2 : j < ws.length), EqAt A s vs[j] ws[j] (e j)) ∧ (List.range vs.length).all e = (xs == ys)) := by
  have l1 := ok.len
  have l2 := ok'.len
  rw [List.length_map] at l1 l2
  by_cases hl : vs.length = ws.length
  · refine .inr ⟨hl, fun j => xs[j]? == ys[j]?, fun j h1 h2 => ?_, ?_⟩
    · obtain ⟨v, ev, t, rfl⟩ := ok.get (i := j) (P := StrV (xs[j]'(by omega))) (by simp [List.getElem?_map]; exact ⟨_, List.getElem?_eq_getElem (by omega), rfl⟩)
      obtain ⟨v', ev', t', rfl⟩ := ok'.get (i := j) (P := StrV (ys[j]'(by omega))) (by simp [List.getElem?_map]; exact ⟨_, List.getElem?_eq_getElem (by omega), rfl⟩)
      rw [List.getElem?_eq_getElem h1] at ev
      rw [List.getElem?_eq_getElem h2] at ev'
      injection ev with ev; injection ev' with ev'
      rw [ev, ev']
      show EqAt A s _ _ (xs[j]? == ys[j]?)
      rw [List.getElem?_eq_getElem (by omega : j < xs.length), List.getElem?_eq_getElem (by omega : j < ys.length)]
      exact EqAt.str_str _ _ _ _
    · rw [Bool.eq_iff_iff, List.all_eq_true, beq_iff_eq]
      constructor
      · intro h
        apply List.ext_getElem?
        intro i
        by_cases hi : i < vs.length
        · exact beq_iff_eq.mp (h i (List.mem_range.mpr hi))
        · rw [List.getElem?_eq_none (by omega), List.getElem?_eq_none (by omega)]
      · rintro rfl i _; simp
  · refine .inl ⟨hl, ?_⟩
    rw [beq_eq_false_iff_ne]
    rintro rfl
    omega
theorem Room.units' {A : Around} {h : Heap} (r : Room n A h) : A.units < cLine := by have := r.units; omega
theorem o_nel {xs ys : List Str} : Op2 W n (compareOp .NotEq) (ListV (xs.map StrV)) (ListV (ys.map StrV)) (BoolV (xs != ys)) := by
  intro A E s c v₁ v₂ r ins z₁ z₂
  obtain ⟨a, vs, rfl, il, ok⟩ := z₁
  obtain ⟨b, ws, rfl, il', ok'⟩ := z₂
  exact ne_lists (il.list ins) (il'.list ins) r.units' (strs_eqAt ok ok') ⟨_, .refl ins, rfl⟩
/-- a list against the empty one -/
theorem o_eq0 {l : List VP} : Op2 W n (compareOp .Eq) (ListV l) (ListV []) (BoolV l.isEmpty) := by
  intro A E s c v₁ v₂ r ins z₁ z₂
  obtain ⟨a, vs, rfl, il, ok⟩ := z₁
  obtain ⟨b, ws, rfl, il', ok'⟩ := z₂
  cases ok'
  have hlen := ok.len
  refine eq_lists (r := l.isEmpty) (il.list ins) (il'.list ins) r.units' ?_ ⟨_, .refl ins, rfl⟩
  cases l with
  | nil => refine .inr ⟨by simpa using hlen.symm, fun _ => true, fun j h1 h2 => absurd h2 (Nat.not_lt_zero _), by simp⟩
  | cons p l => exact .inl ⟨by simp at hlen ⊢; intro q; subst q; simp at hlen, rfl⟩
theorem o_ne0 {l : List VP} : Op2 W n (compareOp .NotEq) (ListV l) (ListV []) (BoolV (!l.isEmpty)) := by
  intro A E s c v₁ v₂ r ins z₁ z₂
  obtain ⟨a, vs, rfl, il, ok⟩ := z₁
  obtain ⟨b, ws, rfl, il', ok'⟩ := z₂
  cases ok'
  have hlen := ok.len
  refine ne_lists (r := l.isEmpty) (il.list ins) (il'.list ins) r.units' ?_ ⟨_, .refl ins, rfl⟩
  cases l with
  | nil => refine .inr ⟨by simpa using hlen.symm, fun _ => true, fun j h1 h2 => absurd h2 (Nat.not_lt_zero _), by simp⟩
  | cons p l => exact .inl ⟨by simp at hlen ⊢; intro q; subst q; simp at hlen, rfl⟩
/-- the ints of a list of ints -/
def intOf : Value → Int
  | .int i _ => i
  | _ => 0
theorem ints_any {c : Cx} {a : Int} : ∀ {l : List Int} {vs : List Value}, AllOk c (l.map IntV) vs → vs.any (fun v => intOf v == a) = l.contains a ∧ ∀ v ∈ vs, ∃ i t, v = .int i t
  | [], _, .nil => ⟨rfl, fun _ h => nomatch h⟩
  | i :: l, _, .cons (b := v) ⟨t, e, _⟩ r => by
    obtain ⟨h1, h2⟩ := ints_any (a := a) r
    subst e
    refine ⟨?_, ?_⟩
    · rw [List.any_cons, h1, List.contains_cons, show intOf (Value.int i t) = i from rfl]
      have : (i == a) = (a == i) := by rw [Bool.eq_iff_iff, beq_iff_eq, beq_iff_eq]; exact eq_comm
      rw [this]
    · intro v hv
      rcases List.mem_cons.mp hv with rfl | hv
      · exact ⟨i, t, rfl⟩
      · exact h2 v hv
theorem o_in {l : List Int} {a : Int} (i₁ : IsI P a := by first | exact isI_v _ | exact isI_w _) : Op2 W n (compareOp .In) P (IntsV l) (BoolV (l.contains a)) := by
  intro A E s c v₁ v₂ r ins z₁ z₂
  obtain ⟨b, vs, rfl, il, ok⟩ := z₂
  obtain ⟨t, rfl⟩ := i₁ _ _ z₁
  obtain ⟨h1, h2⟩ := ints_any (a := a) ok
  refine in_listAt (fun v => intOf v == a) (il.list ins) (fun y hy => ?_) ⟨_, .refl ins, ?_⟩
  · obtain ⟨i, u, rfl⟩ := h2 y (by simpa using hy)
    exact EqAt.int_int _ _ _ _
  · rw [List.any_toArray, h1]; rfl
theorem o_notin {l : List Int} {a : Int} (i₁ : IsI P a := by first | exact isI_v _ | exact isI_w _) : Op2 W n (compareOp .NotIn) P (IntsV l) (BoolV (!l.contains a)) := by
  intro A E s c v₁ v₂ r ins z₁ z₂
  obtain ⟨b, vs, rfl, il, ok⟩ := z₂
  obtain ⟨t, rfl⟩ := i₁ _ _ z₁
  obtain ⟨h1, h2⟩ := ints_any (a := a) ok
  refine notIn_listAt (fun v => intOf v == a) (il.list ins) (fun y hy => ?_) ⟨_, .refl ins, ?_⟩
  · obtain ⟨i, u, rfl⟩ := h2 y (by simpa using hy)
    exact EqAt.int_int _ _ _ _
  · rw [List.any_toArray, h1]; rfl
end
end Mine

/-! ### C6 -/
open PySem PySem.W PyProof.Rows PySem.SeqAt
set_option Elab.async false
namespace Mine
theorem AllOk.take {c : Cx} : ∀ {l : List VP} {vs : List Value} (k : Nat), AllOk c l vs → AllOk c (l.take k) (vs.take k)
  | _, _, 0, _ => by simp only [List.take_zero]; exact .nil
  | _, _, k + 1, .nil => by simp only [List.take_nil]; exact .nil
  | _, _, k + 1, .cons p r => by simp only [List.take_succ_cons]; exact .cons p (AllOk.take k r)
theorem AllOk.drop {c : Cx} : ∀ {l : List VP} {vs : List Value} (k : Nat), AllOk c l vs → AllOk c (l.drop k) (vs.drop k)
  | _, _, 0, r => by simpa using r
  | _, _, k + 1, .nil => by simp only [List.drop_nil]; exact .nil
  | _, _, k + 1, .cons p r => by simp only [List.drop_succ_cons]; exact AllOk.drop k r
section
variable {W : Wd} {n : Nat} {env : Env} {H : Heap} {c : Cx} {e e₁ e₂ e₃ : Expr} {P P₁ P₂ P₃ : VP} {pos sp : Pos}

/-! ## Slices -/
theorem list_pick {A : Around} {E Q : Value → Shared → Prop} {s : Shared} {c₂ : Cx} {a : Addr} {vs : List Value} {l : List VP} {vl vu : Value} {lo hi : Option Int} (ins : InS c₂ s) (il : IsLst c₂ a vs) (ok : AllOk c₂ l vs) (hsz : l.length ≤ 100000)
    (pl : IsPart vl lo) (pu : IsPart vu hi) {l' : List VP} {vs' : List Value} (hp : slicePick vs.toArray lo hi none = vs'.toArray) (ok' : AllOk c₂ l' vs')
    {value slice : Expr} (hs : ∀ o i, subscripted slice false o i = operate [i, o] (getItem o i))
    (hQ : ∀ v s' c', Kp s c₂ s' c' → (ListV l').ok c' v → Q v s') :
    wpAny W.M A (subscriptTail value slice (.ref a) (.ref s.heap.objs.size)) Q E { s with heap := s.heap.push { cls := .type "slice", data := .fields #[vl, vu, .none] } } := by
  have k := Kp.heap ins (HX.push s.heap { cls := .type "slice", data := .fields #[vl, vu, .none] })
  refine tail_any (il.list k.ins).typeIs slot_list_getitem.lookup ?_ (hs _ _)
  refine wpAny_getItem_list_slice (lo := lo) (hi := hi) (st := none) (il.list k.ins) ⟨_, Heap.get?_push_size _ rfl, rfl, rfl⟩ pl pu .none (by simp) ?_ (by have := ok.len; rw [sizeLine_eq, List.size_toArray]; omega)
  rw [hp]
  exact hQ _ _ _ (k.trans (.push k.ins _)) (ListV.new (k.ins.none (get_size _)) ok')
theorem PE.upto {l : List VP} {k : Nat} (p₁ : PE W n env H c e₁ (ListV l)) (p₂ : PE W n env H c e₂ P₂) (hsz : l.length ≤ 100000) (i : IsI P₂ (k : Int) := by first | exact isI_v _ | exact isI_w _) :
    PE W n env H c (.Subscript e₁ (.Slice none (some e₂) none sp) pos) (ListV (l.take k)) := by
  intro A E s c₁ r y ll ins
  refine Subscript_ (wpAny_mono (p₁ A E s c₁ r y ll ins) (fun v₁ s₁ ⟨c₂, k₁, z₁⟩ => ?_) fun _ _ x => x)
  refine wpAny_Slice (wpAny_evalPart_none (wpAny_evalPart_some (wpAny_mono (p₂ A E s₁ c₂ (r.on k₁.keep) (y.trans k₁.keep) (ll.trans k₁.le) k₁.ins) (fun v₂ s₂ ⟨c₃, k₂, z₂⟩ => wpAny_evalPart_none ?_) fun _ _ x => x)))
  obtain ⟨a, vs, rfl, il, ok⟩ := (ListV l).mono k₂.le z₁
  obtain ⟨t, rfl⟩ := i _ _ z₂
  exact list_pick k₂.ins il ok hsz .none (.int _ _) (slicePick_upto' _ _) (by simpa using ok.take k) (fun _ _ => rfl) fun v s' c' kk z => ⟨c', (k₁.trans k₂).trans kk, z⟩
theorem PE.from {l : List VP} {k : Nat} (p₁ : PE W n env H c e₁ (ListV l)) (p₂ : PE W n env H c e₂ P₂) (hsz : l.length ≤ 100000) (i : IsI P₂ (k : Int) := by first | exact isI_v _ | exact isI_w _) :
    PE W n env H c (.Subscript e₁ (.Slice (some e₂) none none sp) pos) (ListV (l.drop k)) := by
  intro A E s c₁ r y ll ins
  refine Subscript_ (wpAny_mono (p₁ A E s c₁ r y ll ins) (fun v₁ s₁ ⟨c₂, k₁, z₁⟩ => ?_) fun _ _ x => x)
  refine wpAny_Slice (wpAny_evalPart_some (wpAny_mono (p₂ A E s₁ c₂ (r.on k₁.keep) (y.trans k₁.keep) (ll.trans k₁.le) k₁.ins) (fun v₂ s₂ ⟨c₃, k₂, z₂⟩ => wpAny_evalPart_none (wpAny_evalPart_none ?_)) fun _ _ x => x))
  obtain ⟨a, vs, rfl, il, ok⟩ := (ListV l).mono k₂.le z₁
  obtain ⟨t, rfl⟩ := i _ _ z₂
  exact list_pick k₂.ins il ok hsz (.int _ _) .none (slicePick_from' _ _) (by simpa using ok.drop k) (fun _ _ => rfl) fun v s' c' kk z => ⟨c', (k₁.trans k₂).trans kk, z⟩

theorem keptKp {s : Shared} : KeptByPush (fun s' => (∃ h tk, s' = { s with heap := h, toks := tk }) ∧ HX s.heap s'.heap) := by
  rintro s' ob k ⟨⟨h, tk, rfl⟩, x⟩
  exact ⟨⟨_, _, rfl⟩, x.trans (HX.push _ _)⟩
theorem PE.uptoS {x : List Nat} {k : Nat} (p₁ : PE W n env H c e₁ P₁) (p₂ : PE W n env H c e₂ P₂) (hk : k ≤ x.length) (hsz : x.length ≤ 100000) (i₁ : IsS P₁ (S x) := by first | exact isS_t _ | exact isS_v _) (i : IsI P₂ (k : Int) := by first | exact isI_v _ | exact isI_w _) :
    PE W n env H c (.Subscript e₁ (.Slice none (some e₂) none sp) pos) (StrV (S (x.take k))) := by
  intro A E s c₁ r y ll ins
  refine Subscript_ (wpAny_mono (p₁ A E s c₁ r y ll ins) (fun v₁ s₁ ⟨c₂, k₁, z₁⟩ => ?_) fun _ _ x => x)
  refine wpAny_Slice (wpAny_evalPart_none (wpAny_evalPart_some (wpAny_mono (p₂ A E s₁ c₂ (r.on k₁.keep) (y.trans k₁.keep) (ll.trans k₁.le) k₁.ins) (fun v₂ s₂ ⟨c₃, k₂, z₂⟩ => wpAny_evalPart_none ?_) fun _ _ x => x)))
  obtain ⟨u, rfl⟩ := i₁ _ _ z₁
  obtain ⟨t, rfl⟩ := i _ _ z₂
  obtain ⟨T, id, hl, hT, hg⟩ := SBG.sliceItem_ns (prog := W.prog) (w := W.w) (A := A) (E := fun _ _ => False) (x := S x) (t := u) (j := (k : Int)) (uj := t) (s := s₂) (Q := fun v s' => (StrV (S (x.take k))).ok c₃ v ∧ (∃ h tk, s' = { s₂ with heap := h, toks := tk }) ∧ HX s₂.heap s'.heap) keptKp
    ⟨⟨s₂.heap, s₂.toks, rfl⟩, HX.refl _⟩ (fun s' t' hs => ⟨⟨t', by
      have := StrLaws.sliceText_to (x := S x) (j := (k : Int)) ⟨by omega, by simpa [S] using hk⟩
      rw [show Txt.slice (S x) none (some (k : Int)) = StrLaws.sliceText (S x) none (some (k : Int)) from rfl, this]
      simp [S]⟩, hs⟩) (by rw [S_length, sizeLine_eq]; omega)
  refine tail_any hT hl (wpAny_mono (wpAny_toks_of (n := s₂.toks) (Nat.le_refl _) hg) (fun v s' ⟨htk, z, same, hx⟩ => ⟨_, (k₁.trans k₂).trans (Kp.fromTo k₂.ins same hx htk), z⟩) (fun _ _ x => x.2.elim)) rfl
theorem PE.fromToS {x : List Nat} {a b : Nat} (p₁ : PE W n env H c e₁ P₁) (p₂ : PE W n env H c e₂ P₂) (p₃ : PE W n env H c e₃ P₃) (hk : a ≤ b ∧ b ≤ x.length) (hsz : x.length ≤ 100000) (i₁ : IsS P₁ (S x) := by first | exact isS_t _ | exact isS_v _)
    (i₂ : IsI P₂ (a : Int) := by first | exact isI_v _ | exact isI_w _) (i₃ : IsI P₃ (b : Int) := by first | exact isI_v _ | exact isI_w _) :
    PE W n env H c (.Subscript e₁ (.Slice (some e₂) (some e₃) none sp) pos) (StrV (S ((x.drop a).take (b - a)))) := by
  intro A E s c₁ r y ll ins
  refine Subscript_ (wpAny_mono (p₁ A E s c₁ r y ll ins) (fun v₁ s₁ ⟨c₂, k₁, z₁⟩ => ?_) fun _ _ x => x)
  refine wpAny_Slice (wpAny_evalPart_some (wpAny_mono (p₂ A E s₁ c₂ (r.on k₁.keep) (y.trans k₁.keep) (ll.trans k₁.le) k₁.ins) (fun v₂ s₂ ⟨c₃, k₂, z₂⟩ => wpAny_evalPart_some
    (wpAny_mono (p₃ A E s₂ c₃ (r.on (k₁.keep.trans k₂.keep)) ((y.trans k₁.keep).trans k₂.keep) ((ll.trans k₁.le).trans k₂.le) k₂.ins) (fun v₃ s₃ ⟨c₄, k₃, z₃⟩ => wpAny_evalPart_none ?_) fun _ _ x => x)) fun _ _ x => x))
  obtain ⟨u, rfl⟩ := i₁ _ _ z₁
  obtain ⟨t, rfl⟩ := i₂ _ _ z₂
  obtain ⟨t', rfl⟩ := i₃ _ _ z₃
  obtain ⟨T, id, hl, hT, hg⟩ := SBG.sliceItem_ss (prog := W.prog) (w := W.w) (A := A) (E := fun _ _ => False) (x := S x) (t := u) (i := (a : Int)) (ui := t) (j := (b : Int)) (uj := t') (s := s₃) (Q := fun v s' => (StrV (S ((x.drop a).take (b - a)))).ok c₄ v ∧ (∃ h tk, s' = { s₃ with heap := h, toks := tk }) ∧ HX s₃.heap s'.heap) keptKp
    ⟨⟨s₃.heap, s₃.toks, rfl⟩, HX.refl _⟩ (fun s' t' hs => ⟨⟨t', by
      have := StrLaws.sliceText_plain (x := S x) (i := (a : Int)) (j := (b : Int)) ⟨by omega, by omega, by simpa [S] using hk.2⟩
      rw [show Txt.slice (S x) (some (a : Int)) (some (b : Int)) = StrLaws.sliceText (S x) (some (a : Int)) (some (b : Int)) from rfl, this]
      have e : ((b : Int) - (a : Int)).toNat = b - a := by omega
      simp [S, e]⟩, hs⟩) (by rw [S_length, sizeLine_eq]; omega)
  refine tail_any hT hl (wpAny_mono (wpAny_toks_of (n := s₃.toks) (Nat.le_refl _) hg) (fun v s' ⟨htk, z, same, hx⟩ => ⟨_, (k₁.trans (k₂.trans k₃)).trans (Kp.fromTo k₃.ins same hx htk), z⟩) (fun _ _ x => x.2.elim)) rfl

/-! ## Built-in functions -/
theorem cl_len {l : List VP} (hsz : l.length ≤ 100000) : Cl W n H (.builtin "len") [ListV l] (IntV l.length) := by
  intro A E s c vs r _ ins ok
  cases ok with
  | cons z ok =>
    cases ok
    obtain ⟨a, vs, rfl, il, ok⟩ := z
    have hl := ok.len
    refine len_list (il.list ins) (by rw [List.size_toArray]; omega) ?_
    rw [List.size_toArray, ← hl]
    have k1 := Kp.toks (t := s.toks + 1) ins (by omega)
    exact ⟨_, k1.trans (.fresh k1.ins _), IntV.fresh k1.ins _⟩
theorem cl_lenS {x : List Nat} (hsz : x.length ≤ 100000) (i : IsS P (S x) := by first | exact isS_t _ | exact isS_v _) : Cl W n H (.builtin "len") [P] (IntV x.length) := by
  intro A E s c vs r _ ins ok
  cases ok with
  | cons z ok =>
    cases ok
    obtain ⟨t, rfl⟩ := i _ _ z
    refine len_str (by rw [S_length]; omega) ?_
    rw [S_length]
    have k1 := Kp.toks (t := s.toks + 1) ins (by omega)
    exact ⟨_, k1.trans (.fresh k1.ins _), IntV.fresh k1.ins _⟩
theorem cl_range1 {b : Int} (i : IsI P b := by first | exact isI_v _ | exact isI_w _) : Cl W n H (.type "range") [P] (RangeV 0 b) := by
  intro A E s c vs r _ ins ok
  cases ok with
  | cons z ok =>
    cases ok
    obtain ⟨t, rfl⟩ := i _ _ z
    refine call_range_1 ?_
    have k1 := Kp.toks (t := s.toks + 1 + 1) ins (by omega)
    exact ⟨_, k1.trans (.push k1.ins _), _, _, _, _, rfl, Cx.put_self ..⟩
theorem cl_range2 {a b : Int} (i₁ : IsI P₁ a := by first | exact isI_v _ | exact isI_w _) (i₂ : IsI P₂ b := by first | exact isI_v _ | exact isI_w _) : Cl W n H (.type "range") [P₁, P₂] (RangeV a b) := by
  intro A E s c vs r _ ins ok
  cases ok with
  | cons z₁ ok =>
    cases ok with
    | cons z₂ ok =>
      cases ok
      obtain ⟨t, rfl⟩ := i₁ _ _ z₁
      obtain ⟨u, rfl⟩ := i₂ _ _ z₂
      refine call_range_2 ?_
      have k1 := Kp.toks (t := s.toks + 1) ins (by omega)
      exact ⟨_, k1.trans (.push k1.ins _), _, _, _, _, rfl, Cx.put_self ..⟩
end
end Mine

/-! ### C7 -/
open PySem PySem.W PyProof.Rows PySem.SeqAt
set_option Elab.async false
namespace Mine

/-! ## Steps that change what is owned, and nothing else -/
structure Mv (own : List Addr) (s : Shared) (c : Cx) (s' : Shared) (c' : Cx) : Prop where
  same : ∃ h tk, s' = { s with heap := h, toks := tk }
  keep : ∀ b o, b ∉ own → s.heap.get? b = some o → Gt s'.heap b o
  le : Le c c'
  ins : InS c' s'
  new : ∀ b x, c'.o b = some x → c.o b = some x ∨ s.heap.get? b = none
  off : ∀ b ∈ own, c'.o b = none ∧ ∃ o, s'.heap.get? b = some o
theorem Mv.refl {own : List Addr} {s : Shared} {c : Cx} (x : InS c s) (h : ∀ b ∈ own, c.o b = none ∧ ∃ o, s.heap.get? b = some o) : Mv own s c s c :=
  ⟨⟨s.heap, s.toks, rfl⟩, fun _ _ _ e => .of e, Le.refl _, x, fun _ _ e => .inl e, h⟩
theorem Mv.trans {own : List Addr} {s₁ s₂ s₃ : Shared} {c₁ c₂ c₃ : Cx} (x : Mv own s₁ c₁ s₂ c₂) (y : Mv own s₂ c₂ s₃ c₃) : Mv own s₁ c₁ s₃ c₃ := by
  refine ⟨?_, fun b o hb e => (x.keep b o hb e).on fun o e => y.keep b o hb e, x.le.trans y.le, y.ins, fun b o e => ?_, y.off⟩
  · obtain ⟨h, t, rfl⟩ := x.same
    obtain ⟨h', t', rfl⟩ := y.same
    exact ⟨h', t', rfl⟩
  · rcases y.new b o e with e' | e'
    · exact x.new b o e'
    · by_cases hb : b ∈ own
      · rw [(y.off b hb).1] at e; cases e
      · refine .inr ?_
        cases q : s₁.heap.get? b with
        | none => rfl
        | some o' => obtain ⟨o'', e'', _⟩ := x.keep b o' hb q; rw [e''] at e'; cases e'
theorem Kp.mv {own : List Addr} {s s' : Shared} {c c' : Cx} (k : Kp s c s' c') (h : ∀ b ∈ own, c.o b = none ∧ ∃ o, s.heap.get? b = some o) : Mv own s c s' c' :=
  ⟨k.same, fun b o _ e => k.keep b o e, k.le, k.ins, k.new, fun b hb => by
    obtain ⟨h1, o, h2⟩ := h b hb
    refine ⟨?_, (k.keep b o h2).live⟩
    cases q : c'.o b with
    | none => rfl
    | some z => rcases k.new b z q with e | e
                · rw [h1] at e; cases e
                · rw [h2] at e; cases e⟩
theorem Mv.after {own : List Addr} {s₁ s₂ s₃ : Shared} {c₁ c₂ c₃ : Cx} (x : Mv own s₁ c₁ s₂ c₂) (k : Kp s₂ c₂ s₃ c₃) : Mv own s₁ c₁ s₃ c₃ := x.trans (k.mv x.off)
/-- what is owned is new: seen from outside nothing has changed -/
theorem Mv.kp {own : List Addr} {s s' : Shared} {c c' : Cx} (x : Mv own s c s' c') (h : ∀ b ∈ own, s.heap.get? b = none) : Kp s c s' c' :=
  ⟨x.same, fun b o e => x.keep b o (fun hb => by rw [h b hb] at e; cases e) e, x.le, x.ins, x.new⟩
/-- one owned thing is changed -/
theorem Mv.change {own : List Addr} {s : Shared} {c : Cx} {a : Addr} {h' : Heap} {tk : Nat} (ins : InS c s) (off : ∀ b ∈ own, c.o b = none ∧ ∃ o, s.heap.get? b = some o) (ha : a ∈ own) (hs : Heap.SameBut a s.heap h') (hl : ∃ o, h'.get? a = some o) (ht : s.toks ≤ tk) :
    Mv own s c { s with heap := h', toks := tk } c where
  same := ⟨h', tk, rfl⟩
  keep := fun b o hb e => .of (hs.extBut b o (fun q => hb (q ▸ ha)) e)
  le := Le.refl _
  ins := ⟨fun b x e => hs.extBut b x (fun q => by rw [q, (off a ha).1] at e; cases e) (ins.o b x e), ins.nf, Nat.lt_of_lt_of_le ins.pos ht, fun t v e => Nat.lt_of_lt_of_le (ins.lt t v e) ht⟩
  new := fun _ _ e => .inl e
  off := fun b hb => ⟨(off b hb).1, by
    by_cases q : b = a
    · subst q; exact hl
    · obtain ⟨o, e⟩ := (off b hb).2
      exact ⟨o, hs.extBut b o q e⟩⟩
theorem Mv.weaken {own own' : List Addr} {s s' : Shared} {c c' : Cx} (x : Mv own s c s' c') (h : ∀ b ∈ own, b ∈ own') (off : ∀ b ∈ own', c.o b = none ∧ ∃ o, s.heap.get? b = some o) : Mv own' s c s' c' :=
  ⟨x.same, fun b o hb e => x.keep b o (fun q => hb (h b q)) e, x.le, x.ins, x.new, fun b hb => by
    by_cases q : b ∈ own
    · exact x.off b q
    · obtain ⟨h1, o, h2⟩ := off b hb
      refine ⟨?_, (x.keep b o q h2).live⟩
      cases z : c'.o b with
      | none => rfl
      | some z' => rcases x.new b z' z with e | e
                   · rw [h1] at e; cases e
                   · rw [h2] at e; cases e⟩

/-! ## Walking along a thing -/
structure Wk (W : Wd) (tgt : Expr) (A : Around) (c₀ : Cx) (I : Addr) (fp wr : List Addr) (items : List VP) (St : Nat → Heap → Prop) : Prop where
  sub : ∀ b ∈ wr, b ∈ fp
  frame : ∀ i h h', St i h → (∀ b ∈ fp, ∀ o, h.get? b = some o → Gt h' b o) → St i h'
  live : ∀ i h, St i h → ∀ b ∈ wr, ∃ o, h.get? b = some o
  item : ∀ i (s : Shared) (c : Cx) (Q : Value → Shared → Prop) (E : Value → Shared → Prop) (P : VP), items[i]? = some P → St i s.heap → Le c₀ c → InS c s → (∀ b ∈ wr, c.o b = none) →
    (∀ v s' c', Mv wr s c s' c' → St (i + 1) s'.heap → P.ok c' v → Q v s') →
    wpAny W.M A (pyNext (.ref I)) (fun r s₁ => match r with | some v => wpAny W.M A (letOwnedTupleGo tgt (.ref I) v) (fun _ s₂ => Q v s₂) E s₁ | none => False) E s
  done : ∀ (s : Shared) (Q : Option Value → Shared → Prop) (E : Value → Shared → Prop), St items.length s.heap →
    (∀ h' tk, (∀ b o, b ∉ wr → s.heap.get? b = some o → Gt h' b o) → s.toks ≤ tk → Q none { s with heap := h', toks := tk }) → wpAny W.M A (pyNext (.ref I)) Q E s
  self : ∀ i (s : Shared) (Q : Value → Shared → Prop) (E : Value → Shared → Prop), St i s.heap → Q (.ref I) s → wpAny W.M A (pyIter (.ref I)) Q E s
/-- a target that takes a thing whole -/
def Whole (tgt : Expr) : Prop := ∀ it v, letOwnedTupleGo tgt it v = pure ()
theorem whole_name (x : Str) (pos : Pos) : Whole (.Name x pos) := fun _ _ => rfl
def Iters (W : Wd) (tgt : Expr) (P : VP) (items : List VP) : Prop :=
  ∀ (A : Around) (E : Value → Shared → Prop) (s : Shared) (c : Cx) (v : Value), A.handled = none → InS c s → P.ok c v →
    wpAny W.M A (pyIter v) (fun it s' => ∃ I fp wr St, it = .ref I ∧ Kp s c s' c ∧ Wk W tgt A c I fp wr items St ∧ St 0 s'.heap ∧ (∀ b ∈ fp, b < s'.heap.objs.size) ∧ (∀ b ∈ wr, s.heap.get? b = none) ∧ ∀ b ∈ fp, b ∉ wr → ∃ o, c.o b = some o) E s

theorem same_tk {s : Shared} {h : Heap} : ({ s with heap := h } : Shared) = { s with heap := h, toks := s.toks } := rfl
theorem Wk.list {W : Wd} {tgt : Expr} (ht : Whole tgt) {A : Around} {c₀ : Cx} (hh : A.handled = none) {I ax : Addr} (hne : ax ≠ I) {vs : List Value} {l : List VP} (ok : AllOk c₀ l vs) :
    Wk W tgt A c₀ I [I, ax] [I] l (fun i h => h.IsListIter I ax i ∧ h.IsList ax vs.toArray) where
  sub := fun b hb => by simp at hb; simp [hb]
  frame := fun _ _ _ st hk => by
    obtain ⟨o, e, hc, r⟩ := st.1
    obtain ⟨o', e', hc', n, r'⟩ := st.2
    exact ⟨⟨o, (hk I (by simp) o e).exact (by intro _ _ h; rw [r] at h; cases h), hc, r⟩, ⟨o', (hk ax (by simp) o' e').exact (by intro _ _ h; rw [r'] at h; cases h), hc', n, r'⟩⟩
  live := fun i h st b hb => by
    obtain ⟨o, e, _⟩ := st.1
    rw [List.mem_singleton.mp hb]; exact ⟨o, e⟩
  item := fun i s c Q E P hP st le ins off hQ => by
    obtain ⟨v, ev, ov⟩ := ok.get hP
    refine wpAny_pyNext_list_item st.1 st.2 (x := v) (by simpa using ev) fun h' hit' hs' => ?_
    refine wpAny_of_eq (ht _ _) (hQ v _ c ?_ ⟨hit', st.2.extBut hs'.extBut hne⟩ (P.mono le ov))
    obtain ⟨o, e, _⟩ := hit'
    obtain ⟨o', e', _⟩ := st.1
    exact Mv.change ins (fun b hb => ⟨off b hb, by rw [List.mem_singleton.mp hb]; exact ⟨_, e'⟩⟩) (List.mem_singleton.mpr rfl) hs' ⟨o, e⟩ (Nat.le_refl _)
  done := fun s Q E st hQ => wpAny_pyNext_list_end hh st.1 st.2 (by have := ok.len; simp; omega) fun h' he' => hQ h' s.toks (fun b o hb e => .of (he' b o (fun h => hb (by simp [h])) e)) (Nat.le_refl _)
  self := fun _ _ _ _ st hQ => wpAny_pyIter_listiter st.1 hQ
theorem iters_list {W : Wd} {tgt : Expr} (ht : Whole tgt) {l : List VP} : Iters W tgt (ListV l) l := by
  intro A E s c v hh ins z
  obtain ⟨a, vs, rfl, il, ok⟩ := z
  have hl := il.list ins
  have hlt : a < s.heap.objs.size := by obtain ⟨_, e, _⟩ := hl; exact Heap.lt_size e
  refine wpAny_pyIter_list hl ⟨_, _, _, _, rfl, .heap ins (HX.push _ _), Wk.list ht hh (Nat.ne_of_lt hlt) ok, ⟨⟨_, Heap.get?_push_size _ rfl, rfl, rfl⟩, hl.push _⟩, ?_, ?_, ?_⟩
  · intro b hb
    show b < (s.heap.push _).objs.size
    rw [Heap.size_push]
    rcases List.mem_cons.mp hb with rfl | hb
    · exact Nat.lt_succ_self _
    · rw [List.mem_singleton.mp hb]; exact Nat.lt_succ_of_lt hlt
  · intro b hb
    rw [List.mem_singleton.mp hb]; exact get_size _
  · intro b hb hw
    rcases List.mem_cons.mp hb with rfl | hb
    · exact absurd (List.mem_singleton.mpr rfl) hw
    · obtain ⟨o, e, _⟩ := il.out
      rw [List.mem_singleton.mp hb]; exact ⟨o, e⟩
def rangeL (a : Int) (n : Nat) : List Int := (List.range n).map fun (i : Nat) => a + (i : Int)
theorem rangeL_get {a : Int} {n i : Nat} : (rangeL a n)[i]? = if i < n then some (a + (i : Int)) else none := by
  unfold rangeL
  rw [List.getElem?_map]
  by_cases h : i < n
  · rw [List.getElem?_range h, if_pos h]; rfl
  · rw [List.getElem?_eq_none (by simpa using h), if_neg h]; rfl
theorem rangeL_length (a : Int) (n : Nat) : (rangeL a n).length = n := by simp [rangeL]
theorem Wk.range {W : Wd} {tgt : Expr} (ht : Whole tgt) {A : Around} {c₀ : Cx} (hh : A.handled = none) (I : Addr) (a : Int) (n : Nat) :
    Wk W tgt A c₀ I [I] [I] ((rangeL a n).map IntV) (fun i h => IsRangeIter h I (a + (i : Nat)) ((n : Int) - (i : Nat)) 1) where
  sub := fun _ hb => hb
  frame := fun _ _ _ st hk => (hk I (by simp) _ st).exact (by intro _ _ h; cases h)
  live := fun i h st b hb => by rw [List.mem_singleton.mp hb]; exact ⟨_, st⟩
  item := fun i s c Q E P hP st le ins off hQ => by
    rw [List.getElem?_map, rangeL_get] at hP
    by_cases hi : i < n
    · rw [if_pos hi] at hP
      cases hP
      refine wpAny_pyNext_range_item st (by omega) fun h' hit' hs' => ?_
      have off' : ∀ b ∈ [I], c.o b = none ∧ ∃ o, s.heap.get? b = some o := fun b hb => ⟨off b hb, by rw [List.mem_singleton.mp hb]; exact ⟨_, st⟩⟩
      have m1 := Mv.change (tk := s.toks) ins off' (List.mem_singleton.mpr rfl) hs' ⟨_, hit'⟩ (Nat.le_refl _)
      refine wpAny_of_eq (ht _ _) (hQ _ _ _ (m1.after (Kp.fresh m1.ins _)) ?_ (IntV.fresh m1.ins _))
      have e1 : a + ((i + 1 : Nat) : Int) = a + (i : Int) + 1 := by omega
      have e2 : (n : Int) - ((i + 1 : Nat) : Int) = (n : Int) - (i : Int) - 1 := by omega
      rw [e1, e2]; exact hit'
    · rw [if_neg hi] at hP; cases hP
  done := fun s Q E st hQ => by
    rw [List.length_map, rangeL_length] at st
    exact wpAny_pyNext_range_end hh st (by omega) fun h' he' => hQ h' s.toks (fun b o hb e => .of (he' b o (fun h => hb (by simp [h])) e)) (Nat.le_refl _)
  self := fun _ _ _ _ st hQ => wpAny_pyIter_rangeiter st hQ
theorem iters_range {W : Wd} {tgt : Expr} (ht : Whole tgt) {a b : Int} {n : Nat} (hab : b = a + (n : Int)) (h1 : -1000000 ≤ a) (h2 : b ≤ 1000000) : Iters W tgt (RangeV a b) ((rangeL a n).map IntV) := by
  intro A E s c v hh ins z
  obtain ⟨r, t, u, w, rfl, e⟩ := z
  have hr : IsRange s.heap r a b 1 t u w := ins.o _ _ e
  refine wpAny_pyIter_range hr (small_one (by omega) (by omega) (by omega) (by omega)) ⟨_, _, _, _, rfl, .heap ins (HX.push _ _), Wk.range ht hh _ a n, ?_, ?_, ?_, fun b hb hw => absurd hb hw⟩
  · have e : Builtin.Range.rangeSize a b 1 = (n : Int) := by
      subst hab
      simp [Builtin.Range.rangeSize]
      omega
    show IsRangeIter (s.heap.push _) _ _ _ _
    rw [e]
    simpa using Heap.get?_push_size _ rfl
  · intro b hb
    rw [List.mem_singleton.mp hb]
    show s.heap.objs.size < (s.heap.push _).objs.size
    rw [Heap.size_push]; exact Nat.lt_succ_self _
  · intro b hb
    rw [List.mem_singleton.mp hb]; exact get_size _
end Mine

/-! ### C8 -/
open PySem PySem.W PyProof.Rows PySem.SeqAt
set_option Elab.async false
namespace Mine
theorem Wk.str {W : Wd} {tgt : Expr} (ht : Whole tgt) {A : Around} {c₀ : Cx} (hh : A.handled = none) (I : Addr) (x : List Nat) (t : Tok) :
    Wk W tgt A c₀ I [I] [I] (x.map fun d => StrT (S [d])) (fun i h => h.IsStrIter I "str_ascii_iterator" (S x) t i) where
  sub := fun _ hb => hb
  frame := fun _ _ _ st hk => by obtain ⟨o, e, hc, r⟩ := st; exact ⟨o, (hk I (by simp) _ e).exact (by intro _ _ h; rw [r] at h; cases h), hc, r⟩
  live := fun i h st b hb => by obtain ⟨o, e, r⟩ := st; rw [List.mem_singleton.mp hb]; exact ⟨_, e⟩
  item := fun i s c Q E P hP st le ins off hQ => by
    rw [List.getElem?_map] at hP
    obtain ⟨d, hd, rfl⟩ := Option.map_eq_some_iff.mp hP
    refine wpAny_pyNext_ascii_item st (c := d) (by simpa [S] using hd) fun h' hit' hs' => ?_
    have off' : ∀ b ∈ [I], c.o b = none ∧ ∃ o, s.heap.get? b = some o := fun b hb => ⟨off b hb, by rw [List.mem_singleton.mp hb]; obtain ⟨o, e, _⟩ := st; exact ⟨o, e⟩⟩
    have m1 := Mv.change (tk := s.toks) ins off' (List.mem_singleton.mpr rfl) hs' (by obtain ⟨o, e, _⟩ := hit'; exact ⟨o, e⟩) (Nat.le_refl _)
    exact wpAny_of_eq (ht _ _) (hQ _ _ _ (m1.after (Kp.fresh m1.ins _)) hit' (StrT.fresh m1.ins _))
  done := fun s Q E st hQ => by
    rw [List.length_map] at st
    exact wpAny_pyNext_ascii_end hh st (by simp [S]) fun h' he' => hQ h' s.toks (fun b o hb e => .of (he' b o (fun h => hb (by simp [h])) e)) (Nat.le_refl _)
  self := fun _ _ _ _ st hQ => wpAny_pyIter_striter_ascii st hQ
theorem iters_str {W : Wd} {tgt : Expr} (ht : Whole tgt) {x : List Nat} (ha : ∀ d ∈ x, d < 128) : Iters W tgt (StrV (S x)) (x.map fun d => StrT (S [d])) := by
  intro A E s c v hh ins z
  obtain ⟨t, rfl⟩ := z
  refine wpAny_pyIter_ascii (by simpa [S] using ha) ⟨_, _, _, _, rfl, .heap ins (HX.push _ _), Wk.str ht hh _ x t, ⟨_, Heap.get?_push_size _ rfl, rfl, rfl⟩, ?_, ?_, fun b hb hw => absurd hb hw⟩
  · intro b hb
    rw [List.mem_singleton.mp hb]
    show s.heap.objs.size < (s.heap.push _).objs.size
    rw [Heap.size_push]; exact Nat.lt_succ_self _
  · intro b hb
    rw [List.mem_singleton.mp hb]; exact get_size _

/-! ## The frame of a comprehension -/
theorem pushCells_size : ∀ (names : List (Str × NameKind)) (h : Heap), h.objs.size ≤ (pushCells h names).objs.size
  | [], h => Nat.le_refl _
  | (_, k) :: r, h => by
    unfold pushCells
    split
    · have := pushCells_size r (h.push { cls := .type "cell", data := .cell none })
      rw [Heap.size_push] at this; omega
    · exact pushCells_size r h
theorem wpAny_newCompEnv {M : Model} {A : Around} {E : Value → Shared → Prop} {s : Shared} {scope : Scope} {cl : List (Str × Addr)} {env : Env} {Q : Env → Shared → Prop}
    (h : Q (newEnv scope s.heap.objs.size env.globals (cellsFrom (s.heap.objs.size + 1) scope.names cl) env.qual none .none (some env) builtinsNs)
      { s with heap := pushCells (s.heap.push { cls := .type "dict", data := .dict #[] }) scope.names }) :
    wpAny M A (newFunctionEnv scope env.globals cl [] env.qual none .none (some env)) Q E s := by
  simp only [newFunctionEnv, Option.isSome_some, if_true]
  refine wpAny_bind (wpAny_alloc ?_)
  refine wpAny_bind (wpAny_layCells _ (fun name kind cells => by cases hkc : kind == NameKind.cell <;> simp [hkc]) _ _ _ _ ?_)
  rw [show ({ s with heap := s.heap.push { cls := .type "dict", data := .dict #[] } } : Shared).heap.objs.size = s.heap.objs.size + 1 from Heap.size_push ..]
  simp only [List.forIn_nil]
  exact wpAny_bind (wpAny_pure (wpAny_pure h))
/-- where a comprehension keeps its own name: in its own namespace, or in the first of its cells -/
inductive Place (scope : Scope) (x : Str) : Prop
  | loc : scope.names.lookup x = some .local → (∀ y ∈ scope.names, y.2 ≠ .cell) → Place scope x
  | cel (a b : List (Str × NameKind)) : scope.names = a ++ (x, .cell) :: b → (∀ y ∈ a, y.2 ≠ .cell ∧ y.1 ≠ x) → (∀ y ∈ b, y.2 ≠ .cell) → Place scope x
end Mine

/-! ### C9 -/
open PySem PySem.W PyProof.Rows PySem.SeqAt
set_option Elab.async false
namespace Mine

/-! ## Comprehensions -/
def CompOk (C : Addr) (oc : List Addr) (h : Heap) : Prop := (∃ m, h.Ns C m) ∧ ∀ a ∈ oc, ∃ v, h.IsCell a v
theorem CompOk.on {C : Addr} {oc : List Addr} {h h' : Heap} (x : CompOk C oc h) (k : ∀ b o, b ∈ C :: oc → h.get? b = some o → Gt h' b o) : CompOk C oc h' := by
  obtain ⟨⟨m, hn⟩, hc⟩ := x
  refine ⟨⟨m, ns_gt hn fun o e => k C o List.mem_cons_self e⟩, fun a ha => ?_⟩
  obtain ⟨v, hv⟩ := hc a ha
  exact ⟨v, cell_gt hv fun o e => k a o (List.mem_cons_of_mem _ ha) e⟩
theorem CompOk.keep {C : Addr} {oc : List Addr} {h h' : Heap} (x : CompOk C oc h) (k : HX h h') : CompOk C oc h' := x.on fun b o _ e => k b o e
theorem CompOk.live {C : Addr} {oc : List Addr} {h : Heap} (x : CompOk C oc h) : ∀ b ∈ C :: oc, ∃ o, h.get? b = some o := by
  intro b hb
  rcases List.mem_cons.mp hb with rfl | hb
  · obtain ⟨m, o, _, _, e, _⟩ := x.1; exact ⟨o, e⟩
  · obtain ⟨v, o, e, _⟩ := x.2 b hb; exact ⟨o, e⟩
/-- the target takes a value: what is then bound -/
def Asg (W : Wd) (tgt : Expr) (cenv : Env) (C : Addr) (oc : List Addr) (P : VP) (Bd : Heap → Cx → Prop) : Prop :=
  ∀ (A : Around) (E : Value → Shared → Prop) (s : Shared) (c : Cx) (v : Value), A.handled = none → InS c s → CompOk C oc s.heap → P.ok c v →
    wpAny W.M A (assign tgt cenv v) (fun _ s' => ∃ h' tk, s' = { s with heap := h', toks := tk } ∧ s.toks ≤ tk ∧ (∀ b o, b ∉ C :: oc → s.heap.get? b = some o → Gt h' b o) ∧ CompOk C oc h' ∧ Bd h' c) E s
abbrev cTests (ifs : List Expr) (cenv : Env) : Sem Bool := forIn ifs true fun c r => if r = true then do let ok ← isTrue c cenv (eval c cenv); pure (ForInStep.yield ok) else pure (ForInStep.yield r)
def PTs (W : Wd) (n : Nat) (env : Env) (H : Heap) (c : Cx) (ifs : List Expr) (b : Bool) : Prop :=
  ∀ (A : Around) (E : Value → Shared → Prop) (s : Shared) (c₁ : Cx), Room n A s.heap → HX H s.heap → Le c c₁ → InS c₁ s → wpAny W.M A (cTests ifs env) (fun r s' => ∃ c', Kp s c₁ s' c' ∧ r = b) E s
theorem PTs.nil {W : Wd} {n : Nat} {env : Env} {H : Heap} {c : Cx} : PTs W n env H c [] true := fun _ _ _ c₁ _ _ _ ins => wpAny_tests_nil ⟨c₁, .refl ins, rfl⟩
theorem PTs.one {W : Wd} {n : Nat} {env : Env} {H : Heap} {c : Cx} {e : Expr} {b : Bool} (p : PT W n env H c e b) : PTs W n env H c [e] b := fun A E s c₁ r x y ins => wpAny_tests_one (p A E s c₁ r x y ins)
abbrev lst (ys : List Value) : Obj := LCg.lst ys
theorem lst_nf {ys : List Value} : NoD (lst ys) := by intro _ _ h; cases h

theorem Mv.assign {own : List Addr} {s : Shared} {c : Cx} {h' : Heap} {tk : Nat} {C : Addr} {oc : List Addr} (ins : InS c s) (off : ∀ b ∈ own, c.o b = none ∧ ∃ o, s.heap.get? b = some o) (hsub : ∀ b ∈ C :: oc, b ∈ own) (ht : s.toks ≤ tk)
    (hk : ∀ b o, b ∉ C :: oc → s.heap.get? b = some o → Gt h' b o) (ok : CompOk C oc h') : Mv own s c { s with heap := h', toks := tk } c where
  same := ⟨h', tk, rfl⟩
  keep := fun b o hb e => hk b o (fun q => hb (hsub b q)) e
  le := Le.refl _
  ins := ⟨fun b x e => (hk b x (fun q => by rw [(off b (hsub b q)).1] at e; cases e) (ins.o b x e)).exact (ins.nf b x e), ins.nf, Nat.lt_of_lt_of_le ins.pos ht, fun t v e => Nat.lt_of_lt_of_le (ins.lt t v e) ht⟩
  new := fun _ _ e => .inl e
  off := fun b hb => ⟨(off b hb).1, by
    by_cases q : b ∈ C :: oc
    · exact ok.live b q
    · obtain ⟨o, e⟩ := (off b hb).2; exact (hk b o q e).live⟩

section
variable {α : Type} {W : Wd} {n : Nat} {A : Around} {tgt iter elt : Expr} {ifs : List Expr} {scope : Scope} {pos : Pos} {cenv : Env} {C D I : Addr} {oc fp wr : List Addr} {St : Nat → Heap → Prop} {xs : List α} {F G : α → VP} {p : α → Bool}
  {Bd : α → Heap → Cx → Prop} {s₀ s₁ : Shared} {c₁ : Cx} {R : Result → Shared → Prop}
theorem comp_turn_list (elt target iter : Expr) (ifs : List Expr) (scope : Scope) (pos : Pos) (it acc : Value) (env : Env) {M : Model} {A : Around} {E : Value → Shared → Prop} {Q : Fin → Shared → Prop} {s : Shared}
    (h : wpAny M A (pyNext it) (fun r s₁ => match r with
      | none => Q (.done .next) s₁
      | some v => wpAny M A (letOwnedTupleGo target it v) (fun _ s₁ => wpAny M A (assign target env v) (fun _ s₂ => wpAny M A (cTests ifs env) (fun ok s₃ =>
          if ok = true then wpAny M A (eval elt env) (fun x s₄ => wpAny M A (call (.builtin "list.append") [acc, x]) (fun _ s₅ => Q (.again (.compLoop (.ListComp elt [⟨target, iter, ifs, 0⟩] scope pos) 0 it acc env)) s₅) E s₄) E s₃
          else Q (.again (.compLoop (.ListComp elt [⟨target, iter, ifs, 0⟩] scope pos) 0 it acc env)) s₃) E s₂) E s₁) E s₁) E s) :
    wpAny M A (compTurn (.ListComp elt [⟨target, iter, ifs, 0⟩] scope pos) 0 it acc env) Q E s := by
  rw [compTurn_list]
  refine wpAny_bind (wpAny_standAt (wpAny_bind (wpAny_mono h (fun r s₁ h₁ => ?_) fun _ _ h' => h')))
  cases r with
  | none => exact wpAny_pure h₁
  | some v =>
    refine wpAny_bind (wpAny_mono h₁ (fun _ s₁ h₁ => ?_) fun _ _ h' => h')
    refine wpAny_bind (wpAny_mono h₁ (fun _ s₂ h₂ => wpAny_bind (wpAny_mono h₂ (fun ok s₃ h₃ => ?_) fun _ _ h' => h')) fun _ _ h' => h')
    cases ok with
    | false => exact wpAny_pure h₃
    | true =>
      exact wpAny_bind (wpAny_bind (wpAny_mono h₃ (fun x s₄ h₄ => wpAny_bind (wpAny_mono h₄ (fun _ s₅ h₅ => wpAny_pure (wpAny_pure h₅)) fun _ _ h' => h')) fun _ _ h' => h'))
theorem comp_loop1 (r : Room n A s₀.heap) (wk : Wk W tgt A c₁ I fp wr (xs.map F) St) (hDf : D ∉ fp) (hCf : ∀ b ∈ C :: oc, b ∉ fp) (hDC : D ∉ C :: oc)
    (hasg : ∀ a ∈ xs, Asg W tgt cenv C oc (F a) (Bd a))
    (htest : ∀ a ∈ xs, ∀ H c, HX s₀.heap H → Le c₁ c → Bd a H c → PTs W n cenv H c ifs (p a))
    (helt : ∀ a ∈ xs, p a = true → ∀ H c, HX s₀.heap H → Le c₁ c → Bd a H c → PE W n cenv H c elt (G a))
    (hsz : xs.length ≤ 100000) (i₀ : ∀ b ∈ D :: (C :: oc ++ wr), c₁.o b = none) (k₀ : Kp s₀ c₁ s₁ c₁) (hnew : ∀ b ∈ D :: (C :: oc ++ wr), s₀.heap.get? b = none)
    (st₀ : St 0 s₁.heap) (ok₀ : CompOk C oc s₁.heap) (hD₀ : s₁.heap.get? D = some (lst []))
    (hR : ∀ s' c' ys, Kp s₀ c₁ s' c' → (∀ b ∈ D :: C :: oc, c'.o b = none) → CompOk C oc s'.heap → s'.heap.get? D = some (lst ys) → AllOk c' ((xs.filter p).map G) ys → R (.ok .next) s') :
    codeAny W.M A (.compLoop (.ListComp elt [⟨tgt, iter, ifs, 0⟩] scope pos) 0 (.ref I) (.ref D) cenv) R s₁ := by
  have mD : D ∈ D :: (C :: oc ++ wr) := List.mem_cons_self
  have mC : ∀ b ∈ C :: oc, b ∈ D :: (C :: oc ++ wr) := fun b hb => List.mem_cons_of_mem _ (List.mem_append_left _ hb)
  have mW : ∀ b ∈ wr, b ∈ D :: (C :: oc ++ wr) := fun b hb => List.mem_cons_of_mem _ (List.mem_append_right _ hb)
  have off₀ : ∀ b ∈ D :: (C :: oc ++ wr), c₁.o b = none ∧ ∃ o, s₁.heap.get? b = some o := by
    intro b hb
    refine ⟨i₀ b hb, ?_⟩
    rcases List.mem_cons.mp hb with rfl | hb
    · exact ⟨_, hD₀⟩
    · rcases List.mem_append.mp hb with hb | hb
      · exact ok₀.live b hb
      · exact wk.live _ _ st₀ b hb
  have fpOff : ∀ b ∈ fp, b ∈ D :: (C :: oc ++ wr) → b ∈ wr := fun b hb hm => by
    rcases List.mem_cons.mp hm with rfl | hm
    · exact absurd hb hDf
    · rcases List.mem_append.mp hm with hm | hm
      · exact absurd hb (hCf b hm)
      · exact hm
  refine codeAny_loop rfl (fun k s' => ∃ i c' ys, k = xs.length + 1 - i ∧ i ≤ xs.length ∧ Mv (D :: (C :: oc ++ wr)) s₁ c₁ s' c' ∧ St i s'.heap ∧ CompOk C oc s'.heap ∧ s'.heap.get? D = some (lst ys) ∧
    AllOk c' (((xs.take i).filter p).map G) ys) ?_ (xs.length + 1) ⟨0, c₁, [], by omega, Nat.zero_le _, .refl k₀.ins off₀, st₀, ok₀, hD₀, by simp only [List.take_zero, List.filter_nil, List.map_nil]; exact .nil⟩
  rintro k s ⟨i, c, ys, rfl, hi, mv, st, ok, hD, hall⟩
  have hys : ys.length ≤ 100000 := by
    rw [← hall.len, List.length_map]
    have h1 := List.length_filter_le p (xs.take i)
    have h2 : (xs.take i).length ≤ xs.length := by rw [List.length_take]; omega
    omega
  show wpAny _ A ((compTurn (.ListComp elt [⟨tgt, iter, ifs, 0⟩] scope pos) 0 (.ref I) (.ref D) cenv).onRaise (fun x => do noteFrame x cenv; theTreesLotGoes x)) _ _ s
  refine wpAny_noted (comp_turn_list _ _ _ _ _ _ _ _ _ ?_)
  by_cases hlt : i < xs.length
  · obtain ⟨a, ha⟩ : ∃ a, xs[i]? = some a := ⟨xs[i], List.getElem?_eq_getElem hlt⟩
    have hmem : a ∈ xs := List.mem_of_getElem? ha
    refine wpAny_mono (wk.item i s c (fun v s₂ => ∃ c', Mv wr s c s₂ c' ∧ St (i + 1) s₂.heap ∧ (F a).ok c' v) _ (F a) (by rw [List.getElem?_map, ha]; rfl) st mv.le mv.ins (fun b hb => (mv.off b (mW b hb)).1) (fun v s' c' m st' okv => ⟨c', m, st', okv⟩)) (fun rr s₂ h₂ => ?_) fun _ _ x => x
    cases rr with
    | none => exact h₂.elim
    | some v =>
      dsimp only at h₂ ⊢
      refine wpAny_mono h₂ (fun _ s₂ ⟨c₂, m₂, st₂, okv⟩ => ?_) fun _ _ x => x
      have M₂ := mv.trans (m₂.weaken mW mv.off)
      have outwr : ∀ b ∈ D :: C :: oc, b ∉ wr := fun b hb hw => by
        rcases List.mem_cons.mp hb with rfl | hb
        · exact hDf (wk.sub b hw)
        · exact hCf b hb (wk.sub b hw)
      have ok₂ : CompOk C oc s₂.heap := ok.on fun b o hb e => m₂.keep b o (outwr b (List.mem_cons_of_mem _ hb)) e
      have hD₂ : s₂.heap.get? D = some (lst ys) := (m₂.keep D _ (outwr D List.mem_cons_self) hD).exact lst_nf
      refine wpAny_mono (hasg a hmem A _ s₂ c₂ v r.handled M₂.ins ok₂ okv) (fun _ s₃ h₃ => ?_) fun _ _ x => x
      obtain ⟨h', tk, rfl, htk, hk, ok₃, bd⟩ := h₃
      have A₃ := Mv.assign M₂.ins M₂.off mC htk hk ok₃
      have M₃ := M₂.trans A₃
      have st₃ : St (i + 1) h' := wk.frame _ _ _ st₂ fun b hb o e => hk b o (fun q => hCf b q hb) e
      have hD₃ : h'.get? D = some (lst ys) := (hk D _ hDC hD₂).exact lst_nf
      have HX₃ : HX s₀.heap h' := fun b o e => by
        have hb : b ∉ D :: (C :: oc ++ wr) := fun q => by rw [hnew b q] at e; cases e
        exact (k₀.keep b o e).on fun o e => M₃.keep b o hb e
      refine wpAny_mono (htest a hmem h' c₂ HX₃ M₃.le bd A _ _ c₂ (r.on HX₃) (HX.refl _) (Le.refl _) M₃.ins) (fun b s₄ ⟨c₄, k₄, hb⟩ => ?_) fun _ _ x => x
      subst hb
      have M₄ := M₃.after k₄
      have snoc : (((xs.take (i + 1)).filter p).map G) = (((xs.take i).filter p).map G) ++ (if p a then [G a] else []) := by
        rw [take_succ_filter p xs i a ha, List.map_append]
        cases p a <;> rfl
      cases hp : p a with
      | false =>
        simp only [Bool.false_eq_true, if_false]
        refine ⟨trivial, _, ?_, i + 1, c₄, ys, rfl, hlt, M₄, wk.frame _ _ _ st₃ fun b _ o e => k₄.keep b o e, ok₃.keep k₄.keep, (k₄.keep _ _ hD₃).exact lst_nf, ?_⟩
        · omega
        · rw [snoc, hp]; simp only [Bool.false_eq_true, if_false, List.append_nil]; exact hall.mono (m₂.le.trans (A₃.le.trans k₄.le))
      | true =>
        simp only [if_true]
        refine wpAny_mono (helt a hmem hp h' c₂ HX₃ M₃.le bd A _ s₄ c₄ (r.on (HX₃.trans k₄.keep)) k₄.keep k₄.le k₄.ins) (fun y s₅ ⟨c₅, k₅, oky⟩ => ?_) fun _ _ x => x
        have M₅ := M₄.after k₅
        have hD₅ : s₅.heap.get? D = some (lst ys) := (k₅.keep _ _ ((k₄.keep _ _ hD₃).exact lst_nf)).exact lst_nf
        refine append_at (hsz := by rw [List.size_toArray, sizeLine_eq]; omega) hD₅ fun h₆ hs₆ hD₆ => ?_
        rw [LCg.lst_snoc] at hD₆
        have M₆ := M₅.trans (Mv.change (tk := s₅.toks) M₅.ins M₅.off mD hs₆ ⟨_, hD₆⟩ (Nat.le_refl _))
        refine ⟨trivial, _, ?_, i + 1, c₅, ys ++ [y], rfl, hlt, M₆, wk.frame _ _ _ st₃ fun b hb o e => ?_, ?_, hD₆, ?_⟩
        · omega
        · exact (k₄.keep.trans k₅.keep b o e).on fun o e => .of (hs₆.extBut b o (fun q => hDf (q ▸ hb)) e)
        · exact (ok₃.keep (k₄.keep.trans k₅.keep)).on fun b o hb e => .of (hs₆.extBut b o (fun q => hDC (q ▸ hb)) e)
        · rw [snoc, hp]
          simp only [if_true]
          exact (hall.mono (m₂.le.trans (A₃.le.trans (k₄.le.trans k₅.le)))).append (.cons oky .nil)
  · obtain rfl : i = xs.length := by omega
    rw [show xs.length = (xs.map F).length from (List.length_map ..).symm] at st
    refine wk.done s _ _ st fun h' tk hk ht => ?_
    have outwr : ∀ b ∈ D :: C :: oc, b ∉ wr := fun b hb hw => by
      rcases List.mem_cons.mp hb with rfl | hb
      · exact hDf (wk.sub b hw)
      · exact hCf b hb (wk.sub b hw)
    refine hR _ c ys ⟨?_, ?_, mv.le, ⟨?_, mv.ins.nf, ?_, ?_⟩, ?_⟩ (fun b hb => ?_) (ok.on fun b o hb e => hk b o (outwr b (List.mem_cons_of_mem _ hb)) e) ((hk D _ (outwr D List.mem_cons_self) hD).exact lst_nf) (by rw [List.take_length] at hall; exact hall)
    · obtain ⟨h1, t1, rfl⟩ := k₀.same
      obtain ⟨h2, t2, rfl⟩ := mv.same
      exact ⟨_, _, rfl⟩
    · intro b o e
      have hb : b ∉ D :: (C :: oc ++ wr) := fun q => by rw [hnew b q] at e; cases e
      exact ((k₀.keep b o e).on fun o e => mv.keep b o hb e).on fun o e => hk b o (fun q => hb (mW b q)) e
    · intro b x e
      exact (hk b x (fun q => by rw [(mv.off b (mW b q)).1] at e; cases e) (mv.ins.o b x e)).exact (mv.ins.nf b x e)
    · exact Nat.lt_of_lt_of_le mv.ins.pos ht
    · exact fun t v e => Nat.lt_of_lt_of_le (mv.ins.lt t v e) ht
    · intro b x e
      rcases mv.new b x e with q | q
      · exact .inl q
      · exact .inr (none_of_keep k₀.keep q)
    · rcases List.mem_cons.mp hb with rfl | hb
      · exact (mv.off b mD).1
      · exact (mv.off b (mC b hb)).1
end
end Mine

/-! ### D1 -/
open PySem PySem.W PyProof.Rows PySem.SeqAt
set_option Elab.async false
namespace Mine
/-- the cells that a comprehension makes for itself -/
structure Cells (scope : Scope) (oc : Addr → List Addr) : Prop where
  ok : ∀ h : Heap, CompOk h.objs.size (oc h.objs.size) (pushCells (h.push { cls := .type "dict", data := .dict #[] }) scope.names)
  gt : ∀ C, ∀ b ∈ oc C, C < b
theorem cells0 {scope : Scope} (h : ∀ h, pushCells h scope.names = h) : Cells scope (fun _ => []) :=
  ⟨fun g => ⟨⟨_, by rw [h]; exact Heap.Ns.new _ _⟩, fun _ hb => nomatch hb⟩, fun _ _ hb => nomatch hb⟩
theorem cells1 {scope : Scope} (h : ∀ h : Heap, pushCells h scope.names = h.push { cls := .type "cell", data := .cell none }) : Cells scope (fun C => [C + 1]) where
  ok := fun g => by
    rw [h]
    refine ⟨⟨_, (Heap.Ns.new g (.type "dict")).at' fun o e => Heap.get?_push_of_some _ e⟩, fun a ha => ?_⟩
    rw [List.mem_singleton.mp ha]
    refine ⟨none, { cls := .type "cell", data := .cell none }, ?_, rfl⟩
    have e : (g.push { cls := .type "dict", data := .dict #[] }).objs.size = g.objs.size + 1 := Heap.size_push ..
    rw [← e]
    exact Heap.get?_push_size _ rfl
  gt := fun C b hb => by rw [List.mem_singleton.mp hb]; exact Nat.lt_succ_self _

/-- a thing is reckoned, and can then be walked along -/
def IterE (W : Wd) (n : Nat) (tgt : Expr) (env : Env) (H : Heap) (c : Cx) (iter : Expr) (items : List VP) : Prop :=
  ∀ (A : Around) (E : Value → Shared → Prop) (s : Shared) (c₁ : Cx), Room n A s.heap → HX H s.heap → Le c c₁ → InS c₁ s →
    wpAny W.M A (eval iter env) (fun v s₁ => wpAny W.M A (pyIter v) (fun it s' => ∃ I fp wr St c', it = .ref I ∧ Kp s c₁ s' c' ∧ Wk W tgt A c' I fp wr items St ∧ St 0 s'.heap ∧ (∀ b ∈ fp, b < s'.heap.objs.size) ∧
      (∀ b ∈ wr, s.heap.get? b = none ∧ c'.o b = none) ∧ ∀ b ∈ fp, b ∉ wr → ∃ o, c'.o b = some o) E s₁) E s
theorem IterE.of {W : Wd} {n : Nat} {tgt : Expr} {env : Env} {H : Heap} {c : Cx} {iter : Expr} {items : List VP} {P₀ : VP} (it : PE W n env H c iter P₀) (iters : Iters W tgt P₀ items) : IterE W n tgt env H c iter items := by
  intro A E s c₁ r hx le ins
  refine wpAny_mono (it A E s c₁ r hx le ins) (fun xv s₁ ⟨c₂, k₁, z⟩ => ?_) fun _ _ x => x
  refine wpAny_mono (iters A E s₁ c₂ xv r.handled k₁.ins z) (fun it s₂ h₂ => ?_) fun _ _ x => x
  obtain ⟨I, fp, wr, St, rfl, k₂, wk, st₀, hfp, hwr, hfv⟩ := h₂
  exact ⟨I, fp, wr, St, c₂, rfl, k₁.trans k₂, wk, st₀, hfp, fun b hb => ⟨none_of_keep k₁.keep (hwr b hb), k₁.ins.none (hwr b hb)⟩, hfv⟩
theorem Kp.self {s s' : Shared} {c c' : Cx} (k : Kp s c s' c') : Kp s c' s' c' := ⟨k.same, k.keep, Le.refl _, k.ins, fun _ _ e => .inl e⟩
theorem Kp.rebase {s s' s'' : Shared} {c c' c'' : Cx} (k : Kp s c s' c') (k' : Kp s c' s'' c'') : Kp s c s'' c'' :=
  ⟨k'.same, k'.keep, k.le.trans k'.le, k'.ins, fun b x e => (k'.new b x e).elim (fun e => k.new b x e) .inr⟩
section
variable {α : Type} {W : Wd} {n : Nat} {A : Around} {E : Value → Shared → Prop} {tgt iter elt : Expr} {ifs : List Expr} {scope : Scope} {pos pos' : Pos} {env : Env} {cl : List (Str × Addr)} {oc : Addr → List Addr} {xs : List α} {F G : α → VP} {p : α → Bool} {P₀ : VP}
  {Bd : Addr → α → Heap → Cx → Prop} {s : Shared} {H : Heap} {c c₁ : Cx}
abbrev cEnv (scope : Scope) (cl : List (Str × Addr)) (env : Env) (C : Addr) : Env := compEnvC scope (cellsFrom (C + 1) scope.names cl) C env
theorem comp_any0 {use : Option (Value → Sem Unit)} {Q : Value → Shared → Prop} (r : Room n A s.heap) (itE : IterE W n tgt env H c iter (xs.map F))
    (hclos : closureFor scope env = pure cl) (hkind : scope.kind = .function) (hnames : ∀ y ∈ scope.names, y.2 = .local → scope.names.lookup y.1 = some .local) (cells : Cells scope oc)
    (hasg : ∀ a ∈ xs, ∀ C, Asg W tgt (cEnv scope cl env C) C (oc C) (F a) (Bd C a))
    (htest : ∀ a ∈ xs, ∀ C H' c', HX H H' → Le c c' → Bd C a H' c' → PTs W n (cEnv scope cl env C) H' c' ifs (p a))
    (helt : ∀ a ∈ xs, p a = true → ∀ C H' c', HX H H' → Le c c' → Bd C a H' c' → PE W n (cEnv scope cl env C) H' c' elt (G a))
    (hsz : xs.length ≤ 100000) (hx : HX H s.heap) (le : Le c c₁) (ins : InS c₁ s)
    (hfin : ∀ s' c' C D ys, Kp s c₁ s' c' → s.heap.get? D = none → c'.o D = none → s'.heap.get? D = some (lst ys) → AllOk c' ((xs.filter p).map G) ys → s.heap.get? C = none → c'.o C = none → C ≠ D → (∃ m, s'.heap.Ns C m) → compPost W.M A E use Q (.ref D) C (.ok .next) s')
    (hs : ∀ x, foldedSetIterable iter env x = pure x := by intro _; rfl) :
    wpAny W.M A (comprehension (.ListComp elt [⟨tgt, iter, ifs, 0⟩] scope pos) scope env pos' (newList []) false (eval iter env) use) Q E s := by
  refine wpAny_comprehension_free rfl hs hclos hkind hnames (wpAny_mono (itE A E s c₁ r hx le ins) (fun xv s₁ h₁ => wpAny_mono h₁ (fun it s₂ h₂ => ?_) fun _ _ x => x) fun _ _ x => x)
  obtain ⟨I, fp, wr, St, c₂, rfl, k₂, wk, st₀, hfp, hwr, _⟩ := h₂
  refine wpAny_newObj_type (wpAny_newCompEnv ?_)
  generalize hD : s₂.heap.objs.size = D
  generalize hh2 : s₂.heap.push { cls := .type "list", dict := none, data := .seq ([] : List Value).toArray } = h2
  have hC : h2.objs.size = D + 1 := by rw [← hh2, Heap.size_push, hD]
  have hDlt : D < h2.objs.size := by omega
  have up1 : HX s₂.heap h2 := hh2 ▸ HX.push _ _
  have up2 : HX h2 (pushCells (h2.push { cls := .type "dict", data := .dict #[] }) scope.names) := fun b o e => .of (pushCells_keeps _ _ b o (Heap.get?_push_of_some _ e))
  have up : HX s₂.heap (pushCells (h2.push { cls := .type "dict", data := .dict #[] }) scope.names) := up1.trans up2
  have hD2 : h2.get? D = some (lst []) := by rw [← hh2, ← hD]; exact Heap.get?_push_size _ rfl
  have ok := cells.ok h2
  have k₃ : Kp s₂ c₂ { s₂ with heap := pushCells (h2.push { cls := .type "dict", data := .dict #[] }) scope.names } c₂ := Kp.heap k₂.ins up
  have big : ∀ b ∈ h2.objs.size :: oc h2.objs.size, h2.objs.size ≤ b := fun b hb => by
    rcases List.mem_cons.mp hb with rfl | hb
    · exact Nat.le_refl _
    · exact Nat.le_of_lt (cells.gt _ b hb)
  have fresh : ∀ b, s₂.heap.objs.size ≤ b → s.heap.get? b = none := fun b hb => none_of_keep k₂.keep (Heap.get?_none_of_le hb)
  have hDf : D ∉ fp := fun hm => absurd (hfp D hm) (by rw [hD]; exact Nat.lt_irrefl _)
  have hCf : ∀ b ∈ h2.objs.size :: oc h2.objs.size, b ∉ fp := fun b hb hm => absurd (hfp b hm) (Nat.not_lt.mpr (Nat.le_trans (by omega) (big b hb)))
  have hDC : D ∉ h2.objs.size :: oc h2.objs.size := fun hm => by have := big D hm; omega
  have hnew : ∀ b ∈ D :: (h2.objs.size :: oc h2.objs.size ++ wr), s.heap.get? b = none := fun b hb => by
    rcases List.mem_cons.mp hb with rfl | hb
    · exact fresh b (by omega)
    · rcases List.mem_append.mp hb with hb | hb
      · exact fresh b (by have := big b hb; omega)
      · exact (hwr b hb).1
  have hoff : ∀ b ∈ D :: (h2.objs.size :: oc h2.objs.size ++ wr), c₂.o b = none := fun b hb => by
    rcases List.mem_cons.mp hb with rfl | hb
    · exact k₂.ins.none (Heap.get?_none_of_le (by omega))
    · rcases List.mem_append.mp hb with hb | hb
      · exact k₂.ins.none (Heap.get?_none_of_le (by have := big b hb; omega))
      · exact (hwr b hb).2
  have loop : ∀ s₃ : Shared, s₃ = { s₂ with heap := pushCells (h2.push { cls := .type "dict", data := .dict #[] }) scope.names } →
      codeAny W.M A (.compLoop (.ListComp elt [⟨tgt, iter, ifs, 0⟩] scope pos) 0 (.ref I) (.ref D) (cEnv scope cl env h2.objs.size)) (compPost W.M A E use Q (.ref D) h2.objs.size) s₃ := by
    rintro s₃ rfl
    refine comp_loop1 (s₀ := s) r wk hDf hCf hDC (fun a ha => hasg a ha h2.objs.size)
      (fun a ha H' c' h1 h2' => htest a ha _ H' c' (hx.trans h1) (le.trans (k₂.le.trans h2')))
      (fun a ha hp H' c' h1 h2' => helt a ha hp _ H' c' (hx.trans h1) (le.trans (k₂.le.trans h2'))) hsz hoff (k₂.trans k₃).self hnew
      (wk.frame _ _ _ st₀ fun b _ o e => up b o e) ok ((up2 _ _ hD2).exact lst_nf) fun s' c' ys k off ok' hDs hall => ?_
    have hCD : h2.objs.size ≠ D := by omega
    exact hfin s' c' h2.objs.size D ys (k₂.rebase k) (hnew D List.mem_cons_self) (off D List.mem_cons_self) hDs hall (fresh _ (by omega)) (off _ (List.mem_cons_of_mem _ List.mem_cons_self)) hCD ok'.1
  exact codeAny_compStart_list (loop _ rfl) (wk.self 0 _ _ _ (wk.frame _ _ _ st₀ fun b _ o e => up b o e) (loop _ rfl))
theorem comp_any {use : Option (Value → Sem Unit)} {Q : Value → Shared → Prop} (r : Room n A s.heap) (itE : IterE W n tgt env H c iter (xs.map F))
    (hclos : closureFor scope env = pure cl) (hkind : scope.kind = .function) (hnames : ∀ y ∈ scope.names, y.2 = .local → scope.names.lookup y.1 = some .local) (cells : Cells scope oc)
    (hasg : ∀ a ∈ xs, ∀ C, Asg W tgt (cEnv scope cl env C) C (oc C) (F a) (Bd C a))
    (htest : ∀ a ∈ xs, ∀ C H' c', HX H H' → Le c c' → Bd C a H' c' → PTs W n (cEnv scope cl env C) H' c' ifs (p a))
    (helt : ∀ a ∈ xs, p a = true → ∀ C H' c', HX H H' → Le c c' → Bd C a H' c' → PE W n (cEnv scope cl env C) H' c' elt (G a))
    (hsz : xs.length ≤ 100000) (hx : HX H s.heap) (le : Le c c₁) (ins : InS c₁ s)
    (hfin : ∀ s' c' C D, Kp s c₁ s' c' → (ListV ((xs.filter p).map G)).ok c' (.ref D) → s.heap.get? C = none → c'.o C = none → (∃ m, s'.heap.Ns C m) → compPost W.M A E use Q (.ref D) C (.ok .next) s')
    (hs : ∀ x, foldedSetIterable iter env x = pure x := by intro _; rfl) :
    wpAny W.M A (comprehension (.ListComp elt [⟨tgt, iter, ifs, 0⟩] scope pos) scope env pos' (newList []) false (eval iter env) use) Q E s :=
  comp_any0 r itE hclos hkind hnames cells hasg htest helt hsz hx le ins (fun s' c' C D ys k hD hDn hDs hall hC hC' hCD hm => by
    refine hfin s' (c'.put D (lst ys)) C D (k.put hD hDn hDs lst_nf) (ListV.new hDn hall) hC ?_ hm
    show (if C = D then _ else c'.o C) = none
    rw [if_neg hCD]
    exact hC') hs
/-- a list comprehension of one clause -/
theorem PE.compI (itE : IterE W n tgt env H c iter (xs.map F))
    (hclos : closureFor scope env = pure cl) (hkind : scope.kind = .function) (hnames : ∀ y ∈ scope.names, y.2 = .local → scope.names.lookup y.1 = some .local) (cells : Cells scope oc)
    (hasg : ∀ a ∈ xs, ∀ C, Asg W tgt (cEnv scope cl env C) C (oc C) (F a) (Bd C a))
    (htest : ∀ a ∈ xs, ∀ C H' c', HX H H' → Le c c' → Bd C a H' c' → PTs W n (cEnv scope cl env C) H' c' ifs (p a))
    (helt : ∀ a ∈ xs, p a = true → ∀ C H' c', HX H H' → Le c c' → Bd C a H' c' → PE W n (cEnv scope cl env C) H' c' elt (G a))
    (hsz : xs.length ≤ 100000) (hs : ∀ x, foldedSetIterable iter env x = pure x := by intro _; rfl) :
    PE W n env H c (.ListComp elt [⟨tgt, iter, ifs, 0⟩] scope pos) (ListV ((xs.filter p).map G)) := by
  intro A E s c₁ r hx le ins
  rw [eval_ListComp]
  refine comp_any r itE hclos hkind hnames cells hasg htest helt hsz hx le ins (fun s' c' C D k ok hC hC' hm => ?_) hs
  obtain ⟨m, hm⟩ := hm
  refine ⟨m, hm, fun h' hs' => ⟨c', ?_, ok⟩⟩
  refine ⟨?_, fun b o e => (k.keep b o e).on fun o' e' => .of (hs'.extBut b o' (fun q => by rw [q, hC] at e; cases e) e'), k.le, ⟨fun b x e => hs'.extBut b x (fun q => by rw [q, hC'] at e; cases e) (k.ins.o b x e), k.ins.nf, k.ins.pos, k.ins.lt⟩, k.new⟩
  obtain ⟨h1, t1, rfl⟩ := k.same
  exact ⟨_, _, rfl⟩
theorem PE.comp (it : PE W n env H c iter P₀) (iters : Iters W tgt P₀ (xs.map F))
    (hclos : closureFor scope env = pure cl) (hkind : scope.kind = .function) (hnames : ∀ y ∈ scope.names, y.2 = .local → scope.names.lookup y.1 = some .local) (cells : Cells scope oc)
    (hasg : ∀ a ∈ xs, ∀ C, Asg W tgt (cEnv scope cl env C) C (oc C) (F a) (Bd C a))
    (htest : ∀ a ∈ xs, ∀ C H' c', HX H H' → Le c c' → Bd C a H' c' → PTs W n (cEnv scope cl env C) H' c' ifs (p a))
    (helt : ∀ a ∈ xs, p a = true → ∀ C H' c', HX H H' → Le c c' → Bd C a H' c' → PE W n (cEnv scope cl env C) H' c' elt (G a))
    (hsz : xs.length ≤ 100000) (hs : ∀ x, foldedSetIterable iter env x = pure x := by intro _; rfl) :
    PE W n env H c (.ListComp elt [⟨tgt, iter, ifs, 0⟩] scope pos) (ListV ((xs.filter p).map G)) := PE.compI (.of it iters) hclos hkind hnames cells hasg htest helt hsz hs
end
end Mine

/-! ### D2 -/
open PySem PySem.W PyProof.Rows PySem.SeqAt
set_option Elab.async false
namespace Mine

/-! ## Names and frames -/
def Held (env : Env) (h : Heap) (x : Str) (v : Value) : Prop :=
  (env.kindOf x = some .local ∧ ∃ m, h.Ns env.locals m ∧ m x = some v) ∨ ((env.kindOf x = some .cell ∨ env.kindOf x = some .free) ∧ ∃ a, env.cells.lookup x = some a ∧ h.IsCell a (some v))
theorem Held.keep {env : Env} {h h' : Heap} {x : Str} {v : Value} (y : Held env h x v) (k : HX h h') : Held env h' x v := by
  rcases y with ⟨a, m, b, d⟩ | ⟨a, b, d, e⟩
  · exact .inl ⟨a, m, ns_hx b k, d⟩
  · exact .inr ⟨a, b, d, cell_hx e k⟩
theorem Rd.held {W : Wd} {env : Env} {H : Heap} {c : Cx} {x : Str} {v : Value} {P : VP} (hk : env.scope.kind = .function) (h : Held env H x v) (ok : P.ok c v) (hn : (x == ("__classdict__" : Str)) = false := by decide) : Rd W env H c x P := by
  intro A E s c₁ hx le
  rcases h.keep hx with ⟨a, m, b, d⟩ | ⟨a | a, b, d, e⟩
  · exact wpAny_loadName_local hk a b d ⟨rfl, P.mono le ok⟩
  · exact wpAny_loadName_cell hk a d e ⟨rfl, P.mono le ok⟩
  · exact wpAny_loadName_free hk a d e ⟨rfl, P.mono le ok⟩ hn

/-- an environment whose own cells are told -/
structure EnvOk (env : Env) (oc : List Addr) : Prop where
  fn : env.scope.kind = .function
  cell : ∀ x, env.kindOf x = some .cell → ∃ a, env.cells.lookup x = some a ∧ a ∈ oc
  inj : ∀ x y a, env.cells.lookup x = some a → env.cells.lookup y = some a → x = y
  apart : env.locals ∉ oc
  frm : env.frame = some env.locals
  top : topN < env.locals

abbrev Vars := Str → Option VP
def Vars.set (V : Vars) (x : Str) (P : VP) : Vars := fun y => if y = x then some P else V y
structure Frm (H₀ : Heap) (sb : Shared) (cb : Cx) (env : Env) (oc : List Addr) (V : Vars) (s : Shared) (c : Cx) : Prop where
  eo : EnvOk env oc
  hb : HX H₀ sb.heap
  fr : ∀ b ∈ env.locals :: oc, H₀.get? b = none
  mv : Mv (env.locals :: oc) sb cb s c
  ok : CompOk env.locals oc s.heap
  vars : ∀ x P, V x = some P → (env.kindOf x = some .local ∨ env.kindOf x = some .cell) ∧ ∃ v, Held env s.heap x v ∧ P.ok c v
section
variable {W : Wd} {H₀ : Heap} {sb : Shared} {cb : Cx} {env : Env} {oc : List Addr} {V V' : Vars} {s s' : Shared} {c c' : Cx} {x : Str} {P : VP}
theorem Frm.rd (f : Frm H₀ sb cb env oc V s c) (h : V x = some P) (hn : (x == ("__classdict__" : Str)) = false := by decide) : Rd W env s.heap c x P := by
  obtain ⟨_, v, hv, ok⟩ := f.vars x P h
  exact Rd.held f.eo.fn hv ok hn
theorem Frm.h0 (f : Frm H₀ sb cb env oc V s c) : HX H₀ s.heap := fun b o e => (f.hb b o e).on fun o' e' => f.mv.keep b o' (fun q => by rw [f.fr b q] at e; cases e) e'
theorem Frm.room {n : Nat} {A : Around} (f : Frm H₀ sb cb env oc V s c) (r : RoomB n A H₀ env) : Room n A s.heap := by
  refine ⟨r.handled, r.depth, r.units, ?_, let ⟨_, e⟩ := r.top; (f.h0 _ _ e).live⟩
  obtain ⟨l, e, x⟩ := r.fr
  refine ⟨_, e, fun env' hm => ?_⟩
  rcases List.mem_cons.mp hm with rfl | hm
  · obtain ⟨m, hn⟩ := f.ok.1
    exact ⟨(by rw [f.eo.fn]; intro h; cases h), _, m, f.eo.frm, hn, f.eo.top⟩
  · exact (x env' hm).on f.h0
theorem Frm.ins (f : Frm H₀ sb cb env oc V s c) : InS c s := f.mv.ins
theorem Frm.step (f : Frm H₀ sb cb env oc V s c) (k : Kp s c s' c') : Frm H₀ sb cb env oc V s' c' where
  eo := f.eo
  hb := f.hb
  fr := f.fr
  mv := f.mv.after k
  ok := f.ok.keep k.keep
  vars := fun x P h => let ⟨a, v, hv, ok⟩ := f.vars x P h; ⟨a, v, hv.keep k.keep, P.mono k.le ok⟩
theorem Frm.base (f : Frm H₀ sb cb env oc V s c) : Frm H₀ s c env oc V s c := ⟨f.eo, f.h0, f.fr, .refl f.mv.ins f.mv.off, f.ok, f.vars⟩
theorem Frm.trans (f : Frm H₀ sb cb env oc V s c) (g : Frm H₀ s c env oc V' s' c') : Frm H₀ sb cb env oc V' s' c' := ⟨g.eo, f.hb, f.fr, f.mv.trans g.mv, g.ok, g.vars⟩
theorem Frm.weak (f : Frm H₀ sb cb env oc V s c) (h : ∀ x P, V' x = some P → V x = some P) : Frm H₀ sb cb env oc V' s c := ⟨f.eo, f.hb, f.fr, f.mv, f.ok, fun x P e => f.vars x P (h x P e)⟩
/-- things outside the frame are changed: what is owned by the frame stays -/
structure Mv0 (own : List Addr) (s : Shared) (c : Cx) (s' : Shared) (c' : Cx) : Prop where
  same : ∃ h tk, s' = { s with heap := h, toks := tk }
  keep : ∀ b o, b ∉ own → s.heap.get? b = some o → Gt s'.heap b o
  le : Le c c'
  ins : InS c' s'
  new : ∀ b x, c'.o b = some x → c.o b = some x ∨ s.heap.get? b = none
theorem Frm.outside0 (f : Frm H₀ sb cb env oc V s c) {own : List Addr} (m : Mv0 own s c s' c') (ho : ∀ b ∈ env.locals :: oc, b ∉ own) (hb : ∀ b ∈ own, sb.heap.get? b = none) : Frm H₀ sb cb env oc V s' c' where
  eo := f.eo
  hb := f.hb
  fr := f.fr
  mv := by
    refine ⟨?_, fun b o hb' e => (f.mv.keep b o hb' e).on fun o' e' => m.keep b o' (fun q => by rw [hb b q] at e; cases e) e', f.mv.le.trans m.le, m.ins, fun b z e => ?_, fun b hb' => ?_⟩
    · obtain ⟨h, t, rfl⟩ := f.mv.same
      obtain ⟨h', t', rfl⟩ := m.same
      exact ⟨h', t', rfl⟩
    · rcases m.new b z e with q | q
      · exact f.mv.new b z q
      · by_cases hb' : b ∈ env.locals :: oc
        · obtain ⟨o, e'⟩ := (f.mv.off b hb').2
          rw [q] at e'; cases e'
        · refine .inr ?_
          cases w : sb.heap.get? b with
          | none => rfl
          | some o' => obtain ⟨o'', e'', _⟩ := f.mv.keep b o' hb' w; rw [e''] at q; cases q
    · obtain ⟨h1, o, h2⟩ := f.mv.off b hb'
      refine ⟨?_, (m.keep b o (ho b hb') h2).live⟩
      cases z : c'.o b with
      | none => rfl
      | some z' => rcases m.new b z' z with e | e
                   · rw [h1] at e; cases e
                   · rw [h2] at e; cases e
  ok := f.ok.on fun b o hb' e => m.keep b o (ho b hb') e
  vars := fun x P h => by
    obtain ⟨a, v, hv, ok⟩ := f.vars x P h
    refine ⟨a, v, ?_, P.mono m.le ok⟩
    rcases hv with ⟨p, mm, q, r⟩ | ⟨p, a', q, r⟩
    · exact .inl ⟨p, mm, ns_gt q fun o e => m.keep _ o (ho _ List.mem_cons_self) e, r⟩
    · refine .inr ⟨p, a', q, cell_gt r fun o e => m.keep _ o (ho _ ?_) e⟩
      rcases a with a | a
      · rcases p with p | p <;> rw [a] at p <;> cases p
      · obtain ⟨a'', h1, h2⟩ := f.eo.cell x a
        rw [q] at h1; cases h1; exact List.mem_cons_of_mem _ h2
theorem Frm.outside (f : Frm H₀ sb cb env oc V s c) {own : List Addr} (m : Mv own s c s' c') (ho : ∀ b ∈ env.locals :: oc, b ∉ own) (hb : ∀ b ∈ own, sb.heap.get? b = none) : Frm H₀ sb cb env oc V s' c' :=
  f.outside0 ⟨m.same, m.keep, m.le, m.ins, m.new⟩ ho hb
/-- a name is bound -/
theorem Frm.store (f : Frm H₀ sb cb env oc V s c) {v : Value} (ok : P.ok c v) (hk : env.kindOf x = some .local ∨ env.kindOf x = some .cell) {A : Around} {E : Value → Shared → Prop} {Q : Unit → Shared → Prop}
    (k : ∀ s', Frm H₀ sb cb env oc (V.set x P) s' c → Q () s') : wpAny W.M A (storeName env x v) Q E s := by
  rcases hk with hk | hk
  · obtain ⟨⟨m, hn⟩, hc⟩ := f.ok
    refine wpAny_storeName_local hk hn (fun h' hn' hs' => k _ ?_) (by rw [f.eo.fn]; rfl)
    have mv := f.mv.trans (Mv.change (tk := s.toks + 1) f.mv.ins f.mv.off List.mem_cons_self hs' (by obtain ⟨o, _, _, e, _⟩ := hn'; exact ⟨o, e⟩) (Nat.le_succ _))
    have hcell : ∀ a ∈ oc, ∀ o, s.heap.get? a = some o → h'.get? a = some o := fun a ha o e => hs'.extBut a o (fun q => f.eo.apart (q ▸ ha)) e
    refine ⟨f.eo, f.hb, f.fr, mv, ⟨⟨_, hn'⟩, fun a ha => let ⟨v, o, e, d⟩ := hc a ha; ⟨v, o, hcell a ha o e, d⟩⟩, fun y P' h => ?_⟩
    by_cases q : y = x
    · subst q
      have h' : (if y = y then some P else V y) = some P' := h
      rw [if_pos rfl] at h'; cases h'
      exact ⟨.inl hk, v, .inl ⟨hk, _, hn', if_pos rfl⟩, ok⟩
    · have h' : (if y = x then some P else V y) = some P' := h
      rw [if_neg q] at h'
      obtain ⟨a, w, hw, okw⟩ := f.vars y P' h'
      refine ⟨a, w, ?_, okw⟩
      rcases hw with ⟨p, mm, q', r⟩ | ⟨p, a', q', r⟩
      · refine .inl ⟨p, _, hn', ?_⟩
        rw [if_neg q]
        rw [hn.agree q' y]; exact r
      · obtain ⟨o, e, d⟩ := r
        refine .inr ⟨p, a', q', o, hcell a' ?_ o e, d⟩
        rcases a with a | a
        · rcases p with p | p <;> rw [a] at p <;> cases p
        · obtain ⟨a'', h1, h2⟩ := f.eo.cell y a
          rw [q'] at h1; cases h1; exact h2
  · obtain ⟨a, ha, hao⟩ := f.eo.cell x hk
    obtain ⟨v₀, hv₀⟩ := f.ok.2 a hao
    refine wpAny_storeName_cell f.eo.fn hk ha hv₀ fun h' hc' hs' => k _ ?_
    have mv := f.mv.trans (Mv.change (tk := s.toks) f.mv.ins f.mv.off (List.mem_cons_of_mem _ hao) hs' (by obtain ⟨o, e, _⟩ := hc'; exact ⟨o, e⟩) (Nat.le_refl _))
    have hL : ∀ {m}, s.heap.Ns env.locals m → h'.Ns env.locals m := fun hn => hn.at' fun o e => hs'.extBut _ o (fun q => f.eo.apart (q ▸ hao)) e
    refine ⟨f.eo, f.hb, f.fr, mv, ⟨let ⟨m, hn⟩ := f.ok.1; ⟨m, hL hn⟩, fun b hb => ?_⟩, fun y P' h => ?_⟩
    · by_cases q : b = a
      · subst q; exact ⟨_, hc'⟩
      · obtain ⟨w, hw⟩ := f.ok.2 b hb
        exact ⟨w, hw.sameBut hs' q⟩
    · by_cases q : y = x
      · subst q
        have h' : (if y = y then some P else V y) = some P' := h
        rw [if_pos rfl] at h'; cases h'
        exact ⟨.inr hk, v, .inr ⟨.inl hk, a, ha, hc'⟩, ok⟩
      · have h' : (if y = x then some P else V y) = some P' := h
        rw [if_neg q] at h'
        obtain ⟨kk, w, hw, okw⟩ := f.vars y P' h'
        refine ⟨kk, w, ?_, okw⟩
        rcases hw with ⟨p, mm, q', r⟩ | ⟨p, a', q', r⟩
        · exact .inl ⟨p, mm, hL q', r⟩
        · exact .inr ⟨p, a', q', r.sameBut hs' fun e => q (f.eo.inj y x a (e ▸ q') ha)⟩
end
end Mine

/-! ### D3 -/
open PySem PySem.W PyProof.Rows PySem.SeqAt
set_option Elab.async false
namespace Mine
/-- how a block goes on -/
abbrev Goes (W : Wd) (A : Around) (rest : List Stmt) (env : Env) (Q : Flow → Shared → Prop) (E : Value → Shared → Prop) (f : Flow) (s : Shared) : Prop :=
  match f with | .next => wpAny W.M A (execs rest env) Q E s | f => Q f s
section
variable {W : Wd} {n : Nat} {A : Around} {E : Value → Shared → Prop} {Q : Flow → Shared → Prop} {H₀ : Heap} {sb : Shared} {cb : Cx} {env : Env} {oc : List Addr} {V : Vars} {s : Shared} {c : Cx} {x : Str} {P P₀ P₁ : VP} {e : Expr} {pos px : Pos} {rest body orelse : List Stmt} {b : Bool}

theorem st_assign (f : Frm H₀ sb cb env oc V s c) (r : RoomB n A H₀ env) (p : PE W n env s.heap c e P) (hk : env.kindOf x = some .local ∨ env.kindOf x = some .cell) (hs : swapsWith e (some (.Name x px)) pos.line env = pure false)
    (k : ∀ s' c', Frm H₀ sb cb env oc (V.set x P) s' c' → wpAny W.M A (execs rest env) Q E s') : wpAny W.M A (execs (.Assign [.Name x px] e pos :: rest) env) Q E s :=
  wpAny_execs_cons (wpAny_Assign_Name (p.at (f.room r) f.ins fun _ _ c' kp z => (f.step kp).store z hk fun s' f' => k s' c' f') hs)
theorem st_aug {op : Operator} (f : Frm H₀ sb cb env oc V s c) (r : RoomB n A H₀ env) (hv : V x = some P₀) (p : PE W n env s.heap c e P₁) (o : Op2 W n (inplaceOp op) P₀ P₁ P) (hk : env.kindOf x = some .local ∨ env.kindOf x = some .cell)
    (k : ∀ s' c', Frm H₀ sb cb env oc (V.set x P) s' c' → wpAny W.M A (execs rest env) Q E s') (hn : (x == ("__classdict__" : Str)) = false := by decide) : wpAny W.M A (execs (.AugAssign (.Name x px) op e pos :: rest) env) Q E s :=
  wpAny_execs_cons (wpAny_AugAssign_Name (wpAny_mono (f.rd (W := W) hv hn A E s c (HX.refl _) (Le.refl _)) (fun v₀ s₀ ⟨e₀, z₀⟩ => by
    subst e₀
    exact p.at (f.room r) f.ins fun v₁ s₁ c₁ k₁ z₁ => wpAny_mono (o A E s₁ c₁ v₀ v₁ ((f.step k₁).room r) k₁.ins (P₀.mono k₁.le z₀) z₁) (fun v₂ s₂ ⟨c₂, k₂, z₂⟩ => (f.step (k₁.trans k₂)).store z₂ hk fun s' f' => k s' c₂ f') fun _ _ x => x) fun _ _ x => x))
theorem o_iadd {a b : Int} (i₁ : IsI P₀ a := by first | exact isI_v _ | exact isI_w _) (i₂ : IsI P₁ b := by first | exact isI_v _ | exact isI_w _) : Op2 W n (inplaceOp .Add) P₀ P₁ (IntV (a + b)) := by
  intro A E s c v₁ v₂ _ ins z₁ z₂
  obtain ⟨t, rfl⟩ := i₁ _ _ z₁
  obtain ⟨u, rfl⟩ := i₂ _ _ z₂
  exact iadd_int ⟨_, .fresh ins _, IntV.fresh ins _⟩
theorem st_if {t : Expr} (f : Frm H₀ sb cb env oc V s c) (r : RoomB n A H₀ env) (p : PT W n env s.heap c t b)
    (h₁ : b = true → ∀ s' c', Frm H₀ sb cb env oc V s' c' → wpAny W.M A (execs body env) (Goes W A rest env Q E) E s')
    (h₂ : b = false → ∀ s' c', Frm H₀ sb cb env oc V s' c' → wpAny W.M A (execs orelse env) (Goes W A rest env Q E) E s') : wpAny W.M A (execs (.If t body orelse pos :: rest) env) Q E s :=
  wpAny_execs_cons (wpAny_If (p.at (f.room r) f.ins fun s' c' kp => by
    cases b with
    | true => exact h₁ rfl s' c' (f.step kp)
    | false => exact h₂ rfl s' c' (f.step kp)))
theorem st_return (f : Frm H₀ sb cb env oc V s c) (r : RoomB n A H₀ env) (p : PE W n env s.heap c e P) (k : ∀ v s' c', Frm H₀ sb cb env oc V s' c' → P.ok c' v → Q (.ret v) s') : wpAny W.M A (execs (.Return (some e) pos :: rest) env) Q E s :=
  wpAny_execs_cons (wpAny_Return_some (p.at (f.room r) f.ins fun v s' c' kp z => k v s' c' (f.step kp) z))
theorem st_break (h : Q .brk s) : wpAny W.M A (execs (.Break pos :: rest) env) Q E s := wpAny_execs_cons (wpAny_Break h)
theorem st_end (h : Q .next s) : wpAny W.M A (execs [] env) Q E s := wpAny_execs_nil h

/-- a name's own turn in a loop -/
theorem frm_assign (f : Frm H₀ sb cb env oc V s c) {v : Value} (ok : P.ok c v) (hk : env.kindOf x = some .local ∨ env.kindOf x = some .cell) {Q : Unit → Shared → Prop}
    (k : ∀ s', Frm H₀ sb cb env oc (V.set x P) s' c → Q () s') : wpAny W.M A (assign (.Name x px) env v) Q E s := wpAny_assign_Name (f.store ok hk k)

theorem st_forI {α : Type} {tgt iter : Expr} {xs : List α} {F : α → VP} {bind : α → Vars → Vars} {Inv : Nat → Vars} {RP : Value → Cx → Prop} (f : Frm H₀ sb cb env oc V s c) (r : RoomB n A H₀ env) (itE : IterE W n tgt env s.heap c iter (xs.map F))
    (hasg : ∀ a ∈ xs, ∀ (sb : Shared) (cb : Cx) (V : Vars) (s : Shared) (c : Cx) (v : Value) (A : Around) (E : Value → Shared → Prop) (Q : Unit → Shared → Prop), A.handled = none → Frm H₀ sb cb env oc V s c → (F a).ok c v →
      (∀ s' c', Frm H₀ sb cb env oc (bind a V) s' c' → Q () s') → wpAny W.M A (assign tgt env v) Q E s)
    (h0 : ∀ y P, Inv 0 y = some P → V y = some P)
    (turn : ∀ i a, xs[i]? = some a → ∀ s c Ex, Frm H₀ s c env oc (bind a (Inv i)) s c → Le cb c → wpAny W.M A (execs body env) (fun fl s' => match fl with
      | .next | .cont => ∃ c', Frm H₀ s c env oc (Inv (i + 1)) s' c'
      | .brk => False
      | .ret v => ∃ c', Frm H₀ s c env oc (fun _ => none) s' c' ∧ RP v c') Ex s)
    (ret : ∀ s c v, Frm H₀ sb cb env oc (fun _ => none) s c → RP v c → Q (.ret v) s)
    (fin : ∀ s c, Frm H₀ sb cb env oc (Inv xs.length) s c → wpAny W.M A (execs orelse env) (Goes W A rest env Q E) (notedBy W.M A env fun e s' => cameBackBy W.M A env E e s') s)
    (hs : ∀ x, foldedSetIterable iter env x = pure x := by intro _; rfl) : wpAny W.M A (execs (.For tgt iter body orelse pos :: rest) env) Q E s := by
  refine wpAny_execs_cons (wpAny_For (wpAny_mono (itE A E s c (f.room r) (HX.refl _) (Le.refl _) f.ins) (fun xv s₁ h₁ => wpAny_mono h₁ (fun it s₂ h₂ => ?_) fun _ _ x => x) fun _ _ x => x) hs)
  obtain ⟨I, fp, wr, St, c₁, rfl, k₂, wk, st₀, hfp, hwr, hfv⟩ := h₂
  have f₂ := f.step k₂
  have own_lt : ∀ b ∈ env.locals :: oc, b ∉ wr := fun b hb hw => by
    obtain ⟨o, e⟩ := (f.mv.off b hb).2
    rw [(hwr b hw).1] at e; cases e
  have hwb : ∀ b ∈ wr, sb.heap.get? b = none := fun b hb => by
    cases q : sb.heap.get? b with
    | none => rfl
    | some o =>
      obtain ⟨o', e', _⟩ := f.mv.keep b o (fun h => own_lt b h hb) q
      rw [(hwr b hb).1] at e'; cases e'
  have own_fp : ∀ b ∈ env.locals :: oc, b ∉ fp := fun b hb hf => by
    obtain ⟨o, e⟩ := hfv b hf (own_lt b hb)
    rw [(f₂.mv.off b hb).1] at e; cases e
  refine codeAny_loop' rfl (fun k s' => ∃ i c', k = xs.length + 1 - i ∧ i ≤ xs.length ∧ Frm H₀ sb cb env oc (Inv i) s' c' ∧ Le c₁ c' ∧ (∀ b ∈ wr, c'.o b = none) ∧ St i s'.heap) ?_ (xs.length + 1) ⟨0, c₁, by omega, Nat.zero_le _, f₂.weak h0, Le.refl _, fun b hb => (hwr b hb).2, st₀⟩
  rintro k s ⟨i, c, rfl, hi, f, le, off, st⟩
  show wpAny _ _ ((forTurn tgt (.ref I) body orelse env).onRaise (fun x => do noteFrame x env; theTreesLotGoes x)) _ _ s
  refine wpAny_noted ?_
  simp only [forTurn]
  refine wpAny_bind (wpAny_standAt (wpAny_bind (wpAny_onRaise ?_)))
  by_cases hlt : i < xs.length
  · obtain ⟨a, ha⟩ : ∃ a, xs[i]? = some a := ⟨xs[i], List.getElem?_eq_getElem hlt⟩
    refine wpAny_mono (wk.item i s c (fun v s₂ => ∃ c', Mv wr s c s₂ c' ∧ St (i + 1) s₂.heap ∧ (F a).ok c' v) _ (F a) (by rw [List.getElem?_map, ha]; rfl) st le f.ins off (fun v s' c' m st' okv => ⟨c', m, st', okv⟩)) (fun rr s₂ h₂ => ?_) fun _ _ x => wpAny_standAt x
    cases rr with
    | none => exact h₂.elim
    | some v =>
      dsimp only at h₂ ⊢
      refine wpAny_bind (wpAny_mono h₂ (fun _ s₂ ⟨c₂, m₂, st₂, okv⟩ => ?_) fun _ _ x => x)
      have f₂ := f.outside m₂ own_lt hwb
      refine wpAny_bind (hasg a (List.mem_of_getElem? ha) s₂ c₂ _ s₂ c₂ v A _ _ r.handled f₂.base okv fun s₃ c₃ f₃ => ?_)
      have f₃b := f₂.trans f₃
      have st₃ : St (i + 1) s₃.heap := wk.frame _ _ _ st₂ fun b hb o e => f₃.mv.keep b o (fun q => own_fp b q hb) e
      have off₃ : ∀ b ∈ wr, c₃.o b = none := fun b hb => by
        cases q : c₃.o b with
        | none => rfl
        | some z => rcases f₃.mv.new b z q with e | e
                    · rw [(m₂.off b hb).1] at e; cases e
                    · obtain ⟨o, e'⟩ := (m₂.off b hb).2; rw [e'] at e; cases e
      refine wpAny_bind (wpAny_mono (turn i a ha s₃ c₃ _ f₃b.base f₃b.mv.le) (fun fl s₄ h₄ => ?_) fun _ _ x => x)
      have go : ∀ c₄, Frm H₀ s₃ c₃ env oc (Inv (i + 1)) s₄ c₄ → ∃ m, m < xs.length + 1 - i ∧ ∃ i' c', m = xs.length + 1 - i' ∧ i' ≤ xs.length ∧ Frm H₀ sb cb env oc (Inv i') s₄ c' ∧ Le c₁ c' ∧ (∀ b ∈ wr, c'.o b = none) ∧ St i' s₄.heap := fun c₄ f₄ => by
        refine ⟨xs.length + 1 - (i + 1), by omega, i + 1, c₄, rfl, hlt, f₃b.trans f₄, ((le.trans m₂.le).trans f₃.mv.le).trans f₄.mv.le, fun b hb => ?_, wk.frame _ _ _ st₃ fun b hb o e => f₄.mv.keep b o (fun q => own_fp b q hb) e⟩
        cases q : c₄.o b with
        | none => rfl
        | some z => rcases f₄.mv.new b z q with e | e
                    · rw [off₃ b hb] at e; cases e
                    · obtain ⟨o, e'⟩ := wk.live _ _ st₃ b hb; rw [e'] at e; cases e
      cases fl with
      | next => obtain ⟨c₄, f₄⟩ := h₄; exact wpAny_pure (.inl ⟨rfl, go c₄ f₄⟩)
      | cont => obtain ⟨c₄, f₄⟩ := h₄; exact wpAny_pure (.inl ⟨rfl, go c₄ f₄⟩)
      | brk => exact h₄.elim
      | ret v => obtain ⟨c₄, f₄, hr⟩ := h₄; exact wpAny_pure (ret s₄ c₄ v (f₃b.trans f₄) hr)
  · obtain rfl : i = xs.length := by omega
    rw [show xs.length = (xs.map F).length from (List.length_map ..).symm] at st
    refine wk.done s _ _ st fun h' tk hk ht => ?_
    refine wpAny_pure (.inr ⟨rfl, codeAny_block ?_⟩)
    have mvd : Mv ([] : List Addr) s c s c := .refl f.ins (fun _ h => nomatch h)
    have f' : Frm H₀ sb cb env oc (Inv xs.length) { s with heap := h', toks := tk } c := by
      refine ⟨f.eo, f.hb, f.fr, ⟨?_, fun b o hb e => (f.mv.keep b o hb e).on fun o' e' => hk b o' (fun q => by rw [hwb b q] at e; cases e) e', f.mv.le, ⟨fun b z e => (hk b z (fun q => by rw [off b q] at e; cases e) (f.ins.o b z e)).exact (f.ins.nf b z e), f.ins.nf, Nat.lt_of_lt_of_le f.ins.pos ht, fun t v e => Nat.lt_of_lt_of_le (f.ins.lt t v e) ht⟩, f.mv.new, fun b hb => ⟨(f.mv.off b hb).1, ?_⟩⟩, f.ok.on fun b o hb e => hk b o (own_lt b hb) e, fun x P h => ?_⟩
      · obtain ⟨h1, t1, rfl⟩ := f.mv.same
        exact ⟨_, _, rfl⟩
      · obtain ⟨o, e⟩ := (f.mv.off b hb).2
        exact (hk b o (own_lt b hb) e).live
      · obtain ⟨a, v, hv, ok⟩ := f.vars x P h
        refine ⟨a, v, ?_, ok⟩
        rcases hv with ⟨p, mm, q, r⟩ | ⟨p, a', q, r⟩
        · exact .inl ⟨p, mm, ns_gt q fun o e => hk _ o (own_lt _ List.mem_cons_self) e, r⟩
        · refine .inr ⟨p, a', q, cell_gt r fun o e => hk _ o (own_lt _ ?_) e⟩
          rcases a with a | a
          · rcases p with p | p <;> rw [a] at p <;> cases p
          · obtain ⟨a'', h1, h2⟩ := f.eo.cell x a
            rw [q] at h1; cases h1; exact List.mem_cons_of_mem _ h2
    exact fin _ c f'
theorem st_for {α : Type} {tgt iter : Expr} {xs : List α} {F : α → VP} {bind : α → Vars → Vars} {Inv : Nat → Vars} {RP : Value → Cx → Prop} (f : Frm H₀ sb cb env oc V s c) (r : RoomB n A H₀ env) (it : PE W n env s.heap c iter P₀) (iters : Iters W tgt P₀ (xs.map F))
    (hasg : ∀ a ∈ xs, ∀ (sb : Shared) (cb : Cx) (V : Vars) (s : Shared) (c : Cx) (v : Value) (A : Around) (E : Value → Shared → Prop) (Q : Unit → Shared → Prop), Frm H₀ sb cb env oc V s c → (F a).ok c v →
      (∀ s' c', Frm H₀ sb cb env oc (bind a V) s' c' → Q () s') → wpAny W.M A (assign tgt env v) Q E s)
    (h0 : ∀ y P, Inv 0 y = some P → V y = some P)
    (turn : ∀ i a, xs[i]? = some a → ∀ s c Ex, Frm H₀ s c env oc (bind a (Inv i)) s c → Le cb c → wpAny W.M A (execs body env) (fun fl s' => match fl with
      | .next | .cont => ∃ c', Frm H₀ s c env oc (Inv (i + 1)) s' c'
      | .brk => False
      | .ret v => ∃ c', Frm H₀ s c env oc (fun _ => none) s' c' ∧ RP v c') Ex s)
    (ret : ∀ s c v, Frm H₀ sb cb env oc (fun _ => none) s c → RP v c → Q (.ret v) s)
    (fin : ∀ s c, Frm H₀ sb cb env oc (Inv xs.length) s c → wpAny W.M A (execs orelse env) (Goes W A rest env Q E) (notedBy W.M A env fun e s' => cameBackBy W.M A env E e s') s)
    (hs : ∀ x, foldedSetIterable iter env x = pure x := by intro _; rfl) : wpAny W.M A (execs (.For tgt iter body orelse pos :: rest) env) Q E s :=
  st_forI f r (.of it iters) (fun a ha sb cb V s c v A E Q _ f ok k => hasg a ha sb cb V s c v A E Q f ok k) h0 turn ret fin hs
end
end Mine

/-! ### D4 -/
open PySem PySem.W PyProof.Rows PySem.SeqAt
set_option Elab.async false
namespace Mine

/-! ## A def is called -/
theorem cellsFrom_keys : ∀ (names : List (Str × NameKind)) (n m : Nat) (acc acc' : List (Str × Addr)), acc.map (·.1) = acc'.map (·.1) → (cellsFrom n names acc).map (·.1) = (cellsFrom m names acc').map (·.1)
  | [], _, _, _, _, h => h
  | (name, kind) :: r, n, m, acc, acc', h => by
    unfold cellsFrom
    split
    · exact cellsFrom_keys r _ _ _ _ (by simp [h])
    · exact cellsFrom_keys r _ _ _ _ h
theorem mem_keys_cellsFrom : ∀ (names : List (Str × NameKind)) (n : Nat) (acc : List (Str × Addr)) (x : Str), ((x, NameKind.cell) ∈ names ∨ x ∈ acc.map (·.1)) → x ∈ (cellsFrom n names acc).map (·.1)
  | [], _, _, _, h => by
    rcases h with h | h
    · cases h
    · exact h
  | (name, kind) :: r, n, acc, x, h => by
    unfold cellsFrom
    split
    · rename_i hk
      refine mem_keys_cellsFrom r _ _ x ?_
      rcases h with h | h
      · rcases List.mem_cons.mp h with e | h
        · cases e; right; simp
        · exact .inl h
      · right; simp only [List.map_cons]; exact List.mem_cons_of_mem _ h
    · rename_i hk
      refine mem_keys_cellsFrom r _ _ x ?_
      rcases h with h | h
      · rcases List.mem_cons.mp h with e | h
        · cases e; exact absurd rfl hk
        · exact .inl h
      · exact .inr h
theorem lookup_of_nodup {α : Type} : ∀ {l : List (Str × α)} {n : Str} {c : α}, (l.map (·.1)).Nodup → (n, c) ∈ l → l.lookup n = some c
  | (k, v) :: r, n, c, hd, hm => by
    rw [List.map_cons, List.nodup_cons] at hd
    rw [List.lookup_cons]
    rcases List.mem_cons.mp hm with e | hm
    · cases e; simp
    · have : n ≠ k := fun e => hd.1 (e ▸ List.mem_map.mpr ⟨(n, c), hm, rfl⟩)
      rw [beq_eq_false_iff_ne.mpr this]
      exact lookup_of_nodup hd.2 hm
theorem exists_lookup {α : Type} {l : List (Str × α)} {n : Str} (h : n ∈ l.map (·.1)) : ∃ c, l.lookup n = some c := by
  induction l with
  | nil => cases h
  | cons p r ih =>
    rw [List.lookup_cons]
    cases hb : n == p.1 with
    | true => exact ⟨_, rfl⟩
    | false =>
      rw [List.map_cons] at h
      rcases List.mem_cons.mp h with e | h
      · rw [e] at hb; simp at hb
      · exact ih h
theorem bindL_lookup {kindOf : Str → Option NameKind} {y : Str} (hy : kindOf y = some .local) : ∀ (binds : List (Str × Value)) (m : Str → Option Value), (binds.map (·.1)).Nodup → bindL kindOf binds m y = (binds.lookup y).or (m y)
  | [], m, _ => rfl
  | (n, v) :: r, m, hd => by
    rw [List.map_cons, List.nodup_cons] at hd
    unfold bindL
    rw [bindL_lookup hy r _ hd.2, List.lookup_cons]
    cases hb : y == n with
    | true =>
      have e : y = n := beq_iff_eq.mp hb
      subst e
      rw [hy, if_pos rfl]
      have : r.lookup y = none := by
        cases q : r.lookup y with
        | none => rfl
        | some c => exact absurd (List.mem_map_of_mem (mem_of_lookup q)) hd.1
      rw [this]; simp
    | false =>
      have e : y ≠ n := fun e => by rw [e] at hb; simp at hb
      by_cases hk : kindOf n = some .local
      · rw [if_pos hk, if_neg e]
      · rw [if_neg hk]
theorem bindC_lookup {kindOf : Str → Option NameKind} {y : Str} (hy : kindOf y ≠ some .local) : ∀ (binds : List (Str × Value)) (m : Str → Option Value), (binds.map (·.1)).Nodup → bindC kindOf binds m y = (binds.lookup y).or (m y)
  | [], m, _ => rfl
  | (n, v) :: r, m, hd => by
    rw [List.map_cons, List.nodup_cons] at hd
    unfold bindC
    rw [bindC_lookup hy r _ hd.2, List.lookup_cons]
    cases hb : y == n with
    | true =>
      have e : y = n := beq_iff_eq.mp hb
      subst e
      rw [if_neg hy, if_pos rfl]
      have : r.lookup y = none := by
        cases q : r.lookup y with
        | none => rfl
        | some c => exact absurd (List.mem_map_of_mem (mem_of_lookup q)) hd.1
      rw [this]; simp
    | false =>
      have e : y ≠ n := fun e => by rw [e] at hb; simp at hb
      by_cases hk : kindOf n = some .local
      · rw [if_pos hk]
      · rw [if_neg hk, if_neg e]
def entryV (names : List Str) (Ps : List VP) : Vars := fun y => (names.zip Ps).lookup y
theorem entry_ok {c : Cx} : ∀ {names : List Str} {Ps : List VP} {vs : List Value}, AllOk c Ps vs → names.length = Ps.length → ∀ x P, (names.zip Ps).lookup x = some P → ∃ v, (names.zip vs).lookup x = some v ∧ P.ok c v
  | [], _, _, _, _, x, P, h => by simp at h
  | n :: names, _, _, .cons (a := Q) (b := v) p r, hl, x, P, h => by
    rw [List.zip_cons_cons, List.lookup_cons] at h ⊢
    cases hb : x == n with
    | true => rw [hb] at h; cases h; exact ⟨v, rfl, p⟩
    | false => rw [hb] at h; exact entry_ok r (by simpa using hl) x P h
theorem zip_keys {α : Type} : ∀ {names : List Str} {vs : List α}, names.length = vs.length → (names.zip vs).map (·.1) = names
  | [], _, _ => by simp
  | n :: names, [], h => by simp at h
  | n :: names, v :: vs, h => by simp only [List.zip_cons_cons, List.map_cons, zip_keys (by simpa using h)]

structure DefIn (H₀ : Heap) (a : Addr) (x : Str) (params : Arguments) (body : List Stmt) (scope : Scope) (pm code doc : Value) : Prop where
  obj : ∃ o, H₀.get? a = some o ∧ o.data = .func (Calls.docDef x params body scope pm code doc)
  cd : H₀.CodeRec code x
theorem DefIn.callee {H₀ : Heap} {a : Addr} {x : Str} {params : Arguments} {body : List Stmt} {scope : Scope} {pm code doc : Value} (d : DefIn H₀ a x params body scope pm code doc) : Callee H₀ (.ref a) := by
  obtain ⟨⟨oc, od, data, sl⟩, e, h⟩ := d.obj
  simp only at h
  subst h
  exact .inr (.inr ⟨a, rfl, oc, od, _, sl, e⟩)
abbrev fEnv (x : Str) (params : Arguments) (body : List Stmt) (scope : Scope) (pm code doc : Value) (L a : Addr) : Env := callEnvC (Calls.docDef x params body scope pm code doc) L a
abbrev fOc (scope : Scope) (L : Addr) : List Addr := (cellsFrom (L + 1) scope.names []).map (·.2)
theorem call_def {W : Wd} {n : Nat} {H₀ : Heap} {a : Addr} {x : Str} {params : Arguments} {body : List Stmt} {scope : Scope} {pm code doc : Value} (d : DefIn H₀ a x params body scope pm code doc) (nl : H₀.NoLimit)
    {names : List Str} {Ps : List VP} (hnd : names.Nodup) (hlen : names.length = Ps.length)
    (hbind : ∀ vals : List Value, vals.length = names.length → bindArgs (Calls.docDef x params body scope pm code doc) ⟨vals, []⟩ = pure (names.zip vals))
    (hkind : ∀ y ∈ names, scope.names.lookup y = some .local ∨ scope.names.lookup y = some .cell) (hcn : ((cellsFrom 0 scope.names []).map (·.1)).Nodup)
    {A : Around} {s : Shared} {c : Cx} {vs : List Value} {R : Result → Shared → Prop} (r : Room (n + 1) A s.heap) (hx : HX H₀ s.heap) (ins : InS c s) (ok : AllOk c Ps vs)
    (h : ∀ L s₁, Frm s.heap s₁ c (fEnv x params body scope pm code doc L a) (fOc scope L) (entryV names Ps) s₁ c → Kp s c s₁ c → (∀ b ∈ L :: fOc scope L, s.heap.get? b = none) → RoomB n (A.deeper (fEnv x params body scope pm code doc L a)) s.heap (fEnv x params body scope pm code doc L a) →
      wpAny W.M (A.deeper (fEnv x params body scope pm code doc L a)) (execs body (fEnv x params body scope pm code doc L a)) (fun f s' => R (.ok (.ret (match f with | .ret v => v | _ => .none))) s')
        (fun e s' => wpAny W.M (A.deeper (fEnv x params body scope pm code doc L a)) (leaving (fEnv x params body scope pm code doc L a) e) (fun _ s'' => R (.error e) s'') (fun e' s'' => R (.error e') s'') s') s₁)
    (hco : scope.isCoroutine = false) (hgen : scope.isGenerator = false) (hk : scope.kind = .function) :
    codeAny W.M A (.call (.ref a) ⟨vs, []⟩) R s := by
  obtain ⟨o, ho, hdata⟩ := d.obj
  obtain ⟨o', ho', hs⟩ := hx _ _ ho
  have hvl : vs.length = names.length := by rw [hlen]; exact ok.len.symm
  refine codeAny_call_function (by have := r.depth; omega) ho' (hs.data.trans hdata) hco hgen rfl (codeRec_hx d.cd hx) ?_
  rw [hbind vs hvl]
  refine wpAny_pure (wpAny_with_toks (Nat.le_refl _) (wpAny_newFunctionEnv_cells hk ?_ fun env he s₁ ic htk => ?_))
  · intro y hy
    have hyn : y.1 ∈ names := by
      have : y.1 ∈ (names.zip vs).map (·.1) := List.mem_map_of_mem hy
      rwa [zip_keys hvl.symm] at this
    rcases hkind y.1 hyn with q | q
    · exact .inl q
    · refine .inr ⟨q, ?_⟩
      obtain ⟨c, hc⟩ := exists_lookup (mem_keys_cellsFrom scope.names (s.heap.objs.size + 1) [] y.1 (.inl (mem_of_lookup q)))
      show ((cellsFrom (s.heap.objs.size + 1) scope.names []).lookup y.1).isSome = true
      rw [hc]; rfl
  · subst he
    have hkeys : ((cellsFrom (s.heap.objs.size + 1) scope.names []).map (·.1)).Nodup := by rw [cellsFrom_keys scope.names (s.heap.objs.size + 1) 0 [] [] rfl]; exact hcn
    have kp : Kp s c s₁ c := Kp.fromTo ins ic.toInCall.same (HX.ex ic.toInCall.keep) htk
    have own : ∀ b ∈ s.heap.objs.size :: fOc scope s.heap.objs.size, s.heap.get? b = none := by
      intro b hb
      rcases List.mem_cons.mp hb with rfl | hb
      · exact get_size _
      · obtain ⟨⟨nm, b'⟩, hm, rfl⟩ := List.mem_map.mp hb
        exact Heap.get?_none_of_le (Nat.le_of_lt (ic.above nm b' hm))
    have cok : CompOk s.heap.objs.size (fOc scope s.heap.objs.size) s₁.heap := by
      refine ⟨⟨_, ic.toInCall.ns⟩, fun b hb => ?_⟩
      obtain ⟨⟨nm, b'⟩, hm, rfl⟩ := List.mem_map.mp hb
      exact ⟨_, ic.cell nm b' (lookup_of_nodup hkeys hm)⟩
    refine ⟨nolimit_hx (nolimit_hx nl hx) (HX.ex ic.toInCall.keep), codeAny_func (h s.heap.objs.size s₁ ⟨⟨hk, fun y hy => ?_, fun y z b h1 h2 => ?_, fun hm => ?_, rfl, let ⟨_, e⟩ := r.top; Heap.lt_size e⟩, kp.keep, own, .refl kp.ins fun b hb => ⟨ins.none (own b hb), cok.live b hb⟩, cok, fun y P hy => ?_⟩ kp own r.deeper)⟩
    · obtain ⟨b, hb⟩ := exists_lookup (mem_keys_cellsFrom scope.names (s.heap.objs.size + 1) [] y (.inl (mem_of_lookup hy)))
      exact ⟨b, hb, List.mem_map.mpr ⟨_, mem_of_lookup hb, rfl⟩⟩
    · exact name_of_addr ic.apart (mem_of_lookup h1) (mem_of_lookup h2)
    · obtain ⟨⟨nm, b'⟩, hm, e⟩ := List.mem_map.mp hm
      have h1 := ic.above nm b' hm
      have e' : b' = s.heap.objs.size := e
      rw [e'] at h1
      exact Nat.lt_irrefl _ h1
    · obtain ⟨v, hv, okv⟩ := entry_ok ok hlen y P hy
      have hyn : y ∈ names := by
        have : y ∈ (names.zip vs).map (·.1) := List.mem_map_of_mem (mem_of_lookup hv)
        rwa [zip_keys hvl.symm] at this
      have hnd' : ((names.zip vs).map (·.1)).Nodup := by rw [zip_keys hvl.symm]; exact hnd
      rcases hkind y hyn with q | q
      · refine ⟨.inl q, v, .inl ⟨q, _, ic.toInCall.ns, ?_⟩, okv⟩
        refine (bindL_lookup (kindOf := fun y => scope.names.lookup y) q _ _ hnd').trans ?_
        rw [hv]; rfl
      · refine ⟨.inr q, v, .inr ⟨.inl q, ?_⟩, okv⟩
        obtain ⟨b, hb⟩ := exists_lookup (mem_keys_cellsFrom scope.names (s.heap.objs.size + 1) [] y (.inl (mem_of_lookup q)))
        refine ⟨b, hb, ?_⟩
        have hc := ic.cell y b hb
        have e2 := bindC_lookup (kindOf := fun y => scope.names.lookup y) (y := y) (fun e => by rw [q] at e; cases e) (names.zip vs) (fun _ => none) hnd'
        rw [hv] at e2
        have e3 : s₁.heap.IsCell b (bindC (fun y => scope.names.lookup y) (names.zip vs) (fun _ => none) y) := hc
        rw [e2] at e3
        exact e3
end Mine

/-! ### D5 -/
open PySem PySem.W PyProof.Rows PySem.SeqAt
set_option Elab.async false
namespace Mine
theorem Kp.then_mv {own : List Addr} {s s₁ s' : Shared} {c c₁ c' : Cx} (k : Kp s c s₁ c₁) (m : Mv own s₁ c₁ s' c') (h : ∀ b ∈ own, s.heap.get? b = none) : Kp s c s' c' := by
  refine ⟨?_, fun b o e => (k.keep b o e).on fun o' e' => m.keep b o' (fun q => by rw [h b q] at e; cases e) e', k.le.trans m.le, m.ins, fun b x e => ?_⟩
  · obtain ⟨h1, t1, rfl⟩ := k.same
    obtain ⟨h2, t2, rfl⟩ := m.same
    exact ⟨_, _, rfl⟩
  · rcases m.new b x e with q | q
    · exact k.new b x q
    · exact .inr (none_of_keep k.keep q)
abbrev retv (f : Flow) : Value := match f with | .ret v => v | _ => .none
/-- a def by its body -/
theorem Cl.of_def {W : Wd} {n : Nat} {H₀ : Heap} {a : Addr} {x : Str} {params : Arguments} {body : List Stmt} {scope : Scope} {pm code doc : Value} (d : DefIn H₀ a x params body scope pm code doc) (nl : H₀.NoLimit)
    {names : List Str} {Ps : List VP} {P : VP} (hnd : names.Nodup) (hlen : names.length = Ps.length)
    (hbind : ∀ vals : List Value, vals.length = names.length → bindArgs (Calls.docDef x params body scope pm code doc) ⟨vals, []⟩ = pure (names.zip vals))
    (hkind : ∀ y ∈ names, scope.names.lookup y = some .local ∨ scope.names.lookup y = some .cell) (hcn : ((cellsFrom 0 scope.names []).map (·.1)).Nodup)
    (hco : scope.isCoroutine = false) (hgen : scope.isGenerator = false) (hk : scope.kind = .function)
    (h : ∀ (Hc : Heap) (L : Addr) (A : Around) (E : Value → Shared → Prop) (s : Shared) (c : Cx), HX H₀ Hc → RoomB n A Hc (fEnv x params body scope pm code doc L a) → Frm Hc s c (fEnv x params body scope pm code doc L a) (fOc scope L) (entryV names Ps) s c →
      wpAny W.M A (execs body (fEnv x params body scope pm code doc L a)) (fun f s' => ∃ c', Frm Hc s c (fEnv x params body scope pm code doc L a) (fOc scope L) (fun _ => none) s' c' ∧ P.ok c' (retv f)) E s) :
    Cl W (n + 1) H₀ (.ref a) Ps P := by
  intro A E s c vs r hx ins ok
  refine wpAny_call (call_def d nl hnd hlen hbind hkind hcn r hx ins ok (fun L s₁ f kp own r' => ?_) hco hgen hk)
  refine wpAny_mono (h s.heap L _ (fun _ _ => False) s₁ c hx r' f) (fun fl s' hq => ?_) (fun _ _ x => x.elim)
  obtain ⟨c', f', z⟩ := hq
  exact ⟨c', kp.then_mv f'.mv own, z⟩

/-! ## What the globals hold -/
structure Gl (H₀ : Heap) (mg mb : Str → Option Value) : Prop where
  g : H₀.Ns mainGlobals mg
  b : H₀.Ns builtinsNs mb
  nl : H₀.NoLimit
  blt : ∀ x : Str, x ≠ "__name__" → mb x = bootBuiltins x
  booked : NoneBooked H₀
theorem booked_mono {h h' : Heap} (x : NoneBooked h) (k : HX h h') : NoneBooked h' := let ⟨m, a, b⟩ := x; ⟨m, ns_hx a k, b⟩
structure EnvG (env : Env) (x : Str) : Prop where
  g : env.globals = mainGlobals
  b : env.builtins = builtinsNs
  fn : env.scope.kind = .function
  kind : env.kindOf x = some .globalImplicit
theorem Fn.glob {W : Wd} {n : Nat} {env : Env} {H₀ H : Heap} {mg mb : Str → Option Value} {x : Str} {a : Addr} {Ps : List VP} {P : VP} (G : Gl H₀ mg mb) (hx : HX H₀ H) (he : EnvG env x) (hm : mg x = some (.ref a)) (hc : Callee H₀ (.ref a)) (cl : Cl W n H₀ (.ref a) Ps P) : Fn W n env H x Ps P := by
  intro A E s hs
  rw [loadName_read he.fn he.kind]
  refine Calls.loadGlobal_global (env := env) (mg := mg) ?_ hm ⟨rfl, hc.mono (hx.trans hs), cl.mono (hx.trans hs)⟩
  rw [he.g]; exact ns_hx G.g (hx.trans hs)
theorem Fn.blt {W : Wd} {n : Nat} {env : Env} {H₀ H : Heap} {mg mb : Str → Option Value} {x : Str} {f : Value} {Ps : List VP} {P : VP} (G : Gl H₀ mg mb) (hx : HX H₀ H) (he : EnvG env x) (hm : mg x = none) (hb : bootBuiltins x = some f) (hc : Callee H₀ f) (cl : Cl W n H₀ f Ps P) (hn : x ≠ "__name__" := by decide) : Fn W n env H x Ps P := by
  intro A E s hs
  rw [loadName_read he.fn he.kind]
  refine Calls.loadGlobal_builtin (env := env) (mg := mg) (mb := mb) ?_ hm ?_ ((G.blt x hn).trans hb) ⟨rfl, hc.mono (hx.trans hs), cl.mono (hx.trans hs)⟩
  · rw [he.g]; exact ns_hx G.g (hx.trans hs)
  · rw [he.b]; exact ns_hx G.b (hx.trans hs)

section
variable {W : Wd} {n : Nat} {A : Around} {E : Value → Shared → Prop} {Q : Flow → Shared → Prop} {H₀ : Heap} {sb : Shared} {cb : Cx} {env : Env} {oc : List Addr} {V : Vars} {s : Shared} {c : Cx} {test : Expr} {pos : Pos} {rest body : List Stmt}
theorem st_while {β : Type} {Inv : β → Vars} {μ : β → Nat} {t : β → Bool} {Good Fin : β → Prop} (f : Frm H₀ sb cb env oc V s c) (r : RoomB n A H₀ env) (b₀ : β) (g₀ : Good b₀) (h0 : ∀ y P, Inv b₀ y = some P → V y = some P)
    (htest : ∀ b, Good b → ∀ s c, Frm H₀ s c env oc (Inv b) s c → Le cb c → PT W n env s.heap c test (t b))
    (turn : ∀ b, Good b → t b = true → ∀ s c Ex, Frm H₀ s c env oc (Inv b) s c → Le cb c → wpAny W.M A (execs body env) (fun fl s' => match fl with
      | .next | .cont => ∃ b' c', μ b' < μ b ∧ Good b' ∧ Frm H₀ s c env oc (Inv b') s' c'
      | .brk => ∃ b' c', Fin b' ∧ Frm H₀ s c env oc (Inv b') s' c'
      | .ret _ => False) Ex s)
    (hfin : ∀ b, Good b → t b = false → Fin b)
    (fin : ∀ b s c, Fin b → Frm H₀ sb cb env oc (Inv b) s c → wpAny W.M A (execs rest env) Q E s) :
    wpAny W.M A (execs (.While test body [] pos :: rest) env) Q E s := by
  refine wpAny_execs_cons (wpAny_While (codeAny_whileLoop (fun k s' => ∃ b c', k = μ b ∧ Good b ∧ Frm H₀ sb cb env oc (Inv b) s' c') ?_ (μ b₀) ⟨b₀, c, rfl, g₀, f.weak h0⟩))
  rintro k s ⟨b, c, rfl, g, f⟩
  refine (htest b g s c f.base f.mv.le).at (f.room r) f.ins fun s₁ c₁ k₁ => ?_
  have f₁ := f.step k₁
  cases ht : t b with
  | false => exact wpAny_execs_nil (fin b s₁ c₁ (hfin b g ht) f₁)
  | true =>
    refine wpAny_mono (turn b g ht s₁ c₁ _ f₁.base f₁.mv.le) (fun fl s₂ h₂ => ?_) fun _ _ x => x
    cases fl with
    | next => obtain ⟨b', c', hlt, g', f'⟩ := h₂; exact ⟨μ b', hlt, b', c', rfl, g', f₁.trans f'⟩
    | cont => obtain ⟨b', c', hlt, g', f'⟩ := h₂; exact ⟨μ b', hlt, b', c', rfl, g', f₁.trans f'⟩
    | brk => obtain ⟨b', c', hf, f'⟩ := h₂; exact fin b' s₂ c' hf (f₁.trans f')
    | ret v => exact h₂.elim
end

/-! ## A comprehension's own names -/
section
variable {W : Wd} {scope : Scope} {cl : List (Str × Addr)} {env : Env} {x : Str} {px : Pos} {P : VP}
theorem asg_local (hk : scope.kind = .function) (hx : scope.names.lookup x = some .local) (C : Addr) (hn : (x == ("__classdict__" : Str)) = false := by decide) :
    Asg W (.Name x px) (cEnv scope cl env C) C [] P (fun H c => Rd W (cEnv scope cl env C) H c x P) := by
  intro A E s c v _ ins ok z
  obtain ⟨⟨m, hm⟩, _⟩ := ok
  have hl : (cEnv scope cl env C).kindOf x = some .local := lookup_relabel_local hx
  refine wpAny_assign_Name (wpAny_storeName_local hl hm (fun h' hn' hs' => ?_) (by show (scope.kind == .class || (scope.kind == .module && _)) = false; rw [hk]; rfl))
  refine ⟨h', s.toks + 1, rfl, Nat.le_succ _, fun b o hb e => .of (hs'.extBut b o (fun q => hb (q ▸ List.mem_cons_self)) e), ⟨⟨_, hn'⟩, fun _ h => nomatch h⟩, ?_⟩
  exact Rd.held hk (.inl ⟨hl, _, hn', if_pos rfl⟩) z hn
theorem asg_cell (hk : scope.kind = .function) (C : Addr) (hx : (cEnv scope cl env C).kindOf x = some .cell) (hc : (cEnv scope cl env C).cells.lookup x = some (C + 1)) (hn : (x == ("__classdict__" : Str)) = false := by decide) :
    Asg W (.Name x px) (cEnv scope cl env C) C [C + 1] P (fun H c => Rd W (cEnv scope cl env C) H c x P) := by
  intro A E s c v _ ins ok z
  obtain ⟨v₀, h₀⟩ := ok.2 (C + 1) (List.mem_singleton.mpr rfl)
  refine wpAny_assign_Name (wpAny_storeName_cell hk hx hc h₀ fun h' hc' hs' => ?_)
  refine ⟨h', s.toks, rfl, Nat.le_refl _, fun b o hb e => .of (hs'.extBut b o (fun q => hb (q ▸ List.mem_cons_of_mem _ (List.mem_singleton.mpr rfl))) e), ⟨?_, fun a ha => ?_⟩, ?_⟩
  · obtain ⟨m, hm⟩ := ok.1
    exact ⟨m, hm.sameBut hs' (Nat.ne_of_lt (Nat.lt_succ_self _))⟩
  · rw [List.mem_singleton.mp ha]; exact ⟨_, hc'⟩
  · exact Rd.held hk (.inr ⟨.inl hx, _, hc, hc'⟩) z hn
end
end Mine

/-! ### D6 -/
open PySem PySem.W PyProof.Rows PySem.SeqAt
set_option Elab.async false
namespace Mine
def listV (l : List (Str × VP)) : Vars := fun y => l.lookup y
def VLe : List (Str × VP) → Vars → Prop
  | [], _ => True
  | (x, P) :: r, V => V x = some P ∧ VLe r V
theorem VLe.le : ∀ {l : List (Str × VP)} {V : Vars}, VLe l V → ∀ y P, listV l y = some P → V y = some P
  | [], _, _, _, _, h => by cases h
  | (x, Q) :: r, V, ⟨h1, h2⟩, y, P, h => by
    unfold listV at h
    rw [List.lookup_cons] at h
    cases hb : y == x with
    | true => rw [hb] at h; cases h; rw [beq_iff_eq.mp hb]; exact h1
    | false => rw [hb] at h; exact VLe.le h2 y P h
section
variable {W : Wd} {n : Nat} {H₀ : Heap} {sb : Shared} {cb : Cx} {env : Env} {oc : List Addr} {V : Vars} {s : Shared} {c : Cx} {H : Heap} {e : Expr} {b b' : Bool} {P P' : VP}
theorem Frm.to (f : Frm H₀ sb cb env oc V s c) (l : List (Str × VP)) (h : VLe l V) : Frm H₀ sb cb env oc (listV l) s c := f.weak h.le
theorem Frm.nil (f : Frm H₀ sb cb env oc V s c) : Frm H₀ sb cb env oc (fun _ => none) s c := f.weak fun _ _ h => nomatch h
theorem PT.eq (p : PT W n env H c e b) (h : b = b') : PT W n env H c e b' := h ▸ p
theorem PE.eq (p : PE W n env H c e P) (h : P = P') : PE W n env H c e P' := h ▸ p
end
end Mine

/-! ### D7 -/
open PySem PySem.W PyProof.Rows PySem.SeqAt
set_option Elab.async false
namespace Mine
/-- a step that changes what is owned, makes one new thing T, and perhaps a token -/
theorem Mv.make {own : List Addr} {s : Shared} {c c₁ : Cx} {h' : Heap} {tk : Nat} {T : Addr} {o : Obj} (ins : InS c s) (off : ∀ b ∈ own, c.o b = none) (k₁ : Kp s c { s with toks := tk } c₁) (hc : ∀ b, c₁.o b = c.o b)
    (hT : s.heap.get? T = none) (hTo : T ∉ own) (he : h'.get? T = some o) (hd : NoD o) (hk : ∀ b x, b ∉ own → s.heap.get? b = some x → h'.get? b = some x) (hl : ∀ b ∈ own, ∃ x, h'.get? b = some x) :
    Mv own s c { s with heap := h', toks := tk } (c₁.put T o) := by
  have hn : c₁.o T = none := by rw [hc]; exact ins.none hT
  refine ⟨⟨h', tk, rfl⟩, fun b x hb e => .of (hk b x hb e), k₁.le.trans (Cx.put_le hn o), ⟨fun b x e => ?_, fun b x e => ?_, k₁.ins.pos, k₁.ins.lt⟩, fun b x e => ?_, fun b hb => ⟨?_, hl b hb⟩⟩
  · have e' : (if b = T then some o else c₁.o b) = some x := e
    by_cases q : b = T
    · rw [if_pos q] at e'; cases e'; rw [q]; exact he
    · rw [if_neg q, hc] at e'
      exact hk b x (fun hb => by rw [off b hb] at e'; cases e') (ins.o b x e')
  · have e' : (if b = T then some o else c₁.o b) = some x := e
    by_cases q : b = T
    · rw [if_pos q] at e'; cases e'; exact hd
    · rw [if_neg q, hc] at e'; exact ins.nf b x e'
  · have e' : (if b = T then some o else c₁.o b) = some x := e
    by_cases q : b = T
    · rw [q]; exact .inr hT
    · rw [if_neg q, hc] at e'; exact .inl e'
  · show (if b = T then some o else c₁.o b) = none
    rw [if_neg (fun q : b = T => hTo (q ▸ hb)), hc]; exact off b hb
theorem TupV.new {c : Cx} {a : Addr} {l : List VP} {vs : List Value} {n : Nat} (hn : c.o a = none) (x : AllOk c l vs) : (TupV l).ok (c.put a { cls := .type "tuple", data := .seq vs.toArray n }) (.ref a) :=
  ⟨a, vs, rfl, ⟨_, Cx.put_self .., rfl, n, rfl⟩, x.mono (Cx.put_le hn _)⟩
theorem gt_exact {h h' : Heap} {b : Addr} {o : Obj} (e : h.get? b = some o) (k : ∀ o, h.get? b = some o → Gt h' b o) (nd : NoD o) : h'.get? b = some o := (k o e).exact nd
theorem liter_gt {h h' : Heap} {I l : Addr} {i : Nat} (x : h.IsListIter I l i) (k : ∀ o, h.get? I = some o → Gt h' I o) : h'.IsListIter I l i := by
  obtain ⟨o, e, hc, r⟩ := x
  exact ⟨o, gt_exact e k (by intro _ _ h; rw [r] at h; cases h), hc, r⟩
theorem list_gt {h h' : Heap} {a : Addr} {its : Array Value} (x : h.IsList a its) (k : ∀ o, h.get? a = some o → Gt h' a o) : h'.IsList a its := by
  obtain ⟨o, e, hc, n, r⟩ := x
  exact ⟨o, gt_exact e k (by intro _ _ h; rw [r] at h; cases h), hc, n, r⟩
def enumV (l : List VP) : List VP := (List.range l.length).map fun (i : Nat) => TupV [IntV (i : Int), l.getD i AnyV]
theorem Wk.enum {W : Wd} {elts : List Expr} {x1 : Nat} {pos : Pos} {A : Around} {c₀ : Cx} (hh : A.handled = none) {e it ax : Addr} (h1 : e ≠ it) (h2 : ax ≠ e) (h3 : ax ≠ it) {vs : List Value} {l : List VP} (ok : AllOk c₀ l vs) :
    Wk W (.Tuple elts x1 pos) A c₀ e [e, it, ax] [e, it] (enumV l) (fun i h => (∃ old, IsEnum h e it i old) ∧ h.IsListIter it ax i ∧ h.IsList ax vs.toArray) where
  sub := fun b hb => by
    rcases List.mem_cons.mp hb with rfl | hb
    · simp
    · rw [List.mem_singleton.mp hb]; simp
  frame := fun i h h' st hk => by
    obtain ⟨⟨old, he⟩, hi, hl⟩ := st
    exact ⟨⟨old, gt_exact he (fun o e => hk _ (by simp) o e) (by intro _ _ h; cases h)⟩, liter_gt hi fun o e => hk _ (by simp) o e, list_gt hl fun o e => hk _ (by simp) o e⟩
  live := fun i h st b hb => by
    obtain ⟨⟨old, he⟩, ⟨o, e, _⟩, hl⟩ := st
    rcases List.mem_cons.mp hb with rfl | hb
    · exact ⟨_, he⟩
    · rw [List.mem_singleton.mp hb]; exact ⟨_, e⟩
  item := fun i s c Q E P hP st le ins off hQ => by
    obtain ⟨⟨old, he⟩, hi, hl⟩ := st
    unfold enumV at hP
    rw [List.getElem?_map] at hP
    obtain ⟨j, hj, rfl⟩ := Option.map_eq_some_iff.mp hP
    have hlt : i < l.length := by
      have := (List.getElem?_eq_some_iff.mp hj).1
      simpa using this
    have hj' : i = j := by rw [List.getElem?_range hlt] at hj; injection hj
    subst hj'
    obtain ⟨v, ev, ov⟩ := ok.get (i := i) (P := l.getD i AnyV) (by rw [List.getElem?_eq_getElem hlt, List.getD_eq_getElem?_getD, List.getElem?_eq_getElem hlt]; rfl)
    refine wpAny_pyNext_enum_item he hi hl (x := v) (by simpa using ev) h1 fun h₁ he₁ hi₁ hT₁ hsz hk₁ => ?_
    refine wpAny_letOwnedTupleGo_enum he₁ fun h₂ he₂ hs₂ => ?_
    have hTe : s.heap.objs.size ≠ e := fun q => by have := Heap.lt_size he; rw [q] at this; exact Nat.lt_irrefl _ this
    have hTi : s.heap.objs.size ≠ it := fun q => by obtain ⟨o, e', _⟩ := hi; have := Heap.lt_size e'; rw [q] at this; exact Nat.lt_irrefl _ this
    have hTown : s.heap.objs.size ∉ [e, it] := by
      intro hm
      rcases List.mem_cons.mp hm with q | hm
      · exact hTe q
      · exact hTi (List.mem_singleton.mp hm)
    have hT₂ : h₂.get? s.heap.objs.size = some { cls := .type "tuple", data := .seq #[.int i s.toks, v] } := hs₂.extBut _ _ hTe hT₁
    have hi₂ : h₂.IsListIter it ax (i + 1) := hi₁.extBut hs₂.extBut (Ne.symm h1)
    have k₁ := Kp.fresh ins (.int i s.toks)
    have hal : AllOk (c.tok s.toks (.int i s.toks)) [IntV (i : Int), l.getD i AnyV] [.int i s.toks, v] := .cons (IntV.fresh ins i) (.cons (VP.mono _ (le.trans k₁.le) ov) .nil)
    refine hQ (.ref s.heap.objs.size) _ _ (Mv.make ins off k₁ (fun _ => rfl) (get_size _) hTown hT₂ (by intro _ _ h; cases h) (fun b x hb e' => hs₂.extBut b x (fun q => hb (by rw [q]; simp)) (hk₁ b x (fun q => hb (by rw [q]; simp)) (fun q => hb (by rw [q]; simp)) e')) (fun b hb => ?_)) ⟨⟨v, he₂⟩, hi₂, ?_⟩ (TupV.new (k₁.ins.none (get_size s.heap)) hal)
    · rcases List.mem_cons.mp hb with rfl | hb
      · exact ⟨_, he₂⟩
      · obtain ⟨o, e', _⟩ := hi₂
        rw [List.mem_singleton.mp hb]; exact ⟨_, e'⟩
    · obtain ⟨o, e', r⟩ := hl
      exact ⟨o, hs₂.extBut _ _ h2 (hk₁ _ _ h2 h3 e'), r⟩
  done := fun s Q E st hQ => by
    obtain ⟨⟨old, he⟩, hi, hl⟩ := st
    have hlen : (enumV l).length = l.length := by simp [enumV]
    rw [hlen] at he hi
    refine wpAny_pyNext_enum_end hh he hi hl (by have := ok.len; simp; omega) fun h' hx => hQ h' s.toks (fun b o hb e' => .of (hx b o (fun q => hb (by rw [q]; simp)) e')) (Nat.le_refl _)
  self := fun i s Q E st hQ => let ⟨⟨_, he⟩, _⟩ := st; wpAny_pyIter_enum he hQ
end Mine

/-! ### D8 -/
open PySem PySem.W PyProof.Rows PySem.SeqAt
set_option Elab.async false
namespace Mine
theorem IsTup.tup {c : Cx} {s : Shared} {a : Addr} {vs : List Value} (l : IsTup c a vs) (x : InS c s) : s.heap.IsTuple a vs.toArray := let ⟨o, e, r⟩ := l.out; ⟨o, x.o _ _ e, r⟩
theorem hx_extBut {h h' : Heap} (x : Heap.ExtBut h.objs.size h h') : ∀ b o, h.get? b = some o → h'.get? b = some o := fun b o e => x b o (fun q => by have := Heap.lt_size e; rw [q] at this; exact Nat.lt_irrefl _ this) e
/-- a name of the built-ins -/
def Bl (W : Wd) (env : Env) (H : Heap) (x : Str) (f : Value) : Prop := ∀ (A : Around) (E : Value → Shared → Prop) (s : Shared), HX H s.heap → wpAny W.M A (loadName env x) (fun v s' => s' = s ∧ v = f) E s
theorem Bl.of {W : Wd} {env : Env} {H₀ H : Heap} {mg mb : Str → Option Value} {x : Str} {f : Value} (G : Gl H₀ mg mb) (hx : HX H₀ H) (he : EnvG env x) (hm : mg x = none) (hb : bootBuiltins x = some f) (hn : x ≠ "__name__" := by decide) : Bl W env H x f := by
  intro A E s hs
  rw [loadName_read he.fn he.kind]
  refine Calls.loadGlobal_builtin (env := env) (mg := mg) (mb := mb) ?_ hm ?_ ((G.blt x hn).trans hb) ⟨rfl, rfl⟩
  · rw [he.g]; exact ns_hx G.g (hx.trans hs)
  · rw [he.b]; exact ns_hx G.b (hx.trans hs)
/-- a call of a built-in by its name -/
theorem call_bl {W : Wd} {n : Nat} {env : Env} {H : Heap} {c : Cx} {x : Str} {np pos : Pos} {e : Expr} {es : List Expr} {f : Value} {Ps : List VP} (b : Bl W env H x f) (hf : (∃ id, f = .builtin id) ∨ ∃ T, f = .type T) (p : PEs W n env H c (e :: es) Ps)
    {A : Around} {E Q : Value → Shared → Prop} {s : Shared} {c₁ : Cx} (r : Room n A s.heap) (hx : HX H s.heap) (le : Le c c₁) (ins : InS c₁ s)
    (k : ∀ vs s' c', Kp s c₁ s' c' → AllOk c' Ps vs → wpAny W.M A (call f vs) Q E s') (hd : (x == ("__debug__" : Str)) = false := by decide) : wpAny W.M A (eval (.Call (.Name x np) (e :: es) [] pos) env) Q E s := by
  refine wpAny_Call_NameR (wpAny_Name (wpAny_mono (b A E s hx) (fun v s₁ hq => ?_) fun _ _ x => x) hd)
  obtain ⟨rfl, rfl⟩ := hq
  have hc : Callee s₁.heap v := hf.elim .inl fun h => .inr (.inl h)
  exact callWith_callee hc p.plain (wpAny_mono (p.run E s₁ c₁ r hx le ins) (fun vs s₂ ⟨c₂, kk, z⟩ => ⟨hc.mono kk.keep, k vs s₂ c₂ kk z⟩) fun _ _ x => x)
theorem IterE.enum {W : Wd} {n : Nat} {env : Env} {H : Heap} {c : Cx} {e : Expr} {l : List VP} {elts : List Expr} {x1 : Nat} {pos np cp : Pos} (b : Bl W env H "enumerate" (.type "enumerate")) (p : PE W n env H c e (ListV l)) (hp : plainE e = true := by rfl) :
    IterE W n (.Tuple elts x1 pos) env H c (.Call (.Name "enumerate" np) [e] [] cp) (enumV l) := by
  intro A E s c₁ r hx le ins
  refine call_bl b (.inr ⟨_, rfl⟩) (.one p hp) r hx le ins fun vs s₁ c₂ k z => ?_
  cases z with
  | cons z z' =>
    cases z'
    obtain ⟨a, vs, rfl, il, ok⟩ := z
    refine call_enumerate_list (il.list k.ins) fun h' he hi hsz hk => ?_
    have hal : a < s₁.heap.objs.size := by obtain ⟨o, e, _⟩ := il.list k.ins; exact Heap.lt_size e
    have k₂ : Kp s₁ c₂ { s₁ with heap := h' } c₂ := Kp.heap k.ins (HX.ex hk)
    refine wpAny_pyIter_enum he ⟨_, _, _, _, c₂, rfl, k.trans k₂, Wk.enum r.handled (by intro h; have : s₁.heap.objs.size + 1 = s₁.heap.objs.size := h; omega) (by intro h; rw [h] at hal; exact absurd hal (by intro q; have : s₁.heap.objs.size + 1 < s₁.heap.objs.size := q; omega)) (by intro h; rw [h] at hal; exact Nat.lt_irrefl _ hal) ok, ⟨⟨.none, he⟩, hi, list_gt (il.list k.ins) fun o e => .of (hk _ _ e)⟩, ?_, ?_, ?_⟩
    · intro b hb
      show b < h'.objs.size
      rw [hsz]
      rcases List.mem_cons.mp hb with rfl | hb
      · exact Nat.lt_succ_self _
      · rcases List.mem_cons.mp hb with rfl | hb
        · exact Nat.lt_succ_of_lt (Nat.lt_succ_self _)
        · rw [List.mem_singleton.mp hb]; exact Nat.lt_of_lt_of_le hal (Nat.le_add_right _ _)
    · intro b hb
      have hb' : s₁.heap.get? b = none := by
        rcases List.mem_cons.mp hb with rfl | hb
        · exact Heap.get?_none_of_le (Nat.le_succ _)
        · rw [List.mem_singleton.mp hb]; exact get_size _
      exact ⟨none_of_keep k.keep hb', k.ins.none hb'⟩
    · intro b hb hw
      rcases List.mem_cons.mp hb with rfl | hb
      · exact absurd List.mem_cons_self hw
      · rcases List.mem_cons.mp hb with rfl | hb
        · exact absurd (List.mem_cons_of_mem _ (List.mem_singleton.mpr rfl)) hw
        · obtain ⟨o, e, _⟩ := il.out
          rw [List.mem_singleton.mp hb]; exact ⟨o, e⟩
/-- two names take a pair, in a frame -/
theorem frm_assign2 {W : Wd} {H₀ : Heap} {sb : Shared} {cb : Cx} {env : Env} {oc : List Addr} {V : Vars} {s : Shared} {c : Cx} {x y : Str} {px py pos : Pos} {x1 : Nat} {P₁ P₂ : VP} {A : Around} {E : Value → Shared → Prop} {v : Value} {Q : Unit → Shared → Prop} (hh : A.handled = none)
    (f : Frm H₀ sb cb env oc V s c) (ok : (TupV [P₁, P₂]).ok c v) (hx : env.kindOf x = some .local ∨ env.kindOf x = some .cell) (hy : env.kindOf y = some .local ∨ env.kindOf y = some .cell)
    (k : ∀ s' c', Frm H₀ sb cb env oc ((V.set x P₁).set y P₂) s' c' → Q () s') : wpAny W.M A (assign (.Tuple [.Name x px, .Name y py] x1 pos) env v) Q E s := by
  obtain ⟨a, vs, rfl, it, al⟩ := ok
  cases al with
  | cons z₁ al =>
    cases al with
    | cons z₂ al =>
      cases al
      refine wpAny_assign_Tuple hh (it.tup f.ins) rfl rfl fun h' hx' => ?_
      have f' := f.step (Kp.heap f.ins (HX.ex (hx_extBut hx')))
      refine wpAny_assignInOrder_more (frm_assign f' z₁ hx fun s₁ f₁ => wpAny_assignInOrder_more (frm_assign f₁ z₂ hy fun s₂ f₂ => wpAny_assignInOrder_none (k s₂ c f₂)))
end Mine

/-! ### D9 -/
open PySem PySem.W PyProof.Rows PySem.SeqAt
set_option Elab.async false
set_option maxRecDepth 100000
namespace Mine

/-! ## A raise that the caller's own try takes -/
def isDictB (o : Option Obj) : Bool := match o with
  | some ⟨_, _, .dict _ _, _⟩ => true
  | _ => false
/-- the heap without its namespaces -/
def hideD (h : Heap) : Heap := hideAll h ((List.range h.objs.size).filter fun b => isDictB (h.get? b) && decide (topN < b))
theorem hideD_of {h : Heap} {b : Addr} {o : Obj} (e : (hideD h).get? b = some o) : h.get? b = some o ∧ (NoD o ∨ b ≤ topN) := by
  have e' := of_hideAll _ e
  refine ⟨e', ?_⟩
  by_cases hb : b ≤ topN
  · exact .inr hb
  refine .inl fun es ep hd => ?_
  have hm : b ∈ (List.range h.objs.size).filter fun b => isDictB (h.get? b) && decide (topN < b) := by
    refine List.mem_filter.mpr ⟨List.mem_range.mpr (Heap.lt_size e'), ?_⟩
    rw [Bool.and_eq_true]
    refine ⟨?_, decide_eq_true (Nat.lt_of_not_le hb)⟩
    rw [e']
    obtain ⟨c, d, dt, sl⟩ := o
    have hd' : dt = .dict es ep := hd
    subst hd'
    rfl
  have := hideAll_none _ (h := h) hm
  rw [show (hideD h).get? b = (hideAll h ((List.range h.objs.size).filter fun b => isDictB (h.get? b) && decide (topN < b))).get? b from rfl] at e
  rw [this] at e; cases e
theorem hideD_get {h : Heap} {b : Addr} {o : Obj} (e : h.get? b = some o) (nd : NoD o ∨ b ≤ topN) : (hideD h).get? b = some o := by
  refine hideAll_get _ e fun hm => ?_
  have hb := (List.mem_filter.mp hm).2
  rw [Bool.and_eq_true, e] at hb
  obtain ⟨hb, hb2⟩ := hb
  have nd : NoD o := nd.resolve_right (Nat.not_le.mpr (of_decide_eq_true hb2))
  obtain ⟨c, d, dt, sl⟩ := o
  cases dt <;> first | exact nd _ _ rfl | cases hb
theorem hideD_none {h : Heap} {b : Addr} (e : h.get? b = none) : (hideD h).get? b = none := by
  cases q : (hideD h).get? b with
  | none => rfl
  | some o => rw [(hideD_of q).1] at e; cases e
theorem hideD_ns {h : Heap} {L : Addr} {m : Str → Option Value} (x : h.Ns L m) (hL : topN < L) : (hideD h).get? L = none := by
  obtain ⟨o, es, ep, e, d, _⟩ := x
  cases q : (hideD h).get? L with
  | none => rfl
  | some o' => 
    obtain ⟨e', nd⟩ := hideD_of q
    rw [e] at e'; cases e'
    rcases nd with nd | nd
    · exact absurd d (nd es ep)
    · exact absurd nd (Nat.not_le.mpr hL)
theorem stays_of {h h' : Heap} (k : HX h h') : (hideD h).StaysIn h' := fun b o e => by
  obtain ⟨e', nd⟩ := hideD_of e
  rcases nd with nd | nd
  · exact (k b o e').exact nd
  · exact (k b o e').top nd
theorem funFrames_of {h h' : Heap} (k : HX h h') : ∀ {l : List Env}, (∀ env ∈ l, LiveE h env) → h'.FunFrames (hideD h) l
  | [], _ => trivial
  | env :: l, x => by
    obtain ⟨hk, L, m, hf, hn, hL⟩ := x env List.mem_cons_self
    obtain ⟨o, es, ep, e, d, r⟩ := ns_hx hn k
    exact ⟨hk, ⟨L, o, hf, hideD_ns hn hL, e, fun vs q => by rw [d] at q; cases q⟩, funFrames_of k fun env' hm => x env' (List.mem_cons_of_mem _ hm)⟩
/-- behind a frame that was left, or noted -/
theorem hx_left {h h₁ h₂ : Heap} {l : List Env} {e : Addr} {cls : Value} (k : HX h h₁) (x : Heap.Left (hideD h) l e cls h₁ h₂) : HX h h₂ := by
  intro b o eb
  by_cases nd : NoD o ∨ b ≤ topN
  · exact .of (x.1 b o (hideD_get eb nd))
  · obtain ⟨o₁, e₁, sm⟩ := k b o eb
    have hd : ∃ es ep, o.data = .dict es ep := by
      refine Classical.byContradiction fun hn => nd (.inl fun es ep hd => hn ⟨es, ep, hd⟩)
    obtain ⟨es, ep, hd⟩ := hd
    obtain ⟨sl, e₂⟩ := x.2.2.2 b o₁ e₁ (fun vs q => by rw [sm.data, hd] at q; cases q)
    exact ⟨_, e₂, sm.cls, sm.data, fun h => absurd h nd⟩
/-- an exception of this class flies, raised since h -/
structure Fly (h : Heap) (e : Addr) (cls : String) (h' : Heap) : Prop where
  new : (hideD h).get? e = none
  tr : h'.Traced (hideD h) e (.type cls)
def Raises (W : Wd) (n : Nat) (H : Heap) (f : Value) (Ps : List VP) (cls : String) : Prop :=
  ∀ (A : Around) (E Q : Value → Shared → Prop) (s : Shared) (c : Cx) (vs : List Value), Room n A s.heap → HX H s.heap → InS c s → AllOk c Ps vs → (∀ e s', Kp s c s' c → Fly s.heap e cls s'.heap → E (.ref e) s') → wpAny W.M A (call f vs) Q E s
theorem note_next {M : Model} {A : Around} {E : Value → Shared → Prop} {s : Shared} {base : Heap} {env : Env} {outer : List Env} {L e : Addr} {cls : Value} {Q : Unit → Shared → Prop}
    (hfr : A.frames = some (env :: outer)) (hl : s.heap.FunFrames base (env :: outer)) (hf : env.frame = some L) (ht : s.heap.Traced base e cls) (hkb : base.StaysIn s.heap) (hen : base.get? e = none)
    (h : ∀ h', Heap.Left base (env :: outer) e cls s.heap h' → Q () { s with heap := h' }) : wpAny M A (noteFrame (.ref e) env) (fun _ s' => wpAny M A (setFlight (.ref e) none) Q E s') E s := by
  obtain ⟨oe, vs, T, oT, ts, he, hcls, hd, h1, hnT, hTe, hT, hdT, h3⟩ := ht
  subst hcls
  unfold noteFrame
  simp only [hf]
  refine wpAny_bind (wpAny_field he hd h1 ?_)
  rw [if_pos (show (Value.ref T != Value.none) = true from by simp)]
  refine wpAny_bind (wpAny_field hT hdT h3 ?_)
  rw [if_neg (show ¬ ((Value.none == rawInt L) = true) from by simp [rawInt])]
  refine wpAny_bind (wpAny_setField hT hdT (Array.getElem?_eq_some_iff.mp h3).1 ?_)
  have other : ∀ b, b ≠ T → (s.heap.update T (Obj.mapFields (·.setIfInBounds 3 Value.none))).get? b = s.heap.get? b := fun b hb => Heap.get?_update_other _ _ (Ne.symm hb)
  have apart : ∀ b o, s.heap.get? b = some o → (∀ vs, o.data ≠ .fields vs) → b ≠ T := fun b o hb hnf q => by
    rw [q, hT] at hb; cases hb; exact hnf ts hdT
  refine wpAny_newEntry hfr (hl.of_keeps fun b o hb hnf => ⟨o, (other b (apart b o hb hnf)).trans hb, rfl⟩) hf ((other e (Ne.symm hTe)).trans he)
    (fun b o hbo => (other b fun q => by rw [q, hnT] at hbo; cases hbo).trans (hkb b o hbo)) hen hd (Array.getElem?_eq_some_iff.mp h1).1 fun h' x => h h' ⟨x.1, x.2.1, x.2.2.1, fun b o hb hnf => x.2.2.2 b o ((other b (apart b o hb hnf)).trans hb) hnf⟩
end Mine

/-! ### E1 -/
open PySem PySem.W PyProof.Rows PySem.SeqAt
set_option Elab.async false
set_option maxRecDepth 100000
namespace Mine
theorem ve_exc : isSubtype (.type "ValueError") (.type "BaseException") = pure true := by rw [isSubtype_type]; kernel_rfl
theorem ve_self : isSubtype (.type "ValueError") (.type "ValueError") = pure true := by rw [isSubtype_type]; kernel_rfl
theorem ve_nt : isSubtype (.type ((Manifest.find? "ValueError").elim "type" fun x => x.metatype)) (.type "tuple") = pure false := by
  rw [isSubtype_type]; kernel_rfl
def FnR (W : Wd) (n : Nat) (env : Env) (H : Heap) (x : Str) (Ps : List VP) (cls : String) : Prop :=
  ∀ (A : Around) (E : Value → Shared → Prop) (s : Shared), HX H s.heap → wpAny W.M A (loadName env x) (fun f s' => s' = s ∧ Callee s.heap f ∧ Raises W n s.heap f Ps cls) E s
theorem Raises.mono {W : Wd} {n : Nat} {H H' : Heap} {f : Value} {Ps : List VP} {cls : String} (x : Raises W n H f Ps cls) (k : HX H H') : Raises W n H' f Ps cls := fun A E Q s c vs r y ins z h => x A E Q s c vs r (k.trans y) ins z h
theorem FnR.glob {W : Wd} {n : Nat} {env : Env} {H₀ H : Heap} {mg mb : Str → Option Value} {x : Str} {a : Addr} {Ps : List VP} {cls : String} (G : Gl H₀ mg mb) (hx : HX H₀ H) (he : EnvG env x) (hm : mg x = some (.ref a)) (hc : Callee H₀ (.ref a)) (cl : Raises W n H₀ (.ref a) Ps cls) : FnR W n env H x Ps cls := by
  intro A E s hs
  rw [loadName_read he.fn he.kind]
  refine Calls.loadGlobal_global (env := env) (mg := mg) ?_ hm ⟨rfl, hc.mono (hx.trans hs), cl.mono (hx.trans hs)⟩
  rw [he.g]; exact ns_hx G.g (hx.trans hs)
section
variable {W : Wd} {n : Nat} {A : Around} {E : Value → Shared → Prop} {Q : Flow → Shared → Prop} {H₀ : Heap} {sb : Shared} {cb : Cx} {env : Env} {oc : List Addr} {V : Vars} {s : Shared} {c : Cx} {x fn : Str} {pos px np cp ap hp tp : Pos} {rest body suite : List Stmt} {b₀ : Stmt} {hs : List ExceptHandler} {h₀ : ExceptHandler} {es : List Expr} {e₁ : Expr} {Ps : List VP}
theorem st_try_ok (h : wpAny W.M A (execs body env) (Goes W A rest env Q E) (fun e s₁ => wpAny W.M A (noteFrame e env) (fun _ s₂ => wpAny W.M A (setFlight e none) (fun _ s₃ => wpAny W.M A (handleBy e env (h₀ :: hs)) (Goes W A rest env Q E) E s₃) E s₂) E s₁) s) :
    wpAny W.M A (execs (.Try body (h₀ :: hs) [] [] pos :: rest) env) Q E s := by
  refine wpAny_execs_cons (wpAny_Try_except (wpAny_mono h (fun fl s' h' => ?_) fun _ _ x => x))
  cases fl with
  | next => exact wpAny_execs_nil h'
  | cont => exact h'
  | brk => exact h'
  | ret v => exact h'
theorem st_try_raise (f : Frm H₀ sb cb env oc V s c) (r : RoomB n A H₀ env) (fr : FnR W n env s.heap fn Ps "ValueError") (p : PEs W n env s.heap c (e₁ :: es) Ps) (bl : Bl W env s.heap "ValueError" (.type "ValueError"))
    (hsw : swapsWith (.Call (.Name fn np) (e₁ :: es) [] cp) (some (.Name x px)) ap.line env = pure false)
    (k : ∀ e s' c', Frm H₀ sb cb env oc V s' c' → ∀ Ex, wpAny W.M (A.mark (some (.ref e))) (execs (b₀ :: suite) env) (Goes W A rest env Q E) Ex s')
    (hd : (fn == ("__debug__" : Str)) = false := by decide) :
    wpAny W.M A (execs (.Try [.Assign [.Name x px] (.Call (.Name fn np) (e₁ :: es) [] cp) ap] (.ExceptHandler (some (.Name "ValueError" tp)) none (b₀ :: suite) hp :: hs) [] [] pos :: rest) env) Q E s := by
  refine wpAny_execs_cons (wpAny_Try_except (wpAny_execs_cons (wpAny_Assign_Name (wpAny_Call_NameR (wpAny_Name (wpAny_mono (fr A _ s (HX.refl _)) (fun v s₁ hq => ?_) fun _ _ x => x) hd)) hsw)))
  obtain ⟨rfl, hc, rs⟩ := hq
  refine callWith_callee hc p.plain (wpAny_mono (p.run _ s₁ c (f.room r) (HX.refl _) (Le.refl _) f.ins) (fun vs s₂ ⟨c₂, k₂, z⟩ => ⟨hc.mono k₂.keep, ?_⟩) fun _ _ x => x)
  have f₂ := f.step k₂
  refine rs A _ _ s₂ c₂ vs (f₂.room r) k₂.keep k₂.ins z fun e s₃ k₃ fl => ?_
  obtain ⟨outer, hfr, hlive⟩ := r.fr
  obtain ⟨l, hfr', hlive'⟩ := (f₂.room r).fr
  rw [hfr] at hfr'
  cases hfr'
  refine note_next (base := hideD s₂.heap) hfr (funFrames_of k₃.keep hlive') f.eo.frm fl.tr (stays_of k₃.keep) fl.new fun h' left => ?_
  have hx' : HX s₂.heap h' := hx_left k₃.keep left
  obtain ⟨oe, vs', T, oT, ts, he, hcls, hde, h1, hnT, hTe, hT, hdT, h3⟩ := left.2.2.1
  have hTn : s₂.heap.get? T = none := by
    cases q : s₂.heap.get? T with
    | none => rfl
    | some o =>
      obtain ⟨o', e', sm⟩ := hx' T o q
      rw [hT] at e'; cases e'
      have nd : NoD o := fun es ep hd' => by rw [sm.data, hd'] at hdT; cases hdT
      rw [hideD_get q (.inl nd)] at hnT; cases hnT
  refine wpAny_handleBy_builtin (T := "ValueError") (X := "ValueError") (b := true) ve_exc ve_nt ve_self (wpAny_Name (wpAny_mono (bl _ _ _ (k₂.keep.trans hx')) (fun v s₄ hq => ?_) fun _ _ x => x))
  obtain ⟨rfl, rfl⟩ := hq
  refine ⟨rfl, ⟨oe, he, hcls⟩, ?_⟩
  simp only [if_true]
  have hsz : 3 < ts.size := (Array.getElem?_eq_some_iff.mp h3).1
  refine wpAny_setFlight_none he hde h1 hT hdT hsz (k e _ c₂ (f₂.step ?_) _)
  have hx₅ : HX s₂.heap (h'.update T (Obj.mapFields (·.setIfInBounds 3 .none))) := fun b o eb => (hx' b o eb).on fun o' e' => .of (by
    have hbT : b ≠ T := fun q => by rw [q, hTn] at eb; cases eb
    rw [Heap.get?_update_other _ _ (Ne.symm hbT)]; exact e')
  refine ⟨?_, hx₅, Le.refl _, ⟨fun b x e => (hx₅ b x (k₂.ins.o b x e)).exact (k₂.ins.nf b x e), k₂.ins.nf, k₃.ins.pos, k₃.ins.lt⟩, fun _ _ e => .inl e⟩
  obtain ⟨h1, t1, e1⟩ := k₃.same
  subst e1
  exact ⟨_, _, rfl⟩
end
end Mine

/-! ### E2 -/
open PySem PySem.W PyProof.Rows PySem.SeqAt
set_option Elab.async false
set_option maxRecDepth 100000
namespace Mine
theorem join_S : ∀ (xs : List (List Nat)), Txt.join (Str.ofString "") (xs.map S) = S xs.flatten := by
  have key : ∀ (ys : List (List Nat)) (acc : Array Nat), ((ys.map S).foldl (fun acc p => acc ++ (Str.ofString "").cps ++ p.cps) acc).toList = acc.toList ++ ys.flatten := by
    intro ys
    induction ys with
    | nil => intro acc; simp
    | cons y ys ih =>
      intro acc
      rw [List.map_cons, List.foldl_cons, ih]
      have h0 : (Str.ofString "").cps = #[] := by decide
      simp [h0, S]
  intro xs
  apply Str.ext'
  apply Array.toList_inj.mp
  cases xs with
  | nil => rfl
  | cons x xs =>
    show ((xs.map S).foldl (fun acc p => acc ++ (Str.ofString "").cps ++ p.cps) (S x).cps).toList = _
    rw [key]
    simp [S]
section
variable {W : Wd} {n : Nat} {env : Env} {H : Heap} {c : Cx} {e : Expr} {pos apos p₀ : Pos} {k₀ : Nat} {A : Around} {E Q : Value → Shared → Prop} {s : Shared}
theorem strsAre_of {c : Cx} : ∀ {xs : List (List Nat)} {vs : List Value}, AllOk c (xs.map fun l => StrV (S l)) vs → StrsAre vs (xs.map S)
  | [], _, .nil => .nil
  | x :: xs, _, .cons (b := v) p r => by
    obtain ⟨t, rfl⟩ := p
    exact .cons (S x) t (strsAre_of r)
theorem join_eval {xs : List (List Nat)} {c₀ : Cx} (ins : InS c₀ s) (hsz : xs.flatten.length ≤ 100000) (harg : ∀ s₀, s₀.heap = s.heap → s₀ = { s with toks := s₀.toks } → s.toks ≤ s₀.toks → wpAny W.M A (eval e env) (fun v s₁ => ∃ c', Kp s₀ c₀ s₁ c' ∧ (ListV (xs.map fun l => StrV (S l))).ok c' v) E s₀)
    (k : ∀ v s' c', Kp s c₀ s' c' → (StrV (S xs.flatten)).ok c' v → Q v s') (hp : plainE e = true) (hline : (apos.endLine == pos.line) = true) :
    wpAny W.M A (eval (.Call (.Attribute (.Constant (.str "") k₀ p₀) "join" apos) [e] [] pos) env) Q E s := by
  refine wpAny_Call_method (T := "str") (id := "str.join") rfl ?_ hline F.plainAttrs_str F.slot_str_join F.type_str_join ?_
  · rw [starEach_plain hp]; rfl
  refine wpAny_Constant_str ⟨rfl, (fun _ h => nomatch h), ?_⟩
  rw [starEach_plain hp]
  refine Calls.callWith_builtin rfl (Calls.evalArgs_plain (Calls.spliced_cons (wpAny_mono (harg _ rfl rfl (Nat.le_succ _)) (fun v s₁ ⟨c', kk, z⟩ => Calls.spliced_nil ?_) fun _ _ x => x)))
  obtain ⟨a, vs, rfl, il, ok⟩ := z
  have hok := strsAre_of ok
  refine wpAny_with_toks (Nat.le_refl _) (join_list (ys := xs.map S) (il.list kk.ins) (by simpa using hok) ?_ fun t' tk hl => ?_)
  · have e0 : (Str.ofString "").length = 0 := by decide
    rw [e0, Nat.mul_zero, Nat.add_zero, List.map_map]
    have e1 : (List.map ((fun x => x.length) ∘ S) xs).sum = xs.flatten.length := by
      rw [List.length_flatten]
      exact congrArg List.sum (List.map_congr_left fun l _ => S_length l)
    rw [e1]; omega
  · rw [join_S]
    have k0 := Kp.toks (t := s.toks + 1) ins (Nat.le_succ _)
    exact k _ _ c' (k0.trans (kk.trans (Kp.toks kk.ins hl))) ⟨t', rfl⟩
theorem PE.join {xs : List (List Nat)} (p : PE W n env H c e (ListV (xs.map fun l => StrV (S l)))) (hsz : xs.flatten.length ≤ 100000) (hp : plainE e = true := by rfl) (hline : (apos.endLine == pos.line) = true := by rfl) :
    PE W n env H c (.Call (.Attribute (.Constant (.str "") k₀ p₀) "join" apos) [e] [] pos) (StrV (S xs.flatten)) := by
  intro A E s c₁ r hx le ins
  refine join_eval ins hsz (fun s₀ hh hs ht => ?_) (fun v s' c' kk z => ⟨c', kk, z⟩) hp hline
  have k0 : Kp s c₁ s₀ c₁ := by rw [hs]; exact Kp.toks ins ht
  exact p A E s₀ c₁ (r.on k0.keep) (hx.trans k0.keep) le k0.ins
end
end Mine

/-! ### E3 -/
open PySem PySem.W PyProof.Rows PySem.SeqAt
set_option Elab.async false
set_option maxRecDepth 100000
namespace Mine
theorem cl_sum {W : Wd} {n : Nat} {H : Heap} {l : List Int} : Cl W n H (.builtin "sum") [IntsV l] (IntW l.sum) := by
  intro A E s c vs r _ ins ok
  cases ok with
  | cons z ok =>
    cases ok
    obtain ⟨a, vs, rfl, il, ok⟩ := z
    have hl := il.list ins
    have hlt : a < s.heap.objs.size := by obtain ⟨_, e, _⟩ := hl; exact Heap.lt_size e
    have hlen : vs.length = l.length := by rw [← ok.len, List.length_map]
    refine post_of (call_sum_walkG (wpAny_pyIter_list hl ⟨s.heap.objs.size, _, _, _, _, _, fun j => l.getD j 0, rfl, Walks.list (A := A.in1) r.handled s.heap.objs.size a (Nat.ne_of_lt hlt) vs.toArray, ⟨⟨_, Heap.get?_push_size _ rfl, rfl, rfl⟩, hl.push _⟩, ?_, ?_, ?_⟩))
    · intro b hb
      show b < (s.heap.push _).objs.size
      rw [Heap.size_push]
      rcases List.mem_cons.mp hb with rfl | hb
      · exact Nat.lt_succ_self _
      · rw [List.mem_singleton.mp hb]; exact Nat.lt_succ_of_lt hlt
    · intro i v hv
      have hi : i < l.length := by
        have := (Array.getElem?_eq_some_iff.mp hv).1
        simpa [hlen] using this
      obtain ⟨v', ev, t, e, _⟩ := ok.get (i := i) (P := IntV (l.getD i 0)) (by rw [List.getElem?_map, List.getElem?_eq_getElem hi, List.getD_eq_getElem?_getD, List.getElem?_eq_getElem hi]; rfl)
      have : v = v' := by
        have hv' : vs[i]? = some v := by simpa using hv
        rw [ev] at hv'; injection hv' with hv'; exact hv'.symm
      subst this
      exact ⟨t, e⟩
    · intro h' tk t' hk hl'
      refine ⟨c, ⟨⟨h', tk, rfl⟩, fun b o e => .of (hk b o (fun q => ?_) (Heap.get?_push_of_some _ e)), Le.refl _, ⟨fun b x e => hk b x (fun q => ?_) (Heap.get?_push_of_some _ (ins.o b x e)), ins.nf, Nat.lt_of_lt_of_le ins.pos hl', fun t v e => Nat.lt_of_lt_of_le (ins.lt t v e) hl'⟩, fun _ _ e => .inl e⟩, t', ?_⟩
      · rw [List.mem_singleton.mp q, get_size] at e; cases e
      · have := ins.o b x e
        rw [List.mem_singleton.mp q, get_size] at this; cases this
      · have : preSum (fun j => l.getD j 0) vs.toArray.size = l.sum := by
          rw [List.size_toArray, hlen, preSum_getD, List.take_length]
        rw [this]
end Mine

/-! ### E4 -/
open PySem PySem.W PyProof.Rows PySem.SeqAt
set_option Elab.async false
set_option maxRecDepth 100000
namespace Mine
def zipV (l₁ l₂ : List VP) : List VP := (List.range (min l₁.length l₂.length)).map fun (i : Nat) => TupV [l₁.getD i AnyV, l₂.getD i AnyV]
theorem getD_ok {c : Cx} {l : List VP} {vs : List Value} (ok : AllOk c l vs) {i : Nat} (h : i < l.length) : ∃ v, vs[i]? = some v ∧ (l.getD i AnyV).ok c v :=
  ok.get (by rw [List.getElem?_eq_getElem h, List.getD_eq_getElem?_getD, List.getElem?_eq_getElem h]; rfl)
theorem Wk.zip {W : Wd} {elts : List Expr} {x1 : Nat} {pos : Pos} {A : Around} {c₀ : Cx} (hh : A.handled = none) {z TI TO i1 i2 a1 a2 : Addr} (D : ZipApart z TI TO i1 i2 a1 a2) {vs ws : List Value} {l₁ l₂ : List VP} (ok₁ : AllOk c₀ l₁ vs) (ok₂ : AllOk c₀ l₂ ws) :
    Wk W (.Tuple elts x1 pos) A c₀ z [z, TO, i1, i2, TI, a1, a2] [z, TO, i1, i2, TI] (zipV l₁ l₂)
      (fun i h => IsZip h z TI TO .none ∧ IsPair h TI (.ref i1) (.ref i2) ∧ (∃ a b, IsPair h TO a b) ∧ h.IsListIter i1 a1 i ∧ h.IsListIter i2 a2 i ∧ h.IsList a1 vs.toArray ∧ h.IsList a2 ws.toArray) where
  sub := fun b hb => by
    simp only [List.mem_cons, List.not_mem_nil, or_false] at hb ⊢
    rcases hb with h | h | h | h | h <;> simp [h]
  frame := fun i h h' st hk => by
    obtain ⟨h1, h2, ⟨a, b, h3⟩, h4, h5, h6, h7⟩ := st
    have g : ∀ x ∈ [z, TO, i1, i2, TI, a1, a2], ∀ o, h.get? x = some o → Gt h' x o := hk
    exact ⟨gt_exact h1 (g z (by simp)) (by intro _ _ q; cases q), gt_exact h2 (g TI (by simp)) (by intro _ _ q; cases q), ⟨a, b, gt_exact h3 (g TO (by simp)) (by intro _ _ q; cases q)⟩, liter_gt h4 (g i1 (by simp)), liter_gt h5 (g i2 (by simp)), list_gt h6 (g a1 (by simp)), list_gt h7 (g a2 (by simp))⟩
  live := fun i h st b hb => by
    obtain ⟨h1, h2, ⟨a, b', h3⟩, ⟨o4, h4, _⟩, ⟨o5, h5, _⟩, _⟩ := st
    simp only [List.mem_cons, List.not_mem_nil, or_false] at hb
    rcases hb with h | h | h | h | h <;> subst h
    · exact ⟨_, h1⟩
    · exact ⟨_, h3⟩
    · exact ⟨_, h4⟩
    · exact ⟨_, h5⟩
    · exact ⟨_, h2⟩
  item := fun i s c Q E P hP st le ins off hQ => by
    obtain ⟨h1, h2, ⟨a, b, h3⟩, h4, h5, h6, h7⟩ := st
    unfold zipV at hP
    rw [List.getElem?_map] at hP
    obtain ⟨j, hj, rfl⟩ := Option.map_eq_some_iff.mp hP
    have hlt : i < min l₁.length l₂.length := by
      have := (List.getElem?_eq_some_iff.mp hj).1
      simpa using this
    have hj' : i = j := by rw [List.getElem?_range hlt] at hj; injection hj
    subst hj'
    obtain ⟨v, ev, ov⟩ := getD_ok ok₁ (i := i) (by omega)
    obtain ⟨u, eu, ou⟩ := getD_ok ok₂ (i := i) (by omega)
    refine wpAny_pyNext_zip_item D h1 h2 h3 h4 h5 h6 h7 (x := v) (y := u) (by simpa using ev) (by simpa using eu) fun h' z1 z2 z3 z4 z5 hsz hk => ?_
    refine wpAny_letOwnedTupleGo_zip z1 fun h'' z1' hs => ?_
    have hlz := Heap.lt_size h1
    have hTz : s.heap.objs.size ≠ z := Nat.ne_of_gt hlz
    have lt2 : TI < s.heap.objs.size := Heap.lt_size h2
    have lt3 : TO < s.heap.objs.size := Heap.lt_size h3
    have lt4 : i1 < s.heap.objs.size := by obtain ⟨_, e, _⟩ := h4; exact Heap.lt_size e
    have lt5 : i2 < s.heap.objs.size := by obtain ⟨_, e, _⟩ := h5; exact Heap.lt_size e
    have hT' : h''.get? s.heap.objs.size = some { cls := .type "tuple", data := .seq #[v, u] } := hs.extBut _ _ hTz z5
    have hTown : s.heap.objs.size ∉ [z, TO, i1, i2, TI] := by
      intro hm
      simp only [List.mem_cons, List.not_mem_nil, or_false] at hm
      rcases hm with h | h | h | h | h
      · exact hTz h
      · exact Nat.ne_of_gt lt3 h
      · exact Nat.ne_of_gt lt4 h
      · exact Nat.ne_of_gt lt5 h
      · exact Nat.ne_of_gt lt2 h
    have hal : AllOk c [l₁.getD i AnyV, l₂.getD i AnyV] [v, u] := .cons (VP.mono _ le ov) (.cons (VP.mono _ le ou) .nil)
    have hk' : ∀ b x, b ≠ z → b ≠ TO → b ≠ i1 → b ≠ i2 → s.heap.get? b = some x → h''.get? b = some x := fun b x q1 q2 q3 q4 e => hs.extBut b x q1 (hk b x q1 q2 q3 q4 e)
    have y2 : IsPair h'' TI (.ref i1) (.ref i2) := hk' TI _ D.TIz D.TITO D.TIi1 D.TIi2 h2
    have y3 : IsPair h'' TO v u := hs.extBut _ _ D.TOz z2
    have y4 : h''.IsListIter i1 a1 (i + 1) := z3.extBut hs.extBut D.i1z
    have y5 : h''.IsListIter i2 a2 (i + 1) := z4.extBut hs.extBut D.i2z
    refine hQ (.ref s.heap.objs.size) _ _ (Mv.make (tk := s.toks) ins off (.toks ins (Nat.le_refl _)) (fun _ => rfl) (get_size _) hTown hT' (by intro _ _ h; cases h) (fun b x hb e' => hk' b x (fun q => hb (by rw [q]; simp)) (fun q => hb (by rw [q]; simp)) (fun q => hb (by rw [q]; simp)) (fun q => hb (by rw [q]; simp)) e') (fun b hb => ?_)) ⟨z1', y2, ⟨v, u, y3⟩, y4, y5, ?_, ?_⟩ (TupV.new (ins.none (get_size s.heap)) hal)
    · simp only [List.mem_cons, List.not_mem_nil, or_false] at hb
      rcases hb with h | h | h | h | h <;> subst h
      · exact ⟨_, z1'⟩
      · exact ⟨_, y3⟩
      · obtain ⟨o, e, _⟩ := y4; exact ⟨o, e⟩
      · obtain ⟨o, e, _⟩ := y5; exact ⟨o, e⟩
      · exact ⟨_, y2⟩
    · obtain ⟨o, e, r⟩ := h6
      exact ⟨o, hk' _ _ D.l1z D.l1TO D.l1i1 D.l1i2 e, r⟩
    · obtain ⟨o, e, r⟩ := h7
      exact ⟨o, hk' _ _ D.l2z D.l2TO D.l2i1 D.l2i2 e, r⟩
  done := fun s Q E st hQ => by
    obtain ⟨h1, h2, ⟨a, b, h3⟩, h4, h5, h6, h7⟩ := st
    have hlen : (zipV l₁ l₂).length = min l₁.length l₂.length := by simp [zipV]
    rw [hlen] at h4 h5
    refine wpAny_pyNext_zip_end hh D h1 h2 h3 h4 h5 h6 h7 ?_ fun h' hk => hQ h' s.toks (fun b o hb e => .of (hk b o (fun q => hb (by rw [q]; simp)) (fun q => hb (by rw [q]; simp)) (fun q => hb (by rw [q]; simp)) (fun q => hb (by rw [q]; simp)) e)) (Nat.le_refl _)
    have e1 := ok₁.len
    have e2 := ok₂.len
    by_cases q : l₁.length ≤ l₂.length
    · left; simp; omega
    · right; simp; omega
  self := fun i s Q E st hQ => wpAny_pyIter_zip st.1 hQ
end Mine

/-! ### E5 -/
open PySem PySem.W PyProof.Rows PySem.SeqAt
set_option Elab.async false
set_option maxRecDepth 100000
namespace Mine
theorem IterE.zip {W : Wd} {n : Nat} {env : Env} {H : Heap} {c : Cx} {e₁ e₂ : Expr} {l₁ l₂ : List VP} {elts : List Expr} {x1 : Nat} {pos np cp : Pos} (b : Bl W env H "zip" (.type "zip")) (p₁ : PE W n env H c e₁ (ListV l₁)) (p₂ : PE W n env H c e₂ (ListV l₂)) (hp₁ : plainE e₁ = true := by rfl) (hp₂ : plainE e₂ = true := by rfl) :
    IterE W n (.Tuple elts x1 pos) env H c (.Call (.Name "zip" np) [e₁, e₂] [] cp) (zipV l₁ l₂) := by
  intro A E s c₁ r hx le ins
  refine call_bl b (.inr ⟨_, rfl⟩) (.two p₁ p₂ hp₁ hp₂) r hx le ins fun vs s₁ c₂ k z => ?_
  cases z with
  | cons z₁ z' =>
    cases z' with
    | cons z₂ z' =>
      cases z'
      obtain ⟨a1, vs, rfl, il₁, ok₁⟩ := z₁
      obtain ⟨a2, ws, rfl, il₂, ok₂⟩ := z₂
      generalize hN : s₁.heap.objs.size = N
      have lt1 : a1 < N := by obtain ⟨o, e, _⟩ := il₁.list k.ins; rw [← hN]; exact Heap.lt_size e
      have lt2 : a2 < N := by obtain ⟨o, e, _⟩ := il₂.list k.ins; rw [← hN]; exact Heap.lt_size e
      refine call_zip_2 (il₁.list k.ins) (il₂.list k.ins) fun h' h1 h2 h3 h4 h5 hsz hk => ?_
      rw [hN] at h1 h2 h3 h4 h5 hsz
      rw [hN]
      have k₂ : Kp s₁ c₂ { s₁ with heap := h' } c₂ := Kp.heap k.ins (HX.ex hk)
      have ne : ∀ {i j : Nat}, i ≠ j → (N + i : Addr) ≠ (N + j : Addr) := fun h q => h (Nat.add_left_cancel q)
      have ne0 : ∀ {j : Nat}, 0 ≠ j → (N : Addr) ≠ (N + j : Addr) := fun h q => h (Nat.add_left_cancel (n := N) q)
      have lne : ∀ {a : Nat} {j : Nat}, a < N → (a : Addr) ≠ (N + j : Addr) := fun h q => by
        have q' : _ = N + _ := q
        omega
      have lne0 : ∀ {a : Nat}, a < N → (a : Addr) ≠ (N : Addr) := fun h q => by
        have q' : _ = N := q
        omega
      refine wpAny_pyIter_zip h1 ⟨_, _, _, _, c₂, rfl, k.trans k₂, Wk.zip (TI := N + 2) (TO := N + 3) (i1 := N) (i2 := N + 1) r.handled
        ⟨ne (by omega), ne (by omega), ne0 (by omega), ne (by omega), ne (by omega), Ne.symm (ne0 (by omega)), ne (by omega), Ne.symm (ne0 (by omega)), ne (by omega), ne0 (by omega), lne lt1, lne lt1, lne0 lt1, lne lt1, lne lt2, lne lt2, lne0 lt2, lne lt2⟩ ok₁ ok₂,
        ⟨h1, h2, ⟨_, _, h3⟩, h4, h5, list_gt (il₁.list k.ins) fun o e => .of (hk _ _ e), list_gt (il₂.list k.ins) fun o e => .of (hk _ _ e)⟩, ?_, ?_, ?_⟩
      · intro b hb
        show b < h'.objs.size
        rw [hsz]
        have g : ∀ {x : Nat}, x < N + 5 → (x : Addr) < (N + 5 : Nat) := fun h => h
        simp only [List.mem_cons, List.not_mem_nil, or_false] at hb
        rcases hb with h | h | h | h | h | h | h <;> subst h
        · exact g (by omega)
        · exact g (by omega)
        · exact g (by omega)
        · exact g (by omega)
        · exact g (by omega)
        · exact Nat.lt_of_lt_of_le lt1 (Nat.le_add_right _ _)
        · exact Nat.lt_of_lt_of_le lt2 (Nat.le_add_right _ _)
      · intro b hb
        have hb' : s₁.heap.get? b = none := by
          refine Heap.get?_none_of_le ?_
          rw [hN]
          simp only [List.mem_cons, List.not_mem_nil, or_false] at hb
          rcases hb with h | h | h | h | h <;> subst h
          · exact Nat.le_add_right _ _
          · exact Nat.le_add_right _ _
          · exact Nat.le_refl _
          · exact Nat.le_add_right _ _
          · exact Nat.le_add_right _ _
        exact ⟨none_of_keep k.keep hb', k.ins.none hb'⟩
      · intro b hb hw
        simp only [List.mem_cons, List.not_mem_nil, or_false] at hb hw
        rcases hb with h | h | h | h | h | h | h
        · exact absurd (.inl h) hw
        · exact absurd (.inr (.inl h)) hw
        · exact absurd (.inr (.inr (.inl h))) hw
        · exact absurd (.inr (.inr (.inr (.inl h)))) hw
        · exact absurd (.inr (.inr (.inr (.inr h)))) hw
        · obtain ⟨o, e, _⟩ := il₁.out
          rw [h]; exact ⟨o, e⟩
        · obtain ⟨o, e, _⟩ := il₂.out
          rw [h]; exact ⟨o, e⟩
/-- two names of a comprehension take a pair -/
theorem asg2_local {W : Wd} {scope : Scope} {cl : List (Str × Addr)} {env : Env} {x y : Str} {px py pos : Pos} {x1 : Nat} {P₁ P₂ : VP} (hk : scope.kind = .function) (hx : scope.names.lookup x = some .local) (hy : scope.names.lookup y = some .local) (hxy : x ≠ y) (C : Addr)
    (hn₁ : (x == ("__classdict__" : Str)) = false := by decide) (hn₂ : (y == ("__classdict__" : Str)) = false := by decide) :
    Asg W (.Tuple [.Name x px, .Name y py] x1 pos) (cEnv scope cl env C) C [] (TupV [P₁, P₂]) (fun H c => Rd W (cEnv scope cl env C) H c x P₁ ∧ Rd W (cEnv scope cl env C) H c y P₂) := by
  intro A E s c v hh ins ok z
  obtain ⟨a, vs, rfl, it, al⟩ := z
  cases al with
  | cons z₁ al =>
    cases al with
    | cons z₂ al =>
      cases al
      refine wpAny_assign_Tuple hh (it.tup ins) rfl rfl fun h' hx' => ?_
      have hX := hx_extBut hx'
      obtain ⟨⟨m, hm⟩, _⟩ := ok
      have hm' : h'.Ns C m := hm.keeps hX
      have hl₁ : (cEnv scope cl env C).kindOf x = some .local := lookup_relabel_local hx
      have hl₂ : (cEnv scope cl env C).kindOf y = some .local := lookup_relabel_local hy
      have hp : ((cEnv scope cl env C).scope.kind == .class || ((cEnv scope cl env C).scope.kind == .module && (cEnv scope cl env C).locals != (cEnv scope cl env C).globals)) = false := by
        show (scope.kind == .class || (scope.kind == .module && _)) = false; rw [hk]; rfl
      refine wpAny_assignInOrder_more (wpAny_assign_Name (wpAny_storeName_local hl₁ hm' (fun h₁ hn₁' hs₁ => wpAny_assignInOrder_more (wpAny_assign_Name (wpAny_storeName_local hl₂ hn₁' (fun h₂ hn₂' hs₂ => wpAny_assignInOrder_none ?_) hp))) hp))
      refine ⟨h₂, s.toks + 1 + 1, rfl, by omega, fun b o hb e => .of ?_, ⟨⟨_, hn₂'⟩, fun _ h => nomatch h⟩, ?_, ?_⟩
      · have hbC : b ≠ C := fun q => hb (q ▸ List.mem_cons_self)
        exact hs₂.extBut b o hbC (hs₁.extBut b o hbC (hX b o e))
      · exact Rd.held hk (.inl ⟨hl₁, _, hn₂', by simp only [if_neg hxy, if_true]⟩) z₁ hn₁
      · exact Rd.held hk (.inl ⟨hl₂, _, hn₂', by simp only [if_true]⟩) z₂ hn₂

section
variable {α : Type} {W : Wd} {n : Nat} {A : Around} {E : Value → Shared → Prop} {Q : Flow → Shared → Prop} {H₀ : Heap} {sb : Shared} {cb : Cx} {V : Vars} {s : Shared} {c : Cx} {tgt iter elt : Expr} {ifs : List Expr} {scope : Scope} {pos spos py : Pos} {y : Str} {env : Env} {cl : List (Str × Addr)} {oc : Addr → List Addr} {xs : List α} {F G : α → VP} {p : α → Bool}
  {Bd : Addr → α → Heap → Cx → Prop} {fo : List Addr} {rest : List Stmt}
/-- a name takes a comprehension's list; the comprehension lets its own names go behind that -/
theorem st_comp (f : Frm H₀ sb cb env fo V s c) (r : RoomB n A H₀ env) (itE : IterE W n tgt env s.heap c iter (xs.map F))
    (hsw : swapsWith (.ListComp elt [⟨tgt, iter, ifs, 0⟩] scope pos) (some (.Name y py)) spos.line env = pure true)
    (hclos : closureFor scope env = pure cl) (hkind : scope.kind = .function) (hnames : ∀ y ∈ scope.names, y.2 = .local → scope.names.lookup y.1 = some .local) (cells : Cells scope oc)
    (hasg : ∀ a ∈ xs, ∀ C, Asg W tgt (cEnv scope cl env C) C (oc C) (F a) (Bd C a))
    (htest : ∀ a ∈ xs, ∀ C H' c', HX s.heap H' → Le c c' → Bd C a H' c' → PTs W n (cEnv scope cl env C) H' c' ifs (p a))
    (helt : ∀ a ∈ xs, p a = true → ∀ C H' c', HX s.heap H' → Le c c' → Bd C a H' c' → PE W n (cEnv scope cl env C) H' c' elt (G a))
    (hsz : xs.length ≤ 100000) (hy : env.kindOf y = some .local)
    (k : ∀ s' c', Frm H₀ sb cb env fo (V.set y (ListV ((xs.filter p).map G))) s' c' → wpAny W.M A (execs rest env) Q E s')
    (hs : ∀ x, foldedSetIterable iter env x = pure x := by intro _; rfl) :
    wpAny W.M A (execs (.Assign [.Name y py] (.ListComp elt [⟨tgt, iter, ifs, 0⟩] scope pos) spos :: rest) env) Q E s := by
  refine wpAny_execs_cons ?_
  rw [exec_Assign_Name_used _ _ _ _ hsw]
  refine wpAny_bind (wpAny_standAt (wpAny_bind ?_))
  show wpAny _ A (do let _ ← comprehension (.ListComp elt [⟨tgt, iter, ifs, 0⟩] scope pos) scope env _ (newList []) false (eval iter env) (some (assign (.Name y py) env))) _ _ s
  refine wpAny_bind (wpAny_mono (comp_any (use := some (assign (.Name y py) env)) (Q := fun _ s' => wpAny W.M A (execs rest env) Q E s') (f.room r) itE hclos hkind hnames cells hasg htest helt hsz (HX.refl _) (Le.refl _) f.ins (fun s' c' C D kk ok hC hC' hm => ?_) hs) (fun _ s' hq => wpAny_pure (wpAny_pure hq)) fun _ _ x => x)
  have f' := f.step kk
  obtain ⟨m, hm⟩ := hm
  have hCown : ∀ b ∈ env.locals :: fo, b ≠ C := fun b hb q => by
    obtain ⟨o, e⟩ := (f.mv.off b hb).2
    rw [q, hC] at e; cases e
  refine wpAny_assign_Name (f'.base.store ok (.inl hy) fun s₂ g₂ => ?_)
  have f₂ := f'.trans g₂
  have hm₂ : s₂.heap.Ns C m := ns_gt hm fun o e => g₂.mv.keep C o (fun h => hCown C h rfl) e
  have hsb : sb.heap.get? C = none := by
    cases q : sb.heap.get? C with
    | none => rfl
    | some o =>
      obtain ⟨o', e', _⟩ := f.mv.keep C o (fun h => hCown C h rfl) q
      rw [hC] at e'; cases e'
  refine ⟨m, hm₂, fun h' hs' => k _ c' ?_⟩
  refine f₂.outside0 (own := [C]) ⟨⟨h', s₂.toks, rfl⟩, fun b o hb e => .of (hs'.extBut b o (fun q => hb (q ▸ List.mem_singleton.mpr rfl)) e), Le.refl _, ⟨fun b x e => hs'.extBut b x (fun q => by rw [q, hC'] at e; cases e) (f₂.ins.o b x e), f₂.ins.nf, f₂.ins.pos, f₂.ins.lt⟩, fun _ _ e => .inl e⟩
    (fun b hb hm => hCown b hb (List.mem_singleton.mp hm)) (fun b hb => by rw [List.mem_singleton.mp hb]; exact hsb)
end
end Mine

/-! ### E6 -/
open PySem PySem.W PyProof.Rows PySem.SeqAt
set_option Elab.async false
set_option maxRecDepth 100000
namespace Mine
def Cx.del (c : Cx) (D : Addr) : Cx := ⟨fun b => if b = D then none else c.o b, c.m⟩
theorem InS.frozen {c : Cx} {s : Shared} {D : Addr} {ys : List Value} (x : InS c s) (h : s.heap.get? D = some (lst ys)) : InS (c.put D (lst ys)) s where
  o := fun b z e => by
    have e' : (if b = D then some (lst ys) else c.o b) = some z := e
    by_cases q : b = D
    · rw [if_pos q] at e'; cases e'; rw [q]; exact h
    · rw [if_neg q] at e'; exact x.o b z e'
  nf := fun b z e => by
    have e' : (if b = D then some (lst ys) else c.o b) = some z := e
    by_cases q : b = D
    · rw [if_pos q] at e'; cases e'; exact lst_nf
    · rw [if_neg q] at e'; exact x.nf b z e'
  pos := x.pos
  lt := x.lt
/-- a step made while the list was held fast -/
theorem Kp.thaw {s s' : Shared} {c c' : Cx} {D : Addr} {o : Obj} (hc : c.o D = none) (k : Kp s (c.put D o) s' c') : Kp s c s' (c'.del D) where
  same := k.same
  keep := k.keep
  le := ⟨fun b x e => by
    show (if b = D then none else c'.o b) = some x
    have hb : b ≠ D := fun q => by rw [q, hc] at e; cases e
    rw [if_neg hb]
    exact k.le.o b x (by show (if b = D then some o else c.o b) = some x; rw [if_neg hb]; exact e), k.le.m⟩
  ins := ⟨fun b x e => by
    have e' : (if b = D then none else c'.o b) = some x := e
    by_cases q : b = D
    · rw [if_pos q] at e'; cases e'
    · rw [if_neg q] at e'; exact k.ins.o b x e', fun b x e => by
    have e' : (if b = D then none else c'.o b) = some x := e
    by_cases q : b = D
    · rw [if_pos q] at e'; cases e'
    · rw [if_neg q] at e'; exact k.ins.nf b x e', k.ins.pos, k.ins.lt⟩
  new := fun b x e => by
    have e' : (if b = D then none else c'.o b) = some x := e
    by_cases q : b = D
    · rw [if_pos q] at e'; cases e'
    · rw [if_neg q] at e'
      rcases k.new b x e' with h | h
      · have h' : (if b = D then some o else c.o b) = some x := h
        rw [if_neg q] at h'; exact .inl h'
      · exact .inr h
theorem del_none (c : Cx) (D : Addr) : (c.del D).o D = none := if_pos rfl
end Mine

/-! ### E7 -/
open PySem PySem.W PyProof.Rows PySem.SeqAt
set_option Elab.async false
set_option maxRecDepth 100000
namespace Mine
/-- a list that the frame's own code may still change -/
structure Own (sb : Shared) (env : Env) (fo : List Addr) (D : Addr) (ys : List Value) (s : Shared) (c : Cx) : Prop where
  get : s.heap.get? D = some (lst ys)
  off : c.o D = none
  new : sb.heap.get? D = none
  out : D ∉ env.locals :: fo
section
variable {α : Type} {W : Wd} {n : Nat} {A : Around} {E : Value → Shared → Prop} {Q : Flow → Shared → Prop} {H₀ : Heap} {sb : Shared} {cb : Cx} {V : Vars} {s s' : Shared} {c c' : Cx} {tgt iter elt : Expr} {ifs : List Expr} {scope : Scope} {pos spos py : Pos} {y : Str} {env : Env} {cl : List (Str × Addr)} {oc : Addr → List Addr} {xs : List α} {F G : α → VP} {p : α → Bool}
  {Bd : Addr → α → Heap → Cx → Prop} {fo : List Addr} {rest body orelse : List Stmt} {D : Addr} {ys : List Value} {l : List VP} {P : VP} {b : Bool}
theorem Frm.freeze (f : Frm H₀ sb cb env fo V s c) (w : Own sb env fo D ys s c) (ok : AllOk c l ys) (hv : V y = some (IsV (.ref D))) : Frm H₀ sb cb env fo (V.set y (ListV l)) s (c.put D (lst ys)) where
  eo := f.eo
  hb := f.hb
  fr := f.fr
  mv := ⟨f.mv.same, f.mv.keep, f.mv.le.trans (Cx.put_le w.off _), f.mv.ins.frozen w.get, fun b x e => by
      have e' : (if b = D then some (lst ys) else c.o b) = some x := e
      by_cases q : b = D
      · rw [q]; exact .inr w.new
      · rw [if_neg q] at e'; exact f.mv.new b x e', fun b hb => ⟨by
      have hbD : ¬ b = D := fun q => w.out (by rw [← q]; exact hb)
      show (if b = D then some (lst ys) else c.o b) = none
      rw [if_neg hbD]; exact (f.mv.off b hb).1, (f.mv.off b hb).2⟩⟩
  ok := f.ok
  vars := fun x P h => by
    unfold Vars.set at h
    by_cases q : x = y
    · rw [if_pos q] at h; cases h
      obtain ⟨k, v, hl, hd⟩ := f.vars y _ hv
      have hd' : v = .ref D := hd
      rw [q]
      exact ⟨k, v, hl, hd' ▸ ListV.new w.off ok⟩
    · rw [if_neg q] at h
      obtain ⟨k, v, hl, hd⟩ := f.vars x P h
      exact ⟨k, v, hl, P.mono (Cx.put_le w.off _) hd⟩
theorem Own.step (w : Own sb env fo D ys s c) (k : Kp s c s' c') (h : c'.o D = none) : Own sb env fo D ys s' c' := ⟨(k.keep D _ w.get).exact lst_nf, h, w.new, w.out⟩
theorem Own.kp (w : Own sb env fo D ys s c) (k : Kp s c s' c') : Own sb env fo D ys s' c' := w.step k (by
  cases q : c'.o D with
  | none => rfl
  | some o =>
    rcases k.new D o q with h | h
    · rw [w.off] at h; cases h
    · rw [w.get] at h; cases h)
theorem st_comp_own (f : Frm H₀ sb cb env fo V s c) (r : RoomB n A H₀ env) (itE : IterE W n tgt env s.heap c iter (xs.map F))
    (hsw : swapsWith (.ListComp elt [⟨tgt, iter, ifs, 0⟩] scope pos) (some (.Name y py)) spos.line env = pure true)
    (hclos : closureFor scope env = pure cl) (hkind : scope.kind = .function) (hnames : ∀ y ∈ scope.names, y.2 = .local → scope.names.lookup y.1 = some .local) (cells : Cells scope oc)
    (hasg : ∀ a ∈ xs, ∀ C, Asg W tgt (cEnv scope cl env C) C (oc C) (F a) (Bd C a))
    (htest : ∀ a ∈ xs, ∀ C H' c', HX s.heap H' → Le c c' → Bd C a H' c' → PTs W n (cEnv scope cl env C) H' c' ifs (p a))
    (helt : ∀ a ∈ xs, p a = true → ∀ C H' c', HX s.heap H' → Le c c' → Bd C a H' c' → PE W n (cEnv scope cl env C) H' c' elt (G a))
    (hsz : xs.length ≤ 100000) (hy : env.kindOf y = some .local)
    (k : ∀ s' c' D ys, Frm H₀ sb cb env fo (V.set y (IsV (.ref D))) s' c' → Own sb env fo D ys s' c' → AllOk c' ((xs.filter p).map G) ys → wpAny W.M A (execs rest env) Q E s')
    (hs : ∀ x, foldedSetIterable iter env x = pure x := by intro _; rfl) :
    wpAny W.M A (execs (.Assign [.Name y py] (.ListComp elt [⟨tgt, iter, ifs, 0⟩] scope pos) spos :: rest) env) Q E s := by
  refine wpAny_execs_cons ?_
  rw [exec_Assign_Name_used _ _ _ _ hsw]
  refine wpAny_bind (wpAny_standAt (wpAny_bind ?_))
  show wpAny _ A (do let _ ← comprehension (.ListComp elt [⟨tgt, iter, ifs, 0⟩] scope pos) scope env _ (newList []) false (eval iter env) (some (assign (.Name y py) env))) _ _ s
  refine wpAny_bind (wpAny_mono (comp_any0 (use := some (assign (.Name y py) env)) (Q := fun _ s' => wpAny W.M A (execs rest env) Q E s') (f.room r) itE hclos hkind hnames cells hasg htest helt hsz (HX.refl _) (Le.refl _) f.ins (fun s' c' C D ys kk hDn hDo hDs hall hC hC' hCD hm => ?_) hs) (fun _ s' hq => wpAny_pure (wpAny_pure hq)) fun _ _ x => x)
  have f' := f.step kk
  obtain ⟨m, hm⟩ := hm
  have hown : ∀ X, s.heap.get? X = none → ∀ b ∈ env.locals :: fo, b ≠ X := fun X hX b hb q => by
    obtain ⟨o, e⟩ := (f.mv.off b hb).2
    rw [q, hX] at e; cases e
  have hCown := hown C hC
  have hDown := hown D hDn
  refine wpAny_assign_Name (f'.base.store (P := IsV (.ref D)) rfl (.inl hy) fun s₂ g₂ => ?_)
  have f₂ := f'.trans g₂
  have hm₂ : s₂.heap.Ns C m := ns_gt hm fun o e => g₂.mv.keep C o (fun h => hCown C h rfl) e
  have hD₂ : s₂.heap.get? D = some (lst ys) := (g₂.mv.keep D _ (fun h => hDown D h rfl) hDs).exact lst_nf
  have hsb : ∀ X, s.heap.get? X = none → sb.heap.get? X = none := fun X hX => by
    cases q : sb.heap.get? X with
    | none => rfl
    | some o =>
      obtain ⟨o', e', _⟩ := f.mv.keep X o (fun h => hown X hX X h rfl) q
      rw [hX] at e'; cases e'
  refine ⟨m, hm₂, fun h' hs' => k _ c' D ys ?_ ⟨hs'.extBut D _ (fun q => hCD q.symm) hD₂, hDo, hsb D hDn, fun h => hDown D h rfl⟩ hall⟩
  refine f₂.outside0 (own := [C]) ⟨⟨h', s₂.toks, rfl⟩, fun b o hb e => .of (hs'.extBut b o (fun q => hb (q ▸ List.mem_singleton.mpr rfl)) e), Le.refl _, ⟨fun b x e => hs'.extBut b x (fun q => by rw [q, hC'] at e; cases e) (f₂.ins.o b x e), f₂.ins.nf, f₂.ins.pos, f₂.ins.lt⟩, fun _ _ e => .inl e⟩
    (fun b hb hm => hCown b hb (List.mem_singleton.mp hm)) (fun b hb => by rw [List.mem_singleton.mp hb]; exact hsb C hC)
theorem st_if_own {t : Expr} (f : Frm H₀ sb cb env fo V s c) (r : RoomB n A H₀ env) (w : Own sb env fo D ys s c) (ok : AllOk c l ys) (hv : V y = some (IsV (.ref D))) (p : Frm H₀ sb cb env fo (V.set y (ListV l)) s (c.put D (lst ys)) → PT W n env s.heap (c.put D (lst ys)) t b)
    (h₁ : b = true → ∀ s' c', Frm H₀ sb cb env fo V s' c' → Own sb env fo D ys s' c' → AllOk c' l ys → wpAny W.M A (execs body env) (Goes W A rest env Q E) E s')
    (h₂ : b = false → ∀ s' c', Frm H₀ sb cb env fo V s' c' → Own sb env fo D ys s' c' → AllOk c' l ys → wpAny W.M A (execs orelse env) (Goes W A rest env Q E) E s') : wpAny W.M A (execs (.If t body orelse pos :: rest) env) Q E s := by
  have g := f.freeze w ok hv
  refine wpAny_execs_cons (wpAny_If ((p g).at (g.room r) g.ins fun s' c' kp => ?_))
  have kp' := kp.thaw w.off
  have f' := f.step kp'
  have w' := w.kp kp'
  cases b
  · exact h₂ rfl _ _ f' w' (ok.mono kp'.le)
  · exact h₁ rfl _ _ f' w' (ok.mono kp'.le)
theorem st_append_own {e : Expr} {apos cpos epos : Pos} (f : Frm H₀ sb cb env fo V s c) (r : RoomB n A H₀ env) (w : Own sb env fo D ys s c) (hv : V y = some (IsV (.ref D))) (p : PE W n env s.heap c e P) (hsz : ys.length ≤ 1000)
    (hi : interactive env = false) (hsw : swapsWith (.Call (.Attribute (.Name y py) "append" apos) [e] [] cpos) none epos.line env = pure false) (hab : attributeBase (.Name y py) "append" env (eval (.Name y py) env) = eval (.Name y py) env)
    (k : ∀ s' c' v, Frm H₀ sb cb env fo V s' c' → Own sb env fo D (ys ++ [v]) s' c' → Le c c' → P.ok c' v → wpAny W.M A (execs rest env) Q E s')
    (hp : plainE e = true := by rfl) (hline : (apos.endLine == cpos.line) = true := by rfl) (hd : (y == ("__debug__" : Str)) = false := by decide) (hn : (y == ("__classdict__" : Str)) = false := by decide) :
    wpAny W.M A (execs (.Expr (.Call (.Attribute (.Name y py) "append" apos) [e] [] cpos) epos :: rest) env) Q E s := by
  refine wpAny_execs_cons (wpAny_Expr_any ?_ hi hsw)
  refine wpAny_Call_method (T := "list") (id := "list.append") hab ?_ hline F.plainAttrs_list F.slot_list_append F.type_list_append ?_
  · rw [starEach_plain hp]; rfl
  refine wpAny_Name (wpAny_mono (f.rd (W := W) hv hn A E s c (HX.refl _) (Le.refl _)) (fun v s₁ hq => ?_) fun _ _ x => x) hd
  obtain ⟨rfl, hq⟩ := hq
  have hq' : v = .ref D := hq
  subst hq'
  refine ⟨⟨_, w.get, rfl⟩, fun a ha => ?_, ?_⟩
  · cases ha; exact ⟨_, w.get, rfl⟩
  rw [starEach_plain hp]
  refine Calls.callWith_builtin rfl (Calls.evalArgs_plain (Calls.spliced_cons (p.at (f.room r) f.ins fun v s' c' kk z => Calls.spliced_nil ?_)))
  have f' := f.step kk
  have w' := w.kp kk
  refine append_at w'.get (fun h' hs' hD' => ?_) (by rw [List.size_toArray, sizeLine_eq]; omega)
  refine k _ c' v (f'.outside0 (own := [D]) (s' := { s' with heap := h' }) (c' := c') ⟨⟨h', s'.toks, rfl⟩, fun b o hb e => .of (hs'.extBut b o (fun q => hb (q ▸ List.mem_singleton.mpr rfl)) e), Le.refl _, ⟨fun b x e => hs'.extBut b x (fun q => by rw [q, w'.off] at e; cases e) (f'.ins.o b x e), f'.ins.nf, f'.ins.pos, f'.ins.lt⟩, fun _ _ e => .inl e⟩
    (fun b hb hm => w.out (by rw [← List.mem_singleton.mp hm]; exact hb)) (fun b hb => by rw [List.mem_singleton.mp hb]; exact w.new)) ⟨?_, w'.off, w.new, w.out⟩ kk.le z
  rw [hD']
  simp [lst, LCg.lst]
theorem PE.tup {es : List Expr} {Ps : List VP} {x1 : Nat} {H : Heap} (p : PEs W n env H c es Ps) (hsz : Ps.length ≤ 1000) : PE W n env H c (.Tuple es x1 pos) (TupV Ps) := by
  intro A E s c₁ r hx le ins
  refine Tuple_ (wpAny_mono (p.run E s c₁ r hx le ins) (fun vs s₁ ⟨c', kk, ok⟩ => ?_) fun _ _ x => x)
  refine wpAny_newTuple ?_ (by rw [sizeLine_eq, ← ok.len]; omega)
  exact ⟨_, kk.trans (Kp.push kk.ins _), TupV.new (kk.ins.none (get_size _)) ok⟩
theorem st_assign2 {x : Str} {e : Expr} {px pt : Pos} {x1 : Nat} {P₁ P₂ : VP} (f : Frm H₀ sb cb env fo V s c) (r : RoomB n A H₀ env) (p : PE W n env s.heap c e (TupV [P₁, P₂])) (hx : env.kindOf x = some .local ∨ env.kindOf x = some .cell) (hy : env.kindOf y = some .local ∨ env.kindOf y = some .cell)
    (hs : swapsWithSole [.Tuple [.Name x px, .Name y py] x1 pt] e pos.line env = pure false) (hw : swappedStores [.Tuple [.Name x px, .Name y py] x1 pt] e env = pure none)
    (k : ∀ s' c', Frm H₀ sb cb env fo ((V.set x P₁).set y P₂) s' c' → wpAny W.M A (execs rest env) Q E s') :
    wpAny W.M A (execs (.Assign [.Tuple [.Name x px, .Name y py] x1 pt] e pos :: rest) env) Q E s :=
  wpAny_execs_cons (Assign_Tuple (p.at (f.room r) f.ins fun v s' c' kk z => frm_assign2 r.handled (f.step kk) z hx hy fun s'' c'' f'' => k s'' c'' f'') hs hw)
end
end Mine

/-! ### HA -/
open PySem PySem.W PyProof.Rows PySem.SeqAt
set_option Elab.async false
set_option maxRecDepth 100000
namespace Mine
set_option maxHeartbeats 4000000
theorem lk_getitem : typeLookup (.type "str") "__getitem__" = pure (some (.builtin "str.__getitem__")) := slot_str_getitem.lookup
theorem ty_getitem : typeOf (.builtin "str.__getitem__") = pure (.type "wrapper_descriptor") := by kernel_rfl
theorem slot_wd_get : Slot "wrapper_descriptor" "__get__" "wrapper_descriptor.__get__" :=
  .of (owner := "wrapper_descriptor") (n := "__get__") (by rw [typeLookup_type, builtinLookup_eq_fast]; kernel_rfl) (by decide +kernel) (by decide +kernel) (by decide +kernel)
    (by first | exact .inl (by decide +kernel) | exact .inr (by decide +kernel)) (by rw [isSubtype_type]; kernel_rfl)
theorem entry_wd_get : entryFor table "wrapper_descriptor.__get__" = some Builtin.«wrapper_descriptor.__get__» := entryFor_of_tree (by kernel_rfl)
theorem args_wd_get (a b c : Value) : argsOk "wrapper_descriptor.__get__" ⟨[a, b, c], []⟩ := by unfold argsOk; kernel_rfl
theorem lk_wd_set : typeLookup (.type "wrapper_descriptor") "__set__" = pure none := by rw [typeLookup_type, builtinLookup_eq_fast]; kernel_rfl
theorem lk_wd_del : typeLookup (.type "wrapper_descriptor") "__delete__" = pure none := by rw [typeLookup_type, builtinLookup_eq_fast]; kernel_rfl
theorem sub_str_str : isSubtype (.type "str") (.type "str") = pure true := by rw [isSubtype_type]; kernel_rfl
theorem own_getitem : (".".intercalate ("str.__getitem__".cutAt '.').dropLast) = "str" := by
  have e0 : "str.__getitem__".cutAt '.' = ["str", "__getitem__"] := by first | rfl | decide +kernel
  rw [e0]; decide +kernel
theorem sub_str_own : isSubtype (.type "str") (.type (".".intercalate ("str.__getitem__".cutAt '.').dropLast)) = pure true := by rw [own_getitem, isSubtype_type]; kernel_rfl
section
variable {prog : Program} {w : World} {A : Around} {E : Value → Shared → Prop} {h : Heap} {g : Array GenState} {d : Drawn} {t : Nat} {os : OsState} {x : Str} {u : Tok}
theorem getitem_get {R : Result → Shared → Prop} (hq : ∀ b h', HX h h' → R (.ok (.ret (.ref b))) ⟨h', g, d, t, os⟩) :
    codeAny (model prog w) A (.call (.builtin "wrapper_descriptor.__get__") ⟨[.builtin "str.__getitem__", .str x u, .type "str"], []⟩) R ⟨h, g, d, t, os⟩ := by
  have hT : (⟨h, g, d, t, os⟩ : Shared).TypeIs (.str x u) "str" := rfl
  have hT5 : (⟨h, g, d, t, os⟩ : Shared).TypeIs (.builtin "str.__getitem__") "wrapper_descriptor" := ty_getitem
  have f8 := sub_str_own
  have f9 := sub_str_str
  refine codeAny_call_builtin slot_wd_get.plain entry_wd_get (slot_wd_get.check _ _ _ _ _ _ _ _ hT5 (args_wd_get _ _ _) ?_)
  repeat (any_goals (first | assumption | wp_step))
  exact hq _ _ (HX.push _ _)
theorem getitem_entry {tk : Tok} {Q : Fin → Shared → Prop} (hq : ∀ b h', HX h h' → Q (.done (.ret (.ref b))) ⟨h', g, d, t, os⟩) :
    wpAny (model prog w) A (Builtin.«object.__getattribute__» ⟨[.str x u, .str "__getitem__" tk], []⟩) Q E ⟨h, g, d, t, os⟩ := by
  have hT : (⟨h, g, d, t, os⟩ : Shared).TypeIs (.str x u) "str" := rfl
  have hT5 : (⟨h, g, d, t, os⟩ : Shared).TypeIs (.builtin "str.__getitem__") "wrapper_descriptor" := ty_getitem
  have f4 := lk_getitem
  have f5 := ty_getitem
  have f6 := slot_wd_get.lookup
  have f7 := lk_wd_set
  have f8 := lk_wd_del
  repeat (any_goals (first | assumption | wp_step))
  exact getitem_get fun v h' k => wpAny_pure (hq v h' k)
theorem getitem_call {tk : Tok} {R : Result → Shared → Prop} (hq : ∀ b h', HX h h' → R (.ok (.ret (.ref b))) ⟨h', g, d, t, os⟩) :
    codeAny (model prog w) A (.call (.builtin "object.__getattribute__") ⟨[.str x u, .str "__getitem__" tk], []⟩) R ⟨h, g, d, t, os⟩ :=
  codeAny_call_builtin F.slot_str_getattribute.plain F.entry_object_getattribute (F.slot_str_getattribute.check _ _ _ _ _ _ _ _ (show (⟨h, g, d, t, os⟩ : Shared).TypeIs (.str x u) "str" from rfl) (F.args_object_getattribute_2 _ _) (getitem_entry hq))
theorem getitem_by {tk : Tok} {Q : Value → Shared → Prop} (hq : ∀ b h', HX h h' → Q (.ref b) ⟨h', g, d, t, os⟩) : wpAny (model prog w) A (getAttrBy (.str x u) (.str "__getitem__" tk) false) Q E ⟨h, g, d, t, os⟩ := by
  have hT : (⟨h, g, d, t, os⟩ : Shared).TypeIs (.str x u) "str" := rfl
  have f2 := F.slot_str_getattribute.lookup
  have f3 := F.slot_str_getattribute.bind (.str x u)
  repeat (any_goals (first | assumption | wp_step))
  refine getitem_call fun v h' k => ?_
  exact wpAny_of_eq (a := .ref v) rfl (hq v h' k)
theorem kind_hasattr : builtinKind "hasattr" = none := by decide +kernel
theorem plain_hasattr : plainId "hasattr" = true := by decide +kernel
theorem entry_hasattr : entryFor table "hasattr" = some Builtin.«hasattr» := entryFor_of_tree (by kernel_rfl)
theorem args_hasattr_2 (a b : Value) : argsOk "hasattr" ⟨[a, b], []⟩ := by unfold argsOk; kernel_rfl
theorem hasattr_str {tk : Tok} {Q : Value → Shared → Prop} (hq : ∀ h', HX h h' → Q (.bool true) ⟨h', g, d, t, os⟩) : wpAny (model prog w) A (call (.builtin "hasattr") [.str x u, .str "__getitem__" tk]) Q E ⟨h, g, d, t, os⟩ := by
  refine Calls.call_function_entry kind_hasattr plain_hasattr entry_hasattr (args_hasattr_2 _ _) ?_
  have hT : (⟨h, g, d, t, os⟩ : Shared).TypeIs (.str x u) "str" := rfl
  have f2 := F.slot_str_getattribute.lookup
  have f4 := lk_getitem
  unfold Builtin.«hasattr»
  refine wpAny_bind (wpAny_of_eq (a := [.str x u, .str "__getitem__" tk]) (by first | rfl | kernel_rfl) ?_)
  dsimp only
  refine wpAny_bind (wpAny_of_eq (a := ()) (by first | rfl | kernel_rfl) ?_)
  refine wpAny_ite_false rfl ?_
  refine wpAny_bind (wpAny_of_eq (a := .type "str") rfl ?_)
  dsimp only
  refine wpAny_bind (wpAny_of_eq (a := some (Str.ofString "__getitem__")) rfl ?_)
  dsimp only
  refine wpAny_bind (wpAny_of_eq f4 ?_)
  dsimp only
  refine wpAny_bind (wpAny_of_eq f2 ?_)
  refine wpAny_ite_false (by decide +kernel) ?_
  refine wpAny_bind (wpAny_of_eq (a := 0) rfl ?_)
  refine wpAny_ite_false (by decide) ?_
  refine wpAny_bind ?_
  unfold getAttrBy?
  refine wpAny_bind (wpAny_attempt (getitem_by fun b h' k => wpAny_pure ?_))
  refine wpAny_ite_false rfl ?_
  exact wpAny_pure ⟨_, rfl, hq h' k⟩
end
theorem cl_hasattr {W : Wd} {n : Nat} {H : Heap} {x : Str} : Cl W n H (.builtin "hasattr") [StrV x, StrT "__getitem__"] (BoolV true) := by
  intro A E s c vs r _ ins ok
  cases ok with
  | cons z₁ ok =>
    cases ok with
    | cons z₂ ok =>
      cases ok
      obtain ⟨t, rfl⟩ := z₁
      obtain ⟨u, rfl, _⟩ := z₂
      obtain ⟨h, g, d, tk, os⟩ := s
      exact hasattr_str fun h' k => ⟨c, Kp.heap ins k, rfl⟩
end Mine

/-! ### F1 -/
open PySem PySem.W PyProof.Rows PySem.SeqAt
set_option Elab.async false
namespace Mine
def stAt (i : Nat) : Stmt := (PySem.Challenge.pw_pk0023_01.main.body)[i]?.getD (.Pass default)
def bodyAt (i : Nat) : List Stmt := match stAt i with | .FunctionDef _ _ b _ _ _ _ _ _ _ => b | _ => []
def paramsAt (i : Nat) : Arguments := match stAt i with | .FunctionDef _ a _ _ _ _ _ _ _ _ => a | _ => { posonlyargs := [], args := [], vararg := none, kwonlyargs := [], kw_defaults := [], kwarg := none, defaults := [] }
def scopeAt (i : Nat) : Scope := match stAt i with | .FunctionDef _ _ _ _ _ _ s _ _ _ => s | _ => default
abbrev DefI (H₀ : Heap) (a : Addr) (x : Str) (i : Nat) (pm code doc : Value) : Prop := DefIn H₀ a x (paramsAt i) (bodyAt i) (scopeAt i) pm code doc
set_option maxRecDepth 100000
section
variable {W : Wd} {n : Nat} {H₀ : Heap} {a : Addr} {pm code doc : Value}
theorem cl_contains {l : List Int} {i : Int} (nl : H₀.NoLimit) (d : DefI H₀ a "contains" 6 pm code doc) : Cl W (n + 1) H₀ (.ref a) [IntsV l, IntV i] (BoolV (l.contains i)) := by
  refine Cl.of_def d nl (names := ["a", "b"]) (by decide) rfl ?_ ?_ ?_ rfl rfl rfl ?_
  · intro vals hv
    match vals, hv with
    | [x, y], _ => rfl
  · decide
  · decide
  intro Hc L A E s c hH r f
  refine st_return f r (P := BoolV (l.contains i)) (PE.cmp (PE.name (f.rd (P := IntV i) rfl)) (PE.name (f.rd (P := IntsV l) rfl)) (o_in (a := i))) fun v s' c' f' z => ⟨c', f'.weak (fun _ _ h => nomatch h), z⟩
end
end Mine

/-! ### F2 -/
open PySem PySem.W PyProof.Rows PySem.SeqAt
set_option Elab.async false
namespace Mine
set_option maxRecDepth 100000
theorem take_count {α : Type} [BEq α] [LawfulBEq α] (l : List α) (b a : α) (i : Nat) (h : l[i]? = some a) : (l.take (i + 1)).count b = (l.take i).count b + (if a == b then 1 else 0) := by
  rw [List.take_add_one, h]
  simp only [Option.toList, List.count_append, List.count_cons, List.count_nil, Nat.zero_add]
section
variable {W : Wd} {n : Nat} {H₀ : Heap} {a : Addr} {pm code doc : Value}
theorem cl_countOf {l : List Int} {b : Int} (hb : smallInt b = true) (nl : H₀.NoLimit) (d : DefI H₀ a "countOf" 7 pm code doc) : Cl W (n + 1) H₀ (.ref a) [IntsV l, IntV b] (IntV (l.count b)) := by
  refine Cl.of_def d nl (names := ["a", "b"]) (by decide) rfl ?_ ?_ ?_ rfl rfl rfl ?_
  · intro vals hv
    match vals, hv with
    | [x, y], _ => rfl
  · decide
  · decide
  intro Hc L A E s c hH r f
  refine st_assign f r (P := IntV 0) PE.int (.inl rfl) rfl fun s₁ c₁ f₁ => ?_
  refine st_for (xs := l) (F := IntV) (bind := fun i V => V.set "i" (IntV i)) (Inv := fun i => listV [("a", IntsV l), ("b", IntV b), ("count", IntV ((l.take i).count b))]) (RP := fun _ _ => False)
    f₁ r (PE.name (f₁.rd (P := IntsV l) rfl)) (iters_list (whole_name _ _)) (fun i hi sb cb V s c v A E Q f ok k => frm_assign f ok (.inl rfl) fun s' f' => k s' c f') (VLe.le ⟨rfl, rfl, rfl, trivial⟩) ?_ (fun _ _ _ _ h => h.elim) ?_
  · intro i x hx s c Ex f le
    have tk := take_count l b x i hx
    refine st_if (b := (x == b)) f r ?_ (fun hxb s₁ c₁ f₁ => ?_) (fun hxb s₁ c₁ f₁ => ?_)
    · exact (PT.or (PT.cmp (PE.name (f.rd (P := IntV x) rfl)) (PE.name (f.rd (P := IntV b) rfl)) (o_is hb)) (fun _ => PT.cmp (PE.name (f.rd (P := IntV x) rfl)) (PE.name (f.rd (P := IntV b) rfl)) (o_eq (a := x) (b := b)))).eq (Bool.or_self _)
    · refine st_aug f₁ r (P₀ := IntV ((l.take i).count b)) (P₁ := IntV 1) rfl PE.int (o_iadd (a := ((l.take i).count b : Int)) (b := 1)) (.inl rfl) fun s₂ c₂ f₂ => st_end (st_end ⟨c₂, f₂.to _ ⟨rfl, rfl, ?_, trivial⟩⟩)
      rw [tk, hxb]; rfl
    · refine st_end (st_end ⟨c₁, f₁.to _ ⟨rfl, rfl, ?_, trivial⟩⟩)
      rw [tk, hxb]; rfl
  · intro s c f
    refine st_end (st_return f r (P := IntV (l.count b)) (PE.name (f.rd ?_)) fun v s' c' f' z => ⟨c', f'.nil, z⟩)
    rw [List.take_length]; rfl
end
end Mine

/-! ### F3 -/
open PySem PySem.W PyProof.Rows PySem.SeqAt
set_option Elab.async false
namespace Mine
set_option maxRecDepth 100000
section
variable {W : Wd} {n : Nat} {env : Env} {H : Heap} {c : Cx} {e₁ e₂ : Expr} {pos p₁ p₂ : Pos} {P : VP}
/-- a sign in a text -/
theorem o_inS {x : List Nat} {d : Nat} {P₁ P₂ : VP} (i₁ : IsS P₁ (S [d]) := by first | exact isS_t _ | exact isS_v _) (i₂ : IsS P₂ (S x) := by first | exact isS_t _ | exact isS_v _) : Op2 W n (compareOp .In) P₁ P₂ (BoolV (x.contains d)) := by
  intro A E s c v₁ v₂ r ins z₁ z₂
  obtain ⟨t, rfl⟩ := i₁ _ _ z₁
  obtain ⟨u, rfl⟩ := i₂ _ _ z₂
  refine in_str ⟨_, .refl ins, ?_⟩
  have := StrLaws.found_one (S x) d
  show Value.bool (!(Builtin.Str.occurrences (S x) ⟨#[d]⟩ 0 (S x).length 1).isEmpty) = _
  rw [this]
  refine congrArg Value.bool ?_
  rw [Bool.eq_iff_iff, decide_eq_true_eq, List.contains_iff_mem]
  simp [S]
/-- «a is b or a == b» upon texts -/
theorem PT.isEq {x y : Str} {e₁' e₂' : Expr} (hb : NoneBooked H) (a₁ : PE W n env H c e₁ (StrT x)) (a₂ : PE W n env H c e₂ (StrT y)) (b₁ : PE W n env H c e₁' (StrT x)) (b₂ : PE W n env H c e₂' (StrT y))
    (hm : behindInMarks .Is e₂ = false := by with_unfolding_all rfl) (hm' : behindInMarks .Eq e₂' = false := by with_unfolding_all rfl) :
    PT W n env H c (.BoolOp .Or [.Compare e₁ [.Is] [e₂] p₁, .Compare e₁' [.Eq] [e₂'] p₂] pos) (x == y) := by
  intro A E s c₁ r h l ins
  refine wpAny_isTrue_BoolOp (wpAny_allTrue_Or_cons (wpAny_isTrue_Compare1 (two_at a₁ a₂ r h l ins (R := fun s₂ c₂ v s₃ => s₃ = s₂ ∧ InS c₂ s₂ ∧ ∃ d : Bool, v = .bool d ∧ (d = true → x = y)) (fun s₂ c₂ v₁ v₂ k z₁ z₂ => ?_) fun s₂ c₂ v s₃ k hq => ?_) hm))
  · exact is_str (booked_mono hb (h.trans k.keep)) z₁ z₂ fun d hd => ⟨rfl, k.ins, d, rfl, hd⟩
  · obtain ⟨rfl, _, d, rfl, hd⟩ := hq
    refine wpAny_truthy_bool ?_
    cases d with
    | true => exact ⟨c₂, k, by rw [hd rfl]; simp⟩
    | false =>
      refine wpAny_allTrue_Or_cons (wpAny_mono ((PT.cmp b₁ b₂ (o_eqs (a := x) (b := y)) hm').mono (HX.refl _) (Le.refl _) A E s₃ c₂ (r.on k.keep) (h.trans k.keep) (l.trans k.le) k.ins) (fun b s₄ ⟨c₄, k₄, z⟩ => ?_) fun _ _ x => x)
      subst z
      cases hxy : (x == y) with
      | true => exact ⟨c₄, k.trans k₄, rfl⟩
      | false => exact wpAny_allTrue_Or_nil ⟨c₄, k.trans k₄, rfl⟩
end
section
variable {W : Wd} {n : Nat} {H₀ : Heap} {a : Addr} {pm code doc : Value}
theorem cl_containsS {x : List Nat} {d : Nat} (nl : H₀.NoLimit) (df : DefI H₀ a "contains" 6 pm code doc) : Cl W (n + 1) H₀ (.ref a) [StrV (S x), StrT (S [d])] (BoolV (x.contains d)) := by
  refine Cl.of_def df nl (names := ["a", "b"]) (by decide) rfl ?_ ?_ ?_ rfl rfl rfl ?_
  · intro vals hv
    match vals, hv with
    | [x, y], _ => rfl
  · decide
  · decide
  intro Hc L A E s c hH r f
  exact st_return f r (P := BoolV (x.contains d)) (PE.cmp (PE.name (f.rd (P := StrT (S [d])) rfl)) (PE.name (f.rd (P := StrV (S x)) rfl)) (o_inS (d := d) (x := x))) fun v s' c' f' z => ⟨c', f'.nil, z⟩
theorem cl_countOfS {x : List Nat} {d : Nat} (hx : ∀ y ∈ x, y < 128) (hbk : NoneBooked H₀) (nl : H₀.NoLimit) (df : DefI H₀ a "countOf" 7 pm code doc) : Cl W (n + 1) H₀ (.ref a) [StrV (S x), StrT (S [d])] (IntV (x.count d)) := by
  refine Cl.of_def df nl (names := ["a", "b"]) (by decide) rfl ?_ ?_ ?_ rfl rfl rfl ?_
  · intro vals hv
    match vals, hv with
    | [x, y], _ => rfl
  · decide
  · decide
  intro Hc L A E s c hH r f
  refine st_assign f r (P := IntV 0) PE.int (.inl rfl) rfl fun s₁ c₁ f₁ => ?_
  refine st_for (xs := x) (F := fun y => StrT (S [y])) (bind := fun y V => V.set "i" (StrT (S [y]))) (Inv := fun i => listV [("a", StrV (S x)), ("b", StrT (S [d])), ("count", IntV ((x.take i).count d))]) (RP := fun _ _ => False)
    f₁ r (PE.name (f₁.rd (P := StrV (S x)) rfl)) (iters_str (whole_name _ _) hx) (fun i hi sb cb V s c v A E Q f ok k => frm_assign f ok (.inl rfl) fun s' f' => k s' c f') (VLe.le ⟨rfl, rfl, rfl, trivial⟩) ?_ (fun _ _ _ _ h => h.elim) ?_
  · intro i y hy s c Ex f le
    have tk := take_count x d y i hy
    have hyd : (S [y] == S [d]) = (y == d) := by rw [S_beq]; simp
    refine st_if (b := (y == d)) f r ?_ (fun hxb s₁ c₁ f₁ => ?_) (fun hxb s₁ c₁ f₁ => ?_)
    · exact (PT.isEq (booked_mono hbk (hH.trans f.h0)) (PE.name (f.rd (P := StrT (S [y])) rfl)) (PE.name (f.rd (P := StrT (S [d])) rfl)) (PE.name (f.rd (P := StrT (S [y])) rfl)) (PE.name (f.rd (P := StrT (S [d])) rfl))).eq hyd
    · refine st_aug f₁ r (P₀ := IntV ((x.take i).count d)) (P₁ := IntV 1) rfl PE.int (o_iadd (a := ((x.take i).count d : Int)) (b := 1)) (.inl rfl) fun s₂ c₂ f₂ => st_end (st_end ⟨c₂, f₂.to _ ⟨rfl, rfl, ?_, trivial⟩⟩)
      rw [tk, hxb]; rfl
    · refine st_end (st_end ⟨c₁, f₁.to _ ⟨rfl, rfl, ?_, trivial⟩⟩)
      rw [tk, hxb]; rfl
  · intro s c f
    refine st_end (st_return f r (P := IntV (x.count d)) (PE.name (f.rd ?_)) fun v s' c' f' z => ⟨c', f'.nil, z⟩)
    rw [List.take_length]; rfl
end
end Mine

/-! ### F4 -/
open PySem PySem.W PyProof.Rows PySem.SeqAt
set_option Elab.async false
namespace Mine
set_option maxRecDepth 100000
/-- what parse257 tells of what stands behind the opening mark -/
def prs : List Nat → List Nat
  | [] => []
  | [c] => if c = 34 then [] else [c]
  | c :: d :: r => if c = 34 then (if d = 34 then 34 :: prs r else []) else c :: prs (d :: r)
theorem prs_other {c : Nat} (h : c ≠ 34) (r : List Nat) : prs (c :: r) = c :: prs r := by
  cases r with
  | nil => simp [prs, h]
  | cons d r => rw [prs, if_neg h]
theorem drop_eq {x : List Nat} {k d : Nat} (h : x[k]? = some d) : x.drop k = d :: x.drop (k + 1) := by
  have hlt : k < x.length := (List.getElem?_eq_some_iff.mp h).1
  rw [List.drop_eq_getElem_cons hlt]
  rw [List.getElem?_eq_getElem hlt] at h
  injection h with h
  rw [h]
section
variable {W : Wd} {n : Nat} {H₀ : Heap} {a : Addr} {pm code doc : Value} {mg mb : Str → Option Value}
theorem cl_concat {x y : Str} (hsz : x.length + y.length ≤ 100000) (G : Gl H₀ mg mb) (hh : mg "hasattr" = none) (df : DefI H₀ a "concat" 5 pm code doc) : Cl W (n + 1) H₀ (.ref a) [StrV x, StrV y] (StrV (x ++ y)) := by
  refine Cl.of_def df G.nl (names := ["a", "b"]) (by decide) rfl ?_ ?_ ?_ rfl rfl rfl ?_
  · intro vals hv
    match vals, hv with
    | [x, y], _ => rfl
  · decide
  · decide
  intro Hc L A E s c hH r f
  refine st_if (b := !true) f r (PT.not (PT.val (PE.call (Ps := [StrV x, StrT "__getitem__"]) (Fn.blt G (hH.trans f.h0) ⟨rfl, rfl, rfl, rfl⟩ hh boot_hasattr (.inl ⟨_, rfl⟩) cl_hasattr) (.two (PE.name (f.rd rfl)) PE.str)))) (fun h => by cases h) fun _ s₁ c₁ f₁ => ?_
  refine st_end ?_
  exact st_return f₁ r (P := StrV (x ++ y)) (PE.two (PE.name (f₁.rd (P := StrV x) rfl)) (PE.name (f₁.rd (P := StrV y) rfl)) (o_adds (a := x) (b := y) (by rw [sizeLine_eq]; omega))) fun v s' c' f' z => ⟨c', f'.nil, z⟩
theorem cl_parse {x : List Nat} (hsz : x.length ≤ 10000) (G : Gl H₀ mg mb) (hl : mg "len" = none) (df : DefI H₀ a "parse257" 3 pm code doc) :
    Cl W (n + 1) H₀ (.ref a) [StrV (S (50 :: 53 :: 55 :: 32 :: 34 :: x))] (StrV (S (prs x))) := by
  refine Cl.of_def df G.nl (names := ["resp"]) (by decide) rfl ?_ ?_ ?_ rfl rfl rfl ?_
  · intro vals hv
    match vals, hv with
    | [x], _ => rfl
  · decide
  · decide
  intro Hc L A E s c hH r f
  generalize hF : 50 :: 53 :: 55 :: 32 :: 34 :: x = full at f
  have hlen : full.length = x.length + 5 := by rw [← hF]; simp
  have hget : ∀ k, full[5 + k]? = x[k]? := fun k => by rw [← hF, Nat.add_comm]; simp
  refine st_if (b := false) f r ((PT.cmp (PE.uptoS (x := full) (k := 3) (PE.name (f.rd rfl)) PE.int (by omega) (by omega)) PE.str (o_nes (a := S (full.take 3)) (b := Str.ofString "257"))).eq (by rw [← hF]; show (S [50, 53, 55] != Str.ofString "257") = false; decide)) (fun h => by cases h) fun _ s₁ c₁ f₁ => st_end ?_
  refine st_if (b := false) f₁ r ((PT.cmp (PE.fromToS (x := full) (a := 3) (b := 5) (PE.name (f₁.rd rfl)) PE.int PE.int (by omega) (by omega)) PE.str (o_nes (a := S ((full.drop 3).take 2)) (b := Str.ofString " \""))).eq (by rw [← hF]; show (S [32, 34] != Str.ofString " \"") = false; decide)) (fun h => by cases h) fun _ s₂ c₂ f₂ => st_end ?_
  refine st_assign f₂ r (P := StrV (S [])) (PE.str.sw) (.inl rfl) rfl fun s₃ c₃ f₃ => ?_
  refine st_assign f₃ r (P := IntV 5) PE.int (.inl rfl) rfl fun s₄ c₄ f₄ => ?_
  refine st_assign f₄ r (P := IntV full.length) (PE.call (Fn.blt G (hH.trans f₄.h0) ⟨rfl, rfl, rfl, rfl⟩ hl boot_len (.inl ⟨_, rfl⟩) (cl_lenS (x := full) (by omega))) (.one (PE.name (f₄.rd (P := StrV (S full)) rfl)))) (.inl rfl) rfl fun s₅ c₅ f₅ => ?_
  refine st_while (β := Nat × List Nat) (Inv := fun b => listV [("resp", StrV (S full)), ("dirname", StrV (S b.2)), ("i", IntV (5 + b.1 : Nat)), ("n", IntV full.length)]) (μ := fun b => x.length - b.1) (t := fun b => decide (b.1 < x.length))
    (Good := fun b => b.1 ≤ x.length ∧ prs x = b.2 ++ prs (x.drop b.1) ∧ b.2.length ≤ b.1) (Fin := fun b => b.2 = prs x) f₅ r (0, []) ⟨Nat.zero_le _, by simp, by simp⟩ (VLe.le ⟨rfl, rfl, rfl, rfl, trivial⟩) ?_ ?_ ?_ ?_
  · intro b hb s c f le
    refine (PT.cmp (PE.name (f.rd rfl)) (PE.name (f.rd rfl)) (o_lt (a := ((5 + b.1 : Nat) : Int)) (b := (full.length : Int)))).eq ?_
    rw [hlen, decide_eq_decide]; omega
  · rintro ⟨k, dn⟩ ⟨hk, hp, hdl⟩ ht s c Ex f le
    have hlt : k < x.length := by simpa using ht
    obtain ⟨d, hd⟩ : ∃ d, x[k]? = some d := ⟨_, List.getElem?_eq_getElem hlt⟩
    have hdrop := drop_eq hd
    have hl2 : dn.length ≤ k := hdl
    refine st_assign f r (P := StrT (S [d])) (PE.itemS (x := full) (k := ((5 + k : Nat) : Int)) (d := d) (PE.name (f.rd (P := StrV (S full)) rfl)) (PE.name (f.rd (P := IntV ((5 + k : Nat) : Int)) rfl)) (by omega) (by rw [Int.toNat_natCast, hget]; exact hd)) (.inl rfl) rfl fun s₁ c₁ f₁ => ?_
    refine st_assign f₁ r (P := IntV (((5 + k : Nat) : Int) + 1)) (PE.add (a := ((5 + k : Nat) : Int)) (b := 1) (PE.name (f₁.rd rfl)) PE.int) (.inl rfl) rfl fun s₂ c₂ f₂ => ?_
    have e1 : ((5 + k : Nat) : Int) + 1 = ((5 + (k + 1) : Nat) : Int) := by omega
    rw [e1] at f₂
    refine st_if (b := (S [d] == Str.ofString "\"")) f₂ r (PT.cmp (PE.name (f₂.rd rfl)) PE.str (o_eqs (a := S [d]) (b := Str.ofString "\""))) (fun hq s₃ c₃ f₃ => ?_) (fun hq s₃ c₃ f₃ => ?_)
    · have hd34 : d = 34 := by
        rw [show Str.ofString "\"" = S [34] from by decide, S_beq] at hq
        simpa using hq
      subst hd34
      refine st_if (b := (decide ((full.length : Int) ≤ ((5 + (k + 1) : Nat) : Int)) || (x[k + 1]? != some 34))) f₃ r ?_ (fun hb s₄ c₄ f₄ => ?_) (fun hb s₄ c₄ f₄ => ?_)
      · refine PT.or (PT.cmp (PE.name (f₃.rd rfl)) (PE.name (f₃.rd rfl)) (o_ge (a := ((5 + (k + 1) : Nat) : Int)) (b := (full.length : Int)))) fun hge => ?_
        have hlt' : k + 1 < x.length := by
          have := of_decide_eq_false hge
          omega
        obtain ⟨d', hd'⟩ : ∃ d, x[k + 1]? = some d := ⟨_, List.getElem?_eq_getElem hlt'⟩
        refine (PT.cmp (PE.itemS (x := full) (k := ((5 + (k + 1) : Nat) : Int)) (d := d') (PE.name (f₃.rd (P := StrV (S full)) rfl)) (PE.name (f₃.rd (P := IntV ((5 + (k + 1) : Nat) : Int)) rfl)) (by omega) (by rw [Int.toNat_natCast, hget]; exact hd')) PE.str (o_nes (a := S [d']) (b := Str.ofString "\""))).eq ?_
        rw [hd', show Str.ofString "\"" = S [34] from by decide, S_bne]
        simp [bne]
      · refine st_break ⟨(k + 1, dn), c₄, ?_, f₄.to _ ⟨rfl, rfl, rfl, rfl, trivial⟩⟩
        · show dn = prs x
          rw [hp, hdrop]
          cases hr : x.drop (k + 1) with
          | nil => simp [prs]
          | cons d' r' =>
            have hd' : x[k + 1]? = some d' := by
              have := congrArg (fun l => l[0]?) hr
              simpa using this
            have hlt' : k + 1 < x.length := (List.getElem?_eq_some_iff.mp hd').1
            have h34 : d' ≠ 34 := by
              rintro rfl
              rw [hd'] at hb
              simp at hb
              omega
            simp [prs, h34]
      · have hlt' : k + 1 < x.length := by
          rw [Bool.or_eq_false_iff] at hb
          have := of_decide_eq_false hb.1
          omega
        have hd' : x[k + 1]? = some 34 := by
          rw [Bool.or_eq_false_iff] at hb
          simpa using hb.2
        refine st_end ?_
        refine st_assign f₄ r (P := IntV (((5 + (k + 1) : Nat) : Int) + 1)) (PE.add (a := ((5 + (k + 1) : Nat) : Int)) (b := 1) (PE.name (f₄.rd rfl)) PE.int) (.inl rfl) rfl fun s₅ c₅ f₅ => st_end ?_
        have e2 : ((5 + (k + 1) : Nat) : Int) + 1 = ((5 + (k + 2) : Nat) : Int) := by omega
        rw [e2] at f₅
        refine st_assign f₅ r (P := StrV (S dn ++ S [34])) (PE.two (PE.name (f₅.rd (P := StrV (S dn)) rfl)) (PE.name (f₅.rd (P := StrT (S [34])) rfl)) (o_adds (a := S dn) (b := S [34]) (by rw [sizeLine_eq, S_length, S_length]; simp; omega))) (.inl rfl) rfl fun s₆ c₆ f₆ => st_end ?_
        rw [S_append] at f₆
        refine ⟨(k + 2, dn ++ [34]), c₆, ?_, ⟨?_, ?_, ?_⟩, f₆.to _ ⟨rfl, rfl, rfl, rfl, trivial⟩⟩
        · show x.length - (k + 2) < x.length - k; omega
        · show k + 2 ≤ x.length; omega
        · show prs x = (dn ++ [34]) ++ prs (x.drop (k + 2))
          rw [hp, hdrop, drop_eq hd']
          simp [prs]
        · simp; omega
    · have hd34 : d ≠ 34 := by
        rw [show Str.ofString "\"" = S [34] from by decide, S_beq] at hq
        simpa using hq
      refine st_end ?_
      refine st_assign f₃ r (P := StrV (S dn ++ S [d])) (PE.two (PE.name (f₃.rd (P := StrV (S dn)) rfl)) (PE.name (f₃.rd (P := StrT (S [d])) rfl)) (o_adds (a := S dn) (b := S [d]) (by rw [sizeLine_eq, S_length, S_length]; simp; omega))) (.inl rfl) rfl fun s₆ c₆ f₆ => st_end ?_
      rw [S_append] at f₆
      refine ⟨(k + 1, dn ++ [d]), c₆, ?_, ⟨?_, ?_, ?_⟩, f₆.to _ ⟨rfl, rfl, rfl, rfl, trivial⟩⟩
      · show x.length - (k + 1) < x.length - k; omega
      · show k + 1 ≤ x.length; omega
      · show prs x = (dn ++ [d]) ++ prs (x.drop (k + 1))
        rw [hp, hdrop, prs_other hd34]
        simp
      · simp; omega
  · rintro ⟨k, dn⟩ ⟨hk, hp, _⟩ ht
    have : ¬ k < x.length := by simpa using ht
    have hk' : k = x.length := by omega
    subst hk'
    rw [List.drop_length] at hp
    simpa [prs] using hp.symm
  · rintro ⟨k, dn⟩ s c hf f
    exact st_return f r (P := StrV (S (prs x))) (PE.name (f.rd (by rw [← hf]; rfl))) fun v s' c' f' z => ⟨c', f'.nil, z⟩
end
end Mine

/-! ### F5 -/
open PySem PySem.W PyProof.Rows PySem.SeqAt
set_option Elab.async false
namespace Mine
set_option maxRecDepth 100000
def AndV (P : VP) (p : Prop) : VP := ⟨fun c v => P.ok c v ∧ p, fun x ⟨a, b⟩ => ⟨P.mono x a, b⟩⟩
theorem Rd.weak {W : Wd} {env : Env} {H : Heap} {c : Cx} {x : Str} {P P' : VP} (r : Rd W env H c x P) (k : ∀ c v, P.ok c v → P'.ok c v) : Rd W env H c x P' :=
  fun A E s c₁ h l => wpAny_mono (r A E s c₁ h l) (fun _ _ z => ⟨z.1, k _ _ z.2⟩) fun _ _ x => x
def VImp : List (Str × VP) → Vars → Prop
  | [], _ => True
  | (x, P') :: r, V => (∃ P, V x = some P ∧ ∀ c v, P.ok c v → P'.ok c v) ∧ VImp r V
theorem VImp.get : ∀ {l : List (Str × VP)} {V : Vars}, VImp l V → ∀ y P', listV l y = some P' → ∃ P, V y = some P ∧ ∀ c v, P.ok c v → P'.ok c v
  | [], _, _, _, _, h => by cases h
  | (x, Q) :: r, V, ⟨h1, h2⟩, y, P, h => by
    unfold listV at h
    rw [List.lookup_cons] at h
    cases hb : y == x with
    | true => rw [hb] at h; cases h; rw [beq_iff_eq.mp hb]; exact h1
    | false => rw [hb] at h; exact VImp.get h2 y P h
theorem Frm.toI {H₀ : Heap} {sb : Shared} {cb : Cx} {env : Env} {oc : List Addr} {V : Vars} {s : Shared} {c : Cx} (f : Frm H₀ sb cb env oc V s c) (l : List (Str × VP)) (h : VImp l V) : Frm H₀ sb cb env oc (listV l) s c :=
  ⟨f.eo, f.hb, f.fr, f.mv, f.ok, fun x P' e => by
    obtain ⟨P, e', k⟩ := h.get x P' e
    obtain ⟨a, v, hv, ok⟩ := f.vars x P e'
    exact ⟨a, v, hv, k _ _ ok⟩⟩
theorem Frm.fact {H₀ : Heap} {sb : Shared} {cb : Cx} {env : Env} {oc : List Addr} {V : Vars} {s : Shared} {c : Cx} {x : Str} {P : VP} {p : Prop} (f : Frm H₀ sb cb env oc V s c) (h : V x = some (AndV P p)) : p := by
  obtain ⟨_, v, _, ok⟩ := f.vars x _ h
  exact ok.2
theorem imp_refl (P : VP) : ∀ c v, P.ok c v → P.ok c v := fun _ _ h => h
theorem imp_and {P : VP} {p : Prop} (h : p) : ∀ c v, P.ok c v → (AndV P p).ok c v := fun _ _ o => ⟨o, h⟩
theorem and_imp' {P : VP} {p q : Prop} (h : q) : ∀ c v, (AndV P p).ok c v → (AndV P q).ok c v := fun _ _ o => ⟨o.1, h⟩
section
variable {W : Wd} {n : Nat} {H₀ : Heap} {a : Addr} {pm code doc : Value} {mg mb : Str → Option Value}
theorem idx_of {l : List Int} {b : Int} {i : Nat} (h : l[i]? = some b) (hn : b ∉ l.take i) : l.idxOf b = i := by
  induction l generalizing i with
  | nil => simp at h
  | cons y l ih =>
    cases i with
    | zero => simp at h; subst h; simp
    | succ i =>
      simp at h
      rw [List.take_succ_cons, List.mem_cons, not_or] at hn
      have hyb : (y == b) = false := beq_eq_false_iff_ne.mpr fun q => hn.1 q.symm
      rw [List.idxOf_cons, hyb, cond_false, ih h hn.2]
abbrev idxTgt (p₁ p₂ p₃ : Pos) : Expr := .Tuple [.Name "i" p₁, .Name "j" p₂] 0 p₃
theorem cl_indexOf {l : List Int} {b : Int} (hb : smallInt b = true) (hm : b ∈ l) (G : Gl H₀ mg mb) (he : mg "enumerate" = none) (d : DefI H₀ a "indexOf" 8 pm code doc) : Cl W (n + 1) H₀ (.ref a) [IntsV l, IntV b] (IntV (l.idxOf b)) := by
  refine Cl.of_def d G.nl (names := ["a", "b"]) (by decide) rfl ?_ ?_ ?_ rfl rfl rfl ?_
  · intro vals hv
    match vals, hv with
    | [x, y], _ => rfl
  · decide
  · decide
  intro Hc L A E s c hH r f
  have hen : (enumV (l.map IntV)) = (List.range l.length).map fun (i : Nat) => TupV [IntV (i : Int), IntV (l.getD i 0)] := by
    unfold enumV
    rw [List.length_map]
    refine List.map_congr_left fun i hi => ?_
    have hi' : i < l.length := List.mem_range.mp hi
    rw [List.getD_eq_getElem?_getD, List.getElem?_map, List.getD_eq_getElem?_getD, List.getElem?_eq_getElem hi']
    rfl
  refine st_forI (xs := List.range l.length) (F := fun (i : Nat) => TupV [IntV (i : Int), IntV (l.getD i 0)]) (bind := fun i V => (V.set "i" (IntV (i : Int))).set "j" (IntV (l.getD i 0)))
    (Inv := fun i => listV [("a", AndV (IntsV l) (b ∉ l.take i)), ("b", IntV b)]) (RP := fun v c => (IntV (l.idxOf b)).ok c v)
    (f.toI [("a", AndV (IntsV l) (b ∉ l.take 0)), ("b", IntV b)] ⟨⟨_, rfl, imp_and (by simp)⟩, ⟨_, rfl, imp_refl _⟩, trivial⟩) r
    (hen ▸ IterE.enum (Bl.of G (hH.trans f.h0) ⟨rfl, rfl, rfl, rfl⟩ he boot_enumerate) (PE.name (f.rd (P := IntsV l) rfl))) (fun i hi sb cb V s c v A E Q hh f ok k => frm_assign2 hh f ok (.inl rfl) (.inl rfl) k) (fun _ _ h => h) ?_ ?_ ?_
  · intro i j hj s c Ex f le
    have hlt : i < l.length := by
      have := (List.getElem?_eq_some_iff.mp hj).1
      simpa using this
    have hij : i = j := by rw [List.getElem?_range hlt] at hj; injection hj
    subst hij
    have hget : l[i]? = some (l.getD i 0) := by rw [List.getElem?_eq_getElem hlt, List.getD_eq_getElem?_getD, List.getElem?_eq_getElem hlt]; rfl
    have hni : b ∉ l.take i := f.fact (x := "a") rfl
    generalize l.getD i 0 = x at f hget
    refine st_if (b := (x == b)) f r ?_ (fun hxb s₁ c₁ f₁ => ?_) (fun hxb s₁ c₁ f₁ => ?_)
    · exact (PT.or (PT.cmp (PE.name (f.rd (P := IntV x) rfl)) (PE.name (f.rd (P := IntV b) rfl)) (o_is hb)) (fun _ => PT.cmp (PE.name (f.rd (P := IntV x) rfl)) (PE.name (f.rd (P := IntV b) rfl)) (o_eq (a := x) (b := b)))).eq (Bool.or_self _)
    · have hx : x = b := by simpa using hxb
      subst hx
      have hidx : l.idxOf x = i := idx_of hget hni
      refine st_return f₁ r (P := IntV (i : Int)) (PE.name (f₁.rd rfl)) fun v s' c' f' z => ?_
      exact ⟨c', f'.nil, by rw [hidx]; exact z⟩
    · refine st_end (st_end ⟨c₁, f₁.toI _ ⟨⟨_, rfl, and_imp' ?_⟩, ⟨_, rfl, imp_refl _⟩, trivial⟩⟩)
      rw [List.take_add_one, hget]
      simp only [Option.toList, List.mem_append, List.mem_singleton, not_or]
      exact ⟨hni, fun q => by rw [q] at hxb; simp at hxb⟩
  · intro s c v f h
    exact ⟨c, f, h⟩
  · intro s c f
    have := f.fact (x := "a") rfl
    rw [List.length_range, List.take_length] at this
    exact absurd hm this
end
end Mine

/-! ### F6 -/
open PySem PySem.W PyProof.Rows PySem.SeqAt
set_option Elab.async false
namespace Mine
set_option maxRecDepth 100000
theorem boot_ValueError : bootBuiltins "ValueError" = some (.type "ValueError") := by decide +kernel
section
variable {W : Wd} {n : Nat} {H₀ : Heap} {a : Addr} {pm code doc : Value} {mg mb : Str → Option Value}
theorem rs_indexOf {l : List Int} {b : Int} (hb : smallInt b = true) (hm : b ∉ l) (G : Gl H₀ mg mb) (he : mg "enumerate" = none) (hv : mg "ValueError" = none) (d : DefI H₀ a "indexOf" 8 pm code doc) : Raises W (n + 1) H₀ (.ref a) [IntsV l, IntV b] "ValueError" := by
  intro A E Q s c vs r₀ hx ins ok hE
  refine wpAny_call (call_def d G.nl (names := ["a", "b"]) (by decide) rfl ?_ ?_ ?_ r₀ hx ins ok ?_ rfl rfl rfl)
  · intro vals hv
    match vals, hv with
    | [x, y], _ => rfl
  · decide
  · decide
  intro L s₁ f kp own r
  have hen : (enumV (l.map IntV)) = (List.range l.length).map fun (i : Nat) => TupV [IntV (i : Int), IntV (l.getD i 0)] := by
    unfold enumV
    rw [List.length_map]
    refine List.map_congr_left fun i hi => ?_
    have hi' : i < l.length := List.mem_range.mp hi
    rw [List.getD_eq_getElem?_getD, List.getElem?_map, List.getD_eq_getElem?_getD, List.getElem?_eq_getElem hi']
    rfl
  refine st_forI (xs := List.range l.length) (F := fun (i : Nat) => TupV [IntV (i : Int), IntV (l.getD i 0)]) (bind := fun i V => (V.set "i" (IntV (i : Int))).set "j" (IntV (l.getD i 0)))
    (Inv := fun _ => listV [("a", IntsV l), ("b", IntV b)]) (RP := fun _ _ => False) f r
    (hen ▸ IterE.enum (Bl.of G (hx.trans f.h0) ⟨rfl, rfl, rfl, rfl⟩ he boot_enumerate) (PE.name (f.rd (P := IntsV l) rfl))) (fun i hi sb cb V s c v A E Q hh f ok k => frm_assign2 hh f ok (.inl rfl) (.inl rfl) k) (VLe.le ⟨rfl, rfl, trivial⟩) ?_ (fun _ _ _ _ h => h.elim) ?_
  · intro i j hj s c Ex f le
    have hlt : i < l.length := by
      have := (List.getElem?_eq_some_iff.mp hj).1
      simpa using this
    have hij : i = j := by rw [List.getElem?_range hlt] at hj; injection hj
    subst hij
    have hget : l[i]? = some (l.getD i 0) := by rw [List.getElem?_eq_getElem hlt, List.getD_eq_getElem?_getD, List.getElem?_eq_getElem hlt]; rfl
    generalize l.getD i 0 = x at f hget
    have hne : (x == b) = false := beq_eq_false_iff_ne.mpr fun q => hm (q ▸ List.mem_of_getElem? hget)
    refine st_if (b := (x == b)) f r ?_ (fun hxb s₁ c₁ f₁ => by rw [hne] at hxb; cases hxb) (fun hxb s₁ c₁ f₁ => ?_)
    · exact (PT.or (PT.cmp (PE.name (f.rd (P := IntV x) rfl)) (PE.name (f.rd (P := IntV b) rfl)) (o_is hb)) (fun _ => PT.cmp (PE.name (f.rd (P := IntV x) rfl)) (PE.name (f.rd (P := IntV b) rfl)) (o_eq (a := x) (b := b)))).eq (Bool.or_self _)
    · exact st_end (st_end ⟨c₁, f₁.to _ ⟨rfl, rfl, trivial⟩⟩)
  · intro s₂ c₂ f₂
    have hbl := Bl.of (W := W) (env := fEnv "indexOf" (paramsAt 8) (bodyAt 8) (scopeAt 8) pm code doc L a) G (hx.trans f₂.h0) ⟨rfl, rfl, rfl, rfl⟩ hv boot_ValueError
    refine wpAny_execs_cons (wpAny_Raise_call F.excCall_ValueError F.excRaise_ValueError r.handled rfl (wpAny_Name (wpAny_mono (hbl _ _ s₂ (HX.refl _)) (fun v s₃ hq => ?_) fun _ _ x => x)))
    obtain ⟨rfl, rfl⟩ := hq
    refine ⟨rfl, ?_⟩
    refine Calls.evalArgs_plain ?_
    refine Calls.spliced_cons (wpAny_mono ((PE.str (W := W) (n := n) (c := c₂) (k := 0) (pos := default)) _ _ s₃ c₂ (f₂.room r) (HX.refl _) (Le.refl _) f₂.ins) (fun v₁ s₄ ⟨c₄, k₄, z₄⟩ => Calls.spliced_nil ?_) fun _ _ x => x)
    refine ⟨rfl, by show 1 ≤ sizeLine; rw [sizeLine_eq]; omega, fun h' e mk => ?_⟩
    have f₄ := f₂.step k₄
    have k₅ : HX s.heap h' := f₄.h0.trans (HX.ex mk.keeps)
    obtain ⟨outer, hfr, hlive⟩ := r.fr
    obtain ⟨t, hte, _⟩ := mk.there
    have hnew : s.heap.get? e = none := none_of_keep f₄.h0 mk.new
    refine wpAny_leaving_again (SameStack.refl _) (wpAny_leaving_first (base := hideD s.heap) hfr ?_ rfl hte (stays_of k₅) (hideD_none hnew) rfl rfl fun h'' left => ?_)
    · obtain ⟨m, hn⟩ := f₄.ok.1
      obtain ⟨o, es, ep, eo, hd, _⟩ := ns_hx hn (HX.ex mk.keeps)
      refine ⟨(by intro h; cases h), ⟨L, o, rfl, hideD_none (own L List.mem_cons_self), eo, fun vs q => by rw [hd] at q; cases q⟩, funFrames_of k₅ hlive⟩
    · have hx'' : HX s.heap h'' := hx_left k₅ left
      have kk := kp.then_mv f₄.mv own
      refine hE e _ ⟨?_, hx'', Le.refl _, ⟨fun b x e => (hx'' b x (ins.o b x e)).exact (ins.nf b x e), ins.nf, k₄.ins.pos, fun t v e => k₄.ins.lt t v (kk.le.m t v e)⟩, fun _ _ e => .inl e⟩ ⟨hideD_none hnew, left.2.2.1⟩
      obtain ⟨h1, t1, e1⟩ := kk.same
      subst e1
      exact ⟨_, _, rfl⟩
end
end Mine

/-! ### G1 -/
open PySem PySem.W PyProof.Rows PySem.SeqAt
set_option Elab.async false
namespace Mine
set_option maxRecDepth 100000
def HP (env : Env) (H : Heap) (c : Cx) (x : Str) (P : VP) : Prop := env.scope.kind = .function ∧ ∃ v, Held env H x v ∧ P.ok c v
section
variable {W : Wd} {n : Nat} {H₀ H H' : Heap} {sb : Shared} {cb : Cx} {env : Env} {oc : List Addr} {V : Vars} {s : Shared} {c c' : Cx} {x : Str} {px : Pos} {P : VP} {scope : Scope} {cl : List (Str × Addr)} {C : Addr}
theorem HP.on (h : HP env H c x P) (k : HX H H') (l : Le c c') : HP env H' c' x P := let ⟨a, v, b, d⟩ := h; ⟨a, v, b.keep k, P.mono l d⟩
theorem HP.rd (h : HP env H c x P) (hn : (x == ("__classdict__" : Str)) = false := by decide) : Rd W env H c x P := let ⟨a, _, b, d⟩ := h; Rd.held a b d hn
theorem Frm.hp (f : Frm H₀ sb cb env oc V s c) (h : V x = some P) : HP env s.heap c x P := let ⟨_, v, b, d⟩ := f.vars x P h; ⟨f.eo.fn, v, b, d⟩
theorem HP.free {y : Str} {P' : VP} (bd : HP (cEnv scope cl env C) H' c' y P') (h : HP env H c x P) (k : HX H H') (l : Le c c') (hf : (cEnv scope cl env C).kindOf x = some .cell) (hl : (cEnv scope cl env C).cells.lookup x = env.cells.lookup x)
    (hk : (env.kindOf x == some .local) = false) : HP (cEnv scope cl env C) H' c' x P := by
  obtain ⟨_, v, b, d⟩ := h.on k l
  rcases b with ⟨b, _⟩ | ⟨_, a, e, z⟩
  · rw [b] at hk; cases hk
  · exact ⟨bd.1, v, .inr ⟨.inl hf, a, hl.trans e, z⟩, d⟩
theorem asgL (hk : scope.kind = .function) (hx : scope.names.lookup x = some .local) (C : Addr) :
    Asg W (.Name x px) (cEnv scope cl env C) C [] P (fun H c => HP (cEnv scope cl env C) H c x P) := by
  intro A E s c v _ ins ok z
  obtain ⟨⟨m, hm⟩, _⟩ := ok
  have hl : (cEnv scope cl env C).kindOf x = some .local := lookup_relabel_local hx
  refine wpAny_assign_Name (wpAny_storeName_local hl hm (fun h' hn' hs' => ?_) (by show (scope.kind == .class || (scope.kind == .module && _)) = false; rw [hk]; rfl))
  refine ⟨h', s.toks + 1, rfl, Nat.le_succ _, fun b o hb e => .of (hs'.extBut b o (fun q => hb (q ▸ List.mem_cons_self)) e), ⟨⟨_, hn'⟩, fun _ h => nomatch h⟩, ?_⟩
  exact ⟨hk, _, .inl ⟨hl, _, hn', if_pos rfl⟩, z⟩
theorem asgC (hk : scope.kind = .function) (C : Addr) (hx : (cEnv scope cl env C).kindOf x = some .cell) (hc : (cEnv scope cl env C).cells.lookup x = some (C + 1)) :
    Asg W (.Name x px) (cEnv scope cl env C) C [C + 1] P (fun H c => HP (cEnv scope cl env C) H c x P) := by
  intro A E s c v _ ins ok z
  obtain ⟨v₀, h₀⟩ := ok.2 (C + 1) (List.mem_singleton.mpr rfl)
  refine wpAny_assign_Name (wpAny_storeName_cell hk hx hc h₀ fun h' hc' hs' => ?_)
  refine ⟨h', s.toks, rfl, Nat.le_refl _, fun b o hb e => .of (hs'.extBut b o (fun q => hb (q ▸ List.mem_cons_of_mem _ (List.mem_singleton.mpr rfl))) e), ⟨?_, fun a ha => ?_⟩, ?_⟩
  · obtain ⟨m, hm⟩ := ok.1
    exact ⟨m, hm.sameBut hs' (Nat.ne_of_lt (Nat.lt_succ_self _))⟩
  · rw [List.mem_singleton.mp ha]; exact ⟨_, hc'⟩
  · exact ⟨hk, _, .inr ⟨.inl hx, _, hc, hc'⟩, z⟩
end
section
variable {W : Wd} {n : Nat} {env : Env} {H : Heap} {c : Cx} {e e₁ e₂ : Expr} {P P₁ P₂ : VP} {a b : Int} {pos : Pos}
theorem PE.itemI {l : List VP} {k : Int} (p₁ : PE W n env H c e₁ (ListV l)) (p₂ : PE W n env H c e₂ (IntV k)) (h0 : 0 ≤ k ∧ k < 2 ^ 63) (hx : l[k.toNat]? = some P)
    (hs : ∀ o i, subscripted e₂ false o i = operate [o, i] (getItem o i) := by intro _ _; rfl) : PE W n env H c (.Subscript e₁ e₂ pos) P := PE.item p₁ p₂ h0 hx (isI_v _) hs
theorem PE.modI (p₁ : PE W n env H c e₁ (IntV a)) (p₂ : PE W n env H c e₂ (IntV b)) (hb : b ≠ 0) : PE W n env H c (.BinOp e₁ .Mod e₂ pos) (IntV (a.fmod b)) := PE.mod p₁ p₂ hb
theorem PE.fdivI (p₁ : PE W n env H c e₁ (IntV a)) (p₂ : PE W n env H c e₂ (IntV b)) (hb : b ≠ 0 ∧ b.natAbs < 1073741824) : PE W n env H c (.BinOp e₁ .FloorDiv e₂ pos) (IntV (a.fdiv b)) := PE.fdiv p₁ p₂ hb
theorem PE.mulI (p₁ : PE W n env H c e₁ (IntV a)) (p₂ : PE W n env H c e₂ (IntV b)) (hb : IntMulOk a b) : PE W n env H c (.BinOp e₁ .Mult e₂ pos) (IntV (a * b)) := PE.mul p₁ p₂ hb
theorem PE.addI (p₁ : PE W n env H c e₁ (IntV a)) (p₂ : PE W n env H c e₂ (IntV b)) : PE W n env H c (.BinOp e₁ .Add e₂ pos) (IntV (a + b)) := PE.add p₁ p₂
theorem PE.subI (p₁ : PE W n env H c e₁ (IntV a)) (p₂ : PE W n env H c e₂ (IntV b)) : PE W n env H c (.BinOp e₁ .Sub e₂ pos) (IntV (a - b)) := PE.sub p₁ p₂
end
/-- the item of a list at an index within -/
theorem at_getD {α : Type} {l : List α} {k : Int} {d : α} {F : α → VP} (h : k.toNat < l.length) : (l.map F)[k.toNat]? = some (F (l.getD k.toNat d)) := by
  rw [List.getElem?_map, List.getD_eq_getElem?_getD, List.getElem?_eq_getElem h]; rfl
abbrev Line := Int × Int
def LineOk (l : Line) : Prop := (0 ≤ l.1 ∧ l.1 < 4) ∧ (0 ≤ l.2 ∧ l.2 < 4)
abbrev LinesV (l : List Line) : VP := ListV (l.map fun x => IntsV [x.1, x.2])
def paint4 (code : Int) : List Int := (rangeL 0 4).map fun i => (code.fdiv (4 ^ i.toNat)).fmod 4
def pat (p : List Int) (i : Int) : Int := p.getD i.toNat 0
def four1 (lines : List Line) (wishes : List Int) (code : Int) : Int :=
  1 - (((lines.filter fun l => pat (paint4 code) l.1 == pat (paint4 code) l.2).length : Int) + ((wishes.filter fun i => decide (1 < pat (paint4 code) i)).length : Int)).fmod 2 * 2
theorem take_sum {α : Type} {l : List α} {f : α → Int} {i : Nat} {a : α} (h : l[i]? = some a) : ((l.take (i + 1)).map f).sum = ((l.take i).map f).sum + f a := by
  rw [List.take_add_one, h]; simp
theorem range_mem {i : Int} {n : Nat} (h : i ∈ rangeL 0 n) : 0 ≤ i ∧ i < n := by
  unfold rangeL at h
  simp only [List.mem_map, List.mem_range] at h
  obtain ⟨a, h, rfl⟩ := h
  omega
section
variable {W : Wd} {n : Nat} {H₀ : Heap} {a : Addr} {pm code doc : Value} {mg mb : Str → Option Value}
theorem boot_range : bootBuiltins "range" = some (.type "range") := by decide +kernel
theorem boot_len : bootBuiltins "len" = some (.builtin "len") := by decide +kernel
theorem cl_four {lines : List Line} {wishes : List Int} (hl : ∀ l ∈ lines, LineOk l) (hw : ∀ i ∈ wishes, 0 ≤ i ∧ i < 4) (hz : lines.length ≤ 8 ∧ wishes.length ≤ 4) (G : Gl H₀ mg mb) (hr : mg "range" = none) (hn : mg "len" = none) (d : DefI H₀ a "_law_four" 13 pm code doc) :
    Cl W (n + 1) H₀ (.ref a) [LinesV lines, IntsV wishes] (IntV (((rangeL 0 64).map (four1 lines wishes)).sum)) := by
  refine Cl.of_def d G.nl (names := ["lines", "wishes"]) (by decide) rfl ?_ ?_ ?_ rfl rfl rfl ?_
  · intro vals hv
    match vals, hv with
    | [x, y], _ => rfl
  · decide
  · decide
  intro Hc L A E s c hH r f
  refine st_assign f r (P := IntV 0) PE.int (.inl rfl) rfl fun s₁ c₁ f₁ => ?_
  refine st_for (xs := rangeL 0 64) (F := IntV) (bind := fun i V => V.set "code" (IntV i)) (Inv := fun i => listV [("lines", LinesV lines), ("wishes", IntsV wishes), ("total", IntV ((((rangeL 0 64).take i).map (four1 lines wishes)).sum))]) (RP := fun _ _ => False)
    f₁ r (PE.call (Fn.blt G (hH.trans f₁.h0) ⟨rfl, rfl, rfl, rfl⟩ hr boot_range (.inr (.inl ⟨_, rfl⟩)) cl_range1) (.one (P := IntV 64) PE.int)) (iters_range (whole_name _ _) rfl (by decide) (by decide)) (fun i hi sb cb V s c v A E Q f ok k => frm_assign f ok (.inr rfl) fun s' f' => k s' c f') (VLe.le ⟨rfl, rfl, rfl, trivial⟩) ?_ (fun _ _ _ _ h => h.elim) ?_
  · intro i code hx s c Ex f le
    have hcode := range_mem (List.mem_of_getElem? hx)
    refine st_assign f r (P := IntsV (paint4 code)) ?_ (.inr rfl) rfl fun s₁ c₁ f₁ => ?_
    · refine (PE.comp (xs := rangeL 0 4) (F := IntV) (p := fun _ => true) (G := fun i => IntV ((code.fdiv (4 ^ i.toNat)).fmod 4)) (PE.call (Fn.blt G (hH.trans f.h0) ⟨rfl, rfl, rfl, rfl⟩ hr boot_range (.inr (.inl ⟨_, rfl⟩)) cl_range1) (.one (P := IntV 4) PE.int)) (iters_range (whole_name _ _) rfl (by decide) (by decide))
        rfl rfl (by decide) (cells0 fun _ => rfl) (fun a _ C => asgL rfl rfl C) (fun _ _ _ _ _ _ _ _ => .nil) ?_ (by decide)).eq ?_
      · intro j hj _ C H' c' hx' hl' bd
        have hj' := range_mem hj
        refine PE.modI (PE.fdivI (PE.name (bd.free (f.hp (P := IntV code) rfl) hx' hl' rfl rfl rfl).rd) (PE.pow PE.int (PE.name bd.rd) hj'.1 ?_) ?_) PE.int (by decide)
        · have : (Builtin.Int.intBits 4 : Int) = 3 := by decide
          rw [this]; omega
        · have h4 : j = 0 ∨ j = 1 ∨ j = 2 ∨ j = 3 := by omega
          rcases h4 with rfl | rfl | rfl | rfl <;> decide
      · rfl
    have hpl : (paint4 code).length = 4 := rfl
    refine st_assign f₁ r (P := IntV ((lines.filter fun l => pat (paint4 code) l.1 == pat (paint4 code) l.2).length : Int)) ?_ (.inl rfl) rfl fun s₂ c₂ f₂ => ?_
    · refine (PE.call (Fn.blt G (hH.trans f₁.h0) ⟨rfl, rfl, rfl, rfl⟩ hn boot_len (.inl ⟨_, rfl⟩) (cl_len ?_)) (.one (PE.comp (xs := lines) (F := fun x => IntsV [x.1, x.2]) (p := fun l => pat (paint4 code) l.1 == pat (paint4 code) l.2) (G := fun x => IntsV [x.1, x.2])
        (PE.name (f₁.rd rfl)) (iters_list (whole_name _ _)) rfl rfl (by decide) (cells0 fun _ => rfl) (fun a _ C => asgL rfl rfl C) (fun l hm C H' c' hx' hl' bd => ?_) (fun _ _ _ _ _ _ _ _ bd => PE.name bd.rd) (by omega)))).eq ?_
      · rw [List.length_map]; exact Nat.le_trans (List.length_filter_le _ _) (by omega)
      · have hm' := hl l hm
        have rp := (bd.free (f₁.hp (x := "paint") (P := IntsV (paint4 code)) rfl) hx' hl' rfl rfl rfl)
        refine .one (PT.cmp (PE.itemI (PE.name rp.rd) (PE.itemI (PE.name bd.rd) PE.int (by decide) rfl) ⟨hm'.1.1, by have := hm'.1.2; omega⟩ (at_getD (by have := hm'.1.2; omega))) (PE.itemI (PE.name rp.rd) (PE.itemI (PE.name bd.rd) PE.int (by decide) rfl) ⟨hm'.2.1, by have := hm'.2.2; omega⟩ (at_getD (by have := hm'.2.2; omega))) o_eq)
      · rw [List.length_map]
    refine st_aug f₂ r (P₀ := IntV ((lines.filter fun l => pat (paint4 code) l.1 == pat (paint4 code) l.2).length : Int)) (P₁ := IntV ((wishes.filter fun i => decide (1 < pat (paint4 code) i)).length : Int)) rfl ?_ o_iadd (.inl rfl) fun s₃ c₃ f₃ => ?_
    · refine (PE.call (Fn.blt G (hH.trans f₂.h0) ⟨rfl, rfl, rfl, rfl⟩ hn boot_len (.inl ⟨_, rfl⟩) (cl_len ?_)) (.one (PE.comp (xs := wishes) (F := IntV) (p := fun i => decide (1 < pat (paint4 code) i)) (G := IntV)
        (PE.name (f₂.rd rfl)) (iters_list (whole_name _ _)) rfl rfl (by decide) (cells0 fun _ => rfl) (fun a _ C => asgL rfl rfl C) (fun l hm C H' c' hx' hl' bd => ?_) (fun _ _ _ _ _ _ _ _ bd => PE.name bd.rd) (by omega)))).eq ?_
      · rw [List.length_map]; exact Nat.le_trans (List.length_filter_le _ _) (by omega)
      · have hm' := hw l hm
        have rp := (bd.free (f₂.hp (x := "paint") (P := IntsV (paint4 code)) rfl) hx' hl' rfl rfl rfl)
        refine .one (PT.cmp (PE.itemI (PE.name rp.rd) (PE.name bd.rd) ⟨hm'.1, by have := hm'.2; omega⟩ (at_getD (by have := hm'.2; omega))) PE.int o_gt)
      · rw [List.length_map]
    refine st_aug f₃ r (P₀ := IntV ((((rangeL 0 64).take i).map (four1 lines wishes)).sum)) (P₁ := IntV (four1 lines wishes code)) rfl ?_ o_iadd (.inl rfl) fun s₄ c₄ f₄ => st_end ⟨c₄, f₄.to _ ⟨rfl, rfl, ?_, trivial⟩⟩
    · exact PE.subI PE.int (PE.mulI (PE.modI (PE.name (f₃.rd rfl)) PE.int (by decide)) PE.int (IntMulOk.of_right (by decide)))
    · rw [take_sum hx]; rfl
  · intro s c f
    refine st_end (st_return f r (PE.name (f.rd (P := IntV (((rangeL 0 64).map (four1 lines wishes)).sum)) ?_)) fun v s' c' f' z => ⟨c', f'.nil, z⟩)
    rw [List.take_length]; rfl
end
end Mine

/-! ### G2 -/
open PySem PySem.W PyProof.Rows PySem.SeqAt
set_option Elab.async false
namespace Mine
set_option maxRecDepth 100000
structure Lib (H₀ : Heap) (mg mb : Str → Option Value) : Prop where
  G : Gl H₀ mg mb
  no : ∀ x ∈ (["len", "range", "sum", "hasattr", "enumerate", "ValueError", "zip"] : List Str), mg x = none
  fn : ∀ p ∈ ([(3, "parse257"), (5, "concat"), (6, "contains"), (7, "countOf"), (8, "indexOf"), (10, "_law_net"), (11, "_law_told"), (12, "_law_due"), (13, "_law_four"), (14, "law")] : List (Nat × Str)), ∃ a pm code doc, mg p.2 = some (.ref a) ∧ DefI H₀ a p.2 p.1 pm code doc
section
variable {W : Wd} {n : Nat} {env : Env} {H₀ H : Heap} {mg mb : Str → Option Value} {x : Str} {Ps : List VP} {P : VP} {c : Cx}
theorem Fn.lib (L : Lib H₀ mg mb) (hx : HX H₀ H) (he : EnvG env x) (i : Nat) (cl : ∀ a pm code doc, DefI H₀ a x i pm code doc → Cl W n H₀ (.ref a) Ps P)
    (hm : (i, x) ∈ ([(3, "parse257"), (5, "concat"), (6, "contains"), (7, "countOf"), (8, "indexOf"), (10, "_law_net"), (11, "_law_told"), (12, "_law_due"), (13, "_law_four"), (14, "law")] : List (Nat × Str)) := by decide) : Fn W n env H x Ps P := by
  obtain ⟨a, pm, code, doc, e, d⟩ := L.fn _ hm
  exact Fn.glob L.G hx he e d.callee (cl a pm code doc d)
theorem FnR.lib {cls : String} (L : Lib H₀ mg mb) (hx : HX H₀ H) (he : EnvG env x) (i : Nat) (cl : ∀ a pm code doc, DefI H₀ a x i pm code doc → Raises W n H₀ (.ref a) Ps cls)
    (hm : (i, x) ∈ ([(3, "parse257"), (5, "concat"), (6, "contains"), (7, "countOf"), (8, "indexOf"), (10, "_law_net"), (11, "_law_told"), (12, "_law_due"), (13, "_law_four"), (14, "law")] : List (Nat × Str)) := by decide) : FnR W n env H x Ps cls := by
  obtain ⟨a, pm, code, doc, e, d⟩ := L.fn _ hm
  exact FnR.glob L.G hx he e d.callee (cl a pm code doc d)
theorem boot_sum : bootBuiltins "sum" = some (.builtin "sum") := by decide +kernel
theorem fn_len {l : List VP} (L : Lib H₀ mg mb) (hx : HX H₀ H) (he : EnvG env "len") (hsz : l.length ≤ 100000) : Fn W n env H "len" [ListV l] (IntV l.length) := Fn.blt L.G hx he (L.no _ (by decide)) boot_len (.inl ⟨_, rfl⟩) (cl_len hsz)
theorem fn_sum {l : List Int} (L : Lib H₀ mg mb) (hx : HX H₀ H) (he : EnvG env "sum") : Fn W n env H "sum" [IntsV l] (IntW l.sum) := Fn.blt L.G hx he (L.no _ (by decide)) boot_sum (.inl ⟨_, rfl⟩) cl_sum
theorem fn_range {b : Int} (L : Lib H₀ mg mb) (hx : HX H₀ H) (he : EnvG env "range") : Fn W n env H "range" [IntV b] (RangeV 0 b) := Fn.blt L.G hx he (L.no _ (by decide)) boot_range (.inr (.inl ⟨_, rfl⟩)) cl_range1
end
theorem fmod_rng (a : Int) {b : Int} (h : 0 < b) : 0 ≤ a.fmod b ∧ a.fmod b < b := by
  rw [Int.fmod_eq_emod_of_nonneg _ (Int.le_of_lt h)]
  exact ⟨Int.emod_nonneg _ (Int.ne_of_gt h), Int.emod_lt_of_pos _ h⟩
/-- the marks that a line of the told text opens with -/
def toldM (lines : List Line) (wishes paint : List Int) (i : Int) : Nat :=
  (((lines.filter fun l => [l.1, l.2].contains i).map fun l => pat paint (l.1 + l.2 - i)).count (pat paint i)) + (if wishes.contains i then 1 else 0)
def letter (i : Int) : Nat := [97, 98, 99, 100].getD i.toNat 0
def toldT (lines : List Line) (wishes paint : List Int) (is : List Int) : List Nat := (is.map fun i => List.replicate (toldM lines wishes paint i) 34 ++ [letter i]).flatten
def tails : List (List Nat) := [[34, 32, 34, 105, 115, 34, 32, 105, 116], [34], []]
def tailOf (paint : List Int) : List Nat := tails.getD (paint.sum.fmod 3).toNat []
def told (lines : List Line) (wishes paint : List Int) : List Nat := prs (toldT lines wishes paint (rangeL 0 4) ++ tailOf paint)
theorem toldM_le {lines : List Line} {wishes paint : List Int} {i : Int} : toldM lines wishes paint i ≤ lines.length + 1 := by
  unfold toldM
  have h1 := List.count_le_length (a := pat paint i) (l := ((lines.filter fun l => [l.1, l.2].contains i).map fun l => pat paint (l.1 + l.2 - i)))
  rw [List.length_map] at h1
  have h2 := List.length_filter_le (fun l : Line => [l.1, l.2].contains i) lines
  split <;> omega
theorem toldT_len {lines : List Line} {wishes paint : List Int} : ∀ is : List Int, (toldT lines wishes paint is).length ≤ is.length * (lines.length + 2)
  | [] => by simp [toldT]
  | i :: is => by
    have ih := toldT_len (lines := lines) (wishes := wishes) (paint := paint) is
    have h := toldM_le (lines := lines) (wishes := wishes) (paint := paint) (i := i)
    unfold toldT at ih ⊢
    simp only [List.map_cons, List.flatten_cons, List.length_append, List.length_replicate, List.length_cons, List.length_nil]
    rw [Nat.add_mul]
    omega
theorem toldT_snoc {lines : List Line} {wishes paint : List Int} {l : List Int} {i : Nat} {a : Int} (h : l[i]? = some a) : toldT lines wishes paint (l.take (i + 1)) = toldT lines wishes paint (l.take i) ++ (List.replicate (toldM lines wishes paint a) 34 ++ [letter a]) := by
  unfold toldT
  rw [List.take_add_one, h]; simp
section
variable {W : Wd} {n : Nat} {H₀ : Heap} {a : Addr} {pm code doc : Value} {mg mb : Str → Option Value}
theorem cl_told {lines : List Line} {wishes paint : List Int} (hl : ∀ l ∈ lines, LineOk l) (hp : paint.length = 4 ∧ ∀ v ∈ paint, 0 ≤ v ∧ v ≤ 1) (hz : lines.length ≤ 8) (L : Lib H₀ mg mb) (d : DefI H₀ a "_law_told" 11 pm code doc) :
    Cl W (n + 2) H₀ (.ref a) [LinesV lines, IntsV wishes, IntsV paint] (StrV (S (told lines wishes paint))) := by
  refine Cl.of_def d L.G.nl (names := ["lines", "wishes", "paint"]) (by decide) rfl ?_ ?_ ?_ rfl rfl rfl ?_
  · intro vals hv
    match vals, hv with
    | [x, y, z], _ => rfl
  · decide
  · decide
  intro Hc Lc A E s c hH r f
  refine st_assign f r (P := StrV (S (50 :: 53 :: 55 :: 32 :: 34 :: toldT lines wishes paint []))) PE.str.sw (.inl rfl) rfl fun s₁ c₁ f₁ => ?_
  refine st_for (xs := rangeL 0 4) (F := IntV) (bind := fun i V => V.set "point" (IntV i)) (Inv := fun i => listV [("lines", LinesV lines), ("wishes", IntsV wishes), ("paint", IntsV paint), ("text", StrV (S (50 :: 53 :: 55 :: 32 :: 34 :: toldT lines wishes paint ((rangeL 0 4).take i))))]) (RP := fun _ _ => False)
    f₁ r (PE.call (fn_range L (hH.trans f₁.h0) ⟨rfl, rfl, rfl, rfl⟩) (.one (P := IntV 4) PE.int)) (iters_range (whole_name _ _) rfl (by decide) (by decide)) (fun i hi sb cb V s c v A E Q f ok k => frm_assign f ok (.inr rfl) fun s' f' => k s' c f') (VLe.le ⟨rfl, rfl, rfl, rfl, trivial⟩) ?_ (fun _ _ _ _ h => h.elim) ?_
  · intro i point hx s c Ex f le
    have hpt := range_mem (List.mem_of_getElem? hx)
    refine st_comp (xs := lines) (F := fun x => IntsV [x.1, x.2]) (p := fun l => [l.1, l.2].contains point) (G := fun l => IntV (pat paint (l.1 + l.2 - point))) f r
      (.of (PE.name (f.rd rfl)) (iters_list (whole_name _ _))) rfl rfl rfl (by decide) (cells0 fun _ => rfl) (fun a _ C => asgL rfl rfl C) ?_ ?_ (by omega) rfl fun s₁ c₁ f₁ => ?_
    · intro l hm C H' c' hx' hl' bd
      exact .one (PT.cmp (PE.name (bd.free (f.hp (x := "point") (P := IntV point) rfl) hx' hl' rfl rfl rfl).rd) (PE.name bd.rd) o_in)
    · intro l hm hin C H' c' hx' hl' bd
      have ok := hl l hm
      have hin' : point = l.1 ∨ point = l.2 := by simpa using hin
      have b1 : 0 ≤ l.1 + l.2 - point ∧ l.1 + l.2 - point < 4 := by
        obtain ⟨⟨_, _⟩, _, _⟩ := ok
        rcases hin' with h | h <;> constructor <;> omega
      exact PE.itemI (PE.name (bd.free (f.hp (x := "paint") (P := IntsV paint) rfl) hx' hl' rfl rfl rfl).rd) (PE.subI (PE.addI (PE.itemI (PE.name bd.rd) PE.int (by decide) rfl) (PE.itemI (PE.name bd.rd) PE.int (by decide) rfl)) (PE.name (bd.free (f.hp (x := "point") (P := IntV point) rfl) hx' hl' rfl rfl rfl).rd)) ⟨b1.1, by omega⟩ (at_getD (by omega))
    have hgp : pat paint point ∈ paint := by
      unfold pat
      rw [List.getD_eq_getElem?_getD, List.getElem?_eq_getElem (by omega)]
      exact List.getElem_mem _
    have hsm : smallInt (pat paint point) = true := by
      obtain ⟨q1, q2⟩ := hp.2 _ hgp
      unfold smallInt; simp; omega
    refine st_assign f₁ r (P := IntV (toldM lines wishes paint point : Int)) ?_ (.inl rfl) rfl fun s₂ c₂ f₂ => ?_
    · refine (PE.addI (b := if wishes.contains point then 1 else 0) (PE.call (Ps := [IntsV ((lines.filter fun l => [l.1, l.2].contains point).map fun l => pat paint (l.1 + l.2 - point)), IntV (pat paint point)]) (Fn.lib L (hH.trans f₁.h0) ⟨rfl, rfl, rfl, rfl⟩ 7 fun _ _ _ _ d => cl_countOf hsm L.G.nl d) (.two ?_ ?_)) ?_).eq ?_
      · refine (PE.name (f₁.rd rfl)).eq ?_
        show _ = ListV (List.map IntV (List.map _ _)); rw [List.map_map]; rfl
      · exact PE.itemI (PE.name (f₁.rd rfl)) (PE.name (f₁.rd rfl)) ⟨hpt.1, by omega⟩ (at_getD (by omega))
      · refine PE.ite (b := wishes.contains point) (PT.val (PE.call (Fn.lib L (hH.trans f₁.h0) ⟨rfl, rfl, rfl, rfl⟩ 6 fun _ _ _ _ d => cl_contains (l := wishes) (i := point) L.G.nl d) (.two (PE.name (f₁.rd rfl)) (PE.name (f₁.rd rfl))))) (fun h => ?_) fun h => ?_
        · rw [if_pos h]; exact PE.int
        · rw [if_neg (by rw [h]; decide)]; exact PE.int
      · unfold toldM
        split <;> rfl
    have hM := toldM_le (lines := lines) (wishes := wishes) (paint := paint) (i := point)
    refine st_assign f₂ r (P := StrV (S (50 :: 53 :: 55 :: 32 :: 34 :: toldT lines wishes paint ((rangeL 0 4).take (i + 1))))) ?_ (.inl rfl) rfl fun s₃ c₃ f₃ => st_end ⟨c₃, f₃.to _ ⟨rfl, rfl, rfl, rfl, trivial⟩⟩
    · have hT := toldT_len (lines := lines) (wishes := wishes) (paint := paint) ((rangeL 0 4).take i)
      have hT' : ((rangeL 0 4).take i).length ≤ 4 := by rw [List.length_take]; exact Nat.le_trans (Nat.min_le_right _ _) (by decide)
      have hT'' : (toldT lines wishes paint ((rangeL 0 4).take i)).length ≤ 4 * 10 := Nat.le_trans hT (Nat.mul_le_mul hT' (by omega))
      refine (PE.call (Ps := [StrV (S (50 :: 53 :: 55 :: 32 :: 34 :: toldT lines wishes paint ((rangeL 0 4).take i))), StrV (S (List.replicate (toldM lines wishes paint point) 34 ++ [letter point]))]) (Fn.lib L (hH.trans f₂.h0) ⟨rfl, rfl, rfl, rfl⟩ 5 fun _ _ _ _ d => cl_concat ?_ L.G (L.no _ (by decide)) d) (.two (PE.name (f₂.rd rfl)) ?_)).eq (by rw [S_append, toldT_snoc hx]; rfl)
      · rw [S_length, S_length]; simp only [List.length_cons, List.length_append, List.length_replicate, List.length_nil]; omega
      · rw [← S_append]
        refine PE.two (P₁ := StrV (S (List.replicate (toldM lines wishes paint point) 34))) (P₂ := StrT (S [letter point])) (PE.two (P₁ := StrT (S [34])) (P₂ := IntV (toldM lines wishes paint point : Int)) PE.str (PE.name (f₂.rd rfl)) (o_muls (c := 34) (k := toldM lines wishes paint point) (by omega))) (PE.itemS (P₁ := StrT (S [97, 98, 99, 100])) (x := [97, 98, 99, 100]) (k := point) (d := letter point) PE.str (PE.name (f₂.rd (P := IntV point) rfl)) ⟨hpt.1, by omega⟩ ?_) (o_adds (a := S (List.replicate (toldM lines wishes paint point) 34)) (b := S [letter point]) ?_)
        · have h4 : point = 0 ∨ point = 1 ∨ point = 2 ∨ point = 3 := by omega
          rcases h4 with rfl | rfl | rfl | rfl <;> rfl
        · rw [sizeLine_eq, S_length, S_length, List.length_replicate]; simp only [List.length_cons, List.length_nil]; omega
  · intro s c f
    have hk : 0 ≤ paint.sum.fmod 3 ∧ paint.sum.fmod 3 < 3 := fmod_rng _ (by decide)
    refine st_end (st_assign f r (P := StrV (S (tailOf paint))) ?_ (.inl rfl) rfl fun s₁ c₁ f₁ => ?_)
    · refine PE.sw (PE.item (k := paint.sum.fmod 3) (PE.list (Ps := tails.map fun x => StrT (S x)) (.cons rfl PE.str (.cons rfl PE.str (.cons rfl PE.str .nil))) (by decide)) (PE.mod (a := paint.sum) (b := 3) (PE.call (fn_sum L (hH.trans f.h0) ⟨rfl, rfl, rfl, rfl⟩) (.one (PE.name (f.rd rfl)))) PE.int (by decide)) ⟨hk.1, by omega⟩ (at_getD (F := fun x => StrT (S x)) (by show _ < 3; omega)))
    · have hT := toldT_len (lines := lines) (wishes := wishes) (paint := paint) (rangeL 0 4)
      have hT'' : (toldT lines wishes paint (rangeL 0 4)).length ≤ 4 * 10 := Nat.le_trans hT (Nat.mul_le_mul (by decide) (by omega))
      have hta : (tailOf paint).length ≤ 9 := by
        have h3 : paint.sum.fmod 3 = 0 ∨ paint.sum.fmod 3 = 1 ∨ paint.sum.fmod 3 = 2 := by omega
        unfold tailOf
        rcases h3 with h | h | h <;> rw [h] <;> decide
      refine st_return f₁ r (P := StrV (S (told lines wishes paint))) (PE.call (Fn.lib L (hH.trans f₁.h0) ⟨rfl, rfl, rfl, rfl⟩ 3 fun _ _ _ _ d => cl_parse (x := toldT lines wishes paint (rangeL 0 4) ++ tailOf paint) ?_ L.G (L.no _ (by decide)) d) (.one ((PE.call (Ps := [StrV (S (50 :: 53 :: 55 :: 32 :: 34 :: toldT lines wishes paint (rangeL 0 4))), StrV (S (tailOf paint))]) (P := StrV (S (50 :: 53 :: 55 :: 32 :: 34 :: toldT lines wishes paint (rangeL 0 4)) ++ S (tailOf paint))) (Fn.lib L (hH.trans f₁.h0) ⟨rfl, rfl, rfl, rfl⟩ 5 fun _ _ _ _ d => cl_concat ?_ L.G (L.no _ (by decide)) d) (.two (PE.name (f₁.rd ?_)) (PE.name (f₁.rd rfl)))).eq ?_))) fun v s' c' f' z => ⟨c', f'.nil, z⟩
      · rw [List.length_append]; omega
      · rw [S_length, S_length]; simp only [List.length_cons]; omega
      · rw [List.take_length]; rfl
      · rw [S_append]; rfl
end
end Mine

/-! ### G3 -/
open PySem PySem.W PyProof.Rows PySem.SeqAt
set_option Elab.async false
namespace Mine
set_option maxRecDepth 100000
def like (lines : List Line) (paint : List Int) : List Line := lines.filter fun l => pat paint l.1 == pat paint l.2
def dueM (lines : List Line) (wishes paint : List Int) (i : Int) : Nat := ((like lines paint).filter fun l => [l.1, l.2].contains i).length + (if wishes.contains i then 1 else 0)
def piece (lines : List Line) (wishes paint : List Int) (i : Int) : List Nat := List.replicate (dueM lines wishes paint i / 2) 34 ++ [letter i]
def odds (lines : List Line) (wishes paint : List Int) : List Int := (rangeL 0 4).map fun i => ((dueM lines wishes paint i : Nat) : Int).fmod 2
def due (lines : List Line) (wishes paint : List Int) : List Nat :=
  if 1 ∈ odds lines wishes paint then (((rangeL 0 4).take ((odds lines wishes paint).idxOf 1)).map (piece lines wishes paint)).flatten ++ List.replicate (dueM lines wishes paint (((odds lines wishes paint).idxOf 1 : Nat) : Int) / 2) 34
  else ((rangeL 0 4).map (piece lines wishes paint)).flatten
theorem fdiv2 (m : Nat) : (m : Int).fdiv 2 = ((m / 2 : Nat) : Int) := by
  rw [Int.fdiv_eq_ediv_of_nonneg _ (by decide)]; rfl
theorem dueM_le {lines : List Line} {wishes paint : List Int} {i : Int} : dueM lines wishes paint i ≤ lines.length + 1 := by
  unfold dueM like
  have h1 := List.length_filter_le (fun l : Line => [l.1, l.2].contains i) (lines.filter fun l => pat paint l.1 == pat paint l.2)
  have h2 := List.length_filter_le (fun l : Line => pat paint l.1 == pat paint l.2) lines
  split <;> omega
theorem pieces_len {lines : List Line} {wishes paint : List Int} (hz : lines.length ≤ 8) : ∀ is : List Int, ((is.map (piece lines wishes paint)).flatten).length ≤ is.length * 20
  | [] => by simp
  | i :: is => by
    have ih := pieces_len (wishes := wishes) (paint := paint) hz is
    have h := dueM_le (lines := lines) (wishes := wishes) (paint := paint) (i := i)
    simp only [List.map_cons, List.flatten_cons, List.length_append, List.length_cons]
    have : (piece lines wishes paint i).length ≤ 10 := by unfold piece; simp only [List.length_append, List.length_replicate, List.length_cons, List.length_nil]; omega
    rw [Nat.add_mul]; omega
section
variable {W : Wd} {n : Nat} {H₀ : Heap} {a : Addr} {pm code doc : Value} {mg mb : Str → Option Value}
set_option maxHeartbeats 2000000 in
theorem cl_due {lines : List Line} {wishes paint : List Int} (hl : ∀ l ∈ lines, LineOk l) (hp : paint.length = 4) (hz : lines.length ≤ 8) (L : Lib H₀ mg mb) (d : DefI H₀ a "_law_due" 12 pm code doc) :
    Cl W (n + 2) H₀ (.ref a) [LinesV lines, IntsV wishes, IntsV paint] (StrV (S (due lines wishes paint))) := by
  refine Cl.of_def d L.G.nl (names := ["lines", "wishes", "paint"]) (by decide) rfl ?_ ?_ ?_ rfl rfl rfl ?_
  · intro vals hv
    match vals, hv with
    | [x, y, z], _ => rfl
  · decide
  · decide
  intro Hc Lc A E s c hH r f
  refine st_assign f r (P := LinesV (like lines paint)) ?_ (.inr rfl) rfl fun s₁ c₁ f₁ => ?_
  · refine PE.comp (xs := lines) (F := fun x => IntsV [x.1, x.2]) (p := fun l => pat paint l.1 == pat paint l.2) (G := fun x => IntsV [x.1, x.2])
        (PE.name (f.rd rfl)) (iters_list (whole_name _ _)) rfl rfl (by decide) (cells0 fun _ => rfl) (fun a _ C => asgL rfl rfl C) (fun l hm C H' c' hx' hl' bd => ?_) (fun _ _ _ _ _ _ _ _ bd => PE.name bd.rd) (by omega)
    have hm' := hl l hm
    have rp := (bd.free (f.hp (x := "paint") (P := IntsV paint) rfl) hx' hl' rfl rfl rfl)
    exact .one (PT.cmp (PE.itemI (PE.name rp.rd) (PE.itemI (PE.name bd.rd) PE.int (by decide) rfl) ⟨hm'.1.1, by have := hm'.1.2; omega⟩ (at_getD (by have := hm'.1.2; omega))) (PE.itemI (PE.name rp.rd) (PE.itemI (PE.name bd.rd) PE.int (by decide) rfl) ⟨hm'.2.1, by have := hm'.2.2; omega⟩ (at_getD (by have := hm'.2.2; omega))) o_eq)
  have hlk : (like lines paint).length ≤ 8 := Nat.le_trans (List.length_filter_le _ _) hz
  refine st_assign f₁ r (P := IntsV ((rangeL 0 4).map fun i => (((like lines paint).filter fun l => [l.1, l.2].contains i).length : Int))) ?_ (.inr rfl) rfl fun s₂ c₂ f₂ => ?_
  · refine (PE.comp (xs := rangeL 0 4) (F := IntV) (p := fun _ => true) (G := fun i => IntV (((like lines paint).filter fun l => [l.1, l.2].contains i).length : Int)) (PE.call (fn_range L (hH.trans f₁.h0) ⟨rfl, rfl, rfl, rfl⟩) (.one (P := IntV 4) PE.int)) (iters_range (whole_name _ _) rfl (by decide) (by decide))
        rfl rfl (by decide) (cells1 fun _ => rfl) (fun a _ C => asgC rfl C rfl rfl) (fun _ _ _ _ _ _ _ _ => .nil) ?_ (by decide)).eq rfl
    intro j hj _ C H' c' hx' hl' bd
    have lk := bd.free (f₁.hp (x := "like") (P := LinesV (like lines paint)) rfl) hx' hl' rfl rfl rfl
    refine (PE.call (fn_len L ((hH.trans f₁.h0).trans hx') ⟨rfl, rfl, rfl, rfl⟩ ?_) (.one (PE.comp (xs := like lines paint) (F := fun x => IntsV [x.1, x.2]) (p := fun l => [l.1, l.2].contains j) (G := fun x => IntsV [x.1, x.2])
        (PE.name lk.rd) (iters_list (whole_name _ _)) rfl rfl (by decide) (cells0 fun _ => rfl) (fun a _ C => asgL rfl rfl C) (fun l hm C' H'' c'' hx'' hl'' bd' => ?_) (fun _ _ _ _ _ _ _ _ bd => PE.name bd.rd) (by omega)))).eq ?_
    · rw [List.length_map]; exact Nat.le_trans (List.length_filter_le _ _) (by omega)
    · exact .one (PT.cmp (PE.name (bd'.free bd hx'' hl'' rfl rfl rfl).rd) (PE.name bd'.rd) o_in)
    · rw [List.length_map]
  refine st_assign f₂ r (P := IntsV ((rangeL 0 4).map fun i => (dueM lines wishes paint i : Int))) ?_ (.inr rfl) rfl fun s₃ c₃ f₃ => ?_
  · refine (PE.comp (xs := rangeL 0 4) (F := IntV) (p := fun _ => true) (G := fun i => IntV (dueM lines wishes paint i : Int)) (PE.call (fn_range L (hH.trans f₂.h0) ⟨rfl, rfl, rfl, rfl⟩) (.one (P := IntV 4) PE.int)) (iters_range (whole_name _ _) rfl (by decide) (by decide))
        rfl rfl (by decide) (cells0 fun _ => rfl) (fun a _ C => asgL rfl rfl C) (fun _ _ _ _ _ _ _ _ => .nil) ?_ (by decide)).eq rfl
    intro j hj _ C H' c' hx' hl' bd
    have hj' := range_mem hj
    have mk := bd.free (f₂.hp (x := "marks") (P := IntsV ((rangeL 0 4).map fun i => (((like lines paint).filter fun l => [l.1, l.2].contains i).length : Int))) rfl) hx' hl' rfl rfl rfl
    have ws := bd.free (f₂.hp (x := "wishes") (P := IntsV wishes) rfl) hx' hl' rfl rfl rfl
    have it : ∀ {px py pz}, PE W (n + 1) _ H' c' (.Subscript (.Name "marks" px) (.Name "point" py) pz) (IntV (((like lines paint).filter fun l => [l.1, l.2].contains j).length : Int)) := PE.itemI (PE.name mk.rd) (PE.name bd.rd) ⟨hj'.1, by omega⟩ (by
      have h4 : j = 0 ∨ j = 1 ∨ j = 2 ∨ j = 3 := by omega
      rcases h4 with rfl | rfl | rfl | rfl <;> rfl)
    refine PE.ite (b := wishes.contains j) (PT.cmp (PE.name bd.rd) (PE.name ws.rd) o_in) (fun h => (PE.addI it PE.int).eq ?_) fun h => it.eq ?_
    · unfold dueM; rw [if_pos h]; rfl
    · unfold dueM; rw [if_neg (by rw [h]; decide)]; rfl
  refine st_comp (xs := rangeL 0 4) (F := IntV) (p := fun _ => true) (G := fun i => StrV (S (piece lines wishes paint i))) f₃ r (.of (PE.call (fn_range L (hH.trans f₃.h0) ⟨rfl, rfl, rfl, rfl⟩) (.one (P := IntV 4) PE.int)) (iters_range (whole_name _ _) rfl (by decide) (by decide)))
    rfl rfl rfl (by decide) (cells0 fun _ => rfl) (fun a _ C => asgL rfl rfl C) (fun _ _ _ _ _ _ _ _ => .nil) ?_ (by decide) rfl fun s₄ c₄ f₄ => ?_
  · intro j hj _ C H' c' hx' hl' bd
    have hj' := range_mem hj
    have hM := dueM_le (lines := lines) (wishes := wishes) (paint := paint) (i := j)
    have mk := bd.free (f₃.hp (x := "marks") (P := IntsV ((rangeL 0 4).map fun i => (dueM lines wishes paint i : Int))) rfl) hx' hl' rfl rfl rfl
    unfold piece
    rw [← S_append]
    refine PE.two (P₁ := StrV (S (List.replicate (dueM lines wishes paint j / 2) 34))) (P₂ := StrT (S [letter j])) (PE.two (P₁ := StrT (S [34])) (P₂ := IntV ((dueM lines wishes paint j / 2 : Nat) : Int)) PE.str ((PE.fdivI (PE.itemI (P := IntV (dueM lines wishes paint j : Int)) (PE.name mk.rd) (PE.name bd.rd) ⟨hj'.1, by omega⟩ ?_) PE.int (by decide)).eq (by rw [fdiv2])) (o_muls (c := 34) (k := dueM lines wishes paint j / 2) (by omega)))
      (PE.itemS (P₁ := StrT (S [97, 98, 99, 100])) (x := [97, 98, 99, 100]) (k := j) (d := letter j) PE.str (PE.name bd.rd) ⟨hj'.1, by omega⟩ ?_) (o_adds (a := S (List.replicate (dueM lines wishes paint j / 2) 34)) (b := S [letter j]) ?_)
    · have h4 : j = 0 ∨ j = 1 ∨ j = 2 ∨ j = 3 := by omega
      rcases h4 with rfl | rfl | rfl | rfl <;> rfl
    · have h4 : j = 0 ∨ j = 1 ∨ j = 2 ∨ j = 3 := by omega
      rcases h4 with rfl | rfl | rfl | rfl <;> rfl
    · rw [sizeLine_eq, S_length, S_length, List.length_replicate]; simp only [List.length_cons, List.length_nil]; omega
  have hlen : ((rangeL 0 4).map fun i => (dueM lines wishes paint i : Int)).length ≤ 100000 := by rw [List.length_map]; decide
  have olen : (odds lines wishes paint).length = 4 := by unfold odds; rw [List.length_map]; decide
  by_cases hm : (1 : Int) ∈ odds lines wishes paint
  · have hidx : (odds lines wishes paint).idxOf 1 < 4 := olen ▸ List.idxOf_lt_length_of_mem hm
    refine st_try_ok (st_assign f₄ r (P := IntV (((odds lines wishes paint).idxOf 1 : Nat) : Int)) (PE.call (Ps := [IntsV (odds lines wishes paint), IntV 1]) (Fn.lib L (hH.trans f₄.h0) ⟨rfl, rfl, rfl, rfl⟩ 8 fun _ _ _ _ d => cl_indexOf (by decide) hm L.G (L.no _ (by decide)) d) (.two
      ((PE.comp (xs := (rangeL 0 4).map fun i => (dueM lines wishes paint i : Int)) (F := IntV) (p := fun _ => true) (G := fun i => IntV (i.fmod 2)) (PE.name (f₄.rd rfl)) (iters_list (whole_name _ _))
        rfl rfl (by decide) (cells0 fun _ => rfl) (fun a _ C => asgL rfl rfl C) (fun _ _ _ _ _ _ _ _ => .nil) (fun j hj _ C H' c' hx' hl' bd => PE.modI (PE.name bd.rd) PE.int (by decide)) hlen).eq rfl) PE.int)) (.inl rfl) rfl fun s₅ c₅ f₅ => st_end ?_)
    have hM := dueM_le (lines := lines) (wishes := wishes) (paint := paint) (i := (((odds lines wishes paint).idxOf 1 : Nat) : Int))
    have hP := pieces_len (wishes := wishes) (paint := paint) hz ((rangeL 0 4).take ((odds lines wishes paint).idxOf 1))
    have hP' : ((rangeL 0 4).take ((odds lines wishes paint).idxOf 1)).length ≤ 4 := by rw [List.length_take]; exact Nat.le_trans (Nat.min_le_right _ _) (by decide)
    have hpl := Nat.le_trans hP (Nat.mul_le_mul_right 20 hP')
    refine st_return f₅ r (P := StrV (S (due lines wishes paint))) ?_ fun v s' c' f' z => ⟨c', f'.nil, z⟩
    have e1 : due lines wishes paint = (((rangeL 0 4).take ((odds lines wishes paint).idxOf 1)).map (piece lines wishes paint)).flatten ++ List.replicate (dueM lines wishes paint (((odds lines wishes paint).idxOf 1 : Nat) : Int) / 2) 34 := if_pos hm
    rw [e1, ← S_append]
    generalize (odds lines wishes paint).idxOf 1 = k at *
    refine PE.two (P₁ := StrV (S (((rangeL 0 4).take k).map (piece lines wishes paint)).flatten)) (P₂ := StrV (S (List.replicate (dueM lines wishes paint (k : Int) / 2) 34)))
      (PE.join (xs := ((rangeL 0 4).take k).map (piece lines wishes paint)) ((PE.upto (l := (rangeL 0 4).map fun i => StrV (S (piece lines wishes paint i))) (k := k) (PE.name (f₅.rd rfl)) (PE.name (f₅.rd (P := IntV (k : Int)) rfl)) (by rw [List.length_map]; decide)).eq ?_) (by omega))
      (PE.two (P₁ := StrT (S [34])) (P₂ := IntV ((dueM lines wishes paint (k : Int) / 2 : Nat) : Int)) PE.str ((PE.fdivI (PE.itemI (P := IntV (dueM lines wishes paint (k : Int) : Int)) (PE.name (f₅.rd (P := IntsV ((rangeL 0 4).map fun i => (dueM lines wishes paint i : Int))) rfl)) (PE.name (f₅.rd (P := IntV (k : Int)) rfl)) ⟨Int.natCast_nonneg k, by omega⟩ ?_) PE.int (by decide)).eq (by rw [fdiv2])) (o_muls (c := 34) (k := dueM lines wishes paint (k : Int) / 2) (by omega))) (o_adds ?_)
    · rw [← List.map_take, List.map_map]; rfl
    · have h4 : k = 0 ∨ k = 1 ∨ k = 2 ∨ k = 3 := by omega
      rcases h4 with rfl | rfl | rfl | rfl <;> rfl
    · rw [sizeLine_eq, S_length, S_length, List.length_replicate]; omega
  · refine st_try_raise f₄ r (Ps := [IntsV (odds lines wishes paint), IntV 1]) (FnR.lib L (hH.trans f₄.h0) ⟨rfl, rfl, rfl, rfl⟩ 8 fun _ _ _ _ d => rs_indexOf (by decide) hm L.G (L.no _ (by decide)) (L.no _ (by decide)) d) (.two
      ((PE.comp (xs := (rangeL 0 4).map fun i => (dueM lines wishes paint i : Int)) (F := IntV) (p := fun _ => true) (G := fun i => IntV (i.fmod 2)) (PE.name (f₄.rd rfl)) (iters_list (whole_name _ _))
        rfl rfl (by decide) (cells0 fun _ => rfl) (fun a _ C => asgL rfl rfl C) (fun _ _ _ _ _ _ _ _ => .nil) (fun j hj _ C H' c' hx' hl' bd => PE.modI (PE.name bd.rd) PE.int (by decide)) hlen).eq rfl) PE.int) (Bl.of L.G (hH.trans f₄.h0) ⟨rfl, rfl, rfl, rfl⟩ (L.no _ (by decide)) boot_ValueError) rfl ?_
    intro e s' c' f' Ex
    have hP := pieces_len (wishes := wishes) (paint := paint) hz (rangeL 0 4)
    have hP' : (rangeL 0 4).length * 20 ≤ 80 := by decide
    have e1 : due lines wishes paint = ((rangeL 0 4).map (piece lines wishes paint)).flatten := if_neg hm
    refine wpAny_execs_cons (wpAny_Return_some (join_eval (xs := (rangeL 0 4).map (piece lines wishes paint)) f'.ins (by omega) (fun s₀ hh hs ht => ?_) (fun v s'' c'' kk z => ⟨c'', (f'.step kk).nil, e1 ▸ z⟩) rfl rfl))
    have k0 : Kp s' c' s₀ c' := by rw [hs]; exact Kp.toks f'.ins ht
    have rd := f'.rd (W := W) (x := "pieces") (P := ListV ((rangeL 0 4).map fun i => StrV (S (piece lines wishes paint i)))) rfl
    refine wpAny_Name (wpAny_mono (rd _ _ s₀ c' k0.keep (Le.refl _)) (fun v s₁ hq => ?_) fun _ _ x => x)
    obtain ⟨rfl, ok⟩ := hq
    refine ⟨c', .refl k0.ins, ?_⟩
    rw [List.map_map]; exact ok
end
end Mine

/-! ### G4 -/
open PySem PySem.W PyProof.Rows PySem.SeqAt
set_option Elab.async false
namespace Mine
set_option maxRecDepth 100000
def nums (l : List Int) : List Int := ((l.take 8).map fun x => x.fmod 1000000) ++ ([1, 6, 2, 0] : List Int).drop ((l.take 8).map fun x => x.fmod 1000000).length
def lineOf (x : Int) : Line := (x.fmod 4, (x.fmod 4 + 1 + (x.fdiv 4).fmod 3).fmod 4)
def netL (l : List Int) : List Line := (nums l).map lineOf
def netW0 (l : List Int) : List Int := (rangeL 0 3).filter fun i => ((nums l).sum.fdiv (2 ^ i.toNat)).fmod 2 == 1
def netW (l : List Int) : List Int := if ((netW0 l).length : Int).fmod 2 == 1 then netW0 l ++ [3] else netW0 l
theorem filt_true {α : Type} (l : List α) : (l.filter fun _ => true) = l := List.filter_eq_self.mpr fun _ _ => rfl
theorem nums_len (l : List Int) : (nums l).length ≤ 8 := by
  unfold nums
  rw [List.length_append, List.length_drop, List.length_map, List.length_take]
  simp only [List.length_cons, List.length_nil]; omega
section
variable {W : Wd} {n : Nat} {H₀ : Heap} {a : Addr} {pm code doc : Value} {mg mb : Str → Option Value}
set_option maxHeartbeats 2000000 in
theorem cl_net {l : List Int} (hz : l.length ≤ 1000) (L : Lib H₀ mg mb) (d : DefI H₀ a "_law_net" 10 pm code doc) :
    Cl W (n + 1) H₀ (.ref a) [ListV (l.map IntW)] (TupV [LinesV (netL l), IntsV (netW l)]) := by
  refine Cl.of_def d L.G.nl (names := ["script"]) (by decide) rfl ?_ ?_ ?_ rfl rfl rfl ?_
  · intro vals hv
    match vals, hv with
    | [x], _ => rfl
  · decide
  · decide
  intro Hc Lc A E s c hH r f
  have hlt : ((l.take 8).map fun x => x.fmod 1000000).length ≤ 8 := by rw [List.length_map, List.length_take]; omega
  refine st_assign f r (P := IntsV ((l.take 8).map fun x => x.fmod 1000000)) ?_ (.inr rfl) rfl fun s₁ c₁ f₁ => ?_
  · refine (PE.comp (xs := l.take 8) (F := IntW) (p := fun _ => true) (G := fun x => IntV (x.fmod 1000000)) (P₀ := ListV ((l.take 8).map IntW)) ((PE.upto (l := l.map IntW) (k := 8) (P₂ := IntV 8) (PE.name (f.rd rfl)) PE.int (by rw [List.length_map]; omega)).eq (by rw [List.map_take])) (iters_list (whole_name _ _))
        rfl rfl (by decide) (cells0 fun _ => rfl) (fun a _ C => asgL rfl rfl C) (fun _ _ _ _ _ _ _ _ => .nil) (fun j hj _ C H' c' hx' hl' bd => PE.mod (a := j) (b := 1000000) (PE.name bd.rd) PE.int (by decide)) (by rw [List.length_take]; omega)).eq ?_
    rw [List.filter_eq_self.mpr (fun _ _ => rfl), IntsV, List.map_map]; rfl
  refine st_assign f₁ r (P := IntsV (nums l)) ?_ (.inr rfl) rfl fun s₂ c₂ f₂ => ?_
  · refine (PE.two (PE.name (f₁.rd (P := IntsV ((l.take 8).map fun x => x.fmod 1000000)) rfl)) (PE.from (l := ([1, 6, 2, 0] : List Int).map IntV) (k := ((l.take 8).map fun x => x.fmod 1000000).length) (P₂ := IntV ((((l.take 8).map fun x => x.fmod 1000000).map IntV).length : Int)) (PE.list (.cons rfl PE.int (.cons rfl PE.int (.cons rfl PE.int (.cons rfl PE.int .nil)))) (by decide)) (PE.call (fn_len L (hH.trans f₁.h0) ⟨rfl, rfl, rfl, rfl⟩ (by rw [List.length_map]; omega)) (.one (PE.name (f₁.rd rfl)))) (by decide) (by rw [List.length_map]; exact isI_v _)) (o_addl (by rw [List.length_map, List.length_drop]; simp only [List.length_map, List.length_cons, List.length_nil]; simp only [List.length_map] at hlt; omega))).eq ?_
    unfold nums
    rw [IntsV, List.map_append, List.map_drop]
  have hn := nums_len l
  refine st_comp (xs := nums l) (F := IntV) (p := fun _ => true) (G := fun x => IntsV [x.fmod 4, (x.fmod 4 + 1 + (x.fdiv 4).fmod 3).fmod 4]) f₂ r (.of (PE.name (f₂.rd rfl)) (iters_list (whole_name _ _)))
    rfl rfl rfl (by decide) (cells0 fun _ => rfl) (fun a _ C => asgL rfl rfl C) (fun _ _ _ _ _ _ _ _ => .nil) (fun j hj _ C H' c' hx' hl' bd => ?_) (by omega) rfl fun s₃ c₃ f₃ => ?_
  · exact PE.list (.cons rfl (PE.modI (PE.name bd.rd) PE.int (by decide)) (.cons rfl (PE.modI (PE.addI (PE.addI (PE.modI (PE.name bd.rd) PE.int (by decide)) PE.int) (PE.modI (PE.fdivI (PE.name bd.rd) PE.int (by decide)) PE.int (by decide))) PE.int (by decide)) .nil)) (by show 2 ≤ 1000; decide)
  refine st_comp_own (xs := rangeL 0 3) (F := IntV) (p := fun i => ((nums l).sum.fdiv (2 ^ i.toNat)).fmod 2 == 1) (G := IntV) f₃ r (.of (PE.call (fn_range L (hH.trans f₃.h0) ⟨rfl, rfl, rfl, rfl⟩) (.one (P := IntV 3) PE.int)) (iters_range (whole_name _ _) rfl (by decide) (by decide)))
    rfl rfl rfl (by decide) (cells0 fun _ => rfl) (fun a _ C => asgL rfl rfl C) (fun j hj C H' c' hx' hl' bd => ?_) (fun _ _ _ _ _ _ _ _ bd => PE.name bd.rd) (by decide) rfl fun s₄ c₄ D ys f₄ w ok => ?_
  · have hj' := range_mem hj
    refine .one (PT.cmp (PE.mod (a := (nums l).sum.fdiv (2 ^ j.toNat)) (b := 2) (PE.fdiv (a := (nums l).sum) (b := 2 ^ j.toNat) (PE.call (fn_sum (l := nums l) L ((hH.trans f₃.h0).trans hx') ⟨rfl, rfl, rfl, rfl⟩) (.one (PE.name (bd.free (f₃.hp (x := "numbers") (P := IntsV (nums l)) rfl) hx' hl' rfl rfl rfl).rd))) (PE.pow (a := 2) (b := j) PE.int (PE.name bd.rd) hj'.1 ?_) ?_) PE.int (by decide)) PE.int o_eq)
    · have : (Builtin.Int.intBits 2 : Int) = 2 := by decide
      rw [this]; omega
    · have h4 : j = 0 ∨ j = 1 ∨ j = 2 := by omega
      rcases h4 with rfl | rfl | rfl <;> decide
  have hw0 : (netW0 l).length ≤ 3 := Nat.le_trans (List.length_filter_le _ _) (by decide)
  have ok : AllOk c₄ ((netW0 l).map IntV) ys := ok
  have tt : netL l = (nums l).map lineOf := rfl
  refine st_if_own (b := ((netW0 l).length : Int).fmod 2 == 1) f₄ r w ok (y := "wishes") rfl (fun g => ?_) (fun hb s₅ c₅ f₅ w₅ ok₅ => ?_) (fun hb s₅ c₅ f₅ w₅ ok₅ => ?_)
  · refine PT.cmp (PE.modI ((PE.call (fn_len (l := (netW0 l).map IntV) L (hH.trans g.h0) ⟨rfl, rfl, rfl, rfl⟩ (by rw [List.length_map]; omega)) (.one (PE.name (g.rd rfl)))).eq (P' := IntV ((netW0 l).length : Int)) (by rw [List.length_map])) PE.int (by decide)) PE.int o_eq
  · refine st_append_own f₅ r w₅ (P := IntV 3) rfl PE.int (by have := ok₅.len; rw [List.length_map] at this; omega) rfl rfl rfl fun s₆ c₆ v f₆ w₆ le₆ ok₆ => st_end ?_
    have g := f₆.freeze (y := "wishes") (l := (netW l).map IntV) w₆ (by
      have e : netW l = netW0 l ++ [3] := if_pos hb
      rw [e, List.map_append]
      exact (ok₅.mono le₆).append (.cons ok₆ .nil)) rfl
    exact st_return g r (P := TupV [LinesV (netL l), IntsV (netW l)]) (PE.tup (.cons rfl ((PE.name (g.rd (P := ListV (((nums l).filter fun _ => true).map fun x => IntsV [x.fmod 4, (x.fmod 4 + 1 + (x.fdiv 4).fmod 3).fmod 4])) rfl)).eq (by rw [filt_true, LinesV, tt, List.map_map]; rfl)) (.cons rfl (PE.name (g.rd rfl)) .nil)) (by show 2 ≤ 1000; decide)) fun v s' c' f' z => ⟨c', f'.nil, z⟩
  · refine st_end ?_
    have g := f₅.freeze (y := "wishes") (l := (netW l).map IntV) w₅ (by
      have e : netW l = netW0 l := if_neg (by rw [hb]; decide)
      rw [e]; exact ok₅) rfl
    exact st_return g r (P := TupV [LinesV (netL l), IntsV (netW l)]) (PE.tup (.cons rfl ((PE.name (g.rd (P := ListV (((nums l).filter fun _ => true).map fun x => IntsV [x.fmod 4, (x.fmod 4 + 1 + (x.fdiv 4).fmod 3).fmod 4])) rfl)).eq (by rw [filt_true, LinesV, tt, List.map_map]; rfl)) (.cons rfl (PE.name (g.rd rfl)) .nil)) (by show 2 ≤ 1000; decide)) fun v s' c' f' z => ⟨c', f'.nil, z⟩
end
end Mine

/-! ### G5 -/
open PySem PySem.W PyProof.Rows PySem.SeqAt
set_option Elab.async false
namespace Mine
set_option maxRecDepth 100000
def paintOf (code : Int) : List Int := (rangeL 0 4).map fun i => (code.fdiv (2 ^ i.toNat)).fmod 2
def paints : List (List Int) := (rangeL 0 8).map paintOf
def hasD (x : List Nat) : Bool := x.contains 100
def signs (lines : List Line) : List Int := (paints.filter fun p => hasD (told lines [] p)).map fun p => 1 - ((told lines [] p).count 34 : Int).fmod 2 * 2
def held (lines : List Line) (wishes : List Int) : List Int := (paints.filter fun p => hasD (told lines wishes p)).map fun p => 1 - (((told lines wishes p).count 34 : Int) + (wishes.length : Int).fdiv 2).fmod 2 * 2
def found (lines : List Line) : List (List Int) := paints.filter fun p => hasD (told lines [] p)
def apart (lines : List Line) (wishes : List Int) : List Int := (found lines).map fun p => ((wishes.filter fun i => pat p i != pat ((found lines).getD 0 []) i).length : Int).fmod 2
structure PlainOk (lines : List Line) (wishes : List Int) : Prop where
  ln : ∀ l ∈ lines, LineOk l
  ws : ∀ i ∈ wishes, 0 ≤ i ∧ i < 4
  sz : lines.length ≤ 8 ∧ wishes.length ≤ 4
  told0 : ∀ p ∈ paints, told lines [] p = due lines [] p
  told1 : ∀ p ∈ paints, told lines wishes p = due lines wishes p
  asc : ∀ w, ∀ p ∈ paints, ∀ y ∈ told lines w p, y < 128
  sg : (signs lines).contains 1 ≠ (signs lines).contains (-1)
  four : ((rangeL 0 64).map (four1 lines wishes)).sum = 8 * (held lines wishes).sum
  fin : ((held lines wishes).length : Int) = if (apart lines wishes).contains 1 then 0 else ((found lines).length : Int)
theorem paints_ok : ∀ p ∈ paints, p.length = 4 ∧ ∀ v ∈ p, 0 ≤ v ∧ v ≤ 1 := by decide +kernel
theorem boot_zip : bootBuiltins "zip" = some (.type "zip") := by decide +kernel
theorem paints_len : paints.length = 8 := by decide
section
variable {W : Wd} {n : Nat} {H₀ : Heap} {a : Addr} {pm code doc : Value} {mg mb : Str → Option Value}
set_option maxHeartbeats 4000000 in
theorem cl_law {l : List Int} (hz : l.length ≤ 1000) (X : PlainOk (netL l) (netW l)) (L : Lib H₀ mg mb) (d : DefI H₀ a "law" 14 pm code doc) :
    Cl W (n + 3) H₀ (.ref a) [ListV (l.map IntW)] (BoolV true) := by
  refine Cl.of_def d L.G.nl (names := ["script"]) (by decide) rfl ?_ ?_ ?_ rfl rfl rfl ?_
  · intro vals hv
    match vals, hv with
    | [x], _ => rfl
  · decide
  · decide
  intro Hc Lc A E s c hH r f
  generalize hlines : netL l = lines at X
  generalize hwishes : netW l = wishes at X
  refine st_assign2 f r (P₁ := LinesV lines) (P₂ := IntsV wishes) (PE.call (Ps := [ListV (l.map IntW)]) (Fn.lib L (hH.trans f.h0) ⟨rfl, rfl, rfl, rfl⟩ 10 fun _ _ _ _ d => hlines ▸ hwishes ▸ cl_net hz L d) (.one (PE.name (f.rd rfl)))) (.inr rfl) (.inr rfl) rfl rfl fun s₁ c₁ f₁ => ?_
  refine st_comp (xs := rangeL 0 8) (F := IntV) (p := fun _ => true) (G := fun i => IntsV (paintOf i)) f₁ r (.of (PE.call (fn_range L (hH.trans f₁.h0) ⟨rfl, rfl, rfl, rfl⟩) (.one (P := IntV 8) PE.int)) (iters_range (whole_name _ _) rfl (by decide) (by decide)))
    rfl rfl rfl (by decide) (cells1 fun _ => rfl) (fun a _ C => asgC rfl C rfl rfl) (fun _ _ _ _ _ _ _ _ => .nil) (fun j hj _ C H' c' hx' hl' bd => ?_) (by decide) rfl fun s₂ c₂ f₂ => ?_
  · refine (PE.comp (xs := rangeL 0 4) (F := IntV) (p := fun _ => true) (G := fun i => IntV ((j.fdiv (2 ^ i.toNat)).fmod 2)) (PE.call (fn_range L ((hH.trans f₁.h0).trans hx') ⟨rfl, rfl, rfl, rfl⟩) (.one (P := IntV 4) PE.int)) (iters_range (whole_name _ _) rfl (by decide) (by decide))
        rfl rfl (by decide) (cells0 fun _ => rfl) (fun a _ C => asgL rfl rfl C) (fun _ _ _ _ _ _ _ _ => .nil) ?_ (by decide)).eq rfl
    intro i hi _ C' H'' c'' hx'' hl'' bd'
    have hi' := range_mem hi
    refine PE.modI (PE.fdivI (PE.name (bd'.free bd hx'' hl'' rfl rfl rfl).rd) (PE.pow (a := 2) (b := i) PE.int (PE.name bd'.rd) hi'.1 ?_) ?_) PE.int (by decide)
    · have : (Builtin.Int.intBits 2 : Int) = 2 := by decide
      rw [this]; omega
    · have h4 : i = 0 ∨ i = 1 ∨ i = 2 ∨ i = 3 := by omega
      rcases h4 with rfl | rfl | rfl | rfl <;> decide
  have pl : paints.length ≤ 100000 := by decide
  have f₂ : Frm Hc s c _ _ (listV [("lines", LinesV lines), ("wishes", IntsV wishes), ("paints", ListV (paints.map IntsV))]) s₂ c₂ := f₂.to _ ⟨rfl, rfl, rfl, trivial⟩
  -- names
  refine st_comp (xs := paints) (F := IntsV) (p := fun _ => true) (G := fun p => StrV (S (told lines [] p))) f₂ r (.of (PE.name (f₂.rd rfl)) (iters_list (whole_name _ _)))
    rfl rfl rfl (by decide) (cells0 fun _ => rfl) (fun a _ C => asgL rfl rfl C) (fun _ _ _ _ _ _ _ _ => .nil) (fun p hp _ C H' c' hx' hl' bd => PE.call (Ps := [LinesV lines, IntsV [], IntsV p]) (Fn.lib L ((hH.trans f₂.h0).trans hx') ⟨rfl, rfl, rfl, rfl⟩ 11 fun _ _ _ _ d => cl_told X.ln (paints_ok p hp) X.sz.1 L d)
      (.cons rfl (PE.name (bd.free (f₂.hp (x := "lines") (P := LinesV lines) rfl) hx' hl' rfl rfl rfl).rd) (.cons rfl PE.nil (.cons rfl (PE.name bd.rd) .nil)))) pl rfl fun s₃ c₃ f₃ => ?_
  refine st_comp (xs := paints) (F := IntsV) (p := fun _ => true) (G := fun p => StrV (S (told lines wishes p))) f₃ r (.of (PE.name (f₃.rd rfl)) (iters_list (whole_name _ _)))
    rfl rfl rfl (by decide) (cells0 fun _ => rfl) (fun a _ C => asgL rfl rfl C) (fun _ _ _ _ _ _ _ _ => .nil) (fun p hp _ C H' c' hx' hl' bd => PE.call (Ps := [LinesV lines, IntsV wishes, IntsV p]) (Fn.lib L ((hH.trans f₃.h0).trans hx') ⟨rfl, rfl, rfl, rfl⟩ 11 fun _ _ _ _ d => cl_told X.ln (paints_ok p hp) X.sz.1 L d)
      (.cons rfl (PE.name (bd.free (f₃.hp (x := "lines") (P := LinesV lines) rfl) hx' hl' rfl rfl rfl).rd) (.cons rfl (PE.name (bd.free (f₃.hp (x := "wishes") (P := IntsV wishes) rfl) hx' hl' rfl rfl rfl).rd) (.cons rfl (PE.name bd.rd) .nil)))) pl rfl fun s₄ c₄ f₄ => ?_
  have f₄ : Frm Hc s c _ _ (listV [("lines", LinesV lines), ("wishes", IntsV wishes), ("paints", ListV (paints.map IntsV)), ("names", ListV (paints.map fun p => StrV (S (told lines [] p)))), ("wished", ListV (paints.map fun p => StrV (S (told lines wishes p))))]) s₄ c₄ := f₄.to _ ⟨rfl, rfl, rfl, rfl, rfl, trivial⟩
  refine st_if (b := false) f₄ r ((PT.cmp (P₁ := ListV ((paints.map fun p => S (told lines [] p)).map StrV)) (P₂ := ListV ((paints.map fun p => S (due lines [] p)).map StrV)) ((PE.name (f₄.rd rfl)).eq (by rw [List.map_map]; rfl)) ((PE.comp (xs := paints) (F := IntsV) (p := fun _ => true) (G := fun p => StrV (S (due lines [] p))) (PE.name (f₄.rd rfl)) (iters_list (whole_name _ _))
    rfl rfl (by decide) (cells0 fun _ => rfl) (fun a _ C => asgL rfl rfl C) (fun _ _ _ _ _ _ _ _ => .nil) (fun p hp _ C H' c' hx' hl' bd => PE.call (Ps := [LinesV lines, IntsV [], IntsV p]) (Fn.lib L ((hH.trans f₄.h0).trans hx') ⟨rfl, rfl, rfl, rfl⟩ 12 fun _ _ _ _ d => cl_due X.ln (paints_ok p hp).1 X.sz.1 L d)
      (.cons rfl (PE.name (bd.free (f₄.hp (x := "lines") (P := LinesV lines) rfl) hx' hl' rfl rfl rfl).rd) (.cons rfl PE.nil (.cons rfl (PE.name bd.rd) .nil)))) pl).eq (by rw [filt_true, List.map_map]; rfl)) o_nel).eq (by rw [List.map_congr_left (fun p hp => congrArg S (X.told0 p hp))]; exact bne_self_eq_false _)) (fun h => by cases h) fun _ s₅ c₅ f₅ => st_end ?_
  refine st_if (b := false) f₅ r ((PT.cmp (P₁ := ListV ((paints.map fun p => S (told lines wishes p)).map StrV)) (P₂ := ListV ((paints.map fun p => S (due lines wishes p)).map StrV)) ((PE.name (f₅.rd rfl)).eq (by rw [List.map_map]; rfl)) ((PE.comp (xs := paints) (F := IntsV) (p := fun _ => true) (G := fun p => StrV (S (due lines wishes p))) (PE.name (f₅.rd rfl)) (iters_list (whole_name _ _))
    rfl rfl (by decide) (cells0 fun _ => rfl) (fun a _ C => asgL rfl rfl C) (fun _ _ _ _ _ _ _ _ => .nil) (fun p hp _ C H' c' hx' hl' bd => PE.call (Ps := [LinesV lines, IntsV wishes, IntsV p]) (Fn.lib L ((hH.trans f₅.h0).trans hx') ⟨rfl, rfl, rfl, rfl⟩ 12 fun _ _ _ _ d => cl_due X.ln (paints_ok p hp).1 X.sz.1 L d)
      (.cons rfl (PE.name (bd.free (f₅.hp (x := "lines") (P := LinesV lines) rfl) hx' hl' rfl rfl rfl).rd) (.cons rfl (PE.name (bd.free (f₅.hp (x := "wishes") (P := IntsV wishes) rfl) hx' hl' rfl rfl rfl).rd) (.cons rfl (PE.name bd.rd) .nil)))) pl).eq (by rw [filt_true, List.map_map]; rfl)) o_nel).eq (by rw [List.map_congr_left (fun p hp => congrArg S (X.told1 p hp))]; exact bne_self_eq_false _)) (fun h => by cases h) fun _ s₆ c₆ f₆ => st_end ?_
  refine st_comp (xs := paints) (F := fun p => StrV (S (told lines [] p))) (p := fun p => hasD (told lines [] p)) (G := fun p => IntV (1 - ((told lines [] p).count 34 : Int).fmod 2 * 2)) f₆ r (.of (PE.name (f₆.rd rfl)) (iters_list (whole_name _ _)))
    rfl rfl rfl (by decide) (cells0 fun _ => rfl) (fun a _ C => asgL rfl rfl C)
    (fun p hp C H' c' hx' hl' bd => .one (PT.val (PE.call (Ps := [StrV (S (told lines [] p)), StrT (S [100])]) (Fn.lib L ((hH.trans f₆.h0).trans hx') ⟨rfl, rfl, rfl, rfl⟩ 6 fun _ _ _ _ d => cl_containsS L.G.nl d) (.two (PE.name bd.rd) PE.str))))
    (fun p hp _ C H' c' hx' hl' bd => PE.subI PE.int (PE.mulI (PE.modI (PE.call (Ps := [StrV (S (told lines [] p)), StrT (S [34])]) (Fn.lib L ((hH.trans f₆.h0).trans hx') ⟨rfl, rfl, rfl, rfl⟩ 7 fun _ _ _ _ d => cl_countOfS (X.asc _ p hp) L.G.booked L.G.nl d) (.two (PE.name bd.rd) PE.str)) PE.int (by decide)) PE.int (IntMulOk.of_right (by decide)))) pl rfl fun s₇ c₇ f₇ => ?_
  refine st_if (b := false) f₇ r ((PT.cmp (P₁ := BoolV ((signs lines).contains 1)) (P₂ := BoolV ((signs lines).contains (-1)))
      (PE.call (Ps := [IntsV (signs lines), IntV 1]) (Fn.lib L (hH.trans f₇.h0) ⟨rfl, rfl, rfl, rfl⟩ 6 fun _ _ _ _ d => cl_contains L.G.nl d) (.two ((PE.name (f₇.rd rfl)).eq (by unfold signs; rw [IntsV, List.map_map]; rfl)) PE.int))
      (PE.call (Ps := [IntsV (signs lines), IntV (-1)]) (Fn.lib L (hH.trans f₇.h0) ⟨rfl, rfl, rfl, rfl⟩ 6 fun _ _ _ _ d => cl_contains L.G.nl d) (.two ((PE.name (f₇.rd rfl)).eq (by unfold signs; rw [IntsV, List.map_map]; rfl)) (PE.neg (a := 1) PE.int))) o_eqb).eq (by rw [beq_eq_false_iff_ne]; exact X.sg)) (fun h => by cases h) fun _ s₈ c₈ f₈ => st_end ?_
  have hwl : wishes.length ≤ 100000 := by have := X.sz.2; omega
  refine st_comp (xs := paints) (F := fun p => StrV (S (told lines wishes p))) (p := fun p => hasD (told lines wishes p)) (G := fun p => IntV (1 - (((told lines wishes p).count 34 : Int) + (wishes.length : Int).fdiv 2).fmod 2 * 2)) f₈ r (.of (PE.name (f₈.rd rfl)) (iters_list (whole_name _ _)))
    rfl rfl rfl (by decide) (cells0 fun _ => rfl) (fun a _ C => asgL rfl rfl C)
    (fun p hp C H' c' hx' hl' bd => .one (PT.val (PE.call (Ps := [StrV (S (told lines wishes p)), StrT (S [100])]) (Fn.lib L ((hH.trans f₈.h0).trans hx') ⟨rfl, rfl, rfl, rfl⟩ 6 fun _ _ _ _ d => cl_containsS L.G.nl d) (.two (PE.name bd.rd) PE.str))))
    (fun p hp _ C H' c' hx' hl' bd => PE.subI PE.int (PE.mulI (PE.modI (PE.addI (PE.call (Ps := [StrV (S (told lines wishes p)), StrT (S [34])]) (Fn.lib L ((hH.trans f₈.h0).trans hx') ⟨rfl, rfl, rfl, rfl⟩ 7 fun _ _ _ _ d => cl_countOfS (X.asc _ p hp) L.G.booked L.G.nl d) (.two (PE.name bd.rd) PE.str))
      (PE.fdivI ((PE.call (fn_len L ((hH.trans f₈.h0).trans hx') ⟨rfl, rfl, rfl, rfl⟩ (by rw [List.length_map]; exact hwl)) (.one (PE.name (bd.free (f₈.hp (x := "wishes") (P := IntsV wishes) rfl) hx' hl' rfl rfl rfl).rd))).eq (by rw [List.length_map])) PE.int (by decide))) PE.int (by decide)) PE.int (IntMulOk.of_right (by decide)))) pl rfl fun s₉ c₉ f₉ => ?_
  have hheld : ListV ((paints.filter fun p => hasD (told lines wishes p)).map fun p => IntV (1 - (((told lines wishes p).count 34 : Int) + (wishes.length : Int).fdiv 2).fmod 2 * 2)) = IntsV (held lines wishes) := by unfold held; rw [IntsV, List.map_map]; rfl
  refine st_if (b := false) f₉ r ((PT.cmp (P₁ := IntV (((rangeL 0 64).map (four1 lines wishes)).sum)) (P₂ := IntV (8 * (held lines wishes).sum)) (PE.call (Ps := [LinesV lines, IntsV wishes]) (Fn.lib L (hH.trans f₉.h0) ⟨rfl, rfl, rfl, rfl⟩ 13 fun _ _ _ _ d => cl_four X.ln X.ws X.sz L.G (L.no _ (by decide)) (L.no _ (by decide)) d) (.two (PE.name (f₉.rd rfl)) (PE.name (f₉.rd rfl))))
    (PE.mul (a := 8) (b := (held lines wishes).sum) PE.int (PE.call (fn_sum L (hH.trans f₉.h0) ⟨rfl, rfl, rfl, rfl⟩) (.one ((PE.name (f₉.rd rfl)).eq hheld))) (IntMulOk.of_left (by decide))) o_ne).eq (by rw [X.four]; exact bne_self_eq_false _)) (fun h => by cases h) fun _ s₁₀ c₁₀ f₁₀ => st_end ?_
  refine st_assign f₁₀ r (P := ListV ((found lines).map IntsV)) ?_ (.inr rfl) rfl fun s₁₁ c₁₁ f₁₁ => ?_
  · refine PE.compI (xs := paints) (F := fun p => TupV [StrV (S (told lines [] p)), IntsV p]) (p := fun p => hasD (told lines [] p)) (G := IntsV)
      (IterE.zip (l₁ := paints.map fun p => StrV (S (told lines [] p))) (l₂ := paints.map IntsV) (Bl.of L.G (hH.trans f₁₀.h0) ⟨rfl, rfl, rfl, rfl⟩ (L.no _ (by decide)) boot_zip) (PE.name (f₁₀.rd rfl)) (PE.name (f₁₀.rd rfl)))
      rfl rfl (by decide) (cells0 fun _ => rfl) (fun a _ C => asg2_local rfl rfl rfl (by decide) C)
      (fun p hp C H' c' hx' hl' bd => .one (PT.val (PE.call (Ps := [StrV (S (told lines [] p)), StrT (S [100])]) (Fn.lib L ((hH.trans f₁₀.h0).trans hx') ⟨rfl, rfl, rfl, rfl⟩ 6 fun _ _ _ _ d => cl_containsS L.G.nl d) (.two (PE.name bd.1) PE.str))))
      (fun p hp _ C H' c' hx' hl' bd => PE.name bd.2) pl
  have hfl : (found lines).length ≤ 8 := Nat.le_trans (List.length_filter_le _ _) (by decide)
  have hfok : ∀ p ∈ found lines, p.length = 4 := fun p hp => (paints_ok p (List.mem_filter.mp hp).1).1
  refine st_comp (xs := found lines) (F := IntsV) (p := fun _ => true) (G := fun p => IntV (((wishes.filter fun i => pat p i != pat ((found lines).getD 0 []) i).length : Int).fmod 2)) f₁₁ r (.of (PE.name (f₁₁.rd rfl)) (iters_list (whole_name _ _)))
    rfl rfl rfl (by decide) (cells1 fun _ => rfl) (fun a _ C => asgC rfl C rfl rfl) (fun _ _ _ _ _ _ _ _ => .nil) (fun p hp _ C H' c' hx' hl' bd => ?_) (by omega) rfl fun s₁₂ c₁₂ f₁₂ => ?_
  · have h0 : 0 < (found lines).length := List.length_pos_of_mem hp
    have hq : ((found lines).getD 0 []).length = 4 := hfok _ (by rw [List.getD_eq_getElem?_getD, List.getElem?_eq_getElem h0]; exact List.getElem_mem _)
    have hpl := hfok p hp
    refine PE.modI ((PE.call (fn_len (l := (wishes.filter fun i => pat p i != pat ((found lines).getD 0 []) i).map IntV) L ((hH.trans f₁₁.h0).trans hx') ⟨rfl, rfl, rfl, rfl⟩ (by rw [List.length_map]; exact Nat.le_trans (List.length_filter_le _ _) hwl)) (.one (PE.comp (xs := wishes) (F := IntV) (p := fun i => pat p i != pat ((found lines).getD 0 []) i) (G := IntV)
      (PE.name (bd.free (f₁₁.hp (x := "wishes") (P := IntsV wishes) rfl) hx' hl' rfl rfl rfl).rd) (iters_list (whole_name _ _)) rfl rfl (by decide) (cells0 fun _ => rfl) (fun a _ C => asgL rfl rfl C) (fun i hi C' H'' c'' hx'' hl'' bd' => ?_) (fun _ _ _ _ _ _ _ _ bd => PE.name bd.rd) hwl))).eq (by rw [List.length_map])) PE.int (by decide)
    have hi' := X.ws i hi
    exact .one (PT.cmp (PE.itemI (PE.name (bd'.free bd hx'' hl'' rfl rfl rfl).rd) (PE.name bd'.rd) ⟨hi'.1, by omega⟩ (at_getD (by omega)))
      (PE.itemI (PE.itemI (PE.name (bd'.free (bd.free (f₁₁.hp (x := "found") (P := ListV ((found lines).map IntsV)) rfl) hx' hl' rfl rfl rfl) hx'' hl'' rfl rfl rfl).rd) PE.int (by decide) (at_getD (k := 0) (d := []) h0)) (PE.name bd'.rd) ⟨hi'.1, by omega⟩ (at_getD (l := (found lines).getD 0 []) (by omega))) o_ne)
  have hap : ListV (((found lines).filter fun _ => true).map fun p => IntV (((wishes.filter fun i => pat p i != pat ((found lines).getD 0 []) i).length : Int).fmod 2)) = IntsV (apart lines wishes) := by rw [filt_true]; unfold apart; rw [IntsV, List.map_map]; rfl
  have hhl : (held lines wishes).length ≤ 100000 := by
    unfold held; rw [List.length_map]; exact Nat.le_trans (List.length_filter_le _ _) (by decide)
  refine st_return f₁₂ r (P := BoolV true) ((PE.cmp (P₁ := IntV ((held lines wishes).length : Int)) (P₂ := IntV (if (apart lines wishes).contains 1 then 0 else ((found lines).length : Int)))
    ((PE.call (fn_len (l := (held lines wishes).map IntV) L (hH.trans f₁₂.h0) ⟨rfl, rfl, rfl, rfl⟩ (by rw [List.length_map]; exact hhl)) (.one ((PE.name (f₁₂.rd rfl)).eq hheld))).eq (by rw [List.length_map]))
    (PE.ite (b := (apart lines wishes).contains 1) (PT.cmp PE.int ((PE.name (f₁₂.rd rfl)).eq hap) o_in) (fun h => by rw [if_pos h]; exact PE.int) (fun h => by
      rw [if_neg (by rw [h]; decide)]
      exact (PE.call (fn_len (l := (found lines).map IntsV) L (hH.trans f₁₂.h0) ⟨rfl, rfl, rfl, rfl⟩ (by rw [List.length_map]; omega)) (.one (PE.name (f₁₂.rd rfl)))).eq (by rw [List.length_map]))) o_eq).eq (by rw [← X.fin, beq_self_eq_true])) fun v s' c' f' z => ⟨c', f'.nil, z⟩
end
end Mine

/-! ### P1 -/
open PySem PySem.W PyProof.Rows PySem.SeqAt
set_option Elab.async false
namespace Mine
set_option maxRecDepth 100000
/-- parity of how many lines meet a test -/
def Pq (q : Line → Bool) (ls : List Line) : Bool := (ls.filter q).length % 2 == 1
theorem odd_succ (n : Nat) : ((n + 1) % 2 == 1) = !(n % 2 == 1) := by
  rcases Nat.mod_two_eq_zero_or_one n with h | h
  · have : (n + 1) % 2 = 1 := by omega
    rw [h, this]; rfl
  · have : (n + 1) % 2 = 0 := by omega
    rw [h, this]; rfl
theorem Pq_cons (q : Line → Bool) (l : Line) (ls : List Line) : Pq q (l :: ls) = (q l ^^ Pq q ls) := by
  unfold Pq
  rw [List.filter_cons]
  cases h : q l
  · simp
  · simp only [if_true, List.length_cons, odd_succ, Bool.true_xor]
def isE (a b : Int) (l : Line) : Bool := l == (a, b) || l == (b, a)
structure Six where
  a : Bool
  b : Bool
  c : Bool
  d : Bool
  e : Bool
  f : Bool
def six (ls : List Line) : Six := ⟨Pq (isE 0 1) ls, Pq (isE 0 2) ls, Pq (isE 0 3) ls, Pq (isE 1 2) ls, Pq (isE 1 3) ls, Pq (isE 2 3) ls⟩
def xr (x : Six) (q : Line → Bool) : Bool := (x.a && q (0, 1)) ^^ ((x.b && q (0, 2)) ^^ ((x.c && q (0, 3)) ^^ ((x.d && q (1, 2)) ^^ ((x.e && q (1, 3)) ^^ (x.f && q (2, 3))))))
def LineGood (l : Line) : Prop := LineOk l ∧ l.1 ≠ l.2
theorem good_cases {l : Line} (h : LineGood l) : l = (0, 1) ∨ l = (1, 0) ∨ l = (0, 2) ∨ l = (2, 0) ∨ l = (0, 3) ∨ l = (3, 0) ∨ l = (1, 2) ∨ l = (2, 1) ∨ l = (1, 3) ∨ l = (3, 1) ∨ l = (2, 3) ∨ l = (3, 2) := by
  obtain ⟨a, b⟩ := l
  obtain ⟨⟨⟨h1, h2⟩, h3, h4⟩, h5⟩ := h
  simp only [Prod.mk.injEq]
  simp only at h1 h2 h3 h4 h5
  omega
def Six.add (x y : Six) : Six := ⟨x.a ^^ y.a, x.b ^^ y.b, x.c ^^ y.c, x.d ^^ y.d, x.e ^^ y.e, x.f ^^ y.f⟩
theorem xr_add (x y : Six) (q : Line → Bool) : xr (x.add y) q = (xr x q ^^ xr y q) := by
  unfold xr Six.add
  simp only [Bool.and_xor_distrib_right]
  generalize (x.a && q (0, 1)) = a1; generalize (y.a && q (0, 1)) = b1
  generalize (x.b && q (0, 2)) = a2; generalize (y.b && q (0, 2)) = b2
  generalize (x.c && q (0, 3)) = a3; generalize (y.c && q (0, 3)) = b3
  generalize (x.d && q (1, 2)) = a4; generalize (y.d && q (1, 2)) = b4
  generalize (x.e && q (1, 3)) = a5; generalize (y.e && q (1, 3)) = b5
  generalize (x.f && q (2, 3)) = a6; generalize (y.f && q (2, 3)) = b6
  have h : ∀ a b c d : Bool, ((a ^^ b) ^^ (c ^^ d)) = ((a ^^ c) ^^ (b ^^ d)) := by decide
  rw [h a1 _ b1, h a2 _ b2, h a3 _ b3, h a4 _ b4, h a5 _ b5]
def six1 (l : Line) : Six := ⟨isE 0 1 l, isE 0 2 l, isE 0 3 l, isE 1 2 l, isE 1 3 l, isE 2 3 l⟩
theorem six_cons (l : Line) (ls : List Line) : six (l :: ls) = (six1 l).add (six ls) := by
  unfold six six1 Six.add; simp only [Pq_cons]
theorem xr_one {q : Line → Bool} (hq : ∀ a b, q (a, b) = q (b, a)) {l : Line} (h : LineGood l) : xr (six1 l) q = q l := by
  rcases good_cases h with rfl | rfl | rfl | rfl | rfl | rfl | rfl | rfl | rfl | rfl | rfl | rfl
  · rw [show six1 (0, 1) = ⟨true, false, false, false, false, false⟩ from rfl]; simp [xr]
  · rw [show six1 (1, 0) = ⟨true, false, false, false, false, false⟩ from rfl, hq 1 0]; simp [xr]
  · rw [show six1 (0, 2) = ⟨false, true, false, false, false, false⟩ from rfl]; simp [xr]
  · rw [show six1 (2, 0) = ⟨false, true, false, false, false, false⟩ from rfl, hq 2 0]; simp [xr]
  · rw [show six1 (0, 3) = ⟨false, false, true, false, false, false⟩ from rfl]; simp [xr]
  · rw [show six1 (3, 0) = ⟨false, false, true, false, false, false⟩ from rfl, hq 3 0]; simp [xr]
  · rw [show six1 (1, 2) = ⟨false, false, false, true, false, false⟩ from rfl]; simp [xr]
  · rw [show six1 (2, 1) = ⟨false, false, false, true, false, false⟩ from rfl, hq 2 1]; simp [xr]
  · rw [show six1 (1, 3) = ⟨false, false, false, false, true, false⟩ from rfl]; simp [xr]
  · rw [show six1 (3, 1) = ⟨false, false, false, false, true, false⟩ from rfl, hq 3 1]; simp [xr]
  · rw [show six1 (2, 3) = ⟨false, false, false, false, false, true⟩ from rfl]; simp [xr]
  · rw [show six1 (3, 2) = ⟨false, false, false, false, false, true⟩ from rfl, hq 3 2]; simp [xr]
theorem par_eq {q : Line → Bool} (hq : ∀ a b, q (a, b) = q (b, a)) : ∀ {ls : List Line}, (∀ l ∈ ls, LineGood l) → Pq q ls = xr (six ls) q
  | [], _ => by simp [Pq, six, xr]
  | l :: ls, h => by
    have ih := par_eq hq (ls := ls) fun l' hl => h l' (List.mem_cons_of_mem _ hl)
    rw [Pq_cons, ih, six_cons, xr_add, xr_one hq (h l List.mem_cons_self)]
end Mine

/-! ### P2 -/
open PySem PySem.W PyProof.Rows PySem.SeqAt
set_option Elab.async false
namespace Mine
set_option maxRecDepth 100000
theorem like_at {p : List Int} {i : Int} {l : Line} (h : [l.1, l.2].contains i = true) : (pat p (l.1 + l.2 - i) == pat p i) = (pat p l.1 == pat p l.2) := by
  have h' : i = l.1 ∨ i = l.2 := by simpa using h
  rcases h' with rfl | rfl
  · rw [show l.1 + l.2 - l.1 = l.2 from by omega, Bool.beq_comm]
  · rw [show l.1 + l.2 - l.2 = l.1 from by omega]
theorem M_core (p : List Int) (i : Int) : ∀ lines : List Line, ((lines.filter fun l => [l.1, l.2].contains i).map fun l => pat p (l.1 + l.2 - i)).count (pat p i) = ((lines.filter fun l => pat p l.1 == pat p l.2).filter fun l => [l.1, l.2].contains i).length
  | [] => rfl
  | l :: ls => by
    have ih := M_core p i ls
    rw [List.filter_cons, List.filter_cons (p := fun l : Line => pat p l.1 == pat p l.2)]
    cases hc : [l.1, l.2].contains i
    · rw [if_neg (by decide), ih]
      cases hk : (pat p l.1 == pat p l.2)
      · rw [if_neg (by decide)]
      · rw [if_pos rfl, List.filter_cons, hc, if_neg (by decide)]
    · rw [if_pos rfl, List.map_cons, List.count_cons, ih, like_at hc]
      cases hk : (pat p l.1 == pat p l.2)
      · rw [if_neg (by decide), if_neg (by decide)]; rfl
      · rw [if_pos rfl, if_pos rfl, List.filter_cons, hc, if_pos rfl]; rfl
theorem M_eq (lines : List Line) (w p : List Int) (i : Int) : toldM lines w p i = dueM lines w p i := by
  unfold toldM dueM like
  rw [M_core]
theorem prs_even : ∀ (k : Nat) (r : List Nat), prs (List.replicate (2 * k) 34 ++ r) = List.replicate k 34 ++ prs r
  | 0, r => rfl
  | k + 1, r => by
    have e : List.replicate (2 * (k + 1)) 34 = 34 :: 34 :: List.replicate (2 * k) 34 := rfl
    rw [e, List.cons_append, List.cons_append]
    show prs (34 :: 34 :: (List.replicate (2 * k) 34 ++ r)) = _
    rw [prs, if_pos rfl, if_pos rfl, prs_even k r]; rfl
theorem prs_odd {c : Nat} (h : c ≠ 34) (r : List Nat) : prs (34 :: c :: r) = [] := by
  rw [prs, if_pos rfl, if_neg h]
def toldR (M : Int → Nat) : List Int → List Nat
  | [] => []
  | i :: is => if M i % 2 = 0 then List.replicate (M i / 2) 34 ++ letter i :: toldR M is else List.replicate (M i / 2) 34
theorem letter_cases (i : Int) : letter i = 97 ∨ letter i = 98 ∨ letter i = 99 ∨ letter i = 100 ∨ letter i = 0 := by
  unfold letter
  match i.toNat with
  | 0 => simp
  | 1 => simp
  | 2 => simp
  | 3 => simp
  | n + 4 => simp
theorem letter_ne (i : Int) : letter i ≠ 34 := by
  have := letter_cases i; omega
theorem prs_told (M : Int → Nat) (t : List Nat) (ht : prs t = []) : ∀ is : List Int, prs ((is.map fun i => List.replicate (M i) 34 ++ [letter i]).flatten ++ t) = toldR M is
  | [] => ht
  | i :: is => by
    have ih := prs_told M t ht is
    rw [List.map_cons, List.flatten_cons, List.append_assoc, List.append_assoc, toldR]
    rcases Nat.mod_two_eq_zero_or_one (M i) with h | h
    · rw [if_pos h]
      have e : List.replicate (M i) 34 = List.replicate (2 * (M i / 2)) 34 := by congr 1; omega
      rw [e, prs_even, List.cons_append, List.nil_append, prs_other (letter_ne i), ih]
    · rw [if_neg (by omega)]
      have e : List.replicate (M i) 34 = List.replicate (2 * (M i / 2)) 34 ++ [34] := by
        rw [← List.replicate_succ']; congr 1; omega
      rw [e, List.append_assoc, prs_even, List.cons_append, List.cons_append, List.nil_append, List.nil_append, prs_odd (letter_ne i), List.append_nil]
theorem prs_tail (p : List Int) : prs (tailOf p) = [] := by
  have hk := fmod_rng p.sum (b := 3) (by decide)
  have h3 : p.sum.fmod 3 = 0 ∨ p.sum.fmod 3 = 1 ∨ p.sum.fmod 3 = 2 := by omega
  unfold tailOf
  rcases h3 with h | h | h <;> rw [h] <;> decide
theorem told_eq (lines : List Line) (w p : List Int) : told lines w p = toldR (dueM lines w p) [0, 1, 2, 3] := by
  unfold told toldT
  rw [show (fun i => List.replicate (toldM lines w p i) 34 ++ [letter i]) = fun i => List.replicate (dueM lines w p i) 34 ++ [letter i] from funext fun i => by rw [M_eq]]
  exact prs_told _ _ (prs_tail p) _
theorem par_fmod (m : Nat) : ((m : Nat) : Int).fmod 2 = ((m % 2 : Nat) : Int) := by
  rw [Int.fmod_eq_emod_of_nonneg _ (by decide)]; rfl
theorem due_eq (lines : List Line) (w p : List Int) : due lines w p = toldR (dueM lines w p) [0, 1, 2, 3] := by
  unfold due odds
  rw [show rangeL 0 4 = [0, 1, 2, 3] from rfl]
  generalize hM : dueM lines w p = M
  have hp : piece lines w p = fun i => List.replicate (M i / 2) 34 ++ [letter i] := by unfold piece; rw [hM]
  rw [hp]
  simp only [List.map_cons, List.map_nil, par_fmod, toldR]
  rcases Nat.mod_two_eq_zero_or_one (M 0) with h0 | h0 <;> rcases Nat.mod_two_eq_zero_or_one (M 1) with h1 | h1 <;> rcases Nat.mod_two_eq_zero_or_one (M 2) with h2 | h2 <;> rcases Nat.mod_two_eq_zero_or_one (M 3) with h3 | h3 <;> rw [h0, h1, h2, h3] <;> simp [List.idxOf, List.findIdx, List.findIdx.go]
end Mine

/-! ### P3 -/
open PySem PySem.W PyProof.Rows PySem.SeqAt
set_option Elab.async false
namespace Mine
set_option maxRecDepth 100000
theorem asc_R (M : Int → Nat) : ∀ is : List Int, ∀ y ∈ toldR M is, y < 128
  | [], y, h => nomatch h
  | i :: is, y, h => by
    rw [toldR] at h
    have hl := letter_cases i
    split at h
    · rcases List.mem_append.mp h with h | h
      · rw [(List.mem_replicate.mp h).2]; decide
      · rcases List.mem_cons.mp h with h | h
        · omega
        · exact asc_R M is y h
    · rw [(List.mem_replicate.mp h).2]; decide
def allE (M : Int → Nat) : Bool := (M 0 % 2 == 0) && ((M 1 % 2 == 0) && ((M 2 % 2 == 0) && (M 3 % 2 == 0)))
theorem hasD_R (M : Int → Nat) : hasD (toldR M [0, 1, 2, 3]) = allE M := by
  rw [Bool.eq_iff_iff]
  unfold hasD allE
  simp only [List.contains_iff_mem, toldR]
  rw [show letter 0 = 97 from rfl, show letter 1 = 98 from rfl, show letter 2 = 99 from rfl, show letter 3 = 100 from rfl]
  rcases Nat.mod_two_eq_zero_or_one (M 0) with h0 | h0 <;> rcases Nat.mod_two_eq_zero_or_one (M 1) with h1 | h1 <;> rcases Nat.mod_two_eq_zero_or_one (M 2) with h2 | h2 <;> rcases Nat.mod_two_eq_zero_or_one (M 3) with h3 | h3 <;> simp [h0, h1, h2, h3, List.mem_append, List.mem_replicate]
theorem count_R {M : Int → Nat} (h : allE M = true) : (toldR M [0, 1, 2, 3]).count 34 * 2 = M 0 + M 1 + M 2 + M 3 := by
  unfold allE at h
  simp only [Bool.and_eq_true, beq_iff_eq] at h
  obtain ⟨h0, h1, h2, h3⟩ := h
  simp only [toldR, h0, h1, h2, h3, if_true]
  rw [show letter 0 = 97 from rfl, show letter 1 = 98 from rfl, show letter 2 = 99 from rfl, show letter 3 = 100 from rfl]
  simp [List.count_append, List.count_cons, List.count_replicate]
  omega
def deg (ls : List Line) (i : Int) : Nat := (ls.filter fun l => [l.1, l.2].contains i).length
theorem deg_cons (l : Line) (ls : List Line) (i : Int) : deg (l :: ls) i = (if [l.1, l.2].contains i then 1 else 0) + deg ls i := by
  unfold deg
  rw [List.filter_cons]
  split
  · rw [List.length_cons]; omega
  · omega
theorem deg_sum : ∀ {ls : List Line}, (∀ l ∈ ls, LineGood l) → deg ls 0 + deg ls 1 + deg ls 2 + deg ls 3 = 2 * ls.length
  | [], _ => rfl
  | l :: ls, h => by
    have ih := deg_sum (ls := ls) fun l' hl => h l' (List.mem_cons_of_mem _ hl)
    have one : (if [l.1, l.2].contains 0 then 1 else 0) + (if [l.1, l.2].contains 1 then 1 else 0) + (if [l.1, l.2].contains 2 then 1 else 0) + (if [l.1, l.2].contains 3 then 1 else 0) = 2 := by
      rcases good_cases (h l List.mem_cons_self) with rfl | rfl | rfl | rfl | rfl | rfl | rfl | rfl | rfl | rfl | rfl | rfl <;> rfl
    rw [deg_cons, deg_cons, deg_cons, deg_cons, List.length_cons]
    omega
def wb (w : List Int) (i : Int) : Nat := if w.contains i then 1 else 0
theorem due_deg (lines : List Line) (w p : List Int) (i : Int) : dueM lines w p i = deg (like lines p) i + wb w i := rfl
def lk (p : List Int) (l : Line) : Bool := pat p l.1 == pat p l.2
def qi (p : List Int) (i : Int) (l : Line) : Bool := [l.1, l.2].contains i && lk p l
theorem lk_symm (p : List Int) (a b : Int) : lk p (a, b) = lk p (b, a) := Bool.beq_comm
theorem qi_symm (p : List Int) (i a b : Int) : qi p i (a, b) = qi p i (b, a) := by
  unfold qi
  rw [lk_symm]
  congr 1
  rw [Bool.eq_iff_iff]
  simp only [List.contains_iff_mem, List.mem_cons, List.not_mem_nil, or_false]
  exact Or.comm
theorem like_par {lines : List Line} (h : ∀ l ∈ lines, LineGood l) (p : List Int) : ((like lines p).length % 2 == 1) = xr (six lines) (lk p) := par_eq (lk_symm p) h
theorem deg_par {lines : List Line} (h : ∀ l ∈ lines, LineGood l) (p : List Int) (i : Int) : (deg (like lines p) i % 2 == 1) = xr (six lines) (qi p i) := by
  rw [← par_eq (qi_symm p i) h]
  unfold deg like Pq
  rw [List.filter_filter]; rfl
def ev (x : Six) (w p : List Int) (i : Int) : Bool := xr x (qi p i) == w.contains i
def E' (x : Six) (w p : List Int) : Bool := ev x w p 0 && (ev x w p 1 && (ev x w p 2 && ev x w p 3))
theorem ev_eq {lines : List Line} (h : ∀ l ∈ lines, LineGood l) (w p : List Int) (i : Int) : (dueM lines w p i % 2 == 0) = ev (six lines) w p i := by
  unfold ev
  rw [← deg_par h, due_deg]
  unfold wb
  rcases Nat.mod_two_eq_zero_or_one (deg (like lines p) i) with h0 | h0 <;> cases w.contains i
  · have : (deg (like lines p) i + 0) % 2 = 0 := by omega
    simp [h0]
  · have : (deg (like lines p) i + 1) % 2 = 1 := by omega
    simp [h0, this]
  · have : (deg (like lines p) i + 0) % 2 = 1 := by omega
    simp [h0]
  · have : (deg (like lines p) i + 1) % 2 = 0 := by omega
    simp [h0, this]
theorem E_eq {lines : List Line} (h : ∀ l ∈ lines, LineGood l) (w p : List Int) : hasD (told lines w p) = E' (six lines) w p := by
  rw [told_eq, hasD_R]
  unfold allE E'
  rw [ev_eq h, ev_eq h, ev_eq h, ev_eq h]
structure WOk (w : List Int) : Prop where
  ev : w.length % 2 = 0
  sum : wb w 0 + wb w 1 + wb w 2 + wb w 3 = w.length
theorem count_eq {lines : List Line} (h : ∀ l ∈ lines, LineGood l) {w p : List Int} (hw : WOk w) (hE : hasD (told lines w p) = true) : (told lines w p).count 34 = (like lines p).length + w.length / 2 := by
  have hl : ∀ l ∈ like lines p, LineGood l := fun l hm => h l (List.mem_filter.mp hm).1
  rw [told_eq] at hE ⊢
  rw [hasD_R] at hE
  have hc := count_R hE
  simp only [due_deg] at hc
  have hd := deg_sum hl
  have h1 := hw.ev
  have h2 := hw.sum
  omega
def sgn (b : Bool) : Int := if b then -1 else 1
theorem sgn_of (n : Nat) : 1 - ((n : Nat) : Int).fmod 2 * 2 = sgn (n % 2 == 1) := by
  rw [par_fmod]
  rcases Nat.mod_two_eq_zero_or_one n with h | h <;> rw [h] <;> rfl
def signs' (x : Six) : List Int := (paints.filter (E' x [])).map fun p => sgn (xr x (lk p))
def held' (x : Six) (w : List Int) : List Int := (paints.filter (E' x w)).map fun p => sgn (xr x (lk p))
def found' (x : Six) : List (List Int) := paints.filter (E' x [])
def apart' (x : Six) (w : List Int) : List Int := (found' x).map fun p => ((w.filter fun i => pat p i != pat ((found' x).getD 0 []) i).length : Int).fmod 2
def four' (x : Six) (w : List Int) (code : Int) : Int := sgn (xr x (lk (paint4 code)) ^^ ((w.filter fun i => decide (1 < pat (paint4 code) i)).length % 2 == 1))
theorem found_eq {lines : List Line} (h : ∀ l ∈ lines, LineGood l) : found lines = found' (six lines) := by
  unfold found found'
  exact List.filter_congr fun p _ => E_eq h [] p
theorem apart_eq {lines : List Line} (h : ∀ l ∈ lines, LineGood l) (w : List Int) : apart lines w = apart' (six lines) w := by
  unfold apart apart'; rw [found_eq h]
theorem wok_nil : WOk [] := ⟨rfl, rfl⟩
theorem signs_eq {lines : List Line} (h : ∀ l ∈ lines, LineGood l) : signs lines = signs' (six lines) := by
  unfold signs signs'
  rw [List.filter_congr fun p _ => E_eq h [] p]
  refine List.map_congr_left fun p hp => ?_
  have hE : hasD (told lines [] p) = true := by rw [E_eq h]; exact (List.mem_filter.mp hp).2
  rw [count_eq h wok_nil hE, ← like_par h, sgn_of]; rfl
theorem odd_add2 (a b : Nat) (h : b % 2 = 0) : ((a + b) % 2 == 1) = (a % 2 == 1) := by
  have : (a + b) % 2 = a % 2 := by omega
  rw [this]
theorem held_eq {lines : List Line} (h : ∀ l ∈ lines, LineGood l) {w : List Int} (hw : WOk w) : held lines w = held' (six lines) w := by
  unfold held held'
  rw [List.filter_congr fun p _ => E_eq h w p]
  refine List.map_congr_left fun p hp => ?_
  have hE : hasD (told lines w p) = true := by rw [E_eq h]; exact (List.mem_filter.mp hp).2
  have e : ((((told lines w p).count 34 : Nat) : Int) + (w.length : Int).fdiv 2) = (((like lines p).length + (w.length / 2 + w.length / 2) : Nat) : Int) := by
    rw [count_eq h hw hE, fdiv2]; omega
  rw [e, sgn_of, odd_add2 _ _ (by omega), like_par h]
theorem four_eq {lines : List Line} (h : ∀ l ∈ lines, LineGood l) (w : List Int) (code : Int) : four1 lines w code = four' (six lines) w code := by
  unfold four1 four'
  rw [← like_par h]
  unfold like
  rw [← Int.natCast_add, sgn_of]
  congr 1
  generalize (lines.filter fun l => pat (paint4 code) l.1 == pat (paint4 code) l.2).length = a
  generalize (w.filter fun i => decide (1 < pat (paint4 code) i)).length = b
  rcases Nat.mod_two_eq_zero_or_one a with ha | ha <;> rcases Nat.mod_two_eq_zero_or_one b with hb | hb
  · rw [ha, hb, show (a + b) % 2 = 0 from by omega]; rfl
  · rw [ha, hb, show (a + b) % 2 = 1 from by omega]; rfl
  · rw [ha, hb, show (a + b) % 2 = 1 from by omega]; rfl
  · rw [ha, hb, show (a + b) % 2 = 0 from by omega]; rfl
end Mine

/-! ### P4 -/
open PySem PySem.W PyProof.Rows PySem.SeqAt
set_option Elab.async false
namespace Mine
set_option maxRecDepth 100000
def chk (x : Six) (w : List Int) : Bool := ((signs' x).contains 1 != (signs' x).contains (-1)) && ((((rangeL 0 64).map (four' x w)).sum == 8 * (held' x w).sum) && (((held' x w).length : Int) == if (apart' x w).contains 1 then 0 else ((found' x).length : Int)))
def ws8 : List (List Int) := [[], [0, 3], [1, 3], [0, 1], [2, 3], [0, 2], [1, 2], [0, 1, 2, 3]]
theorem chk_00 : ∀ a b c d : Bool, ∀ w ∈ ws8, chk ⟨a, b, c, d, false, false⟩ w = true := by decide +kernel
theorem chk_01 : ∀ a b c d : Bool, ∀ w ∈ ws8, chk ⟨a, b, c, d, false, true⟩ w = true := by decide +kernel
theorem chk_10 : ∀ a b c d : Bool, ∀ w ∈ ws8, chk ⟨a, b, c, d, true, false⟩ w = true := by decide +kernel
theorem chk_11 : ∀ a b c d : Bool, ∀ w ∈ ws8, chk ⟨a, b, c, d, true, true⟩ w = true := by decide +kernel
theorem chk_all (x : Six) {w : List Int} (hw : w ∈ ws8) : chk x w = true := by
  obtain ⟨a, b, c, d, e, f⟩ := x
  cases e <;> cases f
  · exact chk_00 a b c d w hw
  · exact chk_01 a b c d w hw
  · exact chk_10 a b c d w hw
  · exact chk_11 a b c d w hw
theorem ws8_ok : ∀ w ∈ ws8, (w.length % 2 = 0 ∧ wb w 0 + wb w 1 + wb w 2 + wb w 3 = w.length) ∧ (∀ i ∈ w, 0 ≤ i ∧ i < 4) ∧ w.length ≤ 4 := by decide +kernel
def bitsW (b0 b1 b2 : Bool) : List Int := (if b0 then [0] else []) ++ ((if b1 then [1] else []) ++ if b2 then [2] else [])
theorem netW_mem (l : List Int) : netW l ∈ ws8 := by
  have e : netW0 l = bitsW (((nums l).sum.fdiv (2 ^ 0)).fmod 2 == 1) (((nums l).sum.fdiv (2 ^ 1)).fmod 2 == 1) (((nums l).sum.fdiv (2 ^ 2)).fmod 2 == 1) := by
    unfold netW0
    rw [show rangeL 0 3 = [0, 1, 2] from rfl]
    simp only [List.filter_cons, List.filter_nil]
    rw [show (0 : Int).toNat = 0 from rfl, show (1 : Int).toNat = 1 from rfl, show (2 : Int).toNat = 2 from rfl]
    generalize (((nums l).sum.fdiv (2 ^ 0)).fmod 2 == 1) = b0
    generalize (((nums l).sum.fdiv (2 ^ 1)).fmod 2 == 1) = b1
    generalize (((nums l).sum.fdiv (2 ^ 2)).fmod 2 == 1) = b2
    cases b0 <;> cases b1 <;> cases b2 <;> rfl
  unfold netW
  rw [e]
  generalize (((nums l).sum.fdiv (2 ^ 0)).fmod 2 == 1) = b0
  generalize (((nums l).sum.fdiv (2 ^ 1)).fmod 2 == 1) = b1
  generalize (((nums l).sum.fdiv (2 ^ 2)).fmod 2 == 1) = b2
  revert b0 b1 b2
  decide +kernel
theorem lineOf_good (x : Int) : LineGood (lineOf x) := by
  have h1 := fmod_rng x (b := 4) (by decide)
  have h2 := fmod_rng (x.fdiv 4) (b := 3) (by decide)
  have h3 := fmod_rng (x.fmod 4 + 1 + (x.fdiv 4).fmod 3) (b := 4) (by decide)
  have h4 : (x.fmod 4 + 1 + (x.fdiv 4).fmod 3).fmod 4 = (x.fmod 4 + 1 + (x.fdiv 4).fmod 3) % 4 := Int.fmod_eq_emod_of_nonneg _ (by decide)
  refine ⟨⟨h1, h3⟩, ?_⟩
  show x.fmod 4 ≠ (x.fmod 4 + 1 + (x.fdiv 4).fmod 3).fmod 4
  rw [h4]
  omega
theorem netL_good (l : List Int) : ∀ x ∈ netL l, LineGood x := by
  intro x hx
  obtain ⟨y, _, rfl⟩ := List.mem_map.mp hx
  exact lineOf_good y
theorem plain_ok (l : List Int) : PlainOk (netL l) (netW l) := by
  have hg := netL_good l
  have hw := netW_mem l
  obtain ⟨⟨w1, w2⟩, w3, w4⟩ := ws8_ok _ hw
  have hwk : WOk (netW l) := ⟨w1, w2⟩
  have hc := chk_all (six (netL l)) hw
  unfold chk at hc
  rw [← signs_eq hg, ← held_eq hg hwk, ← apart_eq hg, ← found_eq hg] at hc
  simp only [Bool.and_eq_true, bne_iff_ne, beq_iff_eq] at hc
  obtain ⟨c1, c2, c3⟩ := hc
  exact ⟨fun x hx => (hg x hx).1, w3, ⟨by unfold netL; rw [List.length_map]; exact nums_len l, w4⟩, fun p _ => by rw [told_eq, due_eq], fun p _ => by rw [told_eq, due_eq], fun w p _ y hy => by rw [told_eq] at hy; exact asc_R _ _ y hy, c1,
    by rw [← c2]; exact congrArg List.sum (List.map_congr_left fun code _ => four_eq hg _ code), c3⟩
end Mine

/-! ### Q1 -/
open PySem PySem.W PyProof.Rows PySem.SeqAt
set_option Elab.async false
namespace Mine
set_option maxRecDepth 100000
def libFns : List (Nat × Str) := [(3, "parse257"), (5, "concat"), (6, "contains"), (7, "countOf"), (8, "indexOf"), (10, "_law_net"), (11, "_law_told"), (12, "_law_due"), (13, "_law_four"), (14, "law")]
def libNo : List Str := ["len", "range", "sum", "hasattr", "enumerate", "ValueError", "zip"]
def posAt (i : Nat) : Pos := match stAt i with | .FunctionDef _ _ _ _ _ _ _ _ _ p => p | _ => default
theorem lib_of {p : Program} {loose : List Str} {mean : ExcName → Option Value} {mg mb : Str → Option Value} {h : Heap} (T : Top p loose mean mg mb h) (hb : NoneBooked h)
    (hr : recsOf p = libFns.map fun x => ⟨x.2, paramsAt x.1, bodyAt x.1, scopeAt x.1, posAt x.1⟩)
    (hn : ∀ x ∈ libNo, x ∉ startupNames ∧ x ∉ loose ∧ x ∉ (recsOf p).map (·.name) ∧ x ∉ (litsOf p).map (·.1) ∧ x ∉ (clssOf p loose).map (·.name)) : Lib h mg mb where
  G := ⟨T.g, T.b, T.nolimit, T.builtins, hb⟩
  no := fun x hx => let ⟨a, b, c, d, e⟩ := hn x hx; T.free x a b c d e
  fn := fun x hx => by
    obtain ⟨a, o, pm, code, doc, e1, e2, e3, e4⟩ := T.fn ⟨x.2, paramsAt x.1, bodyAt x.1, scopeAt x.1, posAt x.1⟩ (by rw [hr]; exact List.mem_map.mpr ⟨x, hx, rfl⟩)
    exact ⟨a, pm, code, doc, e1, ⟨⟨o, e2, e3⟩, e4⟩⟩
def bookedB (K : Frag) : Bool := match K.lookup cStatics with
  | some o => (match o.data with | .dict es _ => (nsFind es sharingNotToldKey).isNone | _ => false)
  | none => false
theorem booked_of {K : Frag} {h : Heap} (KX : K.In h) (hb : bookedB K = true) (hm : ∃ mc, h.Ns cStatics mc) : NoneBooked h := by
  obtain ⟨mc, o, es, ep, e, d, sk, f⟩ := hm
  refine ⟨mc, ⟨o, es, ep, e, d, sk, f⟩, ?_⟩
  rw [← f]
  unfold bookedB at hb
  cases q : K.lookup cStatics with
  | none => rw [q] at hb; cases hb
  | some o' =>
    have e' := KX cStatics o' q
    rw [e] at e'
    cases e'
    rw [q] at hb
    simp only [d] at hb
    exact Option.isNone_iff_eq_none.mp hb
theorem ints_ok {c : Cx} : ∀ {vs : List Value} {ns : List Int}, IntsAre vs ns → AllOk c (ns.map IntW) vs
  | _, _, .nil => .nil
  | _, _, .cons n t r => .cons ⟨t, rfl⟩ (ints_ok r)
def c₀ (a : Addr) (o : Obj) : Cx := ⟨fun b => if b = a then some o else none, fun _ => none⟩
/-- the law's call, from the head's facts -/
theorem law_call {W : Wd} {mg mb : Str → Option Value} {s : Shared} {a fa : Addr} {vs : List Value} {ns : List Int} {E : Value → Shared → Prop} {Q : Value → Shared → Prop} (L : Lib s.heap mg mb) (hm : mg "law" = some (.ref fa)) (hl : s.heap.IsList a vs.toArray) (hi : IntsAre vs ns) (hz : ns.length ≤ 1000)
    (hsz : s.heap.objs.size = topN + 1) (ha : a = topN) (htk : 0 < s.toks)
    (hQ : ∀ s' : Shared, (∀ b o, s.heap.get? b = some o → s'.heap.get? b = some o) → (∃ h tk, s' = { s with heap := h, toks := tk }) → Q (.bool true) s') :
    wpAny W.M callerA (call (.ref fa) [.ref a]) Q E s := by
  obtain ⟨fa', pm, code, doc, e, d⟩ := L.fn (14, "law") (by decide)
  have hfa : fa = fa' := by
    have e' : some (Value.ref fa) = some (.ref fa') := hm.symm.trans e
    cases e'; rfl
  subst hfa
  obtain ⟨o, ho, hcls, nn, hdat⟩ := hl
  have ins : InS (c₀ a o) s := by
    refine ⟨fun b x eb => ?_, fun b x eb => ?_, htk, fun t v eb => nomatch eb⟩
    · have eb' : (if b = a then some o else none) = some x := eb
      by_cases q : b = a
      · rw [if_pos q] at eb'; cases eb'; rw [q]; exact ho
      · rw [if_neg q] at eb'; cases eb'
    · have eb' : (if b = a then some o else none) = some x := eb
      by_cases q : b = a
      · rw [if_pos q] at eb'; cases eb'
        intro es ep hd; rw [hdat] at hd; cases hd
      · rw [if_neg q] at eb'; cases eb'
  have r : Room 3 callerA s.heap := ⟨rfl, by decide, by decide, ⟨[], rfl, fun _ h => nomatch h⟩, ⟨o, by rw [← ha]; exact ho⟩⟩
  have ok : AllOk (c₀ a o) [ListV (ns.map IntW)] [.ref a] := .cons ⟨a, vs, rfl, ⟨o, if_pos rfl, hcls, nn, hdat⟩, ints_ok hi⟩ .nil
  refine wpAny_mono (cl_law (n := 0) hz (plain_ok ns) L d callerA E s (c₀ a o) [.ref a] r (HX.refl _) ins ok) (fun v s' hp => ?_) fun _ _ x => x
  obtain ⟨c', k, hv⟩ := hp
  have hv' : v = .bool true := hv
  subst hv'
  exact hQ s' (fun b o' eb => (k.keep b o' eb).top (by have := Heap.lt_size eb; rw [hsz] at this; exact Nat.le_of_lt_succ this)) k.same
end Mine

/-! ### Z1 -/
open PySem PySem.W PySem.W.X PySem.W.ZRun PyProof.Rows
set_option Elab.async false
set_option maxRecDepth 100000 in
set_option maxHeartbeats 0 in
theorem PySem.Challenge.cw_pk0023_01_holds : PySem.Challenge.rw_pk0023_01.Holds := by
  w_on; o_law; z_head
  (case hw => w_witness2)
  k_fill
  intro w s₀ s₁ mg mb G y fa o pm cd doc dV kV ho hd hcd hD hmg hg args vals as L hpre hlay hrd hwl hlo
  z_open y L KX ZH ZN ZT
  refine Ground.open G ?_
  intro T B D TE TW
  wrow_args hpre hlay hrd hwl hlo
  obtain ⟨hat, hsz⟩ := script_at L
  have htk := script_toks L ZT
  rw [ZN] at hat hsz
  have hb : NoneBooked s₁.heap := Mine.booked_of KX (by kernel_rfl) (T.nodigits.elim fun mc h => ⟨mc, h.1⟩)
  have lib : Mine.Lib s₁.heap mg mb := Mine.lib_of T hb (by kernel_rfl) (by decide +kernel)
  rename_i hL _ _ _ hI _ hlen _
  refine Mine.law_call (W := ⟨_, w⟩) lib hmg hL hI (by omega) (by rw [hsz]; rfl) hat (Nat.lt_of_lt_of_le (by decide) htk) ?_
  intro s' hk hsame
  refine GoodW.toG ⟨.inl ⟨.bool true, .bool true, [], rfl, raisesW_false ?_, .bool true, ?_, unshared_nil⟩, hk, ?_, ?_⟩
  · wrow_none_raised
  · kc_post
  · obtain ⟨h, tk, rfl⟩ := hsame; rfl
  · obtain ⟨h, tk, rfl⟩ := hsame; exact hg
