import PyProof.Rows.All
import Wide.All
import OpenK.AllK
import Wide.FinOn
import PySem.Challenge.RW_pk0023_02

/-! ### C1 -/
open PySem PySem.W PyProof.Rows
set_option Elab.async false
namespace Mine

/-! ## A view: the data that stand, and what the tokens tell -/
abbrev TM := Nat → Option Value
structure Cx where
  o : Addr → Option Obj
  m : TM
structure Le (c c' : Cx) : Prop where
  o : ∀ b x, c.o b = some x → c'.o b = some x
  m : ∀ t v, c.m t = some v → c'.m t = some v
theorem Le.refl (c : Cx) : Le c c := ⟨fun _ _ e => e, fun _ _ e => e⟩
theorem Le.trans {a b c : Cx} (x : Le a b) (y : Le b c) : Le a c := ⟨fun i o e => y.o i o (x.o i o e), fun i o e => y.m i o (x.m i o e)⟩
/-- no namespace -/
def NoD (o : Obj) : Prop := ∀ es ep, o.data ≠ .dict es ep
structure InS (c : Cx) (s : Shared) : Prop where
  o : ∀ b x, c.o b = some x → s.heap.get? b = some x
  nf : ∀ b x, c.o b = some x → NoD x
  pos : 0 < s.toks
  lt : ∀ t v, c.m t = some v → t < s.toks
def Cx.tok (c : Cx) (t : Nat) (v : Value) : Cx := ⟨c.o, fun u => if u = t then some v else c.m u⟩
def Cx.put (c : Cx) (a : Addr) (x : Obj) : Cx := ⟨fun b => if b = a then some x else c.o b, c.m⟩

/-- the last address that stood when the law was called: the things up to it stay as they are -/
def topN : Nat := 109
/-- the same thing; of a namespace the slots may differ (a raise writes them in the frames) -/
structure Sm (i : Addr) (o o' : Obj) : Prop where
  cls : o'.cls = o.cls
  data : o'.data = o.data
  nf : NoD o ∨ i ≤ topN → o' = o
theorem Sm.refl (i : Addr) (o : Obj) : Sm i o o := ⟨rfl, rfl, fun _ => rfl⟩
theorem Sm.trans {i : Addr} {a b c : Obj} (x : Sm i a b) (y : Sm i b c) : Sm i a c := ⟨y.cls.trans x.cls, y.data.trans x.data, fun h => by
  have e := x.nf h
  subst e
  exact y.nf h⟩
def Gt (h : Heap) (b : Addr) (o : Obj) : Prop := ∃ o', h.get? b = some o' ∧ Sm b o o'
theorem Gt.of {h : Heap} {b : Addr} {o : Obj} (e : h.get? b = some o) : Gt h b o := ⟨o, e, .refl b o⟩
theorem Gt.exact {h : Heap} {b : Addr} {o : Obj} (g : Gt h b o) (nf : NoD o) : h.get? b = some o := by
  obtain ⟨o', e, s⟩ := g
  rw [e, s.nf (.inl nf)]
theorem Gt.top {h : Heap} {b : Addr} {o : Obj} (g : Gt h b o) (hb : b ≤ topN) : h.get? b = some o := by
  obtain ⟨o', e, s⟩ := g
  rw [e, s.nf (.inr hb)]
theorem Gt.live {h : Heap} {b : Addr} {o : Obj} (g : Gt h b o) : ∃ o, h.get? b = some o := let ⟨o', e, _⟩ := g; ⟨o', e⟩
theorem Gt.on {h h' : Heap} {b : Addr} {o : Obj} (g : Gt h b o) (k : ∀ o, h.get? b = some o → Gt h' b o) : Gt h' b o := by
  obtain ⟨o', e, s⟩ := g
  obtain ⟨o'', e', s'⟩ := k o' e
  exact ⟨o'', e', s.trans s'⟩
abbrev HX (h h' : Heap) : Prop := ∀ b o, h.get? b = some o → Gt h' b o
theorem HX.refl (h : Heap) : HX h h := fun _ _ e => .of e
theorem HX.trans {a b c : Heap} (x : HX a b) (y : HX b c) : HX a c := fun i o e => (x i o e).on fun o e => y i o e
theorem HX.ex {h h' : Heap} (k : ∀ b o, h.get? b = some o → h'.get? b = some o) : HX h h' := fun b o e => .of (k b o e)
theorem HX.push (h : Heap) (o : Obj) : HX h (h.push o) := fun _ _ e => .of (Heap.get?_push_of_some _ e)
theorem ns_gt {h h' : Heap} {a : Addr} {m : Str → Option Value} (x : h.Ns a m) (k : ∀ o, h.get? a = some o → Gt h' a o) : h'.Ns a m := by
  obtain ⟨o, es, ep, e, d, r⟩ := x
  obtain ⟨o', e', s⟩ := k o e
  exact ⟨o', es, ep, e', s.data.trans d, r⟩
theorem ns_hx {h h' : Heap} {a : Addr} {m : Str → Option Value} (x : h.Ns a m) (k : HX h h') : h'.Ns a m := ns_gt x fun o e => k a o e
theorem cell_gt {h h' : Heap} {a : Addr} {v : Option Value} (x : h.IsCell a v) (k : ∀ o, h.get? a = some o → Gt h' a o) : h'.IsCell a v := by
  obtain ⟨o, e, d⟩ := x
  obtain ⟨o', e', s⟩ := k o e
  exact ⟨o', e', s.data.trans d⟩
theorem cell_hx {h h' : Heap} {a : Addr} {v : Option Value} (x : h.IsCell a v) (k : HX h h') : h'.IsCell a v := cell_gt x fun o e => k a o e
theorem nolimit_hx {h h' : Heap} (x : h.NoLimit) (k : HX h h') : h'.NoLimit := let ⟨mc, a, b⟩ := x; ⟨mc, ns_hx a k, b⟩
theorem codeRec_hx {h h' : Heap} {v : Value} {q : Str} (x : h.CodeRec v q) (k : HX h h') : h'.CodeRec v q := by
  obtain ⟨c, o, vs, t, e, g, d, r⟩ := x
  obtain ⟨o', g', s⟩ := k c o g
  exact ⟨c, o', vs, t, e, g', s.data.trans d, r⟩

/-- from s to s' nothing that stood is changed; the view grows by new things alone -/
structure Kp (s : Shared) (c : Cx) (s' : Shared) (c' : Cx) : Prop where
  same : ∃ h tk, s' = { s with heap := h, toks := tk }
  keep : HX s.heap s'.heap
  le : Le c c'
  ins : InS c' s'
  new : ∀ b x, c'.o b = some x → c.o b = some x ∨ s.heap.get? b = none
theorem Kp.refl {s : Shared} {c : Cx} (x : InS c s) : Kp s c s c := ⟨⟨s.heap, s.toks, rfl⟩, HX.refl _, Le.refl _, x, fun _ _ e => .inl e⟩
theorem none_of_keep {h h' : Heap} (k : HX h h') {b : Addr} (e : h'.get? b = none) : h.get? b = none := by
  cases q : h.get? b with
  | none => rfl
  | some o => obtain ⟨o', e', _⟩ := k _ _ q; rw [e'] at e; cases e
theorem Kp.trans {s₁ s₂ s₃ : Shared} {c₁ c₂ c₃ : Cx} (x : Kp s₁ c₁ s₂ c₂) (y : Kp s₂ c₂ s₃ c₃) : Kp s₁ c₁ s₃ c₃ := by
  refine ⟨?_, x.keep.trans y.keep, x.le.trans y.le, y.ins, fun b o e => ?_⟩
  · obtain ⟨h, t, rfl⟩ := x.same
    obtain ⟨h', t', rfl⟩ := y.same
    exact ⟨h', t', rfl⟩
  · rcases y.new b o e with e | e
    · exact x.new b o e
    · exact .inr (none_of_keep x.keep e)
/-- a new token, bearing v -/
theorem Kp.fresh {s : Shared} {c : Cx} (x : InS c s) (v : Value) : Kp s c { s with toks := s.toks + 1 } (c.tok s.toks v) where
  same := ⟨s.heap, s.toks + 1, rfl⟩
  keep := HX.refl _
  le := ⟨fun _ _ e => e, fun t u e => by
    show (if t = s.toks then some v else c.m t) = some u
    rw [if_neg (Nat.ne_of_lt (x.lt t u e))]; exact e⟩
  ins := ⟨x.o, x.nf, Nat.succ_pos _, fun t u e => by
    have e' : (if t = s.toks then some v else c.m t) = some u := e
    by_cases q : t = s.toks
    · rw [q]; exact Nat.lt_succ_self _
    · rw [if_neg q] at e'; exact Nat.lt_succ_of_lt (x.lt t u e')⟩
  new := fun _ _ e => .inl e
theorem Kp.grow {s : Shared} {c : Cx} {h : Heap} {t : Nat} (x : InS c s) (k : HX s.heap h) (hl : s.toks ≤ t) : Kp s c { s with heap := h, toks := t } c :=
  ⟨⟨h, t, rfl⟩, k, Le.refl _, ⟨fun b o e => (k _ _ (x.o b o e)).exact (x.nf b o e), x.nf, Nat.lt_of_lt_of_le x.pos hl, fun t v e => Nat.lt_of_lt_of_le (x.lt t v e) hl⟩, fun _ _ e => .inl e⟩
theorem Kp.heap {s : Shared} {c : Cx} {h : Heap} (x : InS c s) (k : HX s.heap h) : Kp s c { s with heap := h } c := Kp.grow x k (Nat.le_refl _)
theorem Kp.toks {s : Shared} {c : Cx} {t : Nat} (x : InS c s) (hl : s.toks ≤ t) : Kp s c { s with toks := t } c := Kp.grow x (HX.refl _) hl
theorem Kp.fromTo {s s' : Shared} {c : Cx} (x : InS c s) (same : ∃ h tk, s' = { s with heap := h, toks := tk }) (k : HX s.heap s'.heap) (hl : s.toks ≤ s'.toks) : Kp s c s' c := by
  obtain ⟨h, t, rfl⟩ := same; exact Kp.grow x k hl
/-- a new thing comes into the view -/
theorem Kp.put {s s' : Shared} {c c' : Cx} (x : Kp s c s' c') {a : Addr} {o : Obj} (ha : s.heap.get? a = none) (hn : c'.o a = none) (he : s'.heap.get? a = some o) (hf : NoD o) : Kp s c s' (c'.put a o) where
  same := x.same
  keep := x.keep
  le := ⟨fun b z e => by
    show (if b = a then some o else c'.o b) = some z
    have := x.le.o b z e
    rw [if_neg (fun q => by rw [q, hn] at this; cases this)]; exact this, x.le.m⟩
  ins := ⟨fun b z e => by
    have e' : (if b = a then some o else c'.o b) = some z := e
    by_cases q : b = a
    · rw [if_pos q] at e'; cases e'; rw [q]; exact he
    · rw [if_neg q] at e'; exact x.ins.o b z e', fun b z e => by
    have e' : (if b = a then some o else c'.o b) = some z := e
    by_cases q : b = a
    · rw [if_pos q] at e'; cases e'; exact hf
    · rw [if_neg q] at e'; exact x.ins.nf b z e', x.ins.pos, x.ins.lt⟩
  new := fun b z e => by
    have e' : (if b = a then some o else c'.o b) = some z := e
    by_cases q : b = a
    · rw [q]; exact .inr ha
    · rw [if_neg q] at e'; exact x.new b z e'
theorem Cx.put_self (c : Cx) (a : Addr) (x : Obj) : (c.put a x).o a = some x := if_pos rfl
theorem Cx.put_le {c : Cx} {a : Addr} (hn : c.o a = none) (o : Obj) : Le c (c.put a o) := ⟨fun b z e => by
    show (if b = a then some o else c.o b) = some z
    rw [if_neg (fun q => by rw [q, hn] at e; cases e)]; exact e, fun _ _ e => e⟩
theorem InS.none {c : Cx} {s : Shared} (x : InS c s) {a : Addr} (e : s.heap.get? a = none) : c.o a = none := by
  cases q : c.o a with
  | none => rfl
  | some o => rw [x.o a o q] at e; cases e
theorem get_size (h : Heap) : h.get? h.objs.size = none := Heap.get?_none_of_le (Nat.le_refl _)
/-- the next place is taken, and comes into the view -/
theorem Kp.push {s : Shared} {c : Cx} (x : InS c s) (o : Obj) (hf : o.isFreed = false := by rfl) (hc : NoD o := by intro _ _ h; cases h) : Kp s c { s with heap := s.heap.push o } (c.put s.heap.objs.size o) :=
  (Kp.heap x (HX.push s.heap o)).put (get_size _) (x.none (get_size _)) (Heap.get?_push_size _ hf) hc

/-! ## What a value is, told so that it stays true while the view grows -/
structure VP where
  ok : Cx → Value → Prop
  mono : ∀ {c c' : Cx} {v : Value}, Le c c' → ok c v → ok c' v

abbrev AllOk (c : Cx) (l : List VP) (vs : List Value) : Prop := Paired (fun (P : VP) v => P.ok c v) l vs
theorem AllOk.mono {c c' : Cx} (x : Le c c') : ∀ {l : List VP} {vs : List Value}, AllOk c l vs → AllOk c' l vs
  | _, _, .nil => .nil
  | _, _, .cons p r => .cons (VP.mono _ x p) (AllOk.mono x r)
theorem AllOk.len {c : Cx} {l : List VP} {vs : List Value} (x : AllOk c l vs) : l.length = vs.length := Paired.length x
theorem AllOk.append {c : Cx} : ∀ {l l' : List VP} {vs vs' : List Value}, AllOk c l vs → AllOk c l' vs' → AllOk c (l ++ l') (vs ++ vs')
  | _, _, _, _, .nil, y => y
  | _, _, _, _, .cons p r, y => .cons p (AllOk.append r y)

/-- an int whose token tells it -/
def IntV (i : Int) : VP := ⟨fun c v => ∃ t, v = .int i t ∧ t ≠ 0 ∧ c.m t = some v, fun x ⟨t, e, z, p⟩ => ⟨t, e, z, x.m _ _ p⟩⟩
/-- an int, whatever its token -/
def IntW (i : Int) : VP := ⟨fun _ v => ∃ t, v = .int i t, fun _ x => x⟩
def StrV (x : Str) : VP := ⟨fun _ v => ∃ t, v = .str x t, fun _ x => x⟩
/-- a str whose token tells it -/
def StrT (x : Str) : VP := ⟨fun c v => ∃ t, v = .str x t ∧ t ≠ 0 ∧ c.m t = some v, fun x ⟨t, e, z, p⟩ => ⟨t, e, z, x.m _ _ p⟩⟩
def BoolV (b : Bool) : VP := ⟨fun _ v => v = .bool b, fun _ x => x⟩
def IsV (v : Value) : VP := ⟨fun _ x => x = v, fun _ x => x⟩
def AnyV : VP := ⟨fun _ _ => True, fun _ x => x⟩
structure IsLst (c : Cx) (a : Addr) (vs : List Value) : Prop where
  out : ∃ x, c.o a = some x ∧ x.cls = .type "list" ∧ ∃ n, x.data = .seq vs.toArray n
theorem IsLst.mono {c c' : Cx} {a : Addr} {vs : List Value} (l : IsLst c a vs) (x : Le c c') : IsLst c' a vs := let ⟨o, e, r⟩ := l.out; ⟨o, x.o _ _ e, r⟩
theorem IsLst.list {c : Cx} {s : Shared} {a : Addr} {vs : List Value} (l : IsLst c a vs) (x : InS c s) : s.heap.IsList a vs.toArray := let ⟨o, e, r⟩ := l.out; ⟨o, x.o _ _ e, r⟩
def ListV (l : List VP) : VP := ⟨fun c v => ∃ a vs, v = .ref a ∧ IsLst c a vs ∧ AllOk c l vs, by
  rintro c c' v x ⟨a, vs, e, i, p⟩
  exact ⟨a, vs, e, i.mono x, p.mono x⟩⟩
structure IsTup (c : Cx) (a : Addr) (vs : List Value) : Prop where
  out : ∃ x, c.o a = some x ∧ x.cls = .type "tuple" ∧ ∃ n, x.data = .seq vs.toArray n
theorem IsTup.mono {c c' : Cx} {a : Addr} {vs : List Value} (l : IsTup c a vs) (x : Le c c') : IsTup c' a vs := let ⟨o, e, r⟩ := l.out; ⟨o, x.o _ _ e, r⟩
def TupV (l : List VP) : VP := ⟨fun c v => ∃ a vs, v = .ref a ∧ IsTup c a vs ∧ AllOk c l vs, by
  rintro c c' v x ⟨a, vs, e, i, p⟩
  exact ⟨a, vs, e, i.mono x, p.mono x⟩⟩
def rangeObj (a b : Int) (t u v : Tok) : Obj := { cls := .type "range", dict := none, data := .fields #[.int a t, .int b u, .int 1 v], slots := #[] }
def RangeV (a b : Int) : VP := ⟨fun c v => ∃ r t u w, v = .ref r ∧ c.o r = some (rangeObj a b t u w), by
  rintro c c' v x ⟨r, t, u, w, e, i⟩
  exact ⟨r, t, u, w, e, x.o _ _ i⟩⟩
abbrev IntsV (l : List Int) : VP := ListV (l.map IntV)
theorem IntV.weak {c : Cx} {i : Int} {v : Value} (x : (IntV i).ok c v) : (IntW i).ok c v := let ⟨t, e, _⟩ := x; ⟨t, e⟩
theorem StrT.weak {c : Cx} {i : Str} {v : Value} (x : (StrT i).ok c v) : (StrV i).ok c v := let ⟨t, e, _⟩ := x; ⟨t, e⟩
theorem IntV.fresh {s : Shared} {c : Cx} (x : InS c s) (i : Int) : (IntV i).ok (c.tok s.toks (.int i s.toks)) (.int i s.toks) :=
  ⟨s.toks, rfl, Nat.ne_of_gt x.pos, if_pos rfl⟩
theorem StrT.fresh {s : Shared} {c : Cx} (x : InS c s) (i : Str) : (StrT i).ok (c.tok s.toks (.str i s.toks)) (.str i s.toks) :=
  ⟨s.toks, rfl, Nat.ne_of_gt x.pos, if_pos rfl⟩
theorem ListV.new {c : Cx} {a : Addr} {l : List VP} {vs : List Value} {n : Nat} (hn : c.o a = none) (x : AllOk c l vs) : (ListV l).ok (c.put a { cls := .type "list", data := .seq vs.toArray n }) (.ref a) :=
  ⟨a, vs, rfl, ⟨_, Cx.put_self .., rfl, n, rfl⟩, x.mono (Cx.put_le hn _)⟩

/-! ## The world, the room -/
structure Wd where
  prog : Program
  w : World
abbrev Wd.M (W : Wd) : Model := model W.prog W.w

/-- a frame of the stack stands in the heap -/
def LiveE (h : Heap) (env : Env) : Prop := env.scope.kind ≠ .module ∧ ∃ L m, env.frame = some L ∧ h.Ns L m ∧ topN < L
theorem LiveE.on {h h' : Heap} {env : Env} (x : LiveE h env) (k : HX h h') : LiveE h' env := let ⟨a, L, m, b, d, z⟩ := x; ⟨a, L, m, b, ns_hx d k, z⟩
structure Room (n : Nat) (A : Around) (h : Heap) : Prop where
  handled : A.handled = none
  depth : A.depth + n < recursionLimit
  units : A.units + 32 * (n + 1) < cLine
  fr : ∃ l, A.frames = some l ∧ ∀ env ∈ l, LiveE h env
  top : ∃ o, h.get? topN = some o
theorem Room.on {n : Nat} {A : Around} {h h' : Heap} (r : Room n A h) (k : HX h h') : Room n A h' :=
  ⟨r.handled, r.depth, r.units, let ⟨l, e, x⟩ := r.fr; ⟨l, e, fun env hm => (x env hm).on k⟩, let ⟨_, e⟩ := r.top; (k _ _ e).live⟩
/-- the room of a def's body: its own frame, and those below, that stood when it was called -/
structure RoomB (n : Nat) (A : Around) (h : Heap) (env : Env) : Prop where
  handled : A.handled = none
  depth : A.depth + n < recursionLimit
  units : A.units + 32 * (n + 1) < cLine
  fr : ∃ l, A.frames = some (env :: l) ∧ ∀ env ∈ l, LiveE h env
  top : ∃ o, h.get? topN = some o
theorem Room.deeper {n : Nat} {A : Around} {h : Heap} {env : Env} (r : Room (n + 1) A h) : RoomB n (A.deeper env) h env :=
  ⟨r.handled, by have := r.depth; show A.depth + 1 + n < _; omega, by have := r.units; show A.units + 3 + _ < _; omega, let ⟨l, e, x⟩ := r.fr; ⟨l, Around.frames_deeper e, x⟩, r.top⟩
theorem Room.le {n m : Nat} {A : Around} {h' : Heap} (r : Room n A h') (h : m ≤ n) : Room m A h' :=
  ⟨r.handled, by have := r.depth; omega, by have := r.units; omega, r.fr, r.top⟩

/-- a tree that makes new things alone -/
abbrev Post (s : Shared) (c : Cx) (P : VP) (v : Value) (s' : Shared) : Prop := ∃ c', Kp s c s' c' ∧ P.ok c' v
def Pure (W : Wd) (n : Nat) (H : Heap) (c : Cx) (t : Sem Value) (P : VP) : Prop :=
  ∀ (A : Around) (E : Value → Shared → Prop) (s : Shared) (c₁ : Cx), Room n A s.heap → HX H s.heap → Le c c₁ → InS c₁ s → wpAny W.M A t (Post s c₁ P) E s
def PE (W : Wd) (n : Nat) (env : Env) (H : Heap) (c : Cx) (e : Expr) (P : VP) : Prop := Pure W n H c (eval e env) P
/-- a test -/
def PT (W : Wd) (n : Nat) (env : Env) (H : Heap) (c : Cx) (e : Expr) (b : Bool) : Prop :=
  ∀ (A : Around) (E : Value → Shared → Prop) (s : Shared) (c₁ : Cx), Room n A s.heap → HX H s.heap → Le c c₁ → InS c₁ s → wpAny W.M A (isTrue e env (eval e env)) (fun r s' => ∃ c', Kp s c₁ s' c' ∧ r = b) E s
/-- a name -/
def Rd (W : Wd) (env : Env) (H : Heap) (c : Cx) (x : Str) (P : VP) : Prop :=
  ∀ (A : Around) (E : Value → Shared → Prop) (s : Shared) (c₁ : Cx), HX H s.heap → Le c c₁ → wpAny W.M A (loadName env x) (fun v s' => s' = s ∧ P.ok c₁ v) E s

theorem Pure.mono {W : Wd} {n : Nat} {H H' : Heap} {c c' : Cx} {P : VP} {t : Sem Value} (p : Pure W n H c t P) (k : HX H H') (l : Le c c') : Pure W n H' c' t P := fun A E s c₁ r x y z => p A E s c₁ r (k.trans x) (l.trans y) z
section
variable {W : Wd} {n : Nat} {env : Env} {H H' : Heap} {c c' : Cx} {e e₁ e₂ : Expr} {P P₁ P₂ P' : VP} {b : Bool} {x : Str}
theorem PE.mono (p : PE W n env H c e P) (k : HX H H') (l : Le c c') : PE W n env H' c' e P := Pure.mono p k l
theorem PE.weak (p : PE W n env H c e P) (k : ∀ c v, P.ok c v → P'.ok c v) : PE W n env H c e P' :=
  fun A E s c₁ r x y z => wpAny_mono (p A E s c₁ r x y z) (fun _ _ ⟨m', q, z⟩ => ⟨m', q, k _ _ z⟩) fun _ _ x => x
theorem PT.mono (p : PT W n env H c e b) (k : HX H H') (l : Le c c') : PT W n env H' c' e b := fun A E s c₁ r x y z => p A E s c₁ r (k.trans x) (l.trans y) z
theorem Rd.mono (p : Rd W env H c x P) (k : HX H H') (l : Le c c') : Rd W env H' c' x P := fun A E s c₁ y z => p A E s c₁ (k.trans y) (l.trans z)

theorem PE.at {A : Around} {E : Value → Shared → Prop} {s : Shared} {Q : Value → Shared → Prop} (p : PE W n env s.heap c e P) (r : Room n A s.heap) (ins : InS c s)
    (k : ∀ v s' c', Kp s c s' c' → P.ok c' v → Q v s') : wpAny W.M A (eval e env) Q E s :=
  wpAny_mono (p A E s c r (HX.refl _) (Le.refl _) ins) (fun v s' ⟨c', q, z⟩ => k v s' c' q z) fun _ _ x => x
theorem PT.at {A : Around} {E : Value → Shared → Prop} {s : Shared} {Q : Bool → Shared → Prop} (p : PT W n env s.heap c e b) (r : Room n A s.heap) (ins : InS c s)
    (k : ∀ s' c', Kp s c s' c' → Q b s') : wpAny W.M A (isTrue e env (eval e env)) Q E s :=
  wpAny_mono (p A E s c r (HX.refl _) (Le.refl _) ins) (fun v s' ⟨c', q, z⟩ => by subst z; exact k s' c' q) fun _ _ x => x

theorem PE.name {pos : Pos} (p : Rd W env H c x P) (hd : (x == ("__debug__" : Str)) = false := by decide) : PE W n env H c (.Name x pos) P :=
  fun A E s c₁ _ y z ins => wpAny_Name (wpAny_mono (p A E s c₁ y z) (fun _ _ hq => by obtain ⟨rfl, q⟩ := hq; exact ⟨c₁, .refl ins, q⟩) fun _ _ x => x) hd
theorem PE.int {i : Int} {k : Nat} {pos : Pos} : PE W n env H c (.Constant (.int i) k pos) (IntV i) :=
  fun _ _ _ _ _ _ _ ins => wpAny_Constant_int ⟨_, .fresh ins _, IntV.fresh ins _⟩
theorem PE.str {x : Str} {k : Nat} {pos : Pos} : PE W n env H c (.Constant (.str x) k pos) (StrT x) :=
  fun _ _ _ _ _ _ _ ins => wpAny_Constant_str ⟨_, .fresh ins _, StrT.fresh ins _⟩

/-- an operation upon two values -/
def Op2 (W : Wd) (n : Nat) (f : Value → Value → Sem Value) (P₁ P₂ P : VP) : Prop :=
  ∀ (A : Around) (E : Value → Shared → Prop) (s : Shared) (c : Cx) (v₁ v₂ : Value), Room n A s.heap → InS c s → P₁.ok c v₁ → P₂.ok c v₂ → wpAny W.M A (f v₁ v₂) (Post s c P) E s
/-- two trees, one behind the other -/
theorem two_at {α : Type} {A : Around} {E : Value → Shared → Prop} {s : Shared} {c₁ : Cx} {f : Value → Value → Sem α} {R : Shared → Cx → α → Shared → Prop}
    (p₁ : PE W n env H c e₁ P₁) (p₂ : PE W n env H c e₂ P₂) (r : Room n A s.heap) (y : HX H s.heap) (l : Le c c₁) (ins : InS c₁ s)
    (o : ∀ s₂ c₂ v₁ v₂, Kp s c₁ s₂ c₂ → P₁.ok c₂ v₁ → P₂.ok c₂ v₂ → wpAny W.M A (f v₁ v₂) (R s₂ c₂) E s₂)
    {Q : α → Shared → Prop} (k : ∀ s₂ c₂ a s₃, Kp s c₁ s₂ c₂ → R s₂ c₂ a s₃ → Q a s₃) :
    wpAny W.M A (eval e₁ env) (fun a s₁ => wpAny W.M A (eval e₂ env) (fun b s₂ => wpAny W.M A (f a b) Q E s₂) E s₁) E s :=
  wpAny_mono (p₁ A E s c₁ r y l ins) (fun v₁ s₁ ⟨m₁, k₁, o₁⟩ => wpAny_mono (p₂ A E s₁ m₁ (r.on k₁.keep) (y.trans k₁.keep) (l.trans k₁.le) k₁.ins) (fun v₂ s₂ ⟨m₂, k₂, o₂⟩ =>
    wpAny_mono (o s₂ m₂ v₁ v₂ (k₁.trans k₂) (P₁.mono k₂.le o₁) o₂) (fun a s₃ h₃ => k s₂ m₂ a s₃ (k₁.trans k₂) h₃) fun _ _ x => x) fun _ _ x => x) fun _ _ x => x
theorem PE.two {op : Operator} {pos : Pos} (p₁ : PE W n env H c e₁ P₁) (p₂ : PE W n env H c e₂ P₂) (o : Op2 W n (binaryOp op) P₁ P₂ P) : PE W n env H c (.BinOp e₁ op e₂ pos) P :=
  fun A E _ _ r y l ins => wpAny_BinOp (two_at p₁ p₂ r y l ins (R := fun s c => Post s c P) (fun s₂ c₂ v₁ v₂ k z₁ z₂ => o A E s₂ c₂ v₁ v₂ (r.on k.keep) k.ins z₁ z₂) fun _ _ _ _ k ⟨m', k', z⟩ => ⟨m', k.trans k', z⟩)
theorem PE.cmp {op : CmpOp} {pos : Pos} (p₁ : PE W n env H c e₁ P₁) (p₂ : PE W n env H c e₂ P₂) (o : Op2 W n (compareOp op) P₁ P₂ P)
    (hm : behindInMarks op e₂ = false := by with_unfolding_all rfl) : PE W n env H c (.Compare e₁ [op] [e₂] pos) P :=
  fun A E _ _ r y l ins => wpAny_Compare1 (two_at p₁ p₂ r y l ins (R := fun s c => Post s c P) (fun s₂ c₂ v₁ v₂ k z₁ z₂ => o A E s₂ c₂ v₁ v₂ (r.on k.keep) k.ins z₁ z₂) fun _ _ _ _ k ⟨m', k', z⟩ => ⟨m', k.trans k', z⟩) hm
theorem PT.cmp {op : CmpOp} {pos : Pos} (p₁ : PE W n env H c e₁ P₁) (p₂ : PE W n env H c e₂ P₂) (o : Op2 W n (compareOp op) P₁ P₂ (BoolV b))
    (hm : behindInMarks op e₂ = false := by with_unfolding_all rfl) : PT W n env H c (.Compare e₁ [op] [e₂] pos) b :=
  fun A E _ _ r y l ins => wpAny_isTrue_Compare1 (two_at p₁ p₂ r y l ins (R := fun s c => Post s c (BoolV b)) (fun s₂ c₂ v₁ v₂ k z₁ z₂ => o A E s₂ c₂ v₁ v₂ (r.on k.keep) k.ins z₁ z₂) fun _ _ _ _ k ⟨m', k', z⟩ => by
    cases z
    exact wpAny_truthy_bool ⟨m', k.trans k', rfl⟩) hm
/-- a test by a value that is a bool -/
theorem PT.val (p : PE W n env H c e (BoolV b)) (he : ∀ t, isTrue e env t = (do let v ← t; standAt e.pos; holding [v] (truthy v)) := by intro _; rfl) : PT W n env H c e b :=
  fun A E s m r y l ins => wpAny_isTrue_value (wpAny_mono (p A E s m r y l ins) (fun _ _ ⟨m', k, z⟩ => by
    cases z
    exact wpAny_truthy_bool ⟨m', k, rfl⟩) fun _ _ x => x) (he _)
theorem PT.not {pos : Pos} (p : PT W n env H c e b) : PT W n env H c (.UnaryOp .Not e pos) (!b) :=
  fun A E s m r y l ins => wpAny_isTrue_Not (wpAny_mono (p A E s m r y l ins) (fun _ _ ⟨m', k, z⟩ => ⟨m', k, by rw [z]⟩) fun _ _ x => x)
theorem PT.or {pos : Pos} {b₁ b₂ : Bool} (p₁ : PT W n env H c e₁ b₁) (p₂ : b₁ = false → PT W n env H c e₂ b₂) : PT W n env H c (.BoolOp .Or [e₁, e₂] pos) (b₁ || b₂) :=
  fun A E s m r y l ins => wpAny_isTrue_BoolOp (wpAny_allTrue_Or_cons (wpAny_mono (p₁ A E s m r y l ins) (fun b s₁ ⟨m₁, k₁, z⟩ => by
    subst z
    cases b with
    | true => exact ⟨m₁, k₁, rfl⟩
    | false => exact wpAny_allTrue_Or_cons (wpAny_mono (p₂ rfl A E s₁ m₁ (r.on k₁.keep) (y.trans k₁.keep) (l.trans k₁.le) k₁.ins) (fun b s₂ ⟨m₂, k₂, z⟩ => by
      subst z
      cases b with
      | true => exact ⟨m₂, k₁.trans k₂, rfl⟩
      | false => exact wpAny_allTrue_Or_nil ⟨m₂, k₁.trans k₂, rfl⟩) fun _ _ x => x)) fun _ _ x => x))
theorem PT.and {pos : Pos} {b₁ b₂ : Bool} (p₁ : PT W n env H c e₁ b₁) (p₂ : b₁ = true → PT W n env H c e₂ b₂) : PT W n env H c (.BoolOp .And [e₁, e₂] pos) (b₁ && b₂) :=
  fun A E s m r y l ins => wpAny_isTrue_BoolOp (wpAny_allTrue_And_cons (wpAny_mono (p₁ A E s m r y l ins) (fun b s₁ ⟨m₁, k₁, z⟩ => by
    subst z
    cases b with
    | false => exact ⟨m₁, k₁, rfl⟩
    | true => exact wpAny_allTrue_And_cons (wpAny_mono (p₂ rfl A E s₁ m₁ (r.on k₁.keep) (y.trans k₁.keep) (l.trans k₁.le) k₁.ins) (fun b s₂ ⟨m₂, k₂, z⟩ => by
      subst z
      cases b with
      | false => exact ⟨m₂, k₁.trans k₂, rfl⟩
      | true => exact wpAny_allTrue_And_nil ⟨m₂, k₁.trans k₂, rfl⟩) fun _ _ x => x)) fun _ _ x => x))
theorem PE.ite {t : Expr} {pos : Pos} (p : PT W n env H c t b) (p₁ : b = true → PE W n env H c e₁ P) (p₂ : b = false → PE W n env H c e₂ P) : PE W n env H c (.IfExp t e₁ e₂ pos) P :=
  fun A E s m r y l ins => wpAny_IfExp (wpAny_mono (p A E s m r y l ins) (fun b s₁ ⟨m₁, k₁, z⟩ => by
    subst z
    cases b with
    | true => exact wpAny_mono (p₁ rfl A E s₁ m₁ (r.on k₁.keep) (y.trans k₁.keep) (l.trans k₁.le) k₁.ins) (fun v s₂ ⟨m₂, k₂, z⟩ => ⟨m₂, k₁.trans k₂, z⟩) fun _ _ x => x
    | false => exact wpAny_mono (p₂ rfl A E s₁ m₁ (r.on k₁.keep) (y.trans k₁.keep) (l.trans k₁.le) k₁.ins) (fun v s₂ ⟨m₂, k₂, z⟩ => ⟨m₂, k₁.trans k₂, z⟩) fun _ _ x => x) fun _ _ x => x)
/-- any rule that says what it makes, and no more -/
theorem post_of {A : Around} {E : Value → Shared → Prop} {s : Shared} {t : Sem Value} (h : wpAny W.M A t (fun v s' => s.toks ≤ s'.toks → Post s c P v s') E s) : wpAny W.M A t (Post s c P) E s :=
  wpAny_with_toks (Nat.le_refl _) (wpAny_mono h (fun _ _ x => x) fun _ _ x _ => x)
end
end Mine

/-! ### C2 -/
open PySem PySem.W PyProof.Rows
set_option Elab.async false
namespace Mine

/-! ## Ints -/
def IsI (P : VP) (a : Int) : Prop := ∀ c v, P.ok c v → ∃ t, v = .int a t
theorem isI_v (a : Int) : IsI (IntV a) a := fun _ _ ⟨t, e, _⟩ => ⟨t, e⟩
theorem isI_w (a : Int) : IsI (IntW a) a := fun _ _ x => x
def IsS (P : VP) (a : Str) : Prop := ∀ c v, P.ok c v → ∃ t, v = .str a t
theorem isS_t (a : Str) : IsS (StrT a) a := fun _ _ ⟨t, e, _⟩ => ⟨t, e⟩
theorem isS_v (a : Str) : IsS (StrV a) a := fun _ _ x => x
section
variable {W : Wd} {n : Nat} {env : Env} {H : Heap} {c : Cx} {e e₁ e₂ : Expr} {P P₁ P₂ : VP} {a b : Int} {pos : Pos}
theorem PE.w (p : PE W n env H c e (IntV a)) : PE W n env H c e (IntW a) := p.weak fun _ _ x => IntV.weak x
theorem PE.sw {x : Str} (p : PE W n env H c e (StrT x)) : PE W n env H c e (StrV x) := p.weak fun _ _ x => StrT.weak x
theorem op_int {op : Operator} {a b r : Int} (i₁ : IsI P₁ a) (i₂ : IsI P₂ b)
    (o : ∀ (A : Around) (E Q : Value → Shared → Prop) (s : Shared) (t u : Tok), Q (.int r s.toks) { s with toks := s.toks + 1 } → wpAny W.M A (binaryOp op (.int a t) (.int b u)) Q E s) : Op2 W n (binaryOp op) P₁ P₂ (IntV r) := by
  intro A E s c v₁ v₂ _ ins z₁ z₂
  obtain ⟨t, rfl⟩ := i₁ _ _ z₁
  obtain ⟨u, rfl⟩ := i₂ _ _ z₂
  exact o _ _ _ _ _ _ ⟨_, .fresh ins _, IntV.fresh ins _⟩
theorem PE.add (p₁ : PE W n env H c e₁ P₁) (p₂ : PE W n env H c e₂ P₂) (i₁ : IsI P₁ a := by first | exact isI_v _ | exact isI_w _) (i₂ : IsI P₂ b := by first | exact isI_v _ | exact isI_w _) :
    PE W n env H c (.BinOp e₁ .Add e₂ pos) (IntV (a + b)) := .two p₁ p₂ (op_int i₁ i₂ fun _ _ _ _ _ _ h => add_int h)
theorem PE.sub (p₁ : PE W n env H c e₁ P₁) (p₂ : PE W n env H c e₂ P₂) (i₁ : IsI P₁ a := by first | exact isI_v _ | exact isI_w _) (i₂ : IsI P₂ b := by first | exact isI_v _ | exact isI_w _) :
    PE W n env H c (.BinOp e₁ .Sub e₂ pos) (IntV (a - b)) := .two p₁ p₂ (op_int i₁ i₂ fun _ _ _ _ _ _ h => sub_int h)
theorem PE.mul (p₁ : PE W n env H c e₁ P₁) (p₂ : PE W n env H c e₂ P₂) (hm : IntMulOk a b) (i₁ : IsI P₁ a := by first | exact isI_v _ | exact isI_w _) (i₂ : IsI P₂ b := by first | exact isI_v _ | exact isI_w _) :
    PE W n env H c (.BinOp e₁ .Mult e₂ pos) (IntV (a * b)) := .two p₁ p₂ (op_int i₁ i₂ fun _ _ _ _ _ _ h => mul_int h hm)
theorem PE.mod (p₁ : PE W n env H c e₁ P₁) (p₂ : PE W n env H c e₂ P₂) (hb : b ≠ 0) (i₁ : IsI P₁ a := by first | exact isI_v _ | exact isI_w _) (i₂ : IsI P₂ b := by first | exact isI_v _ | exact isI_w _) :
    PE W n env H c (.BinOp e₁ .Mod e₂ pos) (IntV (a.fmod b)) := .two p₁ p₂ (op_int i₁ i₂ fun _ _ _ _ _ _ h => mod_int' hb h)
theorem PE.fdiv (p₁ : PE W n env H c e₁ P₁) (p₂ : PE W n env H c e₂ P₂) (hb : b ≠ 0 ∧ b.natAbs < 1073741824) (i₁ : IsI P₁ a := by first | exact isI_v _ | exact isI_w _) (i₂ : IsI P₂ b := by first | exact isI_v _ | exact isI_w _) :
    PE W n env H c (.BinOp e₁ .FloorDiv e₂ pos) (IntV (a.fdiv b)) := .two p₁ p₂ (op_int i₁ i₂ fun _ _ _ _ _ _ h => floordiv_int hb.1 h (Or.inl (PyProof.noPylong_small hb.2)))
theorem PE.pow (p₁ : PE W n env H c e₁ P₁) (p₂ : PE W n env H c e₂ P₂) (hn : 0 ≤ b) (hsz : (Builtin.Int.intBits a : Int) * b ≤ 2 ^ 27) (i₁ : IsI P₁ a := by first | exact isI_v _ | exact isI_w _) (i₂ : IsI P₂ b := by first | exact isI_v _ | exact isI_w _) :
    PE W n env H c (.BinOp e₁ .Pow e₂ pos) (IntV (a ^ b.toNat)) := .two p₁ p₂ (op_int i₁ i₂ fun _ _ _ _ _ _ h => pow_int hn hsz h)
theorem PE.neg (p : PE W n env H c e P) (i : IsI P a := by first | exact isI_v _ | exact isI_w _) : PE W n env H c (.UnaryOp .USub e pos) (IntV (-a)) :=
  fun A E s m r y l ins => wpAny_UnaryOp (wpAny_mono (p A E s m r y l ins) (fun v s₁ ⟨m₁, k, z⟩ => by
    obtain ⟨t, rfl⟩ := i _ _ z
    exact neg_int ⟨_, k.trans (.fresh k.ins _), IntV.fresh k.ins _⟩) fun _ _ x => x)
theorem op_cmp {op : CmpOp} {a b : Int} {d : Bool} (i₁ : IsI P₁ a) (i₂ : IsI P₂ b)
    (o : ∀ (A : Around) (E Q : Value → Shared → Prop) (s : Shared) (t u : Tok), Q (.bool d) s → wpAny W.M A (compareOp op (.int a t) (.int b u)) Q E s) : Op2 W n (compareOp op) P₁ P₂ (BoolV d) := by
  intro A E s c v₁ v₂ _ ins z₁ z₂
  obtain ⟨t, rfl⟩ := i₁ _ _ z₁
  obtain ⟨u, rfl⟩ := i₂ _ _ z₂
  exact o _ _ _ _ _ _ ⟨_, .refl ins, rfl⟩
theorem o_eq (i₁ : IsI P₁ a := by first | exact isI_v _ | exact isI_w _) (i₂ : IsI P₂ b := by first | exact isI_v _ | exact isI_w _) : Op2 W n (compareOp .Eq) P₁ P₂ (BoolV (a == b)) := op_cmp i₁ i₂ fun _ _ _ _ _ _ h => eq_int h
theorem o_ne (i₁ : IsI P₁ a := by first | exact isI_v _ | exact isI_w _) (i₂ : IsI P₂ b := by first | exact isI_v _ | exact isI_w _) : Op2 W n (compareOp .NotEq) P₁ P₂ (BoolV (a != b)) := op_cmp i₁ i₂ fun _ _ _ _ _ _ h => ne_int h
theorem o_lt (i₁ : IsI P₁ a := by first | exact isI_v _ | exact isI_w _) (i₂ : IsI P₂ b := by first | exact isI_v _ | exact isI_w _) : Op2 W n (compareOp .Lt) P₁ P₂ (BoolV (decide (a < b))) := op_cmp i₁ i₂ fun _ _ _ _ _ _ h => lt_int h
theorem o_gt (i₁ : IsI P₁ a := by first | exact isI_v _ | exact isI_w _) (i₂ : IsI P₂ b := by first | exact isI_v _ | exact isI_w _) : Op2 W n (compareOp .Gt) P₁ P₂ (BoolV (decide (b < a))) := op_cmp i₁ i₂ fun _ _ _ _ _ _ h => gt_int h
theorem o_ge (i₁ : IsI P₁ a := by first | exact isI_v _ | exact isI_w _) (i₂ : IsI P₂ b := by first | exact isI_v _ | exact isI_w _) : Op2 W n (compareOp .GtE) P₁ P₂ (BoolV (decide (b ≤ a))) := op_cmp i₁ i₂ fun _ _ _ _ _ _ h => ge_int h
theorem o_eqb {a b : Bool} : Op2 W n (compareOp .Eq) (BoolV a) (BoolV b) (BoolV (a == b)) := by
  intro A E s c v₁ v₂ _ ins z₁ z₂
  cases z₁; cases z₂
  exact eq_bool ⟨_, .refl ins, rfl⟩
theorem o_eqs {a b : Str} (i₁ : IsS P₁ a := by first | exact isS_t _ | exact isS_v _) (i₂ : IsS P₂ b := by first | exact isS_t _ | exact isS_v _) : Op2 W n (compareOp .Eq) P₁ P₂ (BoolV (a == b)) := by
  intro A E s c v₁ v₂ _ ins z₁ z₂
  obtain ⟨t, rfl⟩ := i₁ _ _ z₁
  obtain ⟨u, rfl⟩ := i₂ _ _ z₂
  exact eq_str ⟨_, .refl ins, rfl⟩
theorem o_nes {a b : Str} (i₁ : IsS P₁ a := by first | exact isS_t _ | exact isS_v _) (i₂ : IsS P₂ b := by first | exact isS_t _ | exact isS_v _) : Op2 W n (compareOp .NotEq) P₁ P₂ (BoolV (a != b)) := by
  intro A E s c v₁ v₂ _ ins z₁ z₂
  obtain ⟨t, rfl⟩ := i₁ _ _ z₁
  obtain ⟨u, rfl⟩ := i₂ _ _ z₂
  exact ne_str ⟨_, .refl ins, rfl⟩
theorem o_adds {a b : Str} (hsz : a.length + b.length ≤ sizeLine) (i₁ : IsS P₁ a := by first | exact isS_t _ | exact isS_v _) (i₂ : IsS P₂ b := by first | exact isS_t _ | exact isS_v _) : Op2 W n (binaryOp .Add) P₁ P₂ (StrV (a ++ b)) := by
  intro A E s c v₁ v₂ _ ins z₁ z₂
  obtain ⟨t, rfl⟩ := i₁ _ _ z₁
  obtain ⟨u, rfl⟩ := i₂ _ _ z₂
  exact post_of (add_str (hsz := hsz) fun t' tk hl => ⟨_, .toks ins hl, t', rfl⟩)
/-- «is» upon two ints whose tokens tell them; the one that is sought is small -/
theorem o_is (hb : smallInt b = true) : Op2 W n (compareOp .Is) (IntV a) (IntV b) (BoolV (a == b)) := by
  intro A E s c v₁ v₂ _ ins z₁ z₂
  obtain ⟨t, rfl, t0, tm⟩ := z₁
  obtain ⟨u, rfl, u0, um⟩ := z₂
  have h0 : (t == 0 || u == 0) = false := by simp [t0, u0]
  show wpAny W.M A (do return Value.bool (← isSame (.int a t) (.int b u)) : Sem Value) _ _ _
  refine wpAny_bind ?_
  show wpAny W.M A (if (a == b && smallInt a) = true then isSame.cachedInt t u else isSame.created (a == b) t u) _ _ _
  by_cases q : a = b
  · subst q
    rw [if_pos (by simp [hb])]
    unfold isSame.cachedInt
    rw [h0]
    exact wpAny_bind (wpAny_rule (wpAny_pure (wpAny_pure ⟨_, .refl ins, by simp [BoolV]⟩)))
  · have tu : (t == u) = false := by
      rw [beq_eq_false_iff_ne]; rintro rfl
      rw [tm] at um; injection um with um; injection um with um; exact q um
    have ab : (a == b) = false := beq_eq_false_iff_ne.mpr q
    rw [if_neg (by simp [ab])]
    unfold isSame.created
    simp only [h0, ab, tu, Bool.not_false, if_true, Bool.false_eq_true, if_false]
    exact wpAny_pure (wpAny_pure ⟨_, .refl ins, rfl⟩)
/-- «is» upon two texts whose tokens tell them: true at most where they are alike -/
theorem is_str {A : Around} {E Q : Value → Shared → Prop} {s : Shared} {a b : Str} {v₁ v₂ : Value} (hb : NoneBooked s.heap) (z₁ : (StrT a).ok c v₁) (z₂ : (StrT b).ok c v₂)
    (h : ∀ d : Bool, (d = true → a = b) → Q (.bool d) s) : wpAny W.M A (compareOp .Is v₁ v₂) Q E s := by
  obtain ⟨t, rfl, t0, tm⟩ := z₁
  obtain ⟨u, rfl, u0, um⟩ := z₂
  have h0 : (t == 0 || u == 0) = false := by simp [t0, u0]
  show wpAny W.M A (do return Value.bool (← isSame (.str a t) (.str b u)) : Sem Value) _ _ _
  refine wpAny_bind ?_
  by_cases q : a = b
  · exact wpAny_isSame_str h0 hb fun d => wpAny_pure (h d fun _ => q)
  · have tu : (t == u) = false := by
      rw [beq_eq_false_iff_ne]; rintro rfl
      rw [tm] at um; injection um with um; injection um with um; exact q um
    have ab : (a == b) = false := beq_eq_false_iff_ne.mpr q
    show wpAny W.M A (isSame.created (a == b) t u) _ _ _
    unfold isSame.created
    simp only [h0, ab, tu, Bool.not_false, if_true, Bool.false_eq_true, if_false]
    exact wpAny_pure (wpAny_pure (h false fun e => nomatch e))
end
end Mine

/-! ### C3 -/
open PySem PySem.W PyProof.Rows
set_option Elab.async false
namespace Mine

/-! ## Texts as lists of numbers -/
def S (l : List Nat) : Str := ⟨l.toArray⟩
theorem S_append (a b : List Nat) : S a ++ S b = S (a ++ b) := by
  apply Str.ext'; rw [Str.cps_append]; simp [S]
theorem S_length (a : List Nat) : (S a).length = a.length := by simp [S, Str.length]
theorem S_inj {a b : List Nat} : S a = S b ↔ a = b := by
  constructor
  · intro h; have := congrArg (fun x => x.cps.toList) h; simpa [S] using this
  · rintro rfl; rfl
theorem S_beq (a b : List Nat) : (S a == S b) = (a == b) := by
  by_cases h : a = b
  · subst h; simp
  · have : S a ≠ S b := fun q => h (S_inj.mp q)
    rw [beq_eq_false_iff_ne.mpr this, beq_eq_false_iff_ne.mpr h]
theorem S_bne (a b : List Nat) : (S a != S b) = (a != b) := by simp only [bne, S_beq]
theorem fold_rep (l : List Nat) : ∀ (k : Nat) (acc : Array Nat), ((List.replicate k l.toArray).foldl (· ++ ·) acc).toList = acc.toList ++ (List.replicate k l).flatten
  | 0, acc => by simp
  | k + 1, acc => by
    rw [List.replicate_succ, List.foldl_cons, fold_rep l k]
    simp [List.replicate_succ, List.append_assoc]
theorem mul_S (c : Nat) (k : Nat) : Txt.mul (S [c]) (k : Int) = S (List.replicate k c) := by
  unfold Txt.mul
  by_cases h : (k : Int) < 1
  · rw [if_pos h]
    have : k = 0 := by omega
    subst this; rfl
  · rw [if_neg h]
    by_cases h1 : k = 1
    · subst h1; rw [if_pos (by simp)]; rfl
    · rw [if_neg (by simp [S_length]; omega)]
      apply Str.ext'
      apply Array.toList_inj.mp
      show ((List.replicate ((k : Int)).toNat (S [c]).cps).foldl (· ++ ·) #[]).toList = _
      rw [show (S [c]).cps = [c].toArray from rfl, fold_rep]
      simp only [Int.toNat_natCast, S]
      clear h h1
      induction k with
      | zero => rfl
      | succ k ih => simp only [List.replicate_succ, List.flatten_cons] at ih ⊢; simp at ih ⊢

section
variable {W : Wd} {n : Nat} {env : Env} {H : Heap} {c : Cx} {e e₁ e₂ : Expr} {P P₁ P₂ : VP} {pos : Pos}
theorem o_muls {c k : Nat} (hk : k ≤ 100000) (i₁ : IsS P₁ (S [c]) := by first | exact isS_t _ | exact isS_v _) (i₂ : IsI P₂ (k : Int) := by first | exact isI_v _ | exact isI_w _) : Op2 W n (binaryOp .Mult) P₁ P₂ (StrV (S (List.replicate k c))) := by
  intro A E s c' v₁ v₂ _ ins z₁ z₂
  obtain ⟨t, rfl⟩ := i₁ _ _ z₁
  obtain ⟨u, rfl⟩ := i₂ _ _ z₂
  refine post_of (SB.mul ⟨?_, fun h1 _ => ?_, fun _ _ => ?_⟩ fun t' tk hl => ⟨_, .toks ins hl, t', ?_⟩)
  · simp; omega
  · rw [S_length]
    have : (1 : Int) ≤ (2 ^ 63 - 1) / (k : Int) := by
      rw [Int.le_ediv_iff_mul_le (by omega)]; omega
    intro hh
    have h2 : (([c].length : Nat) : Int) = 1 := rfl
    rw [h2] at hh; omega
  · rw [S_length]
    have h2 : [c].length * ((k : Int)).toNat = k := by simp
    rw [h2]
    exact decide_eq_false (by rw [sizeLine_eq]; omega)
  · rw [mul_S]
end
end Mine

/-! ### C4 -/
open PySem PySem.W PyProof.Rows
set_option Elab.async false
namespace Mine

/-! ## Several expressions, displays, calls -/
def plainE : Expr → Bool
  | .Starred .. => false
  | _ => true
theorem starEach_plain {e : Expr} {rest : List Expr} {env : Env} (h : plainE e = true) : starEach (e :: rest) env = (false, eval e env) :: starEach rest env := by
  cases e <;> first | rfl | cases h
theorem no_star : ∀ {es : List Expr} {env : Env} {pos : Pos}, es.all plainE = true → (backTo pos (starEach es env)).any (·.1) = false
  | [], _, _, _ => rfl
  | e :: r, env, pos, h => by
    rw [List.all_cons, Bool.and_eq_true] at h
    rw [starEach_plain h.1]
    show (false || (backTo pos (starEach r env)).any (·.1)) = false
    rw [no_star h.2]; rfl
inductive PEs (W : Wd) (n : Nat) (env : Env) (H : Heap) (c : Cx) : List Expr → List VP → Prop
  | nil : PEs W n env H c [] []
  | cons {e : Expr} {es : List Expr} {P : VP} {Ps : List VP} : plainE e = true → PE W n env H c e P → PEs W n env H c es Ps → PEs W n env H c (e :: es) (P :: Ps)
section
variable {W : Wd} {n : Nat} {env : Env} {H : Heap} {c : Cx} {e e₁ e₂ : Expr} {P P₁ P₂ : VP} {pos : Pos}
theorem PEs.one (p : PE W n env H c e P) (h : plainE e = true := by rfl) : PEs W n env H c [e] [P] := .cons h p .nil
theorem PEs.two (p₁ : PE W n env H c e₁ P₁) (p₂ : PE W n env H c e₂ P₂) (h₁ : plainE e₁ = true := by rfl) (h₂ : plainE e₂ = true := by rfl) : PEs W n env H c [e₁, e₂] [P₁, P₂] := .cons h₁ p₁ (.one p₂ h₂)
theorem PEs.plain {es : List Expr} {Ps : List VP} (p : PEs W n env H c es Ps) : es.all plainE = true := by
  induction p with
  | nil => rfl
  | cons h _ _ ih => rw [List.all_cons, h, ih]; rfl
theorem PEs.run {es : List Expr} {Ps : List VP} (p : PEs W n env H c es Ps) {A : Around} : ∀ (E : Value → Shared → Prop) (s : Shared) (c₁ : Cx), Room n A s.heap → HX H s.heap → Le c c₁ → InS c₁ s →
    wpAny W.M A (spliced (backTo pos (starEach es env))) (fun vs s' => ∃ c', Kp s c₁ s' c' ∧ AllOk c' Ps vs) E s := by
  induction p with
  | nil => exact fun E s c₁ _ _ _ ins => wpAny_items_nil ⟨c₁, .refl ins, .nil⟩
  | cons h p _ ih =>
    intro E s c₁ r y l ins
    rw [starEach_plain h]
    refine Calls.spliced_cons (wpAny_mono (p A E s c₁ r y l ins) (fun v s₁ ⟨c₂, k, z⟩ => ?_) fun _ _ x => x)
    exact wpAny_mono (ih E s₁ c₂ (r.on k.keep) (y.trans k.keep) (l.trans k.le) k.ins) (fun vs s₂ ⟨c₃, k', z'⟩ => ⟨c₃, k.trans k', .cons (VP.mono _ k'.le z) z'⟩) fun _ _ x => x
/-- a list display -/
theorem PE.list {es : List Expr} {Ps : List VP} (p : PEs W n env H c es Ps) (hsz : Ps.length ≤ 1000) : PE W n env H c (.List es pos) (ListV Ps) := by
  intro A E s c₁ r y l ins
  refine List_ (wpAny_mono (p.run E s c₁ r y l ins) (fun vs s₁ ⟨c₂, k, z⟩ => ?_) fun _ _ x => x)
  refine wpAny_newList ⟨_, k.trans (.push k.ins _), ListV.new (k.ins.none (get_size _)) z⟩ ?_
  rw [← z.len, sizeLine_eq]; omega
theorem PE.nil : PE W n env H c (.List [] pos) (ListV []) := .list .nil (by decide)

/-- what may be called -/
def Callee (c : Heap) (f : Value) : Prop := (∃ id, f = .builtin id) ∨ (∃ T, f = .type T) ∨ ∃ q, f = .ref q ∧ FnAt q c
theorem Callee.mono {h h' : Heap} {f : Value} (x : Callee h f) (k : HX h h') : Callee h' f := by
  rcases x with x | x | ⟨q, e, oc, od, fd, sl, g⟩
  · exact .inl x
  · exact .inr (.inl x)
  · obtain ⟨⟨oc', od', data', sl'⟩, g', s⟩ := k _ _ g
    have hd : data' = .func fd := s.data
    subst hd
    exact .inr (.inr ⟨q, e, oc', od', fd, sl', g'⟩)
theorem callWith_callee {A : Around} {E Q : Value → Shared → Prop} {s : Shared} {f : Value} {e : Expr} {es : List Expr} (x : Callee s.heap f) (hp : (e :: es).all plainE = true)
    (h : wpAny W.M A (spliced (backTo pos (starEach (e :: es) env))) (fun vs s₁ => Callee s₁.heap f ∧ wpAny W.M A (call f vs) Q E s₁) E s) :
    wpAny W.M A (callWith pos f [] (backTo pos (starEach (e :: es) env)) []) Q E s := by
  rw [List.all_cons, Bool.and_eq_true] at hp
  rcases x with ⟨id, rfl⟩ | ⟨T, rfl⟩ | ⟨q, rfl, x⟩
  · rw [starEach_plain hp.1] at h ⊢
    exact Calls.callWith_builtin (by show (false || (backTo pos (starEach es env)).any (·.1)) = false; rw [no_star hp.2]; rfl) (Calls.evalArgs_plain (wpAny_mono h (fun _ _ z => z.2) fun _ _ x => x))
  · exact callWith_type1 (wpAny_mono h (fun _ _ z => z.2) fun _ _ x => x) (starEach_plain hp.1) (no_star hp.2)
  · refine callWith_F x (wpAny_mono h (fun vs s₁ z => ⟨?_, z.2⟩) fun _ _ x => x) (starEach_plain hp.1) (no_star hp.2)
    rcases z.1 with ⟨_, q⟩ | ⟨_, q⟩ | ⟨_, q, z⟩
    · cases q
    · cases q
    · cases q; exact z
/-- a call of f upon values like these gives a value like that, and makes new things alone -/
def Cl (W : Wd) (n : Nat) (H : Heap) (f : Value) (Ps : List VP) (P : VP) : Prop :=
  ∀ (A : Around) (E : Value → Shared → Prop) (s : Shared) (c : Cx) (vs : List Value), Room n A s.heap → HX H s.heap → InS c s → AllOk c Ps vs → wpAny W.M A (call f vs) (Post s c P) E s
theorem Cl.mono {H' : Heap} {f : Value} {Ps : List VP} (x : Cl W n H f Ps P) (k : HX H H') : Cl W n H' f Ps P := fun A E s c vs r y ins z => x A E s c vs r (k.trans y) ins z
/-- a name that is bound to what may be called -/
def Fn (W : Wd) (n : Nat) (env : Env) (H : Heap) (x : Str) (Ps : List VP) (P : VP) : Prop :=
  ∀ (A : Around) (E : Value → Shared → Prop) (s : Shared), HX H s.heap → wpAny W.M A (loadName env x) (fun f s' => s' = s ∧ Callee s.heap f ∧ Cl W n s.heap f Ps P) E s
theorem PE.call {x : Str} {np : Pos} {es : List Expr} {Ps : List VP} (f : Fn W n env H x Ps P) (p : PEs W n env H c es Ps) (hne : es ≠ [] := by intro h; cases h) (hd : (x == ("__debug__" : Str)) = false := by decide) :
    PE W n env H c (.Call (.Name x np) es [] pos) P := by
  intro A E s c₁ r y l ins
  refine wpAny_Call_NameR (wpAny_Name (wpAny_mono (f A E s y) (fun v s₁ hq => ?_) fun _ _ x => x) hd)
  obtain ⟨rfl, hc, cl⟩ := hq
  cases es with
  | nil => exact absurd rfl hne
  | cons e es =>
    refine callWith_callee hc p.plain (wpAny_mono (p.run E s₁ c₁ r y l ins) (fun vs s₂ ⟨c₂, k, z⟩ => ⟨hc.mono k.keep, ?_⟩) fun _ _ x => x)
    exact wpAny_mono (cl A E s₂ c₂ vs (r.on k.keep) k.keep k.ins z) (fun v s₃ ⟨c₃, k', z'⟩ => ⟨c₃, k.trans k', z'⟩) fun _ _ x => x

/-! ## Items and slices -/
theorem AllOk.get {c : Cx} {l : List VP} {vs : List Value} (x : AllOk c l vs) : ∀ {i : Nat} {P : VP}, l[i]? = some P → ∃ v, vs[i]? = some v ∧ P.ok c v := by
  induction x with
  | nil => intro i P h; simp at h
  | cons p _ ih =>
    intro i Q h
    cases i with
    | zero => simp at h; subst h; exact ⟨_, rfl, p⟩
    | succ i => simp at h; obtain ⟨v, e, z⟩ := ih h; exact ⟨v, by simpa using e, z⟩
theorem PE.item {l : List VP} {k : Int} (p₁ : PE W n env H c e₁ (ListV l)) (p₂ : PE W n env H c e₂ P₂) (h0 : 0 ≤ k ∧ k < 2 ^ 63) (hx : l[k.toNat]? = some P)
    (i : IsI P₂ k := by first | exact isI_v _ | exact isI_w _) (hs : ∀ o i, subscripted e₂ false o i = operate [o, i] (getItem o i) := by intro _ _; rfl) : PE W n env H c (.Subscript e₁ e₂ pos) P := by
  intro A E s c₁ r y ll ins
  refine Subscript_ (two_at p₁ p₂ r y ll ins (R := fun s c => Post s c P) (fun s₂ c₂ v₁ v₂ kk z₁ z₂ => ?_) fun _ _ _ _ k ⟨m', k', z⟩ => ⟨m', k.trans k', z⟩)
  obtain ⟨a, vs, rfl, il, ok⟩ := z₁
  obtain ⟨t, rfl⟩ := i _ _ z₂
  obtain ⟨v, ev, ov⟩ := ok.get hx
  exact tail_any (il.list kk.ins).typeIs slot_list_getitem.lookup (wpAny_getItem_list (il.list kk.ins) h0.1 h0.2 (by simpa using ev) ⟨_, .refl kk.ins, ov⟩) (hs _ _)
theorem PE.itemS {x : List Nat} {k : Int} {d : Nat} (p₁ : PE W n env H c e₁ P₁) (p₂ : PE W n env H c e₂ P₂) (h0 : 0 ≤ k ∧ k < 2 ^ 63) (hx : x[k.toNat]? = some d) (i₁ : IsS P₁ (S x) := by first | exact isS_t _ | exact isS_v _)
    (i : IsI P₂ k := by first | exact isI_v _ | exact isI_w _) (hs : ∀ o i, subscripted e₂ false o i = operate [o, i] (getItem o i) := by intro _ _; rfl) : PE W n env H c (.Subscript e₁ e₂ pos) (StrT (S [d])) := by
  intro A E s c₁ r y ll ins
  refine Subscript_ (two_at p₁ p₂ r y ll ins (R := fun s c => Post s c (StrT (S [d]))) (fun s₂ c₂ v₁ v₂ kk z₁ z₂ => ?_) fun _ _ _ _ k ⟨m', k', z⟩ => ⟨m', k.trans k', z⟩)
  obtain ⟨t, rfl⟩ := i₁ _ _ z₁
  obtain ⟨u, rfl⟩ := i _ _ z₂
  refine tail_any (typeIs_str _ _ _) slot_str_getitem.lookup (getItem_str (c := d) ?_ ?_ ⟨_, .fresh kk.ins _, StrT.fresh kk.ins _⟩) (hs _ _)
  · simp; omega
  · have hlt : k.toNat < x.length := (List.getElem?_eq_some_iff.mp hx).1
    have e1 : seqIndex? k (S x).length = some k.toNat := by
      rw [S_length]; unfold seqIndex?; simp; omega
    rw [e1]
    simpa [S] using hx
end
end Mine

/-! ### C5 -/
open PySem PySem.W PyProof.Rows PySem.SeqAt
set_option Elab.async false
namespace Mine
section
variable {W : Wd} {n : Nat} {env : Env} {H : Heap} {c : Cx} {e e₁ e₂ : Expr} {P P₁ P₂ : VP} {pos : Pos}

/-! ## Lists: +, ==, !=, in -/
theorem o_addl {l₁ l₂ : List VP} (hsz : l₁.length + l₂.length ≤ 100000) : Op2 W n (binaryOp .Add) (ListV l₁) (ListV l₂) (ListV (l₁ ++ l₂)) := by
  intro A E s c v₁ v₂ _ ins z₁ z₂
  obtain ⟨a, vs, rfl, il, ok⟩ := z₁
  obtain ⟨b, ws, rfl, il', ok'⟩ := z₂
  obtain ⟨⟨cls, dd, data, sl⟩, ho, hc, k, hd⟩ := il.list ins
  obtain ⟨⟨cls2, dd2, data2, sl2⟩, ho2, hc2, k2, hd2⟩ := il'.list ins
  simp only at hc hd hc2 hd2
  subst hc hd hc2 hd2
  have e : vs.toArray ++ ws.toArray = (vs ++ ws).toArray := by simp
  refine concat_meets ⟨_, ho, rfl⟩ ⟨_, ho2, rfl⟩ noFill_list_add seq_list_add PySem.F.slot_list_add PySem.F.entry_list_add (PySem.F.args_list_add_2 _ _) (list_addW a b vs.toArray ws.toArray k k2 dd dd2 sl sl2 (by
    have h1 := ok.len; have h2 := ok'.len
    rw [sizeLine_eq]; simp only [List.size_toArray]; omega)) ⟨ho, ho2, ?_⟩
  rw [e]
  exact ⟨_, .push ins _, ListV.new (ins.none (get_size _)) (ok.append ok')⟩

/-- two lists whose items compare as told -/
theorem eq_lists {A : Around} {E Q : Value → Shared → Prop} {s : Shared} {a b : Addr} {vs ws : List Value} {r : Bool} (hl : s.heap.IsList a vs.toArray) (hb : s.heap.IsList b ws.toArray) (hu : A.units < cLine)
    (h : (vs.length ≠ ws.length ∧ r = false) ∨ (vs.length = ws.length ∧ ∃ e : Nat → Bool, (∀ j (h1 : j < vs.length) (h2 : j < ws.length), EqAt A.in1 s vs[j] ws[j] (e j)) ∧ (List.range vs.length).all e = r)) :
    Q (.bool r) s → wpAny W.M A (compareOp .Eq (.ref a) (.ref b)) Q E s := by
  intro hq
  rcases h with ⟨hne, rfl⟩ | ⟨he, e, hj, rfl⟩
  · exact eq_list_lengthsAt hl hb (by simpa using hne) hu hq
  · exact eq_listAt (e := e) hl hb (by simpa using he) hu (fun j h1 h2 => by simpa using hj j (by simpa using h1) (by simpa using h2)) (by simpa using hq)
theorem ne_lists {A : Around} {E Q : Value → Shared → Prop} {s : Shared} {a b : Addr} {vs ws : List Value} {r : Bool} (hl : s.heap.IsList a vs.toArray) (hb : s.heap.IsList b ws.toArray) (hu : A.units < cLine)
    (h : (vs.length ≠ ws.length ∧ r = false) ∨ (vs.length = ws.length ∧ ∃ e : Nat → Bool, (∀ j (h1 : j < vs.length) (h2 : j < ws.length), EqAt A.in1 s vs[j] ws[j] (e j)) ∧ (List.range vs.length).all e = r)) :
    Q (.bool (!r)) s → wpAny W.M A (compareOp .NotEq (.ref a) (.ref b)) Q E s := by
  intro hq
  rcases h with ⟨hne, rfl⟩ | ⟨he, e, hj, rfl⟩
  · exact RcNeAt.lists_lengths hl hb (by simpa using hne) hu _ _ _ _ hq
  · exact RcNeAt.lists (e := e) hl hb (by simpa using he) hu (fun j h1 h2 => by simpa using hj j (by simpa using h1) (by simpa using h2)) _ _ _ _ (by simpa using hq)
/-- texts told by their numbers, compared item by item -/
theorem strs_eqAt {A : Around} {s : Shared} {c : Cx} {xs ys : List Str} {vs ws : List Value} (ok : AllOk c (xs.map StrV) vs) (ok' : AllOk c (ys.map StrV) ws) :
    (vs.length ≠ ws.length ∧ (xs == ys) = false) ∨ (vs.length = ws.length ∧ ∃ e : Nat → Bool, (∀ j (h1 : j < vs.length) (h2 : j < ws.length), EqAt A s vs[j] ws[j] (e j)) ∧ (List.range vs.length).all e = (xs == ys)) := by
  have l1 := ok.len
  have l2 := ok'.len
  rw [List.length_map] at l1 l2
  by_cases hl : vs.length = ws.length
  · refine .inr ⟨hl, fun j => xs[j]? == ys[j]?, fun j h1 h2 => ?_, ?_⟩
    · obtain ⟨v, ev, t, rfl⟩ := ok.get (i := j) (P := StrV (xs[j]'(by omega))) (by simp [List.getElem?_map]; exact ⟨_, List.getElem?_eq_getElem (by omega), rfl⟩)
      obtain ⟨v', ev', t', rfl⟩ := ok'.get (i := j) (P := StrV (ys[j]'(by omega))) (by simp [List.getElem?_map]; exact ⟨_, List.getElem?_eq_getElem (by omega), rfl⟩)
      rw [List.getElem?_eq_getElem h1] at ev
      rw [List.getElem?_eq_getElem h2] at ev'
      injection ev with ev; injection ev' with ev'
      rw [ev, ev']
      show EqAt A s _ _ (xs[j]? == ys[j]?)
      rw [List.getElem?_eq_getElem (by omega : j < xs.length), List.getElem?_eq_getElem (by omega : j < ys.length)]
      exact EqAt.str_str _ _ _ _
    · rw [Bool.eq_iff_iff, List.all_eq_true, beq_iff_eq]
      constructor
      · intro h
        apply List.ext_getElem?
        intro i
        by_cases hi : i < vs.length
        · exact beq_iff_eq.mp (h i (List.mem_range.mpr hi))
        · rw [List.getElem?_eq_none (by omega), List.getElem?_eq_none (by omega)]
      · rintro rfl i _; simp
  · refine .inl ⟨hl, ?_⟩
    rw [beq_eq_false_iff_ne]
    rintro rfl
    omega
theorem Room.units' {A : Around} {h : Heap} (r : Room n A h) : A.units < cLine := by have := r.units; omega
theorem o_nel {xs ys : List Str} : Op2 W n (compareOp .NotEq) (ListV (xs.map StrV)) (ListV (ys.map StrV)) (BoolV (xs != ys)) := by
  intro A E s c v₁ v₂ r ins z₁ z₂
  obtain ⟨a, vs, rfl, il, ok⟩ := z₁
  obtain ⟨b, ws, rfl, il', ok'⟩ := z₂
  exact ne_lists (il.list ins) (il'.list ins) r.units' (strs_eqAt ok ok') ⟨_, .refl ins, rfl⟩
/-- a list against the empty one -/
theorem o_eq0 {l : List VP} : Op2 W n (compareOp .Eq) (ListV l) (ListV []) (BoolV l.isEmpty) := by
  intro A E s c v₁ v₂ r ins z₁ z₂
  obtain ⟨a, vs, rfl, il, ok⟩ := z₁
  obtain ⟨b, ws, rfl, il', ok'⟩ := z₂
  cases ok'
  have hlen := ok.len
  refine eq_lists (r := l.isEmpty) (il.list ins) (il'.list ins) r.units' ?_ ⟨_, .refl ins, rfl⟩
  cases l with
  | nil => refine .inr ⟨by simpa using hlen.symm, fun _ => true, fun j h1 h2 => absurd h2 (Nat.not_lt_zero _), by simp⟩
  | cons p l => exact .inl ⟨by simp at hlen ⊢; intro q; subst q; simp at hlen, rfl⟩
theorem o_ne0 {l : List VP} : Op2 W n (compareOp .NotEq) (ListV l) (ListV []) (BoolV (!l.isEmpty)) := by
  intro A E s c v₁ v₂ r ins z₁ z₂
  obtain ⟨a, vs, rfl, il, ok⟩ := z₁
  obtain ⟨b, ws, rfl, il', ok'⟩ := z₂
  cases ok'
  have hlen := ok.len
  refine ne_lists (r := l.isEmpty) (il.list ins) (il'.list ins) r.units' ?_ ⟨_, .refl ins, rfl⟩
  cases l with
  | nil => refine .inr ⟨by simpa using hlen.symm, fun _ => true, fun j h1 h2 => absurd h2 (Nat.not_lt_zero _), by simp⟩
  | cons p l => exact .inl ⟨by simp at hlen ⊢; intro q; subst q; simp at hlen, rfl⟩
/-- the ints of a list of ints -/
def intOf : Value → Int
  | .int i _ => i
  | _ => 0
theorem ints_any {c : Cx} {a : Int} : ∀ {l : List Int} {vs : List Value}, AllOk c (l.map IntV) vs → vs.any (fun v => intOf v == a) = l.contains a ∧ ∀ v ∈ vs, ∃ i t, v = .int i t
  | [], _, .nil => ⟨rfl, fun _ h => nomatch h⟩
  | i :: l, _, .cons (b := v) ⟨t, e, _⟩ r => by
    obtain ⟨h1, h2⟩ := ints_any (a := a) r
    subst e
    refine ⟨?_, ?_⟩
    · rw [List.any_cons, h1, List.contains_cons, show intOf (Value.int i t) = i from rfl]
      have : (i == a) = (a == i) := by rw [Bool.eq_iff_iff, beq_iff_eq, beq_iff_eq]; exact eq_comm
      rw [this]
    · intro v hv
      rcases List.mem_cons.mp hv with rfl | hv
      · exact ⟨i, t, rfl⟩
      · exact h2 v hv
theorem o_in {l : List Int} {a : Int} (i₁ : IsI P a := by first | exact isI_v _ | exact isI_w _) : Op2 W n (compareOp .In) P (IntsV l) (BoolV (l.contains a)) := by
  intro A E s c v₁ v₂ r ins z₁ z₂
  obtain ⟨b, vs, rfl, il, ok⟩ := z₂
  obtain ⟨t, rfl⟩ := i₁ _ _ z₁
  obtain ⟨h1, h2⟩ := ints_any (a := a) ok
  refine in_listAt (fun v => intOf v == a) (il.list ins) (fun y hy => ?_) ⟨_, .refl ins, ?_⟩
  · obtain ⟨i, u, rfl⟩ := h2 y (by simpa using hy)
    exact EqAt.int_int _ _ _ _
  · rw [List.any_toArray, h1]; rfl
theorem o_notin {l : List Int} {a : Int} (i₁ : IsI P a := by first | exact isI_v _ | exact isI_w _) : Op2 W n (compareOp .NotIn) P (IntsV l) (BoolV (!l.contains a)) := by
  intro A E s c v₁ v₂ r ins z₁ z₂
  obtain ⟨b, vs, rfl, il, ok⟩ := z₂
  obtain ⟨t, rfl⟩ := i₁ _ _ z₁
  obtain ⟨h1, h2⟩ := ints_any (a := a) ok
  refine notIn_listAt (fun v => intOf v == a) (il.list ins) (fun y hy => ?_) ⟨_, .refl ins, ?_⟩
  · obtain ⟨i, u, rfl⟩ := h2 y (by simpa using hy)
    exact EqAt.int_int _ _ _ _
  · rw [List.any_toArray, h1]; rfl
end
end Mine

/-! ### C6 -/
open PySem PySem.W PyProof.Rows PySem.SeqAt
set_option Elab.async false
namespace Mine
theorem AllOk.take {c : Cx} : ∀ {l : List VP} {vs : List Value} (k : Nat), AllOk c l vs → AllOk c (l.take k) (vs.take k)
  | _, _, 0, _ => by simp only [List.take_zero]; exact .nil
  | _, _, k + 1, .nil => by simp only [List.take_nil]; exact .nil
  | _, _, k + 1, .cons p r => by simp only [List.take_succ_cons]; exact .cons p (AllOk.take k r)
theorem AllOk.drop {c : Cx} : ∀ {l : List VP} {vs : List Value} (k : Nat), AllOk c l vs → AllOk c (l.drop k) (vs.drop k)
  | _, _, 0, r => by simpa using r
  | _, _, k + 1, .nil => by simp only [List.drop_nil]; exact .nil
  | _, _, k + 1, .cons p r => by simp only [List.drop_succ_cons]; exact AllOk.drop k r
section
variable {W : Wd} {n : Nat} {env : Env} {H : Heap} {c : Cx} {e e₁ e₂ e₃ : Expr} {P P₁ P₂ P₃ : VP} {pos sp : Pos}

/-! ## Slices -/
theorem list_pick {A : Around} {E Q : Value → Shared → Prop} {s : Shared} {c₂ : Cx} {a : Addr} {vs : List Value} {l : List VP} {vl vu : Value} {lo hi : Option Int} (ins : InS c₂ s) (il : IsLst c₂ a vs) (ok : AllOk c₂ l vs) (hsz : l.length ≤ 100000)
    (pl : IsPart vl lo) (pu : IsPart vu hi) {l' : List VP} {vs' : List Value} (hp : slicePick vs.toArray lo hi none = vs'.toArray) (ok' : AllOk c₂ l' vs')
    {value slice : Expr} (hs : ∀ o i, subscripted slice false o i = operate [i, o] (getItem o i))
    (hQ : ∀ v s' c', Kp s c₂ s' c' → (ListV l').ok c' v → Q v s') :
    wpAny W.M A (subscriptTail value slice (.ref a) (.ref s.heap.objs.size)) Q E { s with heap := s.heap.push { cls := .type "slice", data := .fields #[vl, vu, .none] } } := by
  have k := Kp.heap ins (HX.push s.heap { cls := .type "slice", data := .fields #[vl, vu, .none] })
  refine tail_any (il.list k.ins).typeIs slot_list_getitem.lookup ?_ (hs _ _)
  refine wpAny_getItem_list_slice (lo := lo) (hi := hi) (st := none) (il.list k.ins) ⟨_, Heap.get?_push_size _ rfl, rfl, rfl⟩ pl pu .none (by simp) ?_ (by have := ok.len; rw [sizeLine_eq, List.size_toArray]; omega)
  rw [hp]
  exact hQ _ _ _ (k.trans (.push k.ins _)) (ListV.new (k.ins.none (get_size _)) ok')
theorem PE.upto {l : List VP} {k : Nat} (p₁ : PE W n env H c e₁ (ListV l)) (p₂ : PE W n env H c e₂ P₂) (hsz : l.length ≤ 100000) (i : IsI P₂ (k : Int) := by first | exact isI_v _ | exact isI_w _) :
    PE W n env H c (.Subscript e₁ (.Slice none (some e₂) none sp) pos) (ListV (l.take k)) := by
  intro A E s c₁ r y ll ins
  refine Subscript_ (wpAny_mono (p₁ A E s c₁ r y ll ins) (fun v₁ s₁ ⟨c₂, k₁, z₁⟩ => ?_) fun _ _ x => x)
  refine wpAny_Slice (wpAny_evalPart_none (wpAny_evalPart_some (wpAny_mono (p₂ A E s₁ c₂ (r.on k₁.keep) (y.trans k₁.keep) (ll.trans k₁.le) k₁.ins) (fun v₂ s₂ ⟨c₃, k₂, z₂⟩ => wpAny_evalPart_none ?_) fun _ _ x => x)))
  obtain ⟨a, vs, rfl, il, ok⟩ := (ListV l).mono k₂.le z₁
  obtain ⟨t, rfl⟩ := i _ _ z₂
  exact list_pick k₂.ins il ok hsz .none (.int _ _) (slicePick_upto' _ _) (by simpa using ok.take k) (fun _ _ => rfl) fun v s' c' kk z => ⟨c', (k₁.trans k₂).trans kk, z⟩
theorem PE.from {l : List VP} {k : Nat} (p₁ : PE W n env H c e₁ (ListV l)) (p₂ : PE W n env H c e₂ P₂) (hsz : l.length ≤ 100000) (i : IsI P₂ (k : Int) := by first | exact isI_v _ | exact isI_w _) :
    PE W n env H c (.Subscript e₁ (.Slice (some e₂) none none sp) pos) (ListV (l.drop k)) := by
  intro A E s c₁ r y ll ins
  refine Subscript_ (wpAny_mono (p₁ A E s c₁ r y ll ins) (fun v₁ s₁ ⟨c₂, k₁, z₁⟩ => ?_) fun _ _ x => x)
  refine wpAny_Slice (wpAny_evalPart_some (wpAny_mono (p₂ A E s₁ c₂ (r.on k₁.keep) (y.trans k₁.keep) (ll.trans k₁.le) k₁.ins) (fun v₂ s₂ ⟨c₃, k₂, z₂⟩ => wpAny_evalPart_none (wpAny_evalPart_none ?_)) fun _ _ x => x))
  obtain ⟨a, vs, rfl, il, ok⟩ := (ListV l).mono k₂.le z₁
  obtain ⟨t, rfl⟩ := i _ _ z₂
  exact list_pick k₂.ins il ok hsz (.int _ _) .none (slicePick_from' _ _) (by simpa using ok.drop k) (fun _ _ => rfl) fun v s' c' kk z => ⟨c', (k₁.trans k₂).trans kk, z⟩

theorem keptKp {s : Shared} : KeptByPush (fun s' => (∃ h tk, s' = { s with heap := h, toks := tk }) ∧ HX s.heap s'.heap) := by
  rintro s' ob k ⟨⟨h, tk, rfl⟩, x⟩
  exact ⟨⟨_, _, rfl⟩, x.trans (HX.push _ _)⟩
theorem PE.uptoS {x : List Nat} {k : Nat} (p₁ : PE W n env H c e₁ P₁) (p₂ : PE W n env H c e₂ P₂) (hk : k ≤ x.length) (hsz : x.length ≤ 100000) (i₁ : IsS P₁ (S x) := by first | exact isS_t _ | exact isS_v _) (i : IsI P₂ (k : Int) := by first | exact isI_v _ | exact isI_w _) :
    PE W n env H c (.Subscript e₁ (.Slice none (some e₂) none sp) pos) (StrV (S (x.take k))) := by
  intro A E s c₁ r y ll ins
  refine Subscript_ (wpAny_mono (p₁ A E s c₁ r y ll ins) (fun v₁ s₁ ⟨c₂, k₁, z₁⟩ => ?_) fun _ _ x => x)
  refine wpAny_Slice (wpAny_evalPart_none (wpAny_evalPart_some (wpAny_mono (p₂ A E s₁ c₂ (r.on k₁.keep) (y.trans k₁.keep) (ll.trans k₁.le) k₁.ins) (fun v₂ s₂ ⟨c₃, k₂, z₂⟩ => wpAny_evalPart_none ?_) fun _ _ x => x)))
  obtain ⟨u, rfl⟩ := i₁ _ _ z₁
  obtain ⟨t, rfl⟩ := i _ _ z₂
  obtain ⟨T, id, hl, hT, hg⟩ := SBG.sliceItem_ns (prog := W.prog) (w := W.w) (A := A) (E := fun _ _ => False) (x := S x) (t := u) (j := (k : Int)) (uj := t) (s := s₂) (Q := fun v s' => (StrV (S (x.take k))).ok c₃ v ∧ (∃ h tk, s' = { s₂ with heap := h, toks := tk }) ∧ HX s₂.heap s'.heap) keptKp
    ⟨⟨s₂.heap, s₂.toks, rfl⟩, HX.refl _⟩ (fun s' t' hs => ⟨⟨t', by
      have := StrLaws.sliceText_to (x := S x) (j := (k : Int)) ⟨by omega, by simpa [S] using hk⟩
      rw [show Txt.slice (S x) none (some (k : Int)) = StrLaws.sliceText (S x) none (some (k : Int)) from rfl, this]
      simp [S]⟩, hs⟩) (by rw [S_length, sizeLine_eq]; omega)
  refine tail_any hT hl (wpAny_mono (wpAny_toks_of (n := s₂.toks) (Nat.le_refl _) hg) (fun v s' ⟨htk, z, same, hx⟩ => ⟨_, (k₁.trans k₂).trans (Kp.fromTo k₂.ins same hx htk), z⟩) (fun _ _ x => x.2.elim)) rfl
theorem PE.fromToS {x : List Nat} {a b : Nat} (p₁ : PE W n env H c e₁ P₁) (p₂ : PE W n env H c e₂ P₂) (p₃ : PE W n env H c e₃ P₃) (hk : a ≤ b ∧ b ≤ x.length) (hsz : x.length ≤ 100000) (i₁ : IsS P₁ (S x) := by first | exact isS_t _ | exact isS_v _)
    (i₂ : IsI P₂ (a : Int) := by first | exact isI_v _ | exact isI_w _) (i₃ : IsI P₃ (b : Int) := by first | exact isI_v _ | exact isI_w _) :
    PE W n env H c (.Subscript e₁ (.Slice (some e₂) (some e₃) none sp) pos) (StrV (S ((x.drop a).take (b - a)))) := by
  intro A E s c₁ r y ll ins
  refine Subscript_ (wpAny_mono (p₁ A E s c₁ r y ll ins) (fun v₁ s₁ ⟨c₂, k₁, z₁⟩ => ?_) fun _ _ x => x)
  refine wpAny_Slice (wpAny_evalPart_some (wpAny_mono (p₂ A E s₁ c₂ (r.on k₁.keep) (y.trans k₁.keep) (ll.trans k₁.le) k₁.ins) (fun v₂ s₂ ⟨c₃, k₂, z₂⟩ => wpAny_evalPart_some
    (wpAny_mono (p₃ A E s₂ c₃ (r.on (k₁.keep.trans k₂.keep)) ((y.trans k₁.keep).trans k₂.keep) ((ll.trans k₁.le).trans k₂.le) k₂.ins) (fun v₃ s₃ ⟨c₄, k₃, z₃⟩ => wpAny_evalPart_none ?_) fun _ _ x => x)) fun _ _ x => x))
  obtain ⟨u, rfl⟩ := i₁ _ _ z₁
  obtain ⟨t, rfl⟩ := i₂ _ _ z₂
  obtain ⟨t', rfl⟩ := i₃ _ _ z₃
  obtain ⟨T, id, hl, hT, hg⟩ := SBG.sliceItem_ss (prog := W.prog) (w := W.w) (A := A) (E := fun _ _ => False) (x := S x) (t := u) (i := (a : Int)) (ui := t) (j := (b : Int)) (uj := t') (s := s₃) (Q := fun v s' => (StrV (S ((x.drop a).take (b - a)))).ok c₄ v ∧ (∃ h tk, s' = { s₃ with heap := h, toks := tk }) ∧ HX s₃.heap s'.heap) keptKp
    ⟨⟨s₃.heap, s₃.toks, rfl⟩, HX.refl _⟩ (fun s' t' hs => ⟨⟨t', by
      have := StrLaws.sliceText_plain (x := S x) (i := (a : Int)) (j := (b : Int)) ⟨by omega, by omega, by simpa [S] using hk.2⟩
      rw [show Txt.slice (S x) (some (a : Int)) (some (b : Int)) = StrLaws.sliceText (S x) (some (a : Int)) (some (b : Int)) from rfl, this]
      have e : ((b : Int) - (a : Int)).toNat = b - a := by omega
      simp [S, e]⟩, hs⟩) (by rw [S_length, sizeLine_eq]; omega)
  refine tail_any hT hl (wpAny_mono (wpAny_toks_of (n := s₃.toks) (Nat.le_refl _) hg) (fun v s' ⟨htk, z, same, hx⟩ => ⟨_, (k₁.trans (k₂.trans k₃)).trans (Kp.fromTo k₃.ins same hx htk), z⟩) (fun _ _ x => x.2.elim)) rfl

/-! ## Built-in functions -/
theorem cl_len {l : List VP} (hsz : l.length ≤ 100000) : Cl W n H (.builtin "len") [ListV l] (IntV l.length) := by
  intro A E s c vs r _ ins ok
  cases ok with
  | cons z ok =>
    cases ok
    obtain ⟨a, vs, rfl, il, ok⟩ := z
    have hl := ok.len
    refine len_list (il.list ins) (by rw [List.size_toArray]; omega) ?_
    rw [List.size_toArray, ← hl]
    have k1 := Kp.toks (t := s.toks + 1) ins (by omega)
    exact ⟨_, k1.trans (.fresh k1.ins _), IntV.fresh k1.ins _⟩
theorem cl_lenS {x : List Nat} (hsz : x.length ≤ 100000) (i : IsS P (S x) := by first | exact isS_t _ | exact isS_v _) : Cl W n H (.builtin "len") [P] (IntV x.length) := by
  intro A E s c vs r _ ins ok
  cases ok with
  | cons z ok =>
    cases ok
    obtain ⟨t, rfl⟩ := i _ _ z
    refine len_str (by rw [S_length]; omega) ?_
    rw [S_length]
    have k1 := Kp.toks (t := s.toks + 1) ins (by omega)
    exact ⟨_, k1.trans (.fresh k1.ins _), IntV.fresh k1.ins _⟩
theorem cl_range1 {b : Int} (i : IsI P b := by first | exact isI_v _ | exact isI_w _) : Cl W n H (.type "range") [P] (RangeV 0 b) := by
  intro A E s c vs r _ ins ok
  cases ok with
  | cons z ok =>
    cases ok
    obtain ⟨t, rfl⟩ := i _ _ z
    refine call_range_1 ?_
    have k1 := Kp.toks (t := s.toks + 1 + 1) ins (by omega)
    exact ⟨_, k1.trans (.push k1.ins _), _, _, _, _, rfl, Cx.put_self ..⟩
theorem cl_range2 {a b : Int} (i₁ : IsI P₁ a := by first | exact isI_v _ | exact isI_w _) (i₂ : IsI P₂ b := by first | exact isI_v _ | exact isI_w _) : Cl W n H (.type "range") [P₁, P₂] (RangeV a b) := by
  intro A E s c vs r _ ins ok
  cases ok with
  | cons z₁ ok =>
    cases ok with
    | cons z₂ ok =>
      cases ok
      obtain ⟨t, rfl⟩ := i₁ _ _ z₁
      obtain ⟨u, rfl⟩ := i₂ _ _ z₂
      refine call_range_2 ?_
      have k1 := Kp.toks (t := s.toks + 1) ins (by omega)
      exact ⟨_, k1.trans (.push k1.ins _), _, _, _, _, rfl, Cx.put_self ..⟩
end
end Mine

/-! ### C7 -/
open PySem PySem.W PyProof.Rows PySem.SeqAt
set_option Elab.async false
namespace Mine

/-! ## Steps that change what is owned, and nothing else -/
structure Mv (own : List Addr) (s : Shared) (c : Cx) (s' : Shared) (c' : Cx) : Prop where
  same : ∃ h tk, s' = { s with heap := h, toks := tk }
  keep : ∀ b o, b ∉ own → s.heap.get? b = some o → Gt s'.heap b o
  le : Le c c'
  ins : InS c' s'
  new : ∀ b x, c'.o b = some x → c.o b = some x ∨ s.heap.get? b = none
  off : ∀ b ∈ own, c'.o b = none ∧ ∃ o, s'.heap.get? b = some o
theorem Mv.refl {own : List Addr} {s : Shared} {c : Cx} (x : InS c s) (h : ∀ b ∈ own, c.o b = none ∧ ∃ o, s.heap.get? b = some o) : Mv own s c s c :=
  ⟨⟨s.heap, s.toks, rfl⟩, fun _ _ _ e => .of e, Le.refl _, x, fun _ _ e => .inl e, h⟩
theorem Mv.trans {own : List Addr} {s₁ s₂ s₃ : Shared} {c₁ c₂ c₃ : Cx} (x : Mv own s₁ c₁ s₂ c₂) (y : Mv own s₂ c₂ s₃ c₃) : Mv own s₁ c₁ s₃ c₃ := by
  refine ⟨?_, fun b o hb e => (x.keep b o hb e).on fun o e => y.keep b o hb e, x.le.trans y.le, y.ins, fun b o e => ?_, y.off⟩
  · obtain ⟨h, t, rfl⟩ := x.same
    obtain ⟨h', t', rfl⟩ := y.same
    exact ⟨h', t', rfl⟩
  · rcases y.new b o e with e' | e'
    · exact x.new b o e'
    · by_cases hb : b ∈ own
      · rw [(y.off b hb).1] at e; cases e
      · refine .inr ?_
        cases q : s₁.heap.get? b with
        | none => rfl
        | some o' => obtain ⟨o'', e'', _⟩ := x.keep b o' hb q; rw [e''] at e'; cases e'
theorem Kp.mv {own : List Addr} {s s' : Shared} {c c' : Cx} (k : Kp s c s' c') (h : ∀ b ∈ own, c.o b = none ∧ ∃ o, s.heap.get? b = some o) : Mv own s c s' c' :=
  ⟨k.same, fun b o _ e => k.keep b o e, k.le, k.ins, k.new, fun b hb => by
    obtain ⟨h1, o, h2⟩ := h b hb
    refine ⟨?_, (k.keep b o h2).live⟩
    cases q : c'.o b with
    | none => rfl
    | some z => rcases k.new b z q with e | e
                · rw [h1] at e; cases e
                · rw [h2] at e; cases e⟩
theorem Mv.after {own : List Addr} {s₁ s₂ s₃ : Shared} {c₁ c₂ c₃ : Cx} (x : Mv own s₁ c₁ s₂ c₂) (k : Kp s₂ c₂ s₃ c₃) : Mv own s₁ c₁ s₃ c₃ := x.trans (k.mv x.off)
/-- what is owned is new: seen from outside nothing has changed -/
theorem Mv.kp {own : List Addr} {s s' : Shared} {c c' : Cx} (x : Mv own s c s' c') (h : ∀ b ∈ own, s.heap.get? b = none) : Kp s c s' c' :=
  ⟨x.same, fun b o e => x.keep b o (fun hb => by rw [h b hb] at e; cases e) e, x.le, x.ins, x.new⟩
/-- one owned thing is changed -/
theorem Mv.change {own : List Addr} {s : Shared} {c : Cx} {a : Addr} {h' : Heap} {tk : Nat} (ins : InS c s) (off : ∀ b ∈ own, c.o b = none ∧ ∃ o, s.heap.get? b = some o) (ha : a ∈ own) (hs : Heap.SameBut a s.heap h') (hl : ∃ o, h'.get? a = some o) (ht : s.toks ≤ tk) :
    Mv own s c { s with heap := h', toks := tk } c where
  same := ⟨h', tk, rfl⟩
  keep := fun b o hb e => .of (hs.extBut b o (fun q => hb (q ▸ ha)) e)
  le := Le.refl _
  ins := ⟨fun b x e => hs.extBut b x (fun q => by rw [q, (off a ha).1] at e; cases e) (ins.o b x e), ins.nf, Nat.lt_of_lt_of_le ins.pos ht, fun t v e => Nat.lt_of_lt_of_le (ins.lt t v e) ht⟩
  new := fun _ _ e => .inl e
  off := fun b hb => ⟨(off b hb).1, by
    by_cases q : b = a
    · subst q; exact hl
    · obtain ⟨o, e⟩ := (off b hb).2
      exact ⟨o, hs.extBut b o q e⟩⟩
theorem Mv.weaken {own own' : List Addr} {s s' : Shared} {c c' : Cx} (x : Mv own s c s' c') (h : ∀ b ∈ own, b ∈ own') (off : ∀ b ∈ own', c.o b = none ∧ ∃ o, s.heap.get? b = some o) : Mv own' s c s' c' :=
  ⟨x.same, fun b o hb e => x.keep b o (fun q => hb (h b q)) e, x.le, x.ins, x.new, fun b hb => by
    by_cases q : b ∈ own
    · exact x.off b q
    · obtain ⟨h1, o, h2⟩ := off b hb
      refine ⟨?_, (x.keep b o q h2).live⟩
      cases z : c'.o b with
      | none => rfl
      | some z' => rcases x.new b z' z with e | e
                   · rw [h1] at e; cases e
                   · rw [h2] at e; cases e⟩

/-! ## Walking along a thing -/
structure Wk (W : Wd) (tgt : Expr) (A : Around) (c₀ : Cx) (I : Addr) (fp wr : List Addr) (items : List VP) (St : Nat → Heap → Prop) : Prop where
  sub : ∀ b ∈ wr, b ∈ fp
  frame : ∀ i h h', St i h → (∀ b ∈ fp, ∀ o, h.get? b = some o → Gt h' b o) → St i h'
  live : ∀ i h, St i h → ∀ b ∈ wr, ∃ o, h.get? b = some o
  item : ∀ i (s : Shared) (c : Cx) (Q : Value → Shared → Prop) (E : Value → Shared → Prop) (P : VP), items[i]? = some P → St i s.heap → Le c₀ c → InS c s → (∀ b ∈ wr, c.o b = none) →
    (∀ v s' c', Mv wr s c s' c' → St (i + 1) s'.heap → P.ok c' v → Q v s') →
    wpAny W.M A (pyNext (.ref I)) (fun r s₁ => match r with | some v => wpAny W.M A (letOwnedTupleGo tgt (.ref I) v) (fun _ s₂ => Q v s₂) E s₁ | none => False) E s
  done : ∀ (s : Shared) (Q : Option Value → Shared → Prop) (E : Value → Shared → Prop), St items.length s.heap →
    (∀ h' tk, (∀ b o, b ∉ wr → s.heap.get? b = some o → Gt h' b o) → s.toks ≤ tk → Q none { s with heap := h', toks := tk }) → wpAny W.M A (pyNext (.ref I)) Q E s
  self : ∀ i (s : Shared) (Q : Value → Shared → Prop) (E : Value → Shared → Prop), St i s.heap → Q (.ref I) s → wpAny W.M A (pyIter (.ref I)) Q E s
/-- a target that takes a thing whole -/
def Whole (tgt : Expr) : Prop := ∀ it v, letOwnedTupleGo tgt it v = pure ()
theorem whole_name (x : Str) (pos : Pos) : Whole (.Name x pos) := fun _ _ => rfl
def Iters (W : Wd) (tgt : Expr) (P : VP) (items : List VP) : Prop :=
  ∀ (A : Around) (E : Value → Shared → Prop) (s : Shared) (c : Cx) (v : Value), A.handled = none → InS c s → P.ok c v →
    wpAny W.M A (pyIter v) (fun it s' => ∃ I fp wr St, it = .ref I ∧ Kp s c s' c ∧ Wk W tgt A c I fp wr items St ∧ St 0 s'.heap ∧ (∀ b ∈ fp, b < s'.heap.objs.size) ∧ (∀ b ∈ wr, s.heap.get? b = none) ∧ ∀ b ∈ fp, b ∉ wr → ∃ o, c.o b = some o) E s

theorem same_tk {s : Shared} {h : Heap} : ({ s with heap := h } : Shared) = { s with heap := h, toks := s.toks } := rfl
theorem Wk.list {W : Wd} {tgt : Expr} (ht : Whole tgt) {A : Around} {c₀ : Cx} (hh : A.handled = none) {I ax : Addr} (hne : ax ≠ I) {vs : List Value} {l : List VP} (ok : AllOk c₀ l vs) :
    Wk W tgt A c₀ I [I, ax] [I] l (fun i h => h.IsListIter I ax i ∧ h.IsList ax vs.toArray) where
  sub := fun b hb => by simp at hb; simp [hb]
  frame := fun _ _ _ st hk => by
    obtain ⟨o, e, hc, r⟩ := st.1
    obtain ⟨o', e', hc', n, r'⟩ := st.2
    exact ⟨⟨o, (hk I (by simp) o e).exact (by intro _ _ h; rw [r] at h; cases h), hc, r⟩, ⟨o', (hk ax (by simp) o' e').exact (by intro _ _ h; rw [r'] at h; cases h), hc', n, r'⟩⟩
  live := fun i h st b hb => by
    obtain ⟨o, e, _⟩ := st.1
    rw [List.mem_singleton.mp hb]; exact ⟨o, e⟩
  item := fun i s c Q E P hP st le ins off hQ => by
    obtain ⟨v, ev, ov⟩ := ok.get hP
    refine wpAny_pyNext_list_item st.1 st.2 (x := v) (by simpa using ev) fun h' hit' hs' => ?_
    refine wpAny_of_eq (ht _ _) (hQ v _ c ?_ ⟨hit', st.2.extBut hs'.extBut hne⟩ (P.mono le ov))
    obtain ⟨o, e, _⟩ := hit'
    obtain ⟨o', e', _⟩ := st.1
    exact Mv.change ins (fun b hb => ⟨off b hb, by rw [List.mem_singleton.mp hb]; exact ⟨_, e'⟩⟩) (List.mem_singleton.mpr rfl) hs' ⟨o, e⟩ (Nat.le_refl _)
  done := fun s Q E st hQ => wpAny_pyNext_list_end hh st.1 st.2 (by have := ok.len; simp; omega) fun h' he' => hQ h' s.toks (fun b o hb e => .of (he' b o (fun h => hb (by simp [h])) e)) (Nat.le_refl _)
  self := fun _ _ _ _ st hQ => wpAny_pyIter_listiter st.1 hQ
theorem iters_list {W : Wd} {tgt : Expr} (ht : Whole tgt) {l : List VP} : Iters W tgt (ListV l) l := by
  intro A E s c v hh ins z
  obtain ⟨a, vs, rfl, il, ok⟩ := z
  have hl := il.list ins
  have hlt : a < s.heap.objs.size := by obtain ⟨_, e, _⟩ := hl; exact Heap.lt_size e
  refine wpAny_pyIter_list hl ⟨_, _, _, _, rfl, .heap ins (HX.push _ _), Wk.list ht hh (Nat.ne_of_lt hlt) ok, ⟨⟨_, Heap.get?_push_size _ rfl, rfl, rfl⟩, hl.push _⟩, ?_, ?_, ?_⟩
  · intro b hb
    show b < (s.heap.push _).objs.size
    rw [Heap.size_push]
    rcases List.mem_cons.mp hb with rfl | hb
    · exact Nat.lt_succ_self _
    · rw [List.mem_singleton.mp hb]; exact Nat.lt_succ_of_lt hlt
  · intro b hb
    rw [List.mem_singleton.mp hb]; exact get_size _
  · intro b hb hw
    rcases List.mem_cons.mp hb with rfl | hb
    · exact absurd (List.mem_singleton.mpr rfl) hw
    · obtain ⟨o, e, _⟩ := il.out
      rw [List.mem_singleton.mp hb]; exact ⟨o, e⟩
def rangeL (a : Int) (n : Nat) : List Int := (List.range n).map fun (i : Nat) => a + (i : Int)
theorem rangeL_get {a : Int} {n i : Nat} : (rangeL a n)[i]? = if i < n then some (a + (i : Int)) else none := by
  unfold rangeL
  rw [List.getElem?_map]
  by_cases h : i < n
  · rw [List.getElem?_range h, if_pos h]; rfl
  · rw [List.getElem?_eq_none (by simpa using h), if_neg h]; rfl
theorem rangeL_length (a : Int) (n : Nat) : (rangeL a n).length = n := by simp [rangeL]
theorem Wk.range {W : Wd} {tgt : Expr} (ht : Whole tgt) {A : Around} {c₀ : Cx} (hh : A.handled = none) (I : Addr) (a : Int) (n : Nat) :
    Wk W tgt A c₀ I [I] [I] ((rangeL a n).map IntV) (fun i h => IsRangeIter h I (a + (i : Nat)) ((n : Int) - (i : Nat)) 1) where
  sub := fun _ hb => hb
  frame := fun _ _ _ st hk => (hk I (by simp) _ st).exact (by intro _ _ h; cases h)
  live := fun i h st b hb => by rw [List.mem_singleton.mp hb]; exact ⟨_, st⟩
  item := fun i s c Q E P hP st le ins off hQ => by
    rw [List.getElem?_map, rangeL_get] at hP
    by_cases hi : i < n
    · rw [if_pos hi] at hP
      cases hP
      refine wpAny_pyNext_range_item st (by omega) fun h' hit' hs' => ?_
      have off' : ∀ b ∈ [I], c.o b = none ∧ ∃ o, s.heap.get? b = some o := fun b hb => ⟨off b hb, by rw [List.mem_singleton.mp hb]; exact ⟨_, st⟩⟩
      have m1 := Mv.change (tk := s.toks) ins off' (List.mem_singleton.mpr rfl) hs' ⟨_, hit'⟩ (Nat.le_refl _)
      refine wpAny_of_eq (ht _ _) (hQ _ _ _ (m1.after (Kp.fresh m1.ins _)) ?_ (IntV.fresh m1.ins _))
      have e1 : a + ((i + 1 : Nat) : Int) = a + (i : Int) + 1 := by omega
      have e2 : (n : Int) - ((i + 1 : Nat) : Int) = (n : Int) - (i : Int) - 1 := by omega
      rw [e1, e2]; exact hit'
    · rw [if_neg hi] at hP; cases hP
  done := fun s Q E st hQ => by
    rw [List.length_map, rangeL_length] at st
    exact wpAny_pyNext_range_end hh st (by omega) fun h' he' => hQ h' s.toks (fun b o hb e => .of (he' b o (fun h => hb (by simp [h])) e)) (Nat.le_refl _)
  self := fun _ _ _ _ st hQ => wpAny_pyIter_rangeiter st hQ
theorem iters_range {W : Wd} {tgt : Expr} (ht : Whole tgt) {a b : Int} {n : Nat} (hab : b = a + (n : Int)) (h1 : -1000000 ≤ a) (h2 : b ≤ 1000000) : Iters W tgt (RangeV a b) ((rangeL a n).map IntV) := by
  intro A E s c v hh ins z
  obtain ⟨r, t, u, w, rfl, e⟩ := z
  have hr : IsRange s.heap r a b 1 t u w := ins.o _ _ e
  refine wpAny_pyIter_range hr (small_one (by omega) (by omega) (by omega) (by omega)) ⟨_, _, _, _, rfl, .heap ins (HX.push _ _), Wk.range ht hh _ a n, ?_, ?_, ?_, fun b hb hw => absurd hb hw⟩
  · have e : Builtin.Range.rangeSize a b 1 = (n : Int) := by
      subst hab
      simp [Builtin.Range.rangeSize]
      omega
    show IsRangeIter (s.heap.push _) _ _ _ _
    rw [e]
    simpa using Heap.get?_push_size _ rfl
  · intro b hb
    rw [List.mem_singleton.mp hb]
    show s.heap.objs.size < (s.heap.push _).objs.size
    rw [Heap.size_push]; exact Nat.lt_succ_self _
  · intro b hb
    rw [List.mem_singleton.mp hb]; exact get_size _
end Mine

/-! ### C8 -/
open PySem PySem.W PyProof.Rows PySem.SeqAt
set_option Elab.async false
namespace Mine
theorem Wk.str {W : Wd} {tgt : Expr} (ht : Whole tgt) {A : Around} {c₀ : Cx} (hh : A.handled = none) (I : Addr) (x : List Nat) (t : Tok) :
    Wk W tgt A c₀ I [I] [I] (x.map fun d => StrT (S [d])) (fun i h => h.IsStrIter I "str_ascii_iterator" (S x) t i) where
  sub := fun _ hb => hb
  frame := fun _ _ _ st hk => by obtain ⟨o, e, hc, r⟩ := st; exact ⟨o, (hk I (by simp) _ e).exact (by intro _ _ h; rw [r] at h; cases h), hc, r⟩
  live := fun i h st b hb => by obtain ⟨o, e, r⟩ := st; rw [List.mem_singleton.mp hb]; exact ⟨_, e⟩
  item := fun i s c Q E P hP st le ins off hQ => by
    rw [List.getElem?_map] at hP
    obtain ⟨d, hd, rfl⟩ := Option.map_eq_some_iff.mp hP
    refine wpAny_pyNext_ascii_item st (c := d) (by simpa [S] using hd) fun h' hit' hs' => ?_
    have off' : ∀ b ∈ [I], c.o b = none ∧ ∃ o, s.heap.get? b = some o := fun b hb => ⟨off b hb, by rw [List.mem_singleton.mp hb]; obtain ⟨o, e, _⟩ := st; exact ⟨o, e⟩⟩
    have m1 := Mv.change (tk := s.toks) ins off' (List.mem_singleton.mpr rfl) hs' (by obtain ⟨o, e, _⟩ := hit'; exact ⟨o, e⟩) (Nat.le_refl _)
    exact wpAny_of_eq (ht _ _) (hQ _ _ _ (m1.after (Kp.fresh m1.ins _)) hit' (StrT.fresh m1.ins _))
  done := fun s Q E st hQ => by
    rw [List.length_map] at st
    exact wpAny_pyNext_ascii_end hh st (by simp [S]) fun h' he' => hQ h' s.toks (fun b o hb e => .of (he' b o (fun h => hb (by simp [h])) e)) (Nat.le_refl _)
  self := fun _ _ _ _ st hQ => wpAny_pyIter_striter_ascii st hQ
theorem iters_str {W : Wd} {tgt : Expr} (ht : Whole tgt) {x : List Nat} (ha : ∀ d ∈ x, d < 128) : Iters W tgt (StrV (S x)) (x.map fun d => StrT (S [d])) := by
  intro A E s c v hh ins z
  obtain ⟨t, rfl⟩ := z
  refine wpAny_pyIter_ascii (by simpa [S] using ha) ⟨_, _, _, _, rfl, .heap ins (HX.push _ _), Wk.str ht hh _ x t, ⟨_, Heap.get?_push_size _ rfl, rfl, rfl⟩, ?_, ?_, fun b hb hw => absurd hb hw⟩
  · intro b hb
    rw [List.mem_singleton.mp hb]
    show s.heap.objs.size < (s.heap.push _).objs.size
    rw [Heap.size_push]; exact Nat.lt_succ_self _
  · intro b hb
    rw [List.mem_singleton.mp hb]; exact get_size _

/-! ## The frame of a comprehension -/
theorem pushCells_size : ∀ (names : List (Str × NameKind)) (h : Heap), h.objs.size ≤ (pushCells h names).objs.size
  | [], h => Nat.le_refl _
  | (_, k) :: r, h => by
    unfold pushCells
    split
    · have := pushCells_size r (h.push { cls := .type "cell", data := .cell none })
      rw [Heap.size_push] at this; omega
    · exact pushCells_size r h
theorem wpAny_newCompEnv {M : Model} {A : Around} {E : Value → Shared → Prop} {s : Shared} {scope : Scope} {cl : List (Str × Addr)} {env : Env} {Q : Env → Shared → Prop}
    (h : Q (newEnv scope s.heap.objs.size env.globals (cellsFrom (s.heap.objs.size + 1) scope.names cl) env.qual none .none (some env) builtinsNs)
      { s with heap := pushCells (s.heap.push { cls := .type "dict", data := .dict #[] }) scope.names }) :
    wpAny M A (newFunctionEnv scope env.globals cl [] env.qual none .none (some env)) Q E s := by
  simp only [newFunctionEnv, Option.isSome_some, if_true]
  refine wpAny_bind (wpAny_alloc ?_)
  refine wpAny_bind (wpAny_layCells _ (fun name kind cells => by cases hkc : kind == NameKind.cell <;> simp [hkc]) _ _ _ _ ?_)
  rw [show ({ s with heap := s.heap.push { cls := .type "dict", data := .dict #[] } } : Shared).heap.objs.size = s.heap.objs.size + 1 from Heap.size_push ..]
  simp only [List.forIn_nil]
  exact wpAny_bind (wpAny_pure (wpAny_pure h))
/-- where a comprehension keeps its own name: in its own namespace, or in the first of its cells -/
inductive Place (scope : Scope) (x : Str) : Prop
  | loc : scope.names.lookup x = some .local → (∀ y ∈ scope.names, y.2 ≠ .cell) → Place scope x
  | cel (a b : List (Str × NameKind)) : scope.names = a ++ (x, .cell) :: b → (∀ y ∈ a, y.2 ≠ .cell ∧ y.1 ≠ x) → (∀ y ∈ b, y.2 ≠ .cell) → Place scope x
end Mine

/-! ### C9 -/
open PySem PySem.W PyProof.Rows PySem.SeqAt
set_option Elab.async false
namespace Mine

/-! ## Comprehensions -/
def CompOk (C : Addr) (oc : List Addr) (h : Heap) : Prop := (∃ m, h.Ns C m) ∧ ∀ a ∈ oc, ∃ v, h.IsCell a v
theorem CompOk.on {C : Addr} {oc : List Addr} {h h' : Heap} (x : CompOk C oc h) (k : ∀ b o, b ∈ C :: oc → h.get? b = some o → Gt h' b o) : CompOk C oc h' := by
  obtain ⟨⟨m, hn⟩, hc⟩ := x
  refine ⟨⟨m, ns_gt hn fun o e => k C o List.mem_cons_self e⟩, fun a ha => ?_⟩
  obtain ⟨v, hv⟩ := hc a ha
  exact ⟨v, cell_gt hv fun o e => k a o (List.mem_cons_of_mem _ ha) e⟩
theorem CompOk.keep {C : Addr} {oc : List Addr} {h h' : Heap} (x : CompOk C oc h) (k : HX h h') : CompOk C oc h' := x.on fun b o _ e => k b o e
theorem CompOk.live {C : Addr} {oc : List Addr} {h : Heap} (x : CompOk C oc h) : ∀ b ∈ C :: oc, ∃ o, h.get? b = some o := by
  intro b hb
  rcases List.mem_cons.mp hb with rfl | hb
  · obtain ⟨m, o, _, _, e, _⟩ := x.1; exact ⟨o, e⟩
  · obtain ⟨v, o, e, _⟩ := x.2 b hb; exact ⟨o, e⟩
/-- the target takes a value: what is then bound -/
def Asg (W : Wd) (tgt : Expr) (cenv : Env) (C : Addr) (oc : List Addr) (P : VP) (Bd : Heap → Cx → Prop) : Prop :=
  ∀ (A : Around) (E : Value → Shared → Prop) (s : Shared) (c : Cx) (v : Value), A.handled = none → InS c s → CompOk C oc s.heap → P.ok c v →
    wpAny W.M A (assign tgt cenv v) (fun _ s' => ∃ h' tk, s' = { s with heap := h', toks := tk } ∧ s.toks ≤ tk ∧ (∀ b o, b ∉ C :: oc → s.heap.get? b = some o → Gt h' b o) ∧ CompOk C oc h' ∧ Bd h' c) E s
abbrev cTests (ifs : List Expr) (cenv : Env) : Sem Bool := forIn ifs true fun c r => if r = true then do let ok ← isTrue c cenv (eval c cenv); pure (ForInStep.yield ok) else pure (ForInStep.yield r)
def PTs (W : Wd) (n : Nat) (env : Env) (H : Heap) (c : Cx) (ifs : List Expr) (b : Bool) : Prop :=
  ∀ (A : Around) (E : Value → Shared → Prop) (s : Shared) (c₁ : Cx), Room n A s.heap → HX H s.heap → Le c c₁ → InS c₁ s → wpAny W.M A (cTests ifs env) (fun r s' => ∃ c', Kp s c₁ s' c' ∧ r = b) E s
theorem PTs.nil {W : Wd} {n : Nat} {env : Env} {H : Heap} {c : Cx} : PTs W n env H c [] true := fun _ _ _ c₁ _ _ _ ins => wpAny_tests_nil ⟨c₁, .refl ins, rfl⟩
theorem PTs.one {W : Wd} {n : Nat} {env : Env} {H : Heap} {c : Cx} {e : Expr} {b : Bool} (p : PT W n env H c e b) : PTs W n env H c [e] b := fun A E s c₁ r x y ins => wpAny_tests_one (p A E s c₁ r x y ins)
abbrev lst (ys : List Value) : Obj := LCg.lst ys
theorem lst_nf {ys : List Value} : NoD (lst ys) := by intro _ _ h; cases h

theorem Mv.assign {own : List Addr} {s : Shared} {c : Cx} {h' : Heap} {tk : Nat} {C : Addr} {oc : List Addr} (ins : InS c s) (off : ∀ b ∈ own, c.o b = none ∧ ∃ o, s.heap.get? b = some o) (hsub : ∀ b ∈ C :: oc, b ∈ own) (ht : s.toks ≤ tk)
    (hk : ∀ b o, b ∉ C :: oc → s.heap.get? b = some o → Gt h' b o) (ok : CompOk C oc h') : Mv own s c { s with heap := h', toks := tk } c where
  same := ⟨h', tk, rfl⟩
  keep := fun b o hb e => hk b o (fun q => hb (hsub b q)) e
  le := Le.refl _
  ins := ⟨fun b x e => (hk b x (fun q => by rw [(off b (hsub b q)).1] at e; cases e) (ins.o b x e)).exact (ins.nf b x e), ins.nf, Nat.lt_of_lt_of_le ins.pos ht, fun t v e => Nat.lt_of_lt_of_le (ins.lt t v e) ht⟩
  new := fun _ _ e => .inl e
  off := fun b hb => ⟨(off b hb).1, by
    by_cases q : b ∈ C :: oc
    · exact ok.live b q
    · obtain ⟨o, e⟩ := (off b hb).2; exact (hk b o q e).live⟩

section
variable {α : Type} {W : Wd} {n : Nat} {A : Around} {tgt iter elt : Expr} {ifs : List Expr} {scope : Scope} {pos : Pos} {cenv : Env} {C D I : Addr} {oc fp wr : List Addr} {St : Nat → Heap → Prop} {xs : List α} {F G : α → VP} {p : α → Bool}
  {Bd : α → Heap → Cx → Prop} {s₀ s₁ : Shared} {c₁ : Cx} {R : Result → Shared → Prop}
theorem comp_turn_list (elt target iter : Expr) (ifs : List Expr) (scope : Scope) (pos : Pos) (it acc : Value) (env : Env) {M : Model} {A : Around} {E : Value → Shared → Prop} {Q : Fin → Shared → Prop} {s : Shared}
    (h : wpAny M A (pyNext it) (fun r s₁ => match r with
      | none => Q (.done .next) s₁
      | some v => wpAny M A (letOwnedTupleGo target it v) (fun _ s₁ => wpAny M A (assign target env v) (fun _ s₂ => wpAny M A (cTests ifs env) (fun ok s₃ =>
          if ok = true then wpAny M A (eval elt env) (fun x s₄ => wpAny M A (call (.builtin "list.append") [acc, x]) (fun _ s₅ => Q (.again (.compLoop (.ListComp elt [⟨target, iter, ifs, 0⟩] scope pos) 0 it acc env)) s₅) E s₄) E s₃
          else Q (.again (.compLoop (.ListComp elt [⟨target, iter, ifs, 0⟩] scope pos) 0 it acc env)) s₃) E s₂) E s₁) E s₁) E s) :
    wpAny M A (compTurn (.ListComp elt [⟨target, iter, ifs, 0⟩] scope pos) 0 it acc env) Q E s := by
  rw [compTurn_list]
  refine wpAny_bind (wpAny_standAt (wpAny_bind (wpAny_mono h (fun r s₁ h₁ => ?_) fun _ _ h' => h')))
  cases r with
  | none => exact wpAny_pure h₁
  | some v =>
    refine wpAny_bind (wpAny_mono h₁ (fun _ s₁ h₁ => ?_) fun _ _ h' => h')
    refine wpAny_bind (wpAny_mono h₁ (fun _ s₂ h₂ => wpAny_bind (wpAny_mono h₂ (fun ok s₃ h₃ => ?_) fun _ _ h' => h')) fun _ _ h' => h')
    cases ok with
    | false => exact wpAny_pure h₃
    | true =>
      exact wpAny_bind (wpAny_bind (wpAny_mono h₃ (fun x s₄ h₄ => wpAny_bind (wpAny_mono h₄ (fun _ s₅ h₅ => wpAny_pure (wpAny_pure h₅)) fun _ _ h' => h')) fun _ _ h' => h'))
theorem comp_loop1 (r : Room n A s₀.heap) (wk : Wk W tgt A c₁ I fp wr (xs.map F) St) (hDf : D ∉ fp) (hCf : ∀ b ∈ C :: oc, b ∉ fp) (hDC : D ∉ C :: oc)
    (hasg : ∀ a ∈ xs, Asg W tgt cenv C oc (F a) (Bd a))
    (htest : ∀ a ∈ xs, ∀ H c, HX s₀.heap H → Le c₁ c → Bd a H c → PTs W n cenv H c ifs (p a))
    (helt : ∀ a ∈ xs, p a = true → ∀ H c, HX s₀.heap H → Le c₁ c → Bd a H c → PE W n cenv H c elt (G a))
    (hsz : xs.length ≤ 100000) (i₀ : ∀ b ∈ D :: (C :: oc ++ wr), c₁.o b = none) (k₀ : Kp s₀ c₁ s₁ c₁) (hnew : ∀ b ∈ D :: (C :: oc ++ wr), s₀.heap.get? b = none)
    (st₀ : St 0 s₁.heap) (ok₀ : CompOk C oc s₁.heap) (hD₀ : s₁.heap.get? D = some (lst []))
    (hR : ∀ s' c' ys, Kp s₀ c₁ s' c' → (∀ b ∈ D :: C :: oc, c'.o b = none) → CompOk C oc s'.heap → s'.heap.get? D = some (lst ys) → AllOk c' ((xs.filter p).map G) ys → R (.ok .next) s') :
    codeAny W.M A (.compLoop (.ListComp elt [⟨tgt, iter, ifs, 0⟩] scope pos) 0 (.ref I) (.ref D) cenv) R s₁ := by
  have mD : D ∈ D :: (C :: oc ++ wr) := List.mem_cons_self
  have mC : ∀ b ∈ C :: oc, b ∈ D :: (C :: oc ++ wr) := fun b hb => List.mem_cons_of_mem _ (List.mem_append_left _ hb)
  have mW : ∀ b ∈ wr, b ∈ D :: (C :: oc ++ wr) := fun b hb => List.mem_cons_of_mem _ (List.mem_append_right _ hb)
  have off₀ : ∀ b ∈ D :: (C :: oc ++ wr), c₁.o b = none ∧ ∃ o, s₁.heap.get? b = some o := by
    intro b hb
    refine ⟨i₀ b hb, ?_⟩
    rcases List.mem_cons.mp hb with rfl | hb
    · exact ⟨_, hD₀⟩
    · rcases List.mem_append.mp hb with hb | hb
      · exact ok₀.live b hb
      · exact wk.live _ _ st₀ b hb
  have fpOff : ∀ b ∈ fp, b ∈ D :: (C :: oc ++ wr) → b ∈ wr := fun b hb hm => by
    rcases List.mem_cons.mp hm with rfl | hm
    · exact absurd hb hDf
    · rcases List.mem_append.mp hm with hm | hm
      · exact absurd hb (hCf b hm)
      · exact hm
  refine codeAny_loop rfl (fun k s' => ∃ i c' ys, k = xs.length + 1 - i ∧ i ≤ xs.length ∧ Mv (D :: (C :: oc ++ wr)) s₁ c₁ s' c' ∧ St i s'.heap ∧ CompOk C oc s'.heap ∧ s'.heap.get? D = some (lst ys) ∧
    AllOk c' (((xs.take i).filter p).map G) ys) ?_ (xs.length + 1) ⟨0, c₁, [], by omega, Nat.zero_le _, .refl k₀.ins off₀, st₀, ok₀, hD₀, by simp only [List.take_zero, List.filter_nil, List.map_nil]; exact .nil⟩
  rintro k s ⟨i, c, ys, rfl, hi, mv, st, ok, hD, hall⟩
  have hys : ys.length ≤ 100000 := by
    rw [← hall.len, List.length_map]
    have h1 := List.length_filter_le p (xs.take i)
    have h2 : (xs.take i).length ≤ xs.length := by rw [List.length_take]; omega
    omega
  show wpAny _ A ((compTurn (.ListComp elt [⟨tgt, iter, ifs, 0⟩] scope pos) 0 (.ref I) (.ref D) cenv).onRaise (fun x => do noteFrame x cenv; theTreesLotGoes x)) _ _ s
  refine wpAny_noted (comp_turn_list _ _ _ _ _ _ _ _ _ ?_)
  by_cases hlt : i < xs.length
  · obtain ⟨a, ha⟩ : ∃ a, xs[i]? = some a := ⟨xs[i], List.getElem?_eq_getElem hlt⟩
    have hmem : a ∈ xs := List.mem_of_getElem? ha
    refine wpAny_mono (wk.item i s c (fun v s₂ => ∃ c', Mv wr s c s₂ c' ∧ St (i + 1) s₂.heap ∧ (F a).ok c' v) _ (F a) (by rw [List.getElem?_map, ha]; rfl) st mv.le mv.ins (fun b hb => (mv.off b (mW b hb)).1) (fun v s' c' m st' okv => ⟨c', m, st', okv⟩)) (fun rr s₂ h₂ => ?_) fun _ _ x => x
    cases rr with
    | none => exact h₂.elim
    | some v =>
      dsimp only at h₂ ⊢
      refine wpAny_mono h₂ (fun _ s₂ ⟨c₂, m₂, st₂, okv⟩ => ?_) fun _ _ x => x
      have M₂ := mv.trans (m₂.weaken mW mv.off)
      have outwr : ∀ b ∈ D :: C :: oc, b ∉ wr := fun b hb hw => by
        rcases List.mem_cons.mp hb with rfl | hb
        · exact hDf (wk.sub b hw)
        · exact hCf b hb (wk.sub b hw)
      have ok₂ : CompOk C oc s₂.heap := ok.on fun b o hb e => m₂.keep b o (outwr b (List.mem_cons_of_mem _ hb)) e
      have hD₂ : s₂.heap.get? D = some (lst ys) := (m₂.keep D _ (outwr D List.mem_cons_self) hD).exact lst_nf
      refine wpAny_mono (hasg a hmem A _ s₂ c₂ v r.handled M₂.ins ok₂ okv) (fun _ s₃ h₃ => ?_) fun _ _ x => x
      obtain ⟨h', tk, rfl, htk, hk, ok₃, bd⟩ := h₃
      have A₃ := Mv.assign M₂.ins M₂.off mC htk hk ok₃
      have M₃ := M₂.trans A₃
      have st₃ : St (i + 1) h' := wk.frame _ _ _ st₂ fun b hb o e => hk b o (fun q => hCf b q hb) e
      have hD₃ : h'.get? D = some (lst ys) := (hk D _ hDC hD₂).exact lst_nf
      have HX₃ : HX s₀.heap h' := fun b o e => by
        have hb : b ∉ D :: (C :: oc ++ wr) := fun q => by rw [hnew b q] at e; cases e
        exact (k₀.keep b o e).on fun o e => M₃.keep b o hb e
      refine wpAny_mono (htest a hmem h' c₂ HX₃ M₃.le bd A _ _ c₂ (r.on HX₃) (HX.refl _) (Le.refl _) M₃.ins) (fun b s₄ ⟨c₄, k₄, hb⟩ => ?_) fun _ _ x => x
      subst hb
      have M₄ := M₃.after k₄
      have snoc : (((xs.take (i + 1)).filter p).map G) = (((xs.take i).filter p).map G) ++ (if p a then [G a] else []) := by
        rw [take_succ_filter p xs i a ha, List.map_append]
        cases p a <;> rfl
      cases hp : p a with
      | false =>
        simp only [Bool.false_eq_true, if_false]
        refine ⟨trivial, _, ?_, i + 1, c₄, ys, rfl, hlt, M₄, wk.frame _ _ _ st₃ fun b _ o e => k₄.keep b o e, ok₃.keep k₄.keep, (k₄.keep _ _ hD₃).exact lst_nf, ?_⟩
        · omega
        · rw [snoc, hp]; simp only [Bool.false_eq_true, if_false, List.append_nil]; exact hall.mono (m₂.le.trans (A₃.le.trans k₄.le))
      | true =>
        simp only [if_true]
        refine wpAny_mono (helt a hmem hp h' c₂ HX₃ M₃.le bd A _ s₄ c₄ (r.on (HX₃.trans k₄.keep)) k₄.keep k₄.le k₄.ins) (fun y s₅ ⟨c₅, k₅, oky⟩ => ?_) fun _ _ x => x
        have M₅ := M₄.after k₅
        have hD₅ : s₅.heap.get? D = some (lst ys) := (k₅.keep _ _ ((k₄.keep _ _ hD₃).exact lst_nf)).exact lst_nf
        refine append_at (hsz := by rw [List.size_toArray, sizeLine_eq]; omega) hD₅ fun h₆ hs₆ hD₆ => ?_
        rw [LCg.lst_snoc] at hD₆
        have M₆ := M₅.trans (Mv.change (tk := s₅.toks) M₅.ins M₅.off mD hs₆ ⟨_, hD₆⟩ (Nat.le_refl _))
        refine ⟨trivial, _, ?_, i + 1, c₅, ys ++ [y], rfl, hlt, M₆, wk.frame _ _ _ st₃ fun b hb o e => ?_, ?_, hD₆, ?_⟩
        · omega
        · exact (k₄.keep.trans k₅.keep b o e).on fun o e => .of (hs₆.extBut b o (fun q => hDf (q ▸ hb)) e)
        · exact (ok₃.keep (k₄.keep.trans k₅.keep)).on fun b o hb e => .of (hs₆.extBut b o (fun q => hDC (q ▸ hb)) e)
        · rw [snoc, hp]
          simp only [if_true]
          exact (hall.mono (m₂.le.trans (A₃.le.trans (k₄.le.trans k₅.le)))).append (.cons oky .nil)
  · obtain rfl : i = xs.length := by omega
    rw [show xs.length = (xs.map F).length from (List.length_map ..).symm] at st
    refine wk.done s _ _ st fun h' tk hk ht => ?_
    have outwr : ∀ b ∈ D :: C :: oc, b ∉ wr := fun b hb hw => by
      rcases List.mem_cons.mp hb with rfl | hb
      · exact hDf (wk.sub b hw)
      · exact hCf b hb (wk.sub b hw)
    refine hR _ c ys ⟨?_, ?_, mv.le, ⟨?_, mv.ins.nf, ?_, ?_⟩, ?_⟩ (fun b hb => ?_) (ok.on fun b o hb e => hk b o (outwr b (List.mem_cons_of_mem _ hb)) e) ((hk D _ (outwr D List.mem_cons_self) hD).exact lst_nf) (by rw [List.take_length] at hall; exact hall)
    · obtain ⟨h1, t1, rfl⟩ := k₀.same
      obtain ⟨h2, t2, rfl⟩ := mv.same
      exact ⟨_, _, rfl⟩
    · intro b o e
      have hb : b ∉ D :: (C :: oc ++ wr) := fun q => by rw [hnew b q] at e; cases e
      exact ((k₀.keep b o e).on fun o e => mv.keep b o hb e).on fun o e => hk b o (fun q => hb (mW b q)) e
    · intro b x e
      exact (hk b x (fun q => by rw [(mv.off b (mW b q)).1] at e; cases e) (mv.ins.o b x e)).exact (mv.ins.nf b x e)
    · exact Nat.lt_of_lt_of_le mv.ins.pos ht
    · exact fun t v e => Nat.lt_of_lt_of_le (mv.ins.lt t v e) ht
    · intro b x e
      rcases mv.new b x e with q | q
      · exact .inl q
      · exact .inr (none_of_keep k₀.keep q)
    · rcases List.mem_cons.mp hb with rfl | hb
      · exact (mv.off b mD).1
      · exact (mv.off b (mC b hb)).1
end
end Mine

/-! ### D1 -/
open PySem PySem.W PyProof.Rows PySem.SeqAt
set_option Elab.async false
namespace Mine
/-- the cells that a comprehension makes for itself -/
structure Cells (scope : Scope) (oc : Addr → List Addr) : Prop where
  ok : ∀ h : Heap, CompOk h.objs.size (oc h.objs.size) (pushCells (h.push { cls := .type "dict", data := .dict #[] }) scope.names)
  gt : ∀ C, ∀ b ∈ oc C, C < b
theorem cells0 {scope : Scope} (h : ∀ h, pushCells h scope.names = h) : Cells scope (fun _ => []) :=
  ⟨fun g => ⟨⟨_, by rw [h]; exact Heap.Ns.new _ _⟩, fun _ hb => nomatch hb⟩, fun _ _ hb => nomatch hb⟩
theorem cells1 {scope : Scope} (h : ∀ h : Heap, pushCells h scope.names = h.push { cls := .type "cell", data := .cell none }) : Cells scope (fun C => [C + 1]) where
  ok := fun g => by
    rw [h]
    refine ⟨⟨_, (Heap.Ns.new g (.type "dict")).at' fun o e => Heap.get?_push_of_some _ e⟩, fun a ha => ?_⟩
    rw [List.mem_singleton.mp ha]
    refine ⟨none, { cls := .type "cell", data := .cell none }, ?_, rfl⟩
    have e : (g.push { cls := .type "dict", data := .dict #[] }).objs.size = g.objs.size + 1 := Heap.size_push ..
    rw [← e]
    exact Heap.get?_push_size _ rfl
  gt := fun C b hb => by rw [List.mem_singleton.mp hb]; exact Nat.lt_succ_self _

/-- a thing is reckoned, and can then be walked along -/
def IterE (W : Wd) (n : Nat) (tgt : Expr) (env : Env) (H : Heap) (c : Cx) (iter : Expr) (items : List VP) : Prop :=
  ∀ (A : Around) (E : Value → Shared → Prop) (s : Shared) (c₁ : Cx), Room n A s.heap → HX H s.heap → Le c c₁ → InS c₁ s →
    wpAny W.M A (eval iter env) (fun v s₁ => wpAny W.M A (pyIter v) (fun it s' => ∃ I fp wr St c', it = .ref I ∧ Kp s c₁ s' c' ∧ Wk W tgt A c' I fp wr items St ∧ St 0 s'.heap ∧ (∀ b ∈ fp, b < s'.heap.objs.size) ∧
      (∀ b ∈ wr, s.heap.get? b = none ∧ c'.o b = none) ∧ ∀ b ∈ fp, b ∉ wr → ∃ o, c'.o b = some o) E s₁) E s
theorem IterE.of {W : Wd} {n : Nat} {tgt : Expr} {env : Env} {H : Heap} {c : Cx} {iter : Expr} {items : List VP} {P₀ : VP} (it : PE W n env H c iter P₀) (iters : Iters W tgt P₀ items) : IterE W n tgt env H c iter items := by
  intro A E s c₁ r hx le ins
  refine wpAny_mono (it A E s c₁ r hx le ins) (fun xv s₁ ⟨c₂, k₁, z⟩ => ?_) fun _ _ x => x
  refine wpAny_mono (iters A E s₁ c₂ xv r.handled k₁.ins z) (fun it s₂ h₂ => ?_) fun _ _ x => x
  obtain ⟨I, fp, wr, St, rfl, k₂, wk, st₀, hfp, hwr, hfv⟩ := h₂
  exact ⟨I, fp, wr, St, c₂, rfl, k₁.trans k₂, wk, st₀, hfp, fun b hb => ⟨none_of_keep k₁.keep (hwr b hb), k₁.ins.none (hwr b hb)⟩, hfv⟩
theorem Kp.self {s s' : Shared} {c c' : Cx} (k : Kp s c s' c') : Kp s c' s' c' := ⟨k.same, k.keep, Le.refl _, k.ins, fun _ _ e => .inl e⟩
theorem Kp.rebase {s s' s'' : Shared} {c c' c'' : Cx} (k : Kp s c s' c') (k' : Kp s c' s'' c'') : Kp s c s'' c'' :=
  ⟨k'.same, k'.keep, k.le.trans k'.le, k'.ins, fun b x e => (k'.new b x e).elim (fun e => k.new b x e) .inr⟩
section
variable {α : Type} {W : Wd} {n : Nat} {A : Around} {E : Value → Shared → Prop} {tgt iter elt : Expr} {ifs : List Expr} {scope : Scope} {pos pos' : Pos} {env : Env} {cl : List (Str × Addr)} {oc : Addr → List Addr} {xs : List α} {F G : α → VP} {p : α → Bool} {P₀ : VP}
  {Bd : Addr → α → Heap → Cx → Prop} {s : Shared} {H : Heap} {c c₁ : Cx}
abbrev cEnv (scope : Scope) (cl : List (Str × Addr)) (env : Env) (C : Addr) : Env := compEnvC scope (cellsFrom (C + 1) scope.names cl) C env
theorem comp_any0 {use : Option (Value → Sem Unit)} {Q : Value → Shared → Prop} (r : Room n A s.heap) (itE : IterE W n tgt env H c iter (xs.map F))
    (hclos : closureFor scope env = pure cl) (hkind : scope.kind = .function) (hnames : ∀ y ∈ scope.names, y.2 = .local → scope.names.lookup y.1 = some .local) (cells : Cells scope oc)
    (hasg : ∀ a ∈ xs, ∀ C, Asg W tgt (cEnv scope cl env C) C (oc C) (F a) (Bd C a))
    (htest : ∀ a ∈ xs, ∀ C H' c', HX H H' → Le c c' → Bd C a H' c' → PTs W n (cEnv scope cl env C) H' c' ifs (p a))
    (helt : ∀ a ∈ xs, p a = true → ∀ C H' c', HX H H' → Le c c' → Bd C a H' c' → PE W n (cEnv scope cl env C) H' c' elt (G a))
    (hsz : xs.length ≤ 100000) (hx : HX H s.heap) (le : Le c c₁) (ins : InS c₁ s)
    (hfin : ∀ s' c' C D ys, Kp s c₁ s' c' → s.heap.get? D = none → c'.o D = none → s'.heap.get? D = some (lst ys) → AllOk c' ((xs.filter p).map G) ys → s.heap.get? C = none → c'.o C = none → C ≠ D → (∃ m, s'.heap.Ns C m) → compPost W.M A E use Q (.ref D) C (.ok .next) s')
    (hs : ∀ x, foldedSetIterable iter env x = pure x := by intro _; rfl) :
    wpAny W.M A (comprehension (.ListComp elt [⟨tgt, iter, ifs, 0⟩] scope pos) scope env pos' (newList []) false (eval iter env) use) Q E s := by
  refine wpAny_comprehension_free rfl hs hclos hkind hnames (wpAny_mono (itE A E s c₁ r hx le ins) (fun xv s₁ h₁ => wpAny_mono h₁ (fun it s₂ h₂ => ?_) fun _ _ x => x) fun _ _ x => x)
  obtain ⟨I, fp, wr, St, c₂, rfl, k₂, wk, st₀, hfp, hwr, _⟩ := h₂
  refine wpAny_newObj_type (wpAny_newCompEnv ?_)
  generalize hD : s₂.heap.objs.size = D
  generalize hh2 : s₂.heap.push { cls := .type "list", dict := none, data := .seq ([] : List Value).toArray } = h2
  have hC : h2.objs.size = D + 1 := by rw [← hh2, Heap.size_push, hD]
  have hDlt : D < h2.objs.size := by omega
  have up1 : HX s₂.heap h2 := hh2 ▸ HX.push _ _
  have up2 : HX h2 (pushCells (h2.push { cls := .type "dict", data := .dict #[] }) scope.names) := fun b o e => .of (pushCells_keeps _ _ b o (Heap.get?_push_of_some _ e))
  have up : HX s₂.heap (pushCells (h2.push { cls := .type "dict", data := .dict #[] }) scope.names) := up1.trans up2
  have hD2 : h2.get? D = some (lst []) := by rw [← hh2, ← hD]; exact Heap.get?_push_size _ rfl
  have ok := cells.ok h2
  have k₃ : Kp s₂ c₂ { s₂ with heap := pushCells (h2.push { cls := .type "dict", data := .dict #[] }) scope.names } c₂ := Kp.heap k₂.ins up
  have big : ∀ b ∈ h2.objs.size :: oc h2.objs.size, h2.objs.size ≤ b := fun b hb => by
    rcases List.mem_cons.mp hb with rfl | hb
    · exact Nat.le_refl _
    · exact Nat.le_of_lt (cells.gt _ b hb)
  have fresh : ∀ b, s₂.heap.objs.size ≤ b → s.heap.get? b = none := fun b hb => none_of_keep k₂.keep (Heap.get?_none_of_le hb)
  have hDf : D ∉ fp := fun hm => absurd (hfp D hm) (by rw [hD]; exact Nat.lt_irrefl _)
  have hCf : ∀ b ∈ h2.objs.size :: oc h2.objs.size, b ∉ fp := fun b hb hm => absurd (hfp b hm) (Nat.not_lt.mpr (Nat.le_trans (by omega) (big b hb)))
  have hDC : D ∉ h2.objs.size :: oc h2.objs.size := fun hm => by have := big D hm; omega
  have hnew : ∀ b ∈ D :: (h2.objs.size :: oc h2.objs.size ++ wr), s.heap.get? b = none := fun b hb => by
    rcases List.mem_cons.mp hb with rfl | hb
    · exact fresh b (by omega)
    · rcases List.mem_append.mp hb with hb | hb
      · exact fresh b (by have := big b hb; omega)
      · exact (hwr b hb).1
  have hoff : ∀ b ∈ D :: (h2.objs.size :: oc h2.objs.size ++ wr), c₂.o b = none := fun b hb => by
    rcases List.mem_cons.mp hb with rfl | hb
    · exact k₂.ins.none (Heap.get?_none_of_le (by omega))
    · rcases List.mem_append.mp hb with hb | hb
      · exact k₂.ins.none (Heap.get?_none_of_le (by have := big b hb; omega))
      · exact (hwr b hb).2
  have loop : ∀ s₃ : Shared, s₃ = { s₂ with heap := pushCells (h2.push { cls := .type "dict", data := .dict #[] }) scope.names } →
      codeAny W.M A (.compLoop (.ListComp elt [⟨tgt, iter, ifs, 0⟩] scope pos) 0 (.ref I) (.ref D) (cEnv scope cl env h2.objs.size)) (compPost W.M A E use Q (.ref D) h2.objs.size) s₃ := by
    rintro s₃ rfl
    refine comp_loop1 (s₀ := s) r wk hDf hCf hDC (fun a ha => hasg a ha h2.objs.size)
      (fun a ha H' c' h1 h2' => htest a ha _ H' c' (hx.trans h1) (le.trans (k₂.le.trans h2')))
      (fun a ha hp H' c' h1 h2' => helt a ha hp _ H' c' (hx.trans h1) (le.trans (k₂.le.trans h2'))) hsz hoff (k₂.trans k₃).self hnew
      (wk.frame _ _ _ st₀ fun b _ o e => up b o e) ok ((up2 _ _ hD2).exact lst_nf) fun s' c' ys k off ok' hDs hall => ?_
    have hCD : h2.objs.size ≠ D := by omega
    exact hfin s' c' h2.objs.size D ys (k₂.rebase k) (hnew D List.mem_cons_self) (off D List.mem_cons_self) hDs hall (fresh _ (by omega)) (off _ (List.mem_cons_of_mem _ List.mem_cons_self)) hCD ok'.1
  exact codeAny_compStart_list (loop _ rfl) (wk.self 0 _ _ _ (wk.frame _ _ _ st₀ fun b _ o e => up b o e) (loop _ rfl))
theorem comp_any {use : Option (Value → Sem Unit)} {Q : Value → Shared → Prop} (r : Room n A s.heap) (itE : IterE W n tgt env H c iter (xs.map F))
    (hclos : closureFor scope env = pure cl) (hkind : scope.kind = .function) (hnames : ∀ y ∈ scope.names, y.2 = .local → scope.names.lookup y.1 = some .local) (cells : Cells scope oc)
    (hasg : ∀ a ∈ xs, ∀ C, Asg W tgt (cEnv scope cl env C) C (oc C) (F a) (Bd C a))
    (htest : ∀ a ∈ xs, ∀ C H' c', HX H H' → Le c c' → Bd C a H' c' → PTs W n (cEnv scope cl env C) H' c' ifs (p a))
    (helt : ∀ a ∈ xs, p a = true → ∀ C H' c', HX H H' → Le c c' → Bd C a H' c' → PE W n (cEnv scope cl env C) H' c' elt (G a))
    (hsz : xs.length ≤ 100000) (hx : HX H s.heap) (le : Le c c₁) (ins : InS c₁ s)
    (hfin : ∀ s' c' C D, Kp s c₁ s' c' → (ListV ((xs.filter p).map G)).ok c' (.ref D) → s.heap.get? C = none → c'.o C = none → (∃ m, s'.heap.Ns C m) → compPost W.M A E use Q (.ref D) C (.ok .next) s')
    (hs : ∀ x, foldedSetIterable iter env x = pure x := by intro _; rfl) :
    wpAny W.M A (comprehension (.ListComp elt [⟨tgt, iter, ifs, 0⟩] scope pos) scope env pos' (newList []) false (eval iter env) use) Q E s :=
  comp_any0 r itE hclos hkind hnames cells hasg htest helt hsz hx le ins (fun s' c' C D ys k hD hDn hDs hall hC hC' hCD hm => by
    refine hfin s' (c'.put D (lst ys)) C D (k.put hD hDn hDs lst_nf) (ListV.new hDn hall) hC ?_ hm
    show (if C = D then _ else c'.o C) = none
    rw [if_neg hCD]
    exact hC') hs
/-- a list comprehension of one clause -/
theorem PE.compI (itE : IterE W n tgt env H c iter (xs.map F))
    (hclos : closureFor scope env = pure cl) (hkind : scope.kind = .function) (hnames : ∀ y ∈ scope.names, y.2 = .local → scope.names.lookup y.1 = some .local) (cells : Cells scope oc)
    (hasg : ∀ a ∈ xs, ∀ C, Asg W tgt (cEnv scope cl env C) C (oc C) (F a) (Bd C a))
    (htest : ∀ a ∈ xs, ∀ C H' c', HX H H' → Le c c' → Bd C a H' c' → PTs W n (cEnv scope cl env C) H' c' ifs (p a))
    (helt : ∀ a ∈ xs, p a = true → ∀ C H' c', HX H H' → Le c c' → Bd C a H' c' → PE W n (cEnv scope cl env C) H' c' elt (G a))
    (hsz : xs.length ≤ 100000) (hs : ∀ x, foldedSetIterable iter env x = pure x := by intro _; rfl) :
    PE W n env H c (.ListComp elt [⟨tgt, iter, ifs, 0⟩] scope pos) (ListV ((xs.filter p).map G)) := by
  intro A E s c₁ r hx le ins
  rw [eval_ListComp]
  refine comp_any r itE hclos hkind hnames cells hasg htest helt hsz hx le ins (fun s' c' C D k ok hC hC' hm => ?_) hs
  obtain ⟨m, hm⟩ := hm
  refine ⟨m, hm, fun h' hs' => ⟨c', ?_, ok⟩⟩
  refine ⟨?_, fun b o e => (k.keep b o e).on fun o' e' => .of (hs'.extBut b o' (fun q => by rw [q, hC] at e; cases e) e'), k.le, ⟨fun b x e => hs'.extBut b x (fun q => by rw [q, hC'] at e; cases e) (k.ins.o b x e), k.ins.nf, k.ins.pos, k.ins.lt⟩, k.new⟩
  obtain ⟨h1, t1, rfl⟩ := k.same
  exact ⟨_, _, rfl⟩
theorem PE.comp (it : PE W n env H c iter P₀) (iters : Iters W tgt P₀ (xs.map F))
    (hclos : closureFor scope env = pure cl) (hkind : scope.kind = .function) (hnames : ∀ y ∈ scope.names, y.2 = .local → scope.names.lookup y.1 = some .local) (cells : Cells scope oc)
    (hasg : ∀ a ∈ xs, ∀ C, Asg W tgt (cEnv scope cl env C) C (oc C) (F a) (Bd C a))
    (htest : ∀ a ∈ xs, ∀ C H' c', HX H H' → Le c c' → Bd C a H' c' → PTs W n (cEnv scope cl env C) H' c' ifs (p a))
    (helt : ∀ a ∈ xs, p a = true → ∀ C H' c', HX H H' → Le c c' → Bd C a H' c' → PE W n (cEnv scope cl env C) H' c' elt (G a))
    (hsz : xs.length ≤ 100000) (hs : ∀ x, foldedSetIterable iter env x = pure x := by intro _; rfl) :
    PE W n env H c (.ListComp elt [⟨tgt, iter, ifs, 0⟩] scope pos) (ListV ((xs.filter p).map G)) := PE.compI (.of it iters) hclos hkind hnames cells hasg htest helt hsz hs
end
end Mine

/-! ### D2 -/
open PySem PySem.W PyProof.Rows PySem.SeqAt
set_option Elab.async false
namespace Mine

/-! ## Names and frames -/
def Held (env : Env) (h : Heap) (x : Str) (v : Value) : Prop :=
  (env.kindOf x = some .local ∧ ∃ m, h.Ns env.locals m ∧ m x = some v) ∨ ((env.kindOf x = some .cell ∨ env.kindOf x = some .free) ∧ ∃ a, env.cells.lookup x = some a ∧ h.IsCell a (some v))
theorem Held.keep {env : Env} {h h' : Heap} {x : Str} {v : Value} (y : Held env h x v) (k : HX h h') : Held env h' x v := by
  rcases y with ⟨a, m, b, d⟩ | ⟨a, b, d, e⟩
  · exact .inl ⟨a, m, ns_hx b k, d⟩
  · exact .inr ⟨a, b, d, cell_hx e k⟩
theorem Rd.held {W : Wd} {env : Env} {H : Heap} {c : Cx} {x : Str} {v : Value} {P : VP} (hk : env.scope.kind = .function) (h : Held env H x v) (ok : P.ok c v) (hn : (x == ("__classdict__" : Str)) = false := by decide) : Rd W env H c x P := by
  intro A E s c₁ hx le
  rcases h.keep hx with ⟨a, m, b, d⟩ | ⟨a | a, b, d, e⟩
  · exact wpAny_loadName_local hk a b d ⟨rfl, P.mono le ok⟩
  · exact wpAny_loadName_cell hk a d e ⟨rfl, P.mono le ok⟩
  · exact wpAny_loadName_free hk a d e ⟨rfl, P.mono le ok⟩ hn

/-- an environment whose own cells are told -/
structure EnvOk (env : Env) (oc : List Addr) : Prop where
  fn : env.scope.kind = .function
  cell : ∀ x, env.kindOf x = some .cell → ∃ a, env.cells.lookup x = some a ∧ a ∈ oc
  inj : ∀ x y a, env.cells.lookup x = some a → env.cells.lookup y = some a → x = y
  apart : env.locals ∉ oc
  frm : env.frame = some env.locals
  top : topN < env.locals

abbrev Vars := Str → Option VP
def Vars.set (V : Vars) (x : Str) (P : VP) : Vars := fun y => if y = x then some P else V y
structure Frm (H₀ : Heap) (sb : Shared) (cb : Cx) (env : Env) (oc : List Addr) (V : Vars) (s : Shared) (c : Cx) : Prop where
  eo : EnvOk env oc
  hb : HX H₀ sb.heap
  fr : ∀ b ∈ env.locals :: oc, H₀.get? b = none
  mv : Mv (env.locals :: oc) sb cb s c
  ok : CompOk env.locals oc s.heap
  vars : ∀ x P, V x = some P → (env.kindOf x = some .local ∨ env.kindOf x = some .cell) ∧ ∃ v, Held env s.heap x v ∧ P.ok c v
section
variable {W : Wd} {H₀ : Heap} {sb : Shared} {cb : Cx} {env : Env} {oc : List Addr} {V V' : Vars} {s s' : Shared} {c c' : Cx} {x : Str} {P : VP}
theorem Frm.rd (f : Frm H₀ sb cb env oc V s c) (h : V x = some P) (hn : (x == ("__classdict__" : Str)) = false := by decide) : Rd W env s.heap c x P := by
  obtain ⟨_, v, hv, ok⟩ := f.vars x P h
  exact Rd.held f.eo.fn hv ok hn
theorem Frm.h0 (f : Frm H₀ sb cb env oc V s c) : HX H₀ s.heap := fun b o e => (f.hb b o e).on fun o' e' => f.mv.keep b o' (fun q => by rw [f.fr b q] at e; cases e) e'
theorem Frm.room {n : Nat} {A : Around} (f : Frm H₀ sb cb env oc V s c) (r : RoomB n A H₀ env) : Room n A s.heap := by
  refine ⟨r.handled, r.depth, r.units, ?_, let ⟨_, e⟩ := r.top; (f.h0 _ _ e).live⟩
  obtain ⟨l, e, x⟩ := r.fr
  refine ⟨_, e, fun env' hm => ?_⟩
  rcases List.mem_cons.mp hm with rfl | hm
  · obtain ⟨m, hn⟩ := f.ok.1
    exact ⟨(by rw [f.eo.fn]; intro h; cases h), _, m, f.eo.frm, hn, f.eo.top⟩
  · exact (x env' hm).on f.h0
theorem Frm.ins (f : Frm H₀ sb cb env oc V s c) : InS c s := f.mv.ins
theorem Frm.step (f : Frm H₀ sb cb env oc V s c) (k : Kp s c s' c') : Frm H₀ sb cb env oc V s' c' where
  eo := f.eo
  hb := f.hb
  fr := f.fr
  mv := f.mv.after k
  ok := f.ok.keep k.keep
  vars := fun x P h => let ⟨a, v, hv, ok⟩ := f.vars x P h; ⟨a, v, hv.keep k.keep, P.mono k.le ok⟩
theorem Frm.base (f : Frm H₀ sb cb env oc V s c) : Frm H₀ s c env oc V s c := ⟨f.eo, f.h0, f.fr, .refl f.mv.ins f.mv.off, f.ok, f.vars⟩
theorem Frm.trans (f : Frm H₀ sb cb env oc V s c) (g : Frm H₀ s c env oc V' s' c') : Frm H₀ sb cb env oc V' s' c' := ⟨g.eo, f.hb, f.fr, f.mv.trans g.mv, g.ok, g.vars⟩
theorem Frm.weak (f : Frm H₀ sb cb env oc V s c) (h : ∀ x P, V' x = some P → V x = some P) : Frm H₀ sb cb env oc V' s c := ⟨f.eo, f.hb, f.fr, f.mv, f.ok, fun x P e => f.vars x P (h x P e)⟩
/-- things outside the frame are changed: what is owned by the frame stays -/
structure Mv0 (own : List Addr) (s : Shared) (c : Cx) (s' : Shared) (c' : Cx) : Prop where
  same : ∃ h tk, s' = { s with heap := h, toks := tk }
  keep : ∀ b o, b ∉ own → s.heap.get? b = some o → Gt s'.heap b o
  le : Le c c'
  ins : InS c' s'
  new : ∀ b x, c'.o b = some x → c.o b = some x ∨ s.heap.get? b = none
theorem Frm.outside0 (f : Frm H₀ sb cb env oc V s c) {own : List Addr} (m : Mv0 own s c s' c') (ho : ∀ b ∈ env.locals :: oc, b ∉ own) (hb : ∀ b ∈ own, sb.heap.get? b = none) : Frm H₀ sb cb env oc V s' c' where
  eo := f.eo
  hb := f.hb
  fr := f.fr
  mv := by
    refine ⟨?_, fun b o hb' e => (f.mv.keep b o hb' e).on fun o' e' => m.keep b o' (fun q => by rw [hb b q] at e; cases e) e', f.mv.le.trans m.le, m.ins, fun b z e => ?_, fun b hb' => ?_⟩
    · obtain ⟨h, t, rfl⟩ := f.mv.same
      obtain ⟨h', t', rfl⟩ := m.same
      exact ⟨h', t', rfl⟩
    · rcases m.new b z e with q | q
      · exact f.mv.new b z q
      · by_cases hb' : b ∈ env.locals :: oc
        · obtain ⟨o, e'⟩ := (f.mv.off b hb').2
          rw [q] at e'; cases e'
        · refine .inr ?_
          cases w : sb.heap.get? b with
          | none => rfl
          | some o' => obtain ⟨o'', e'', _⟩ := f.mv.keep b o' hb' w; rw [e''] at q; cases q
    · obtain ⟨h1, o, h2⟩ := f.mv.off b hb'
      refine ⟨?_, (m.keep b o (ho b hb') h2).live⟩
      cases z : c'.o b with
      | none => rfl
      | some z' => rcases m.new b z' z with e | e
                   · rw [h1] at e; cases e
                   · rw [h2] at e; cases e
  ok := f.ok.on fun b o hb' e => m.keep b o (ho b hb') e
  vars := fun x P h => by
    obtain ⟨a, v, hv, ok⟩ := f.vars x P h
    refine ⟨a, v, ?_, P.mono m.le ok⟩
    rcases hv with ⟨p, mm, q, r⟩ | ⟨p, a', q, r⟩
    · exact .inl ⟨p, mm, ns_gt q fun o e => m.keep _ o (ho _ List.mem_cons_self) e, r⟩
    · refine .inr ⟨p, a', q, cell_gt r fun o e => m.keep _ o (ho _ ?_) e⟩
      rcases a with a | a
      · rcases p with p | p <;> rw [a] at p <;> cases p
      · obtain ⟨a'', h1, h2⟩ := f.eo.cell x a
        rw [q] at h1; cases h1; exact List.mem_cons_of_mem _ h2
theorem Frm.outside (f : Frm H₀ sb cb env oc V s c) {own : List Addr} (m : Mv own s c s' c') (ho : ∀ b ∈ env.locals :: oc, b ∉ own) (hb : ∀ b ∈ own, sb.heap.get? b = none) : Frm H₀ sb cb env oc V s' c' :=
  f.outside0 ⟨m.same, m.keep, m.le, m.ins, m.new⟩ ho hb
/-- a name is bound -/
theorem Frm.store (f : Frm H₀ sb cb env oc V s c) {v : Value} (ok : P.ok c v) (hk : env.kindOf x = some .local ∨ env.kindOf x = some .cell) {A : Around} {E : Value → Shared → Prop} {Q : Unit → Shared → Prop}
    (k : ∀ s', Frm H₀ sb cb env oc (V.set x P) s' c → Q () s') : wpAny W.M A (storeName env x v) Q E s := by
  rcases hk with hk | hk
  · obtain ⟨⟨m, hn⟩, hc⟩ := f.ok
    refine wpAny_storeName_local hk hn (fun h' hn' hs' => k _ ?_) (by rw [f.eo.fn]; rfl)
    have mv := f.mv.trans (Mv.change (tk := s.toks + 1) f.mv.ins f.mv.off List.mem_cons_self hs' (by obtain ⟨o, _, _, e, _⟩ := hn'; exact ⟨o, e⟩) (Nat.le_succ _))
    have hcell : ∀ a ∈ oc, ∀ o, s.heap.get? a = some o → h'.get? a = some o := fun a ha o e => hs'.extBut a o (fun q => f.eo.apart (q ▸ ha)) e
    refine ⟨f.eo, f.hb, f.fr, mv, ⟨⟨_, hn'⟩, fun a ha => let ⟨v, o, e, d⟩ := hc a ha; ⟨v, o, hcell a ha o e, d⟩⟩, fun y P' h => ?_⟩
    by_cases q : y = x
    · subst q
      have h' : (if y = y then some P else V y) = some P' := h
      rw [if_pos rfl] at h'; cases h'
      exact ⟨.inl hk, v, .inl ⟨hk, _, hn', if_pos rfl⟩, ok⟩
    · have h' : (if y = x then some P else V y) = some P' := h
      rw [if_neg q] at h'
      obtain ⟨a, w, hw, okw⟩ := f.vars y P' h'
      refine ⟨a, w, ?_, okw⟩
      rcases hw with ⟨p, mm, q', r⟩ | ⟨p, a', q', r⟩
      · refine .inl ⟨p, _, hn', ?_⟩
        rw [if_neg q]
        rw [hn.agree q' y]; exact r
      · obtain ⟨o, e, d⟩ := r
        refine .inr ⟨p, a', q', o, hcell a' ?_ o e, d⟩
        rcases a with a | a
        · rcases p with p | p <;> rw [a] at p <;> cases p
        · obtain ⟨a'', h1, h2⟩ := f.eo.cell y a
          rw [q'] at h1; cases h1; exact h2
  · obtain ⟨a, ha, hao⟩ := f.eo.cell x hk
    obtain ⟨v₀, hv₀⟩ := f.ok.2 a hao
    refine wpAny_storeName_cell f.eo.fn hk ha hv₀ fun h' hc' hs' => k _ ?_
    have mv := f.mv.trans (Mv.change (tk := s.toks) f.mv.ins f.mv.off (List.mem_cons_of_mem _ hao) hs' (by obtain ⟨o, e, _⟩ := hc'; exact ⟨o, e⟩) (Nat.le_refl _))
    have hL : ∀ {m}, s.heap.Ns env.locals m → h'.Ns env.locals m := fun hn => hn.at' fun o e => hs'.extBut _ o (fun q => f.eo.apart (q ▸ hao)) e
    refine ⟨f.eo, f.hb, f.fr, mv, ⟨let ⟨m, hn⟩ := f.ok.1; ⟨m, hL hn⟩, fun b hb => ?_⟩, fun y P' h => ?_⟩
    · by_cases q : b = a
      · subst q; exact ⟨_, hc'⟩
      · obtain ⟨w, hw⟩ := f.ok.2 b hb
        exact ⟨w, hw.sameBut hs' q⟩
    · by_cases q : y = x
      · subst q
        have h' : (if y = y then some P else V y) = some P' := h
        rw [if_pos rfl] at h'; cases h'
        exact ⟨.inr hk, v, .inr ⟨.inl hk, a, ha, hc'⟩, ok⟩
      · have h' : (if y = x then some P else V y) = some P' := h
        rw [if_neg q] at h'
        obtain ⟨kk, w, hw, okw⟩ := f.vars y P' h'
        refine ⟨kk, w, ?_, okw⟩
        rcases hw with ⟨p, mm, q', r⟩ | ⟨p, a', q', r⟩
        · exact .inl ⟨p, mm, hL q', r⟩
        · exact .inr ⟨p, a', q', r.sameBut hs' fun e => q (f.eo.inj y x a (e ▸ q') ha)⟩
end
end Mine

/-! ### D3 -/
open PySem PySem.W PyProof.Rows PySem.SeqAt
set_option Elab.async false
namespace Mine
/-- how a block goes on -/
abbrev Goes (W : Wd) (A : Around) (rest : List Stmt) (env : Env) (Q : Flow → Shared → Prop) (E : Value → Shared → Prop) (f : Flow) (s : Shared) : Prop :=
  match f with | .next => wpAny W.M A (execs rest env) Q E s | f => Q f s
section
variable {W : Wd} {n : Nat} {A : Around} {E : Value → Shared → Prop} {Q : Flow → Shared → Prop} {H₀ : Heap} {sb : Shared} {cb : Cx} {env : Env} {oc : List Addr} {V : Vars} {s : Shared} {c : Cx} {x : Str} {P P₀ P₁ : VP} {e : Expr} {pos px : Pos} {rest body orelse : List Stmt} {b : Bool}

theorem st_assign (f : Frm H₀ sb cb env oc V s c) (r : RoomB n A H₀ env) (p : PE W n env s.heap c e P) (hk : env.kindOf x = some .local ∨ env.kindOf x = some .cell) (hs : swapsWith e (some (.Name x px)) pos.line env = pure false)
    (k : ∀ s' c', Frm H₀ sb cb env oc (V.set x P) s' c' → wpAny W.M A (execs rest env) Q E s') : wpAny W.M A (execs (.Assign [.Name x px] e pos :: rest) env) Q E s :=
  wpAny_execs_cons (wpAny_Assign_Name (p.at (f.room r) f.ins fun _ _ c' kp z => (f.step kp).store z hk fun s' f' => k s' c' f') hs)
theorem st_aug {op : Operator} (f : Frm H₀ sb cb env oc V s c) (r : RoomB n A H₀ env) (hv : V x = some P₀) (p : PE W n env s.heap c e P₁) (o : Op2 W n (inplaceOp op) P₀ P₁ P) (hk : env.kindOf x = some .local ∨ env.kindOf x = some .cell)
    (k : ∀ s' c', Frm H₀ sb cb env oc (V.set x P) s' c' → wpAny W.M A (execs rest env) Q E s') (hn : (x == ("__classdict__" : Str)) = false := by decide) : wpAny W.M A (execs (.AugAssign (.Name x px) op e pos :: rest) env) Q E s :=
  wpAny_execs_cons (wpAny_AugAssign_Name (wpAny_mono (f.rd (W := W) hv hn A E s c (HX.refl _) (Le.refl _)) (fun v₀ s₀ ⟨e₀, z₀⟩ => by
    subst e₀
    exact p.at (f.room r) f.ins fun v₁ s₁ c₁ k₁ z₁ => wpAny_mono (o A E s₁ c₁ v₀ v₁ ((f.step k₁).room r) k₁.ins (P₀.mono k₁.le z₀) z₁) (fun v₂ s₂ ⟨c₂, k₂, z₂⟩ => (f.step (k₁.trans k₂)).store z₂ hk fun s' f' => k s' c₂ f') fun _ _ x => x) fun _ _ x => x))
theorem o_iadd {a b : Int} (i₁ : IsI P₀ a := by first | exact isI_v _ | exact isI_w _) (i₂ : IsI P₁ b := by first | exact isI_v _ | exact isI_w _) : Op2 W n (inplaceOp .Add) P₀ P₁ (IntV (a + b)) := by
  intro A E s c v₁ v₂ _ ins z₁ z₂
  obtain ⟨t, rfl⟩ := i₁ _ _ z₁
  obtain ⟨u, rfl⟩ := i₂ _ _ z₂
  exact iadd_int ⟨_, .fresh ins _, IntV.fresh ins _⟩
theorem st_if {t : Expr} (f : Frm H₀ sb cb env oc V s c) (r : RoomB n A H₀ env) (p : PT W n env s.heap c t b)
    (h₁ : b = true → ∀ s' c', Frm H₀ sb cb env oc V s' c' → wpAny W.M A (execs body env) (Goes W A rest env Q E) E s')
    (h₂ : b = false → ∀ s' c', Frm H₀ sb cb env oc V s' c' → wpAny W.M A (execs orelse env) (Goes W A rest env Q E) E s') : wpAny W.M A (execs (.If t body orelse pos :: rest) env) Q E s :=
  wpAny_execs_cons (wpAny_If (p.at (f.room r) f.ins fun s' c' kp => by
    cases b with
    | true => exact h₁ rfl s' c' (f.step kp)
    | false => exact h₂ rfl s' c' (f.step kp)))
theorem st_return (f : Frm H₀ sb cb env oc V s c) (r : RoomB n A H₀ env) (p : PE W n env s.heap c e P) (k : ∀ v s' c', Frm H₀ sb cb env oc V s' c' → P.ok c' v → Q (.ret v) s') : wpAny W.M A (execs (.Return (some e) pos :: rest) env) Q E s :=
  wpAny_execs_cons (wpAny_Return_some (p.at (f.room r) f.ins fun v s' c' kp z => k v s' c' (f.step kp) z))
theorem st_break (h : Q .brk s) : wpAny W.M A (execs (.Break pos :: rest) env) Q E s := wpAny_execs_cons (wpAny_Break h)
theorem st_end (h : Q .next s) : wpAny W.M A (execs [] env) Q E s := wpAny_execs_nil h

/-- a name's own turn in a loop -/
theorem frm_assign (f : Frm H₀ sb cb env oc V s c) {v : Value} (ok : P.ok c v) (hk : env.kindOf x = some .local ∨ env.kindOf x = some .cell) {Q : Unit → Shared → Prop}
    (k : ∀ s', Frm H₀ sb cb env oc (V.set x P) s' c → Q () s') : wpAny W.M A (assign (.Name x px) env v) Q E s := wpAny_assign_Name (f.store ok hk k)

theorem st_forI {α : Type} {tgt iter : Expr} {xs : List α} {F : α → VP} {bind : α → Vars → Vars} {Inv : Nat → Vars} {RP : Value → Cx → Prop} (f : Frm H₀ sb cb env oc V s c) (r : RoomB n A H₀ env) (itE : IterE W n tgt env s.heap c iter (xs.map F))
    (hasg : ∀ a ∈ xs, ∀ (sb : Shared) (cb : Cx) (V : Vars) (s : Shared) (c : Cx) (v : Value) (A : Around) (E : Value → Shared → Prop) (Q : Unit → Shared → Prop), A.handled = none → Frm H₀ sb cb env oc V s c → (F a).ok c v →
      (∀ s' c', Frm H₀ sb cb env oc (bind a V) s' c' → Q () s') → wpAny W.M A (assign tgt env v) Q E s)
    (h0 : ∀ y P, Inv 0 y = some P → V y = some P)
    (turn : ∀ i a, xs[i]? = some a → ∀ s c Ex, Frm H₀ s c env oc (bind a (Inv i)) s c → Le cb c → wpAny W.M A (execs body env) (fun fl s' => match fl with
      | .next | .cont => ∃ c', Frm H₀ s c env oc (Inv (i + 1)) s' c'
      | .brk => False
      | .ret v => ∃ c', Frm H₀ s c env oc (fun _ => none) s' c' ∧ RP v c') Ex s)
    (ret : ∀ s c v, Frm H₀ sb cb env oc (fun _ => none) s c → RP v c → Q (.ret v) s)
    (fin : ∀ s c, Frm H₀ sb cb env oc (Inv xs.length) s c → wpAny W.M A (execs orelse env) (Goes W A rest env Q E) (notedBy W.M A env fun e s' => cameBackBy W.M A env E e s') s)
    (hs : ∀ x, foldedSetIterable iter env x = pure x := by intro _; rfl) : wpAny W.M A (execs (.For tgt iter body orelse pos :: rest) env) Q E s := by
  refine wpAny_execs_cons (wpAny_For (wpAny_mono (itE A E s c (f.room r) (HX.refl _) (Le.refl _) f.ins) (fun xv s₁ h₁ => wpAny_mono h₁ (fun it s₂ h₂ => ?_) fun _ _ x => x) fun _ _ x => x) hs)
  obtain ⟨I, fp, wr, St, c₁, rfl, k₂, wk, st₀, hfp, hwr, hfv⟩ := h₂
  have f₂ := f.step k₂
  have own_lt : ∀ b ∈ env.locals :: oc, b ∉ wr := fun b hb hw => by
    obtain ⟨o, e⟩ := (f.mv.off b hb).2
    rw [(hwr b hw).1] at e; cases e
  have hwb : ∀ b ∈ wr, sb.heap.get? b = none := fun b hb => by
    cases q : sb.heap.get? b with
    | none => rfl
    | some o =>
      obtain ⟨o', e', _⟩ := f.mv.keep b o (fun h => own_lt b h hb) q
      rw [(hwr b hb).1] at e'; cases e'
  have own_fp : ∀ b ∈ env.locals :: oc, b ∉ fp := fun b hb hf => by
    obtain ⟨o, e⟩ := hfv b hf (own_lt b hb)
    rw [(f₂.mv.off b hb).1] at e; cases e
  refine codeAny_loop' rfl (fun k s' => ∃ i c', k = xs.length + 1 - i ∧ i ≤ xs.length ∧ Frm H₀ sb cb env oc (Inv i) s' c' ∧ Le c₁ c' ∧ (∀ b ∈ wr, c'.o b = none) ∧ St i s'.heap) ?_ (xs.length + 1) ⟨0, c₁, by omega, Nat.zero_le _, f₂.weak h0, Le.refl _, fun b hb => (hwr b hb).2, st₀⟩
  rintro k s ⟨i, c, rfl, hi, f, le, off, st⟩
  show wpAny _ _ ((forTurn tgt (.ref I) body orelse env).onRaise (fun x => do noteFrame x env; theTreesLotGoes x)) _ _ s
  refine wpAny_noted ?_
  simp only [forTurn]
  refine wpAny_bind (wpAny_standAt (wpAny_bind (wpAny_onRaise ?_)))
  by_cases hlt : i < xs.length
  · obtain ⟨a, ha⟩ : ∃ a, xs[i]? = some a := ⟨xs[i], List.getElem?_eq_getElem hlt⟩
    refine wpAny_mono (wk.item i s c (fun v s₂ => ∃ c', Mv wr s c s₂ c' ∧ St (i + 1) s₂.heap ∧ (F a).ok c' v) _ (F a) (by rw [List.getElem?_map, ha]; rfl) st le f.ins off (fun v s' c' m st' okv => ⟨c', m, st', okv⟩)) (fun rr s₂ h₂ => ?_) fun _ _ x => wpAny_standAt x
    cases rr with
    | none => exact h₂.elim
    | some v =>
      dsimp only at h₂ ⊢
      refine wpAny_bind (wpAny_mono h₂ (fun _ s₂ ⟨c₂, m₂, st₂, okv⟩ => ?_) fun _ _ x => x)
      have f₂ := f.outside m₂ own_lt hwb
      refine wpAny_bind (hasg a (List.mem_of_getElem? ha) s₂ c₂ _ s₂ c₂ v A _ _ r.handled f₂.base okv fun s₃ c₃ f₃ => ?_)
      have f₃b := f₂.trans f₃
      have st₃ : St (i + 1) s₃.heap := wk.frame _ _ _ st₂ fun b hb o e => f₃.mv.keep b o (fun q => own_fp b q hb) e
      have off₃ : ∀ b ∈ wr, c₃.o b = none := fun b hb => by
        cases q : c₃.o b with
        | none => rfl
        | some z => rcases f₃.mv.new b z q with e | e
                    · rw [(m₂.off b hb).1] at e; cases e
                    · obtain ⟨o, e'⟩ := (m₂.off b hb).2; rw [e'] at e; cases e
      refine wpAny_bind (wpAny_mono (turn i a ha s₃ c₃ _ f₃b.base f₃b.mv.le) (fun fl s₄ h₄ => ?_) fun _ _ x => x)
      have go : ∀ c₄, Frm H₀ s₃ c₃ env oc (Inv (i + 1)) s₄ c₄ → ∃ m, m < xs.length + 1 - i ∧ ∃ i' c', m = xs.length + 1 - i' ∧ i' ≤ xs.length ∧ Frm H₀ sb cb env oc (Inv i') s₄ c' ∧ Le c₁ c' ∧ (∀ b ∈ wr, c'.o b = none) ∧ St i' s₄.heap := fun c₄ f₄ => by
        refine ⟨xs.length + 1 - (i + 1), by omega, i + 1, c₄, rfl, hlt, f₃b.trans f₄, ((le.trans m₂.le).trans f₃.mv.le).trans f₄.mv.le, fun b hb => ?_, wk.frame _ _ _ st₃ fun b hb o e => f₄.mv.keep b o (fun q => own_fp b q hb) e⟩
        cases q : c₄.o b with
        | none => rfl
        | some z => rcases f₄.mv.new b z q with e | e
                    · rw [off₃ b hb] at e; cases e
                    · obtain ⟨o, e'⟩ := wk.live _ _ st₃ b hb; rw [e'] at e; cases e
      cases fl with
      | next => obtain ⟨c₄, f₄⟩ := h₄; exact wpAny_pure (.inl ⟨rfl, go c₄ f₄⟩)
      | cont => obtain ⟨c₄, f₄⟩ := h₄; exact wpAny_pure (.inl ⟨rfl, go c₄ f₄⟩)
      | brk => exact h₄.elim
      | ret v => obtain ⟨c₄, f₄, hr⟩ := h₄; exact wpAny_pure (ret s₄ c₄ v (f₃b.trans f₄) hr)
  · obtain rfl : i = xs.length := by omega
    rw [show xs.length = (xs.map F).length from (List.length_map ..).symm] at st
    refine wk.done s _ _ st fun h' tk hk ht => ?_
    refine wpAny_pure (.inr ⟨rfl, codeAny_block ?_⟩)
    have mvd : Mv ([] : List Addr) s c s c := .refl f.ins (fun _ h => nomatch h)
    have f' : Frm H₀ sb cb env oc (Inv xs.length) { s with heap := h', toks := tk } c := by
      refine ⟨f.eo, f.hb, f.fr, ⟨?_, fun b o hb e => (f.mv.keep b o hb e).on fun o' e' => hk b o' (fun q => by rw [hwb b q] at e; cases e) e', f.mv.le, ⟨fun b z e => (hk b z (fun q => by rw [off b q] at e; cases e) (f.ins.o b z e)).exact (f.ins.nf b z e), f.ins.nf, Nat.lt_of_lt_of_le f.ins.pos ht, fun t v e => Nat.lt_of_lt_of_le (f.ins.lt t v e) ht⟩, f.mv.new, fun b hb => ⟨(f.mv.off b hb).1, ?_⟩⟩, f.ok.on fun b o hb e => hk b o (own_lt b hb) e, fun x P h => ?_⟩
      · obtain ⟨h1, t1, rfl⟩ := f.mv.same
        exact ⟨_, _, rfl⟩
      · obtain ⟨o, e⟩ := (f.mv.off b hb).2
        exact (hk b o (own_lt b hb) e).live
      · obtain ⟨a, v, hv, ok⟩ := f.vars x P h
        refine ⟨a, v, ?_, ok⟩
        rcases hv with ⟨p, mm, q, r⟩ | ⟨p, a', q, r⟩
        · exact .inl ⟨p, mm, ns_gt q fun o e => hk _ o (own_lt _ List.mem_cons_self) e, r⟩
        · refine .inr ⟨p, a', q, cell_gt r fun o e => hk _ o (own_lt _ ?_) e⟩
          rcases a with a | a
          · rcases p with p | p <;> rw [a] at p <;> cases p
          · obtain ⟨a'', h1, h2⟩ := f.eo.cell x a
            rw [q] at h1; cases h1; exact List.mem_cons_of_mem _ h2
    exact fin _ c f'
theorem st_for {α : Type} {tgt iter : Expr} {xs : List α} {F : α → VP} {bind : α → Vars → Vars} {Inv : Nat → Vars} {RP : Value → Cx → Prop} (f : Frm H₀ sb cb env oc V s c) (r : RoomB n A H₀ env) (it : PE W n env s.heap c iter P₀) (iters : Iters W tgt P₀ (xs.map F))
    (hasg : ∀ a ∈ xs, ∀ (sb : Shared) (cb : Cx) (V : Vars) (s : Shared) (c : Cx) (v : Value) (A : Around) (E : Value → Shared → Prop) (Q : Unit → Shared → Prop), Frm H₀ sb cb env oc V s c → (F a).ok c v →
      (∀ s' c', Frm H₀ sb cb env oc (bind a V) s' c' → Q () s') → wpAny W.M A (assign tgt env v) Q E s)
    (h0 : ∀ y P, Inv 0 y = some P → V y = some P)
    (turn : ∀ i a, xs[i]? = some a → ∀ s c Ex, Frm H₀ s c env oc (bind a (Inv i)) s c → Le cb c → wpAny W.M A (execs body env) (fun fl s' => match fl with
      | .next | .cont => ∃ c', Frm H₀ s c env oc (Inv (i + 1)) s' c'
      | .brk => False
      | .ret v => ∃ c', Frm H₀ s c env oc (fun _ => none) s' c' ∧ RP v c') Ex s)
    (ret : ∀ s c v, Frm H₀ sb cb env oc (fun _ => none) s c → RP v c → Q (.ret v) s)
    (fin : ∀ s c, Frm H₀ sb cb env oc (Inv xs.length) s c → wpAny W.M A (execs orelse env) (Goes W A rest env Q E) (notedBy W.M A env fun e s' => cameBackBy W.M A env E e s') s)
    (hs : ∀ x, foldedSetIterable iter env x = pure x := by intro _; rfl) : wpAny W.M A (execs (.For tgt iter body orelse pos :: rest) env) Q E s :=
  st_forI f r (.of it iters) (fun a ha sb cb V s c v A E Q _ f ok k => hasg a ha sb cb V s c v A E Q f ok k) h0 turn ret fin hs
end
end Mine

/-! ### D4 -/
open PySem PySem.W PyProof.Rows PySem.SeqAt
set_option Elab.async false
namespace Mine

/-! ## A def is called -/
theorem cellsFrom_keys : ∀ (names : List (Str × NameKind)) (n m : Nat) (acc acc' : List (Str × Addr)), acc.map (·.1) = acc'.map (·.1) → (cellsFrom n names acc).map (·.1) = (cellsFrom m names acc').map (·.1)
  | [], _, _, _, _, h => h
  | (name, kind) :: r, n, m, acc, acc', h => by
    unfold cellsFrom
    split
    · exact cellsFrom_keys r _ _ _ _ (by simp [h])
    · exact cellsFrom_keys r _ _ _ _ h
theorem mem_keys_cellsFrom : ∀ (names : List (Str × NameKind)) (n : Nat) (acc : List (Str × Addr)) (x : Str), ((x, NameKind.cell) ∈ names ∨ x ∈ acc.map (·.1)) → x ∈ (cellsFrom n names acc).map (·.1)
  | [], _, _, _, h => by
    rcases h with h | h
    · cases h
    · exact h
  | (name, kind) :: r, n, acc, x, h => by
    unfold cellsFrom
    split
    · rename_i hk
      refine mem_keys_cellsFrom r _ _ x ?_
      rcases h with h | h
      · rcases List.mem_cons.mp h with e | h
        · cases e; right; simp
        · exact .inl h
      · right; simp only [List.map_cons]; exact List.mem_cons_of_mem _ h
    · rename_i hk
      refine mem_keys_cellsFrom r _ _ x ?_
      rcases h with h | h
      · rcases List.mem_cons.mp h with e | h
        · cases e; exact absurd rfl hk
        · exact .inl h
      · exact .inr h
theorem lookup_of_nodup {α : Type} : ∀ {l : List (Str × α)} {n : Str} {c : α}, (l.map (·.1)).Nodup → (n, c) ∈ l → l.lookup n = some c
  | (k, v) :: r, n, c, hd, hm => by
    rw [List.map_cons, List.nodup_cons] at hd
    rw [List.lookup_cons]
    rcases List.mem_cons.mp hm with e | hm
    · cases e; simp
    · have : n ≠ k := fun e => hd.1 (e ▸ List.mem_map.mpr ⟨(n, c), hm, rfl⟩)
      rw [beq_eq_false_iff_ne.mpr this]
      exact lookup_of_nodup hd.2 hm
theorem exists_lookup {α : Type} {l : List (Str × α)} {n : Str} (h : n ∈ l.map (·.1)) : ∃ c, l.lookup n = some c := by
  induction l with
  | nil => cases h
  | cons p r ih =>
    rw [List.lookup_cons]
    cases hb : n == p.1 with
    | true => exact ⟨_, rfl⟩
    | false =>
      rw [List.map_cons] at h
      rcases List.mem_cons.mp h with e | h
      · rw [e] at hb; simp at hb
      · exact ih h
theorem bindL_lookup {kindOf : Str → Option NameKind} {y : Str} (hy : kindOf y = some .local) : ∀ (binds : List (Str × Value)) (m : Str → Option Value), (binds.map (·.1)).Nodup → bindL kindOf binds m y = (binds.lookup y).or (m y)
  | [], m, _ => rfl
  | (n, v) :: r, m, hd => by
    rw [List.map_cons, List.nodup_cons] at hd
    unfold bindL
    rw [bindL_lookup hy r _ hd.2, List.lookup_cons]
    cases hb : y == n with
    | true =>
      have e : y = n := beq_iff_eq.mp hb
      subst e
      rw [hy, if_pos rfl]
      have : r.lookup y = none := by
        cases q : r.lookup y with
        | none => rfl
        | some c => exact absurd (List.mem_map_of_mem (mem_of_lookup q)) hd.1
      rw [this]; simp
    | false =>
      have e : y ≠ n := fun e => by rw [e] at hb; simp at hb
      by_cases hk : kindOf n = some .local
      · rw [if_pos hk, if_neg e]
      · rw [if_neg hk]
theorem bindC_lookup {kindOf : Str → Option NameKind} {y : Str} (hy : kindOf y ≠ some .local) : ∀ (binds : List (Str × Value)) (m : Str → Option Value), (binds.map (·.1)).Nodup → bindC kindOf binds m y = (binds.lookup y).or (m y)
  | [], m, _ => rfl
  | (n, v) :: r, m, hd => by
    rw [List.map_cons, List.nodup_cons] at hd
    unfold bindC
    rw [bindC_lookup hy r _ hd.2, List.lookup_cons]
    cases hb : y == n with
    | true =>
      have e : y = n := beq_iff_eq.mp hb
      subst e
      rw [if_neg hy, if_pos rfl]
      have : r.lookup y = none := by
        cases q : r.lookup y with
        | none => rfl
        | some c => exact absurd (List.mem_map_of_mem (mem_of_lookup q)) hd.1
      rw [this]; simp
    | false =>
      have e : y ≠ n := fun e => by rw [e] at hb; simp at hb
      by_cases hk : kindOf n = some .local
      · rw [if_pos hk]
      · rw [if_neg hk, if_neg e]
def entryV (names : List Str) (Ps : List VP) : Vars := fun y => (names.zip Ps).lookup y
theorem entry_ok {c : Cx} : ∀ {names : List Str} {Ps : List VP} {vs : List Value}, AllOk c Ps vs → names.length = Ps.length → ∀ x P, (names.zip Ps).lookup x = some P → ∃ v, (names.zip vs).lookup x = some v ∧ P.ok c v
  | [], _, _, _, _, x, P, h => by simp at h
  | n :: names, _, _, .cons (a := Q) (b := v) p r, hl, x, P, h => by
    rw [List.zip_cons_cons, List.lookup_cons] at h ⊢
    cases hb : x == n with
    | true => rw [hb] at h; cases h; exact ⟨v, rfl, p⟩
    | false => rw [hb] at h; exact entry_ok r (by simpa using hl) x P h
theorem zip_keys {α : Type} : ∀ {names : List Str} {vs : List α}, names.length = vs.length → (names.zip vs).map (·.1) = names
  | [], _, _ => by simp
  | n :: names, [], h => by simp at h
  | n :: names, v :: vs, h => by simp only [List.zip_cons_cons, List.map_cons, zip_keys (by simpa using h)]

structure DefIn (H₀ : Heap) (a : Addr) (x : Str) (params : Arguments) (body : List Stmt) (scope : Scope) (pm code doc : Value) : Prop where
  obj : ∃ o, H₀.get? a = some o ∧ o.data = .func (Calls.docDef x params body scope pm code doc)
  cd : H₀.CodeRec code x
theorem DefIn.callee {H₀ : Heap} {a : Addr} {x : Str} {params : Arguments} {body : List Stmt} {scope : Scope} {pm code doc : Value} (d : DefIn H₀ a x params body scope pm code doc) : Callee H₀ (.ref a) := by
  obtain ⟨⟨oc, od, data, sl⟩, e, h⟩ := d.obj
  simp only at h
  subst h
  exact .inr (.inr ⟨a, rfl, oc, od, _, sl, e⟩)
abbrev fEnv (x : Str) (params : Arguments) (body : List Stmt) (scope : Scope) (pm code doc : Value) (L a : Addr) : Env := callEnvC (Calls.docDef x params body scope pm code doc) L a
abbrev fOc (scope : Scope) (L : Addr) : List Addr := (cellsFrom (L + 1) scope.names []).map (·.2)
theorem call_def {W : Wd} {n : Nat} {H₀ : Heap} {a : Addr} {x : Str} {params : Arguments} {body : List Stmt} {scope : Scope} {pm code doc : Value} (d : DefIn H₀ a x params body scope pm code doc) (nl : H₀.NoLimit)
    {names : List Str} {Ps : List VP} (hnd : names.Nodup) (hlen : names.length = Ps.length)
    (hbind : ∀ vals : List Value, vals.length = names.length → bindArgs (Calls.docDef x params body scope pm code doc) ⟨vals, []⟩ = pure (names.zip vals))
    (hkind : ∀ y ∈ names, scope.names.lookup y = some .local ∨ scope.names.lookup y = some .cell) (hcn : ((cellsFrom 0 scope.names []).map (·.1)).Nodup)
    {A : Around} {s : Shared} {c : Cx} {vs : List Value} {R : Result → Shared → Prop} (r : Room (n + 1) A s.heap) (hx : HX H₀ s.heap) (ins : InS c s) (ok : AllOk c Ps vs)
    (h : ∀ L s₁, Frm s.heap s₁ c (fEnv x params body scope pm code doc L a) (fOc scope L) (entryV names Ps) s₁ c → Kp s c s₁ c → (∀ b ∈ L :: fOc scope L, s.heap.get? b = none) → RoomB n (A.deeper (fEnv x params body scope pm code doc L a)) s.heap (fEnv x params body scope pm code doc L a) →
      wpAny W.M (A.deeper (fEnv x params body scope pm code doc L a)) (execs body (fEnv x params body scope pm code doc L a)) (fun f s' => R (.ok (.ret (match f with | .ret v => v | _ => .none))) s')
        (fun e s' => wpAny W.M (A.deeper (fEnv x params body scope pm code doc L a)) (leaving (fEnv x params body scope pm code doc L a) e) (fun _ s'' => R (.error e) s'') (fun e' s'' => R (.error e') s'') s') s₁)
    (hco : scope.isCoroutine = false) (hgen : scope.isGenerator = false) (hk : scope.kind = .function) :
    codeAny W.M A (.call (.ref a) ⟨vs, []⟩) R s := by
  obtain ⟨o, ho, hdata⟩ := d.obj
  obtain ⟨o', ho', hs⟩ := hx _ _ ho
  have hvl : vs.length = names.length := by rw [hlen]; exact ok.len.symm
  refine codeAny_call_function (by have := r.depth; omega) ho' (hs.data.trans hdata) hco hgen rfl (codeRec_hx d.cd hx) ?_
  rw [hbind vs hvl]
  refine wpAny_pure (wpAny_with_toks (Nat.le_refl _) (wpAny_newFunctionEnv_cells hk ?_ fun env he s₁ ic htk => ?_))
  · intro y hy
    have hyn : y.1 ∈ names := by
      have : y.1 ∈ (names.zip vs).map (·.1) := List.mem_map_of_mem hy
      rwa [zip_keys hvl.symm] at this
    rcases hkind y.1 hyn with q | q
    · exact .inl q
    · refine .inr ⟨q, ?_⟩
      obtain ⟨c, hc⟩ := exists_lookup (mem_keys_cellsFrom scope.names (s.heap.objs.size + 1) [] y.1 (.inl (mem_of_lookup q)))
      show ((cellsFrom (s.heap.objs.size + 1) scope.names []).lookup y.1).isSome = true
      rw [hc]; rfl
  · subst he
    have hkeys : ((cellsFrom (s.heap.objs.size + 1) scope.names []).map (·.1)).Nodup := by rw [cellsFrom_keys scope.names (s.heap.objs.size + 1) 0 [] [] rfl]; exact hcn
    have kp : Kp s c s₁ c := Kp.fromTo ins ic.toInCall.same (HX.ex ic.toInCall.keep) htk
    have own : ∀ b ∈ s.heap.objs.size :: fOc scope s.heap.objs.size, s.heap.get? b = none := by
      intro b hb
      rcases List.mem_cons.mp hb with rfl | hb
      · exact get_size _
      · obtain ⟨⟨nm, b'⟩, hm, rfl⟩ := List.mem_map.mp hb
        exact Heap.get?_none_of_le (Nat.le_of_lt (ic.above nm b' hm))
    have cok : CompOk s.heap.objs.size (fOc scope s.heap.objs.size) s₁.heap := by
      refine ⟨⟨_, ic.toInCall.ns⟩, fun b hb => ?_⟩
      obtain ⟨⟨nm, b'⟩, hm, rfl⟩ := List.mem_map.mp hb
      exact ⟨_, ic.cell nm b' (lookup_of_nodup hkeys hm)⟩
    refine ⟨nolimit_hx (nolimit_hx nl hx) (HX.ex ic.toInCall.keep), codeAny_func (h s.heap.objs.size s₁ ⟨⟨hk, fun y hy => ?_, fun y z b h1 h2 => ?_, fun hm => ?_, rfl, let ⟨_, e⟩ := r.top; Heap.lt_size e⟩, kp.keep, own, .refl kp.ins fun b hb => ⟨ins.none (own b hb), cok.live b hb⟩, cok, fun y P hy => ?_⟩ kp own r.deeper)⟩
    · obtain ⟨b, hb⟩ := exists_lookup (mem_keys_cellsFrom scope.names (s.heap.objs.size + 1) [] y (.inl (mem_of_lookup hy)))
      exact ⟨b, hb, List.mem_map.mpr ⟨_, mem_of_lookup hb, rfl⟩⟩
    · exact name_of_addr ic.apart (mem_of_lookup h1) (mem_of_lookup h2)
    · obtain ⟨⟨nm, b'⟩, hm, e⟩ := List.mem_map.mp hm
      have h1 := ic.above nm b' hm
      have e' : b' = s.heap.objs.size := e
      rw [e'] at h1
      exact Nat.lt_irrefl _ h1
    · obtain ⟨v, hv, okv⟩ := entry_ok ok hlen y P hy
      have hyn : y ∈ names := by
        have : y ∈ (names.zip vs).map (·.1) := List.mem_map_of_mem (mem_of_lookup hv)
        rwa [zip_keys hvl.symm] at this
      have hnd' : ((names.zip vs).map (·.1)).Nodup := by rw [zip_keys hvl.symm]; exact hnd
      rcases hkind y hyn with q | q
      · refine ⟨.inl q, v, .inl ⟨q, _, ic.toInCall.ns, ?_⟩, okv⟩
        refine (bindL_lookup (kindOf := fun y => scope.names.lookup y) q _ _ hnd').trans ?_
        rw [hv]; rfl
      · refine ⟨.inr q, v, .inr ⟨.inl q, ?_⟩, okv⟩
        obtain ⟨b, hb⟩ := exists_lookup (mem_keys_cellsFrom scope.names (s.heap.objs.size + 1) [] y (.inl (mem_of_lookup q)))
        refine ⟨b, hb, ?_⟩
        have hc := ic.cell y b hb
        have e2 := bindC_lookup (kindOf := fun y => scope.names.lookup y) (y := y) (fun e => by rw [q] at e; cases e) (names.zip vs) (fun _ => none) hnd'
        rw [hv] at e2
        have e3 : s₁.heap.IsCell b (bindC (fun y => scope.names.lookup y) (names.zip vs) (fun _ => none) y) := hc
        rw [e2] at e3
        exact e3
end Mine

/-! ### D5 -/
open PySem PySem.W PyProof.Rows PySem.SeqAt
set_option Elab.async false
namespace Mine
theorem Kp.then_mv {own : List Addr} {s s₁ s' : Shared} {c c₁ c' : Cx} (k : Kp s c s₁ c₁) (m : Mv own s₁ c₁ s' c') (h : ∀ b ∈ own, s.heap.get? b = none) : Kp s c s' c' := by
  refine ⟨?_, fun b o e => (k.keep b o e).on fun o' e' => m.keep b o' (fun q => by rw [h b q] at e; cases e) e', k.le.trans m.le, m.ins, fun b x e => ?_⟩
  · obtain ⟨h1, t1, rfl⟩ := k.same
    obtain ⟨h2, t2, rfl⟩ := m.same
    exact ⟨_, _, rfl⟩
  · rcases m.new b x e with q | q
    · exact k.new b x q
    · exact .inr (none_of_keep k.keep q)
abbrev retv (f : Flow) : Value := match f with | .ret v => v | _ => .none
/-- a def by its body -/
theorem Cl.of_def {W : Wd} {n : Nat} {H₀ : Heap} {a : Addr} {x : Str} {params : Arguments} {body : List Stmt} {scope : Scope} {pm code doc : Value} (d : DefIn H₀ a x params body scope pm code doc) (nl : H₀.NoLimit)
    {names : List Str} {Ps : List VP} {P : VP} (hnd : names.Nodup) (hlen : names.length = Ps.length)
    (hbind : ∀ vals : List Value, vals.length = names.length → bindArgs (Calls.docDef x params body scope pm code doc) ⟨vals, []⟩ = pure (names.zip vals))
    (hkind : ∀ y ∈ names, scope.names.lookup y = some .local ∨ scope.names.lookup y = some .cell) (hcn : ((cellsFrom 0 scope.names []).map (·.1)).Nodup)
    (hco : scope.isCoroutine = false) (hgen : scope.isGenerator = false) (hk : scope.kind = .function)
    (h : ∀ (Hc : Heap) (L : Addr) (A : Around) (E : Value → Shared → Prop) (s : Shared) (c : Cx), HX H₀ Hc → RoomB n A Hc (fEnv x params body scope pm code doc L a) → Frm Hc s c (fEnv x params body scope pm code doc L a) (fOc scope L) (entryV names Ps) s c →
      wpAny W.M A (execs body (fEnv x params body scope pm code doc L a)) (fun f s' => ∃ c', Frm Hc s c (fEnv x params body scope pm code doc L a) (fOc scope L) (fun _ => none) s' c' ∧ P.ok c' (retv f)) E s) :
    Cl W (n + 1) H₀ (.ref a) Ps P := by
  intro A E s c vs r hx ins ok
  refine wpAny_call (call_def d nl hnd hlen hbind hkind hcn r hx ins ok (fun L s₁ f kp own r' => ?_) hco hgen hk)
  refine wpAny_mono (h s.heap L _ (fun _ _ => False) s₁ c hx r' f) (fun fl s' hq => ?_) (fun _ _ x => x.elim)
  obtain ⟨c', f', z⟩ := hq
  exact ⟨c', kp.then_mv f'.mv own, z⟩

/-! ## What the globals hold -/
structure Gl (H₀ : Heap) (mg mb : Str → Option Value) : Prop where
  g : H₀.Ns mainGlobals mg
  b : H₀.Ns builtinsNs mb
  nl : H₀.NoLimit
  blt : ∀ x : Str, x ≠ "__name__" → mb x = bootBuiltins x
  booked : NoneBooked H₀
theorem booked_mono {h h' : Heap} (x : NoneBooked h) (k : HX h h') : NoneBooked h' := let ⟨m, a, b⟩ := x; ⟨m, ns_hx a k, b⟩
structure EnvG (env : Env) (x : Str) : Prop where
  g : env.globals = mainGlobals
  b : env.builtins = builtinsNs
  fn : env.scope.kind = .function
  kind : env.kindOf x = some .globalImplicit
theorem Fn.glob {W : Wd} {n : Nat} {env : Env} {H₀ H : Heap} {mg mb : Str → Option Value} {x : Str} {a : Addr} {Ps : List VP} {P : VP} (G : Gl H₀ mg mb) (hx : HX H₀ H) (he : EnvG env x) (hm : mg x = some (.ref a)) (hc : Callee H₀ (.ref a)) (cl : Cl W n H₀ (.ref a) Ps P) : Fn W n env H x Ps P := by
  intro A E s hs
  rw [loadName_read he.fn he.kind]
  refine Calls.loadGlobal_global (env := env) (mg := mg) ?_ hm ⟨rfl, hc.mono (hx.trans hs), cl.mono (hx.trans hs)⟩
  rw [he.g]; exact ns_hx G.g (hx.trans hs)
theorem Fn.blt {W : Wd} {n : Nat} {env : Env} {H₀ H : Heap} {mg mb : Str → Option Value} {x : Str} {f : Value} {Ps : List VP} {P : VP} (G : Gl H₀ mg mb) (hx : HX H₀ H) (he : EnvG env x) (hm : mg x = none) (hb : bootBuiltins x = some f) (hc : Callee H₀ f) (cl : Cl W n H₀ f Ps P) (hn : x ≠ "__name__" := by decide) : Fn W n env H x Ps P := by
  intro A E s hs
  rw [loadName_read he.fn he.kind]
  refine Calls.loadGlobal_builtin (env := env) (mg := mg) (mb := mb) ?_ hm ?_ ((G.blt x hn).trans hb) ⟨rfl, hc.mono (hx.trans hs), cl.mono (hx.trans hs)⟩
  · rw [he.g]; exact ns_hx G.g (hx.trans hs)
  · rw [he.b]; exact ns_hx G.b (hx.trans hs)

section
variable {W : Wd} {n : Nat} {A : Around} {E : Value → Shared → Prop} {Q : Flow → Shared → Prop} {H₀ : Heap} {sb : Shared} {cb : Cx} {env : Env} {oc : List Addr} {V : Vars} {s : Shared} {c : Cx} {test : Expr} {pos : Pos} {rest body : List Stmt}
theorem st_while {β : Type} {Inv : β → Vars} {μ : β → Nat} {t : β → Bool} {Good Fin : β → Prop} (f : Frm H₀ sb cb env oc V s c) (r : RoomB n A H₀ env) (b₀ : β) (g₀ : Good b₀) (h0 : ∀ y P, Inv b₀ y = some P → V y = some P)
    (htest : ∀ b, Good b → ∀ s c, Frm H₀ s c env oc (Inv b) s c → Le cb c → PT W n env s.heap c test (t b))
    (turn : ∀ b, Good b → t b = true → ∀ s c Ex, Frm H₀ s c env oc (Inv b) s c → Le cb c → wpAny W.M A (execs body env) (fun fl s' => match fl with
      | .next | .cont => ∃ b' c', μ b' < μ b ∧ Good b' ∧ Frm H₀ s c env oc (Inv b') s' c'
      | .brk => ∃ b' c', Fin b' ∧ Frm H₀ s c env oc (Inv b') s' c'
      | .ret _ => False) Ex s)
    (hfin : ∀ b, Good b → t b = false → Fin b)
    (fin : ∀ b s c, Fin b → Frm H₀ sb cb env oc (Inv b) s c → wpAny W.M A (execs rest env) Q E s) :
    wpAny W.M A (execs (.While test body [] pos :: rest) env) Q E s := by
  refine wpAny_execs_cons (wpAny_While (codeAny_whileLoop (fun k s' => ∃ b c', k = μ b ∧ Good b ∧ Frm H₀ sb cb env oc (Inv b) s' c') ?_ (μ b₀) ⟨b₀, c, rfl, g₀, f.weak h0⟩))
  rintro k s ⟨b, c, rfl, g, f⟩
  refine (htest b g s c f.base f.mv.le).at (f.room r) f.ins fun s₁ c₁ k₁ => ?_
  have f₁ := f.step k₁
  cases ht : t b with
  | false => exact wpAny_execs_nil (fin b s₁ c₁ (hfin b g ht) f₁)
  | true =>
    refine wpAny_mono (turn b g ht s₁ c₁ _ f₁.base f₁.mv.le) (fun fl s₂ h₂ => ?_) fun _ _ x => x
    cases fl with
    | next => obtain ⟨b', c', hlt, g', f'⟩ := h₂; exact ⟨μ b', hlt, b', c', rfl, g', f₁.trans f'⟩
    | cont => obtain ⟨b', c', hlt, g', f'⟩ := h₂; exact ⟨μ b', hlt, b', c', rfl, g', f₁.trans f'⟩
    | brk => obtain ⟨b', c', hf, f'⟩ := h₂; exact fin b' s₂ c' hf (f₁.trans f')
    | ret v => exact h₂.elim
end

/-! ## A comprehension's own names -/
section
variable {W : Wd} {scope : Scope} {cl : List (Str × Addr)} {env : Env} {x : Str} {px : Pos} {P : VP}
theorem asg_local (hk : scope.kind = .function) (hx : scope.names.lookup x = some .local) (C : Addr) (hn : (x == ("__classdict__" : Str)) = false := by decide) :
    Asg W (.Name x px) (cEnv scope cl env C) C [] P (fun H c => Rd W (cEnv scope cl env C) H c x P) := by
  intro A E s c v _ ins ok z
  obtain ⟨⟨m, hm⟩, _⟩ := ok
  have hl : (cEnv scope cl env C).kindOf x = some .local := lookup_relabel_local hx
  refine wpAny_assign_Name (wpAny_storeName_local hl hm (fun h' hn' hs' => ?_) (by show (scope.kind == .class || (scope.kind == .module && _)) = false; rw [hk]; rfl))
  refine ⟨h', s.toks + 1, rfl, Nat.le_succ _, fun b o hb e => .of (hs'.extBut b o (fun q => hb (q ▸ List.mem_cons_self)) e), ⟨⟨_, hn'⟩, fun _ h => nomatch h⟩, ?_⟩
  exact Rd.held hk (.inl ⟨hl, _, hn', if_pos rfl⟩) z hn
theorem asg_cell (hk : scope.kind = .function) (C : Addr) (hx : (cEnv scope cl env C).kindOf x = some .cell) (hc : (cEnv scope cl env C).cells.lookup x = some (C + 1)) (hn : (x == ("__classdict__" : Str)) = false := by decide) :
    Asg W (.Name x px) (cEnv scope cl env C) C [C + 1] P (fun H c => Rd W (cEnv scope cl env C) H c x P) := by
  intro A E s c v _ ins ok z
  obtain ⟨v₀, h₀⟩ := ok.2 (C + 1) (List.mem_singleton.mpr rfl)
  refine wpAny_assign_Name (wpAny_storeName_cell hk hx hc h₀ fun h' hc' hs' => ?_)
  refine ⟨h', s.toks, rfl, Nat.le_refl _, fun b o hb e => .of (hs'.extBut b o (fun q => hb (q ▸ List.mem_cons_of_mem _ (List.mem_singleton.mpr rfl))) e), ⟨?_, fun a ha => ?_⟩, ?_⟩
  · obtain ⟨m, hm⟩ := ok.1
    exact ⟨m, hm.sameBut hs' (Nat.ne_of_lt (Nat.lt_succ_self _))⟩
  · rw [List.mem_singleton.mp ha]; exact ⟨_, hc'⟩
  · exact Rd.held hk (.inr ⟨.inl hx, _, hc, hc'⟩) z hn
end
end Mine

/-! ### D6 -/
open PySem PySem.W PyProof.Rows PySem.SeqAt
set_option Elab.async false
namespace Mine
def listV (l : List (Str × VP)) : Vars := fun y => l.lookup y
def VLe : List (Str × VP) → Vars → Prop
  | [], _ => True
  | (x, P) :: r, V => V x = some P ∧ VLe r V
theorem VLe.le : ∀ {l : List (Str × VP)} {V : Vars}, VLe l V → ∀ y P, listV l y = some P → V y = some P
  | [], _, _, _, _, h => by cases h
  | (x, Q) :: r, V, ⟨h1, h2⟩, y, P, h => by
    unfold listV at h
    rw [List.lookup_cons] at h
    cases hb : y == x with
    | true => rw [hb] at h; cases h; rw [beq_iff_eq.mp hb]; exact h1
    | false => rw [hb] at h; exact VLe.le h2 y P h
section
variable {W : Wd} {n : Nat} {H₀ : Heap} {sb : Shared} {cb : Cx} {env : Env} {oc : List Addr} {V : Vars} {s : Shared} {c : Cx} {H : Heap} {e : Expr} {b b' : Bool} {P P' : VP}
theorem Frm.to (f : Frm H₀ sb cb env oc V s c) (l : List (Str × VP)) (h : VLe l V) : Frm H₀ sb cb env oc (listV l) s c := f.weak h.le
theorem Frm.nil (f : Frm H₀ sb cb env oc V s c) : Frm H₀ sb cb env oc (fun _ => none) s c := f.weak fun _ _ h => nomatch h
theorem PT.eq (p : PT W n env H c e b) (h : b = b') : PT W n env H c e b' := h ▸ p
theorem PE.eq (p : PE W n env H c e P) (h : P = P') : PE W n env H c e P' := h ▸ p
end
end Mine

/-! ### D7 -/
open PySem PySem.W PyProof.Rows PySem.SeqAt
set_option Elab.async false
namespace Mine
/-- a step that changes what is owned, makes one new thing T, and perhaps a token -/
theorem Mv.make {own : List Addr} {s : Shared} {c c₁ : Cx} {h' : Heap} {tk : Nat} {T : Addr} {o : Obj} (ins : InS c s) (off : ∀ b ∈ own, c.o b = none) (k₁ : Kp s c { s with toks := tk } c₁) (hc : ∀ b, c₁.o b = c.o b)
    (hT : s.heap.get? T = none) (hTo : T ∉ own) (he : h'.get? T = some o) (hd : NoD o) (hk : ∀ b x, b ∉ own → s.heap.get? b = some x → h'.get? b = some x) (hl : ∀ b ∈ own, ∃ x, h'.get? b = some x) :
    Mv own s c { s with heap := h', toks := tk } (c₁.put T o) := by
  have hn : c₁.o T = none := by rw [hc]; exact ins.none hT
  refine ⟨⟨h', tk, rfl⟩, fun b x hb e => .of (hk b x hb e), k₁.le.trans (Cx.put_le hn o), ⟨fun b x e => ?_, fun b x e => ?_, k₁.ins.pos, k₁.ins.lt⟩, fun b x e => ?_, fun b hb => ⟨?_, hl b hb⟩⟩
  · have e' : (if b = T then some o else c₁.o b) = some x := e
    by_cases q : b = T
    · rw [if_pos q] at e'; cases e'; rw [q]; exact he
    · rw [if_neg q, hc] at e'
      exact hk b x (fun hb => by rw [off b hb] at e'; cases e') (ins.o b x e')
  · have e' : (if b = T then some o else c₁.o b) = some x := e
    by_cases q : b = T
    · rw [if_pos q] at e'; cases e'; exact hd
    · rw [if_neg q, hc] at e'; exact ins.nf b x e'
  · have e' : (if b = T then some o else c₁.o b) = some x := e
    by_cases q : b = T
    · rw [q]; exact .inr hT
    · rw [if_neg q, hc] at e'; exact .inl e'
  · show (if b = T then some o else c₁.o b) = none
    rw [if_neg (fun q : b = T => hTo (q ▸ hb)), hc]; exact off b hb
theorem TupV.new {c : Cx} {a : Addr} {l : List VP} {vs : List Value} {n : Nat} (hn : c.o a = none) (x : AllOk c l vs) : (TupV l).ok (c.put a { cls := .type "tuple", data := .seq vs.toArray n }) (.ref a) :=
  ⟨a, vs, rfl, ⟨_, Cx.put_self .., rfl, n, rfl⟩, x.mono (Cx.put_le hn _)⟩
theorem gt_exact {h h' : Heap} {b : Addr} {o : Obj} (e : h.get? b = some o) (k : ∀ o, h.get? b = some o → Gt h' b o) (nd : NoD o) : h'.get? b = some o := (k o e).exact nd
theorem liter_gt {h h' : Heap} {I l : Addr} {i : Nat} (x : h.IsListIter I l i) (k : ∀ o, h.get? I = some o → Gt h' I o) : h'.IsListIter I l i := by
  obtain ⟨o, e, hc, r⟩ := x
  exact ⟨o, gt_exact e k (by intro _ _ h; rw [r] at h; cases h), hc, r⟩
theorem list_gt {h h' : Heap} {a : Addr} {its : Array Value} (x : h.IsList a its) (k : ∀ o, h.get? a = some o → Gt h' a o) : h'.IsList a its := by
  obtain ⟨o, e, hc, n, r⟩ := x
  exact ⟨o, gt_exact e k (by intro _ _ h; rw [r] at h; cases h), hc, n, r⟩
def enumV (l : List VP) : List VP := (List.range l.length).map fun (i : Nat) => TupV [IntV (i : Int), l.getD i AnyV]
theorem Wk.enum {W : Wd} {elts : List Expr} {x1 : Nat} {pos : Pos} {A : Around} {c₀ : Cx} (hh : A.handled = none) {e it ax : Addr} (h1 : e ≠ it) (h2 : ax ≠ e) (h3 : ax ≠ it) {vs : List Value} {l : List VP} (ok : AllOk c₀ l vs) :
    Wk W (.Tuple elts x1 pos) A c₀ e [e, it, ax] [e, it] (enumV l) (fun i h => (∃ old, IsEnum h e it i old) ∧ h.IsListIter it ax i ∧ h.IsList ax vs.toArray) where
  sub := fun b hb => by
    rcases List.mem_cons.mp hb with rfl | hb
    · simp
    · rw [List.mem_singleton.mp hb]; simp
  frame := fun i h h' st hk => by
    obtain ⟨⟨old, he⟩, hi, hl⟩ := st
    exact ⟨⟨old, gt_exact he (fun o e => hk _ (by simp) o e) (by intro _ _ h; cases h)⟩, liter_gt hi fun o e => hk _ (by simp) o e, list_gt hl fun o e => hk _ (by simp) o e⟩
  live := fun i h st b hb => by
    obtain ⟨⟨old, he⟩, ⟨o, e, _⟩, hl⟩ := st
    rcases List.mem_cons.mp hb with rfl | hb
    · exact ⟨_, he⟩
    · rw [List.mem_singleton.mp hb]; exact ⟨_, e⟩
  item := fun i s c Q E P hP st le ins off hQ => by
    obtain ⟨⟨old, he⟩, hi, hl⟩ := st
    unfold enumV at hP
    rw [List.getElem?_map] at hP
    obtain ⟨j, hj, rfl⟩ := Option.map_eq_some_iff.mp hP
    have hlt : i < l.length := by
      have := (List.getElem?_eq_some_iff.mp hj).1
      simpa using this
    have hj' : i = j := by rw [List.getElem?_range hlt] at hj; injection hj
    subst hj'
    obtain ⟨v, ev, ov⟩ := ok.get (i := i) (P := l.getD i AnyV) (by rw [List.getElem?_eq_getElem hlt, List.getD_eq_getElem?_getD, List.getElem?_eq_getElem hlt]; rfl)
    refine wpAny_pyNext_enum_item he hi hl (x := v) (by simpa using ev) h1 fun h₁ he₁ hi₁ hT₁ hsz hk₁ => ?_
    refine wpAny_letOwnedTupleGo_enum he₁ fun h₂ he₂ hs₂ => ?_
    have hTe : s.heap.objs.size ≠ e := fun q => by have := Heap.lt_size he; rw [q] at this; exact Nat.lt_irrefl _ this
    have hTi : s.heap.objs.size ≠ it := fun q => by obtain ⟨o, e', _⟩ := hi; have := Heap.lt_size e'; rw [q] at this; exact Nat.lt_irrefl _ this
    have hTown : s.heap.objs.size ∉ [e, it] := by
      intro hm
      rcases List.mem_cons.mp hm with q | hm
      · exact hTe q
      · exact hTi (List.mem_singleton.mp hm)
    have hT₂ : h₂.get? s.heap.objs.size = some { cls := .type "tuple", data := .seq #[.int i s.toks, v] } := hs₂.extBut _ _ hTe hT₁
    have hi₂ : h₂.IsListIter it ax (i + 1) := hi₁.extBut hs₂.extBut (Ne.symm h1)
    have k₁ := Kp.fresh ins (.int i s.toks)
    have hal : AllOk (c.tok s.toks (.int i s.toks)) [IntV (i : Int), l.getD i AnyV] [.int i s.toks, v] := .cons (IntV.fresh ins i) (.cons (VP.mono _ (le.trans k₁.le) ov) .nil)
    refine hQ (.ref s.heap.objs.size) _ _ (Mv.make ins off k₁ (fun _ => rfl) (get_size _) hTown hT₂ (by intro _ _ h; cases h) (fun b x hb e' => hs₂.extBut b x (fun q => hb (by rw [q]; simp)) (hk₁ b x (fun q => hb (by rw [q]; simp)) (fun q => hb (by rw [q]; simp)) e')) (fun b hb => ?_)) ⟨⟨v, he₂⟩, hi₂, ?_⟩ (TupV.new (k₁.ins.none (get_size s.heap)) hal)
    · rcases List.mem_cons.mp hb with rfl | hb
      · exact ⟨_, he₂⟩
      · obtain ⟨o, e', _⟩ := hi₂
        rw [List.mem_singleton.mp hb]; exact ⟨_, e'⟩
    · obtain ⟨o, e', r⟩ := hl
      exact ⟨o, hs₂.extBut _ _ h2 (hk₁ _ _ h2 h3 e'), r⟩
  done := fun s Q E st hQ => by
    obtain ⟨⟨old, he⟩, hi, hl⟩ := st
    have hlen : (enumV l).length = l.length := by simp [enumV]
    rw [hlen] at he hi
    refine wpAny_pyNext_enum_end hh he hi hl (by have := ok.len; simp; omega) fun h' hx => hQ h' s.toks (fun b o hb e' => .of (hx b o (fun q => hb (by rw [q]; simp)) e')) (Nat.le_refl _)
  self := fun i s Q E st hQ => let ⟨⟨_, he⟩, _⟩ := st; wpAny_pyIter_enum he hQ
end Mine

/-! ### D8 -/
open PySem PySem.W PyProof.Rows PySem.SeqAt
set_option Elab.async false
namespace Mine
theorem IsTup.tup {c : Cx} {s : Shared} {a : Addr} {vs : List Value} (l : IsTup c a vs) (x : InS c s) : s.heap.IsTuple a vs.toArray := let ⟨o, e, r⟩ := l.out; ⟨o, x.o _ _ e, r⟩
theorem hx_extBut {h h' : Heap} (x : Heap.ExtBut h.objs.size h h') : ∀ b o, h.get? b = some o → h'.get? b = some o := fun b o e => x b o (fun q => by have := Heap.lt_size e; rw [q] at this; exact Nat.lt_irrefl _ this) e
/-- a name of the built-ins -/
def Bl (W : Wd) (env : Env) (H : Heap) (x : Str) (f : Value) : Prop := ∀ (A : Around) (E : Value → Shared → Prop) (s : Shared), HX H s.heap → wpAny W.M A (loadName env x) (fun v s' => s' = s ∧ v = f) E s
theorem Bl.of {W : Wd} {env : Env} {H₀ H : Heap} {mg mb : Str → Option Value} {x : Str} {f : Value} (G : Gl H₀ mg mb) (hx : HX H₀ H) (he : EnvG env x) (hm : mg x = none) (hb : bootBuiltins x = some f) (hn : x ≠ "__name__" := by decide) : Bl W env H x f := by
  intro A E s hs
  rw [loadName_read he.fn he.kind]
  refine Calls.loadGlobal_builtin (env := env) (mg := mg) (mb := mb) ?_ hm ?_ ((G.blt x hn).trans hb) ⟨rfl, rfl⟩
  · rw [he.g]; exact ns_hx G.g (hx.trans hs)
  · rw [he.b]; exact ns_hx G.b (hx.trans hs)
/-- a call of a built-in by its name -/
theorem call_bl {W : Wd} {n : Nat} {env : Env} {H : Heap} {c : Cx} {x : Str} {np pos : Pos} {e : Expr} {es : List Expr} {f : Value} {Ps : List VP} (b : Bl W env H x f) (hf : (∃ id, f = .builtin id) ∨ ∃ T, f = .type T) (p : PEs W n env H c (e :: es) Ps)
    {A : Around} {E Q : Value → Shared → Prop} {s : Shared} {c₁ : Cx} (r : Room n A s.heap) (hx : HX H s.heap) (le : Le c c₁) (ins : InS c₁ s)
    (k : ∀ vs s' c', Kp s c₁ s' c' → AllOk c' Ps vs → wpAny W.M A (call f vs) Q E s') (hd : (x == ("__debug__" : Str)) = false := by decide) : wpAny W.M A (eval (.Call (.Name x np) (e :: es) [] pos) env) Q E s := by
  refine wpAny_Call_NameR (wpAny_Name (wpAny_mono (b A E s hx) (fun v s₁ hq => ?_) fun _ _ x => x) hd)
  obtain ⟨rfl, rfl⟩ := hq
  have hc : Callee s₁.heap v := hf.elim .inl fun h => .inr (.inl h)
  exact callWith_callee hc p.plain (wpAny_mono (p.run E s₁ c₁ r hx le ins) (fun vs s₂ ⟨c₂, kk, z⟩ => ⟨hc.mono kk.keep, k vs s₂ c₂ kk z⟩) fun _ _ x => x)
theorem IterE.enum {W : Wd} {n : Nat} {env : Env} {H : Heap} {c : Cx} {e : Expr} {l : List VP} {elts : List Expr} {x1 : Nat} {pos np cp : Pos} (b : Bl W env H "enumerate" (.type "enumerate")) (p : PE W n env H c e (ListV l)) (hp : plainE e = true := by rfl) :
    IterE W n (.Tuple elts x1 pos) env H c (.Call (.Name "enumerate" np) [e] [] cp) (enumV l) := by
  intro A E s c₁ r hx le ins
  refine call_bl b (.inr ⟨_, rfl⟩) (.one p hp) r hx le ins fun vs s₁ c₂ k z => ?_
  cases z with
  | cons z z' =>
    cases z'
    obtain ⟨a, vs, rfl, il, ok⟩ := z
    refine call_enumerate_list (il.list k.ins) fun h' he hi hsz hk => ?_
    have hal : a < s₁.heap.objs.size := by obtain ⟨o, e, _⟩ := il.list k.ins; exact Heap.lt_size e
    have k₂ : Kp s₁ c₂ { s₁ with heap := h' } c₂ := Kp.heap k.ins (HX.ex hk)
    refine wpAny_pyIter_enum he ⟨_, _, _, _, c₂, rfl, k.trans k₂, Wk.enum r.handled (by intro h; have : s₁.heap.objs.size + 1 = s₁.heap.objs.size := h; omega) (by intro h; rw [h] at hal; exact absurd hal (by intro q; have : s₁.heap.objs.size + 1 < s₁.heap.objs.size := q; omega)) (by intro h; rw [h] at hal; exact Nat.lt_irrefl _ hal) ok, ⟨⟨.none, he⟩, hi, list_gt (il.list k.ins) fun o e => .of (hk _ _ e)⟩, ?_, ?_, ?_⟩
    · intro b hb
      show b < h'.objs.size
      rw [hsz]
      rcases List.mem_cons.mp hb with rfl | hb
      · exact Nat.lt_succ_self _
      · rcases List.mem_cons.mp hb with rfl | hb
        · exact Nat.lt_succ_of_lt (Nat.lt_succ_self _)
        · rw [List.mem_singleton.mp hb]; exact Nat.lt_of_lt_of_le hal (Nat.le_add_right _ _)
    · intro b hb
      have hb' : s₁.heap.get? b = none := by
        rcases List.mem_cons.mp hb with rfl | hb
        · exact Heap.get?_none_of_le (Nat.le_succ _)
        · rw [List.mem_singleton.mp hb]; exact get_size _
      exact ⟨none_of_keep k.keep hb', k.ins.none hb'⟩
    · intro b hb hw
      rcases List.mem_cons.mp hb with rfl | hb
      · exact absurd List.mem_cons_self hw
      · rcases List.mem_cons.mp hb with rfl | hb
        · exact absurd (List.mem_cons_of_mem _ (List.mem_singleton.mpr rfl)) hw
        · obtain ⟨o, e, _⟩ := il.out
          rw [List.mem_singleton.mp hb]; exact ⟨o, e⟩
/-- two names take a pair, in a frame -/
theorem frm_assign2 {W : Wd} {H₀ : Heap} {sb : Shared} {cb : Cx} {env : Env} {oc : List Addr} {V : Vars} {s : Shared} {c : Cx} {x y : Str} {px py pos : Pos} {x1 : Nat} {P₁ P₂ : VP} {A : Around} {E : Value → Shared → Prop} {v : Value} {Q : Unit → Shared → Prop} (hh : A.handled = none)
    (f : Frm H₀ sb cb env oc V s c) (ok : (TupV [P₁, P₂]).ok c v) (hx : env.kindOf x = some .local ∨ env.kindOf x = some .cell) (hy : env.kindOf y = some .local ∨ env.kindOf y = some .cell)
    (k : ∀ s' c', Frm H₀ sb cb env oc ((V.set x P₁).set y P₂) s' c' → Q () s') : wpAny W.M A (assign (.Tuple [.Name x px, .Name y py] x1 pos) env v) Q E s := by
  obtain ⟨a, vs, rfl, it, al⟩ := ok
  cases al with
  | cons z₁ al =>
    cases al with
    | cons z₂ al =>
      cases al
      refine wpAny_assign_Tuple hh (it.tup f.ins) rfl rfl fun h' hx' => ?_
      have f' := f.step (Kp.heap f.ins (HX.ex (hx_extBut hx')))
      refine wpAny_assignInOrder_more (frm_assign f' z₁ hx fun s₁ f₁ => wpAny_assignInOrder_more (frm_assign f₁ z₂ hy fun s₂ f₂ => wpAny_assignInOrder_none (k s₂ c f₂)))
end Mine

/-! ### D9 -/
open PySem PySem.W PyProof.Rows PySem.SeqAt
set_option Elab.async false
set_option maxRecDepth 100000
namespace Mine

/-! ## A raise that the caller's own try takes -/
def isDictB (o : Option Obj) : Bool := match o with
  | some ⟨_, _, .dict _ _, _⟩ => true
  | _ => false
/-- the heap without its namespaces -/
def hideD (h : Heap) : Heap := hideAll h ((List.range h.objs.size).filter fun b => isDictB (h.get? b) && decide (topN < b))
theorem hideD_of {h : Heap} {b : Addr} {o : Obj} (e : (hideD h).get? b = some o) : h.get? b = some o ∧ (NoD o ∨ b ≤ topN) := by
  have e' := of_hideAll _ e
  refine ⟨e', ?_⟩
  by_cases hb : b ≤ topN
  · exact .inr hb
  refine .inl fun es ep hd => ?_
  have hm : b ∈ (List.range h.objs.size).filter fun b => isDictB (h.get? b) && decide (topN < b) := by
    refine List.mem_filter.mpr ⟨List.mem_range.mpr (Heap.lt_size e'), ?_⟩
    rw [Bool.and_eq_true]
    refine ⟨?_, decide_eq_true (Nat.lt_of_not_le hb)⟩
    rw [e']
    obtain ⟨c, d, dt, sl⟩ := o
    have hd' : dt = .dict es ep := hd
    subst hd'
    rfl
  have := hideAll_none _ (h := h) hm
  rw [show (hideD h).get? b = (hideAll h ((List.range h.objs.size).filter fun b => isDictB (h.get? b) && decide (topN < b))).get? b from rfl] at e
  rw [this] at e; cases e
theorem hideD_get {h : Heap} {b : Addr} {o : Obj} (e : h.get? b = some o) (nd : NoD o ∨ b ≤ topN) : (hideD h).get? b = some o := by
  refine hideAll_get _ e fun hm => ?_
  have hb := (List.mem_filter.mp hm).2
  rw [Bool.and_eq_true, e] at hb
  obtain ⟨hb, hb2⟩ := hb
  have nd : NoD o := nd.resolve_right (Nat.not_le.mpr (of_decide_eq_true hb2))
  obtain ⟨c, d, dt, sl⟩ := o
  cases dt <;> first | exact nd _ _ rfl | cases hb
theorem hideD_none {h : Heap} {b : Addr} (e : h.get? b = none) : (hideD h).get? b = none := by
  cases q : (hideD h).get? b with
  | none => rfl
  | some o => rw [(hideD_of q).1] at e; cases e
theorem hideD_ns {h : Heap} {L : Addr} {m : Str → Option Value} (x : h.Ns L m) (hL : topN < L) : (hideD h).get? L = none := by
  obtain ⟨o, es, ep, e, d, _⟩ := x
  cases q : (hideD h).get? L with
  | none => rfl
  | some o' => 
    obtain ⟨e', nd⟩ := hideD_of q
    rw [e] at e'; cases e'
    rcases nd with nd | nd
    · exact absurd d (nd es ep)
    · exact absurd nd (Nat.not_le.mpr hL)
theorem stays_of {h h' : Heap} (k : HX h h') : (hideD h).StaysIn h' := fun b o e => by
  obtain ⟨e', nd⟩ := hideD_of e
  rcases nd with nd | nd
  · exact (k b o e').exact nd
  · exact (k b o e').top nd
theorem funFrames_of {h h' : Heap} (k : HX h h') : ∀ {l : List Env}, (∀ env ∈ l, LiveE h env) → h'.FunFrames (hideD h) l
  | [], _ => trivial
  | env :: l, x => by
    obtain ⟨hk, L, m, hf, hn, hL⟩ := x env List.mem_cons_self
    obtain ⟨o, es, ep, e, d, r⟩ := ns_hx hn k
    exact ⟨hk, ⟨L, o, hf, hideD_ns hn hL, e, fun vs q => by rw [d] at q; cases q⟩, funFrames_of k fun env' hm => x env' (List.mem_cons_of_mem _ hm)⟩
/-- behind a frame that was left, or noted -/
theorem hx_left {h h₁ h₂ : Heap} {l : List Env} {e : Addr} {cls : Value} (k : HX h h₁) (x : Heap.Left (hideD h) l e cls h₁ h₂) : HX h h₂ := by
  intro b o eb
  by_cases nd : NoD o ∨ b ≤ topN
  · exact .of (x.1 b o (hideD_get eb nd))
  · obtain ⟨o₁, e₁, sm⟩ := k b o eb
    have hd : ∃ es ep, o.data = .dict es ep := by
      refine Classical.byContradiction fun hn => nd (.inl fun es ep hd => hn ⟨es, ep, hd⟩)
    obtain ⟨es, ep, hd⟩ := hd
    obtain ⟨sl, e₂⟩ := x.2.2.2 b o₁ e₁ (fun vs q => by rw [sm.data, hd] at q; cases q)
    exact ⟨_, e₂, sm.cls, sm.data, fun h => absurd h nd⟩
/-- an exception of this class flies, raised since h -/
structure Fly (h : Heap) (e : Addr) (cls : String) (h' : Heap) : Prop where
  new : (hideD h).get? e = none
  tr : h'.Traced (hideD h) e (.type cls)
def Raises (W : Wd) (n : Nat) (H : Heap) (f : Value) (Ps : List VP) (cls : String) : Prop :=
  ∀ (A : Around) (E Q : Value → Shared → Prop) (s : Shared) (c : Cx) (vs : List Value), Room n A s.heap → HX H s.heap → InS c s → AllOk c Ps vs → (∀ e s', Kp s c s' c → Fly s.heap e cls s'.heap → E (.ref e) s') → wpAny W.M A (call f vs) Q E s
theorem note_next {M : Model} {A : Around} {E : Value → Shared → Prop} {s : Shared} {base : Heap} {env : Env} {outer : List Env} {L e : Addr} {cls : Value} {Q : Unit → Shared → Prop}
    (hfr : A.frames = some (env :: outer)) (hl : s.heap.FunFrames base (env :: outer)) (hf : env.frame = some L) (ht : s.heap.Traced base e cls) (hkb : base.StaysIn s.heap) (hen : base.get? e = none)
    (h : ∀ h', Heap.Left base (env :: outer) e cls s.heap h' → Q () { s with heap := h' }) : wpAny M A (noteFrame (.ref e) env) (fun _ s' => wpAny M A (setFlight (.ref e) none) Q E s') E s := by
  obtain ⟨oe, vs, T, oT, ts, he, hcls, hd, h1, hnT, hTe, hT, hdT, h3⟩ := ht
  subst hcls
  unfold noteFrame
  simp only [hf]
  refine wpAny_bind (wpAny_field he hd h1 ?_)
  rw [if_pos (show (Value.ref T != Value.none) = true from by simp)]
  refine wpAny_bind (wpAny_field hT hdT h3 ?_)
  rw [if_neg (show ¬ ((Value.none == rawInt L) = true) from by simp [rawInt])]
  refine wpAny_bind (wpAny_setField hT hdT (Array.getElem?_eq_some_iff.mp h3).1 ?_)
  have other : ∀ b, b ≠ T → (s.heap.update T (Obj.mapFields (·.setIfInBounds 3 Value.none))).get? b = s.heap.get? b := fun b hb => Heap.get?_update_other _ _ (Ne.symm hb)
  have apart : ∀ b o, s.heap.get? b = some o → (∀ vs, o.data ≠ .fields vs) → b ≠ T := fun b o hb hnf q => by
    rw [q, hT] at hb; cases hb; exact hnf ts hdT
  refine wpAny_newEntry hfr (hl.of_keeps fun b o hb hnf => ⟨o, (other b (apart b o hb hnf)).trans hb, rfl⟩) hf ((other e (Ne.symm hTe)).trans he)
    (fun b o hbo => (other b fun q => by rw [q, hnT] at hbo; cases hbo).trans (hkb b o hbo)) hen hd (Array.getElem?_eq_some_iff.mp h1).1 fun h' x => h h' ⟨x.1, x.2.1, x.2.2.1, fun b o hb hnf => x.2.2.2 b o ((other b (apart b o hb hnf)).trans hb) hnf⟩
end Mine

/-! ### E1 -/
open PySem PySem.W PyProof.Rows PySem.SeqAt
set_option Elab.async false
set_option maxRecDepth 100000
namespace Mine
theorem ve_exc : isSubtype (.type "ValueError") (.type "BaseException") = pure true := by rw [isSubtype_type]; kernel_rfl
theorem ve_self : isSubtype (.type "ValueError") (.type "ValueError") = pure true := by rw [isSubtype_type]; kernel_rfl
theorem ve_nt : isSubtype (.type ((Manifest.find? "ValueError").elim "type" fun x => x.metatype)) (.type "tuple") = pure false := by
  rw [isSubtype_type]; kernel_rfl
def FnR (W : Wd) (n : Nat) (env : Env) (H : Heap) (x : Str) (Ps : List VP) (cls : String) : Prop :=
  ∀ (A : Around) (E : Value → Shared → Prop) (s : Shared), HX H s.heap → wpAny W.M A (loadName env x) (fun f s' => s' = s ∧ Callee s.heap f ∧ Raises W n s.heap f Ps cls) E s
theorem Raises.mono {W : Wd} {n : Nat} {H H' : Heap} {f : Value} {Ps : List VP} {cls : String} (x : Raises W n H f Ps cls) (k : HX H H') : Raises W n H' f Ps cls := fun A E Q s c vs r y ins z h => x A E Q s c vs r (k.trans y) ins z h
theorem FnR.glob {W : Wd} {n : Nat} {env : Env} {H₀ H : Heap} {mg mb : Str → Option Value} {x : Str} {a : Addr} {Ps : List VP} {cls : String} (G : Gl H₀ mg mb) (hx : HX H₀ H) (he : EnvG env x) (hm : mg x = some (.ref a)) (hc : Callee H₀ (.ref a)) (cl : Raises W n H₀ (.ref a) Ps cls) : FnR W n env H x Ps cls := by
  intro A E s hs
  rw [loadName_read he.fn he.kind]
  refine Calls.loadGlobal_global (env := env) (mg := mg) ?_ hm ⟨rfl, hc.mono (hx.trans hs), cl.mono (hx.trans hs)⟩
  rw [he.g]; exact ns_hx G.g (hx.trans hs)
section
variable {W : Wd} {n : Nat} {A : Around} {E : Value → Shared → Prop} {Q : Flow → Shared → Prop} {H₀ : Heap} {sb : Shared} {cb : Cx} {env : Env} {oc : List Addr} {V : Vars} {s : Shared} {c : Cx} {x fn : Str} {pos px np cp ap hp tp : Pos} {rest body suite : List Stmt} {b₀ : Stmt} {hs : List ExceptHandler} {h₀ : ExceptHandler} {es : List Expr} {e₁ : Expr} {Ps : List VP}
theorem st_try_ok (h : wpAny W.M A (execs body env) (Goes W A rest env Q E) (fun e s₁ => wpAny W.M A (noteFrame e env) (fun _ s₂ => wpAny W.M A (setFlight e none) (fun _ s₃ => wpAny W.M A (handleBy e env (h₀ :: hs)) (Goes W A rest env Q E) E s₃) E s₂) E s₁) s) :
    wpAny W.M A (execs (.Try body (h₀ :: hs) [] [] pos :: rest) env) Q E s := by
  refine wpAny_execs_cons (wpAny_Try_except (wpAny_mono h (fun fl s' h' => ?_) fun _ _ x => x))
  cases fl with
  | next => exact wpAny_execs_nil h'
  | cont => exact h'
  | brk => exact h'
  | ret v => exact h'
theorem st_try_raise (f : Frm H₀ sb cb env oc V s c) (r : RoomB n A H₀ env) (fr : FnR W n env s.heap fn Ps "ValueError") (p : PEs W n env s.heap c (e₁ :: es) Ps) (bl : Bl W env s.heap "ValueError" (.type "ValueError"))
    (hsw : swapsWith (.Call (.Name fn np) (e₁ :: es) [] cp) (some (.Name x px)) ap.line env = pure false)
    (k : ∀ e s' c', Frm H₀ sb cb env oc V s' c' → ∀ Ex, wpAny W.M (A.mark (some (.ref e))) (execs (b₀ :: suite) env) (Goes W A rest env Q E) Ex s')
    (hd : (fn == ("__debug__" : Str)) = false := by decide) :
    wpAny W.M A (execs (.Try [.Assign [.Name x px] (.Call (.Name fn np) (e₁ :: es) [] cp) ap] (.ExceptHandler (some (.Name "ValueError" tp)) none (b₀ :: suite) hp :: hs) [] [] pos :: rest) env) Q E s := by
  refine wpAny_execs_cons (wpAny_Try_except (wpAny_execs_cons (wpAny_Assign_Name (wpAny_Call_NameR (wpAny_Name (wpAny_mono (fr A _ s (HX.refl _)) (fun v s₁ hq => ?_) fun _ _ x => x) hd)) hsw)))
  obtain ⟨rfl, hc, rs⟩ := hq
  refine callWith_callee hc p.plain (wpAny_mono (p.run _ s₁ c (f.room r) (HX.refl _) (Le.refl _) f.ins) (fun vs s₂ ⟨c₂, k₂, z⟩ => ⟨hc.mono k₂.keep, ?_⟩) fun _ _ x => x)
  have f₂ := f.step k₂
  refine rs A _ _ s₂ c₂ vs (f₂.room r) k₂.keep k₂.ins z fun e s₃ k₃ fl => ?_
  obtain ⟨outer, hfr, hlive⟩ := r.fr
  obtain ⟨l, hfr', hlive'⟩ := (f₂.room r).fr
  rw [hfr] at hfr'
  cases hfr'
  refine note_next (base := hideD s₂.heap) hfr (funFrames_of k₃.keep hlive') f.eo.frm fl.tr (stays_of k₃.keep) fl.new fun h' left => ?_
  have hx' : HX s₂.heap h' := hx_left k₃.keep left
  obtain ⟨oe, vs', T, oT, ts, he, hcls, hde, h1, hnT, hTe, hT, hdT, h3⟩ := left.2.2.1
  have hTn : s₂.heap.get? T = none := by
    cases q : s₂.heap.get? T with
    | none => rfl
    | some o =>
      obtain ⟨o', e', sm⟩ := hx' T o q
      rw [hT] at e'; cases e'
      have nd : NoD o := fun es ep hd' => by rw [sm.data, hd'] at hdT; cases hdT
      rw [hideD_get q (.inl nd)] at hnT; cases hnT
  refine wpAny_handleBy_builtin (T := "ValueError") (X := "ValueError") (b := true) ve_exc ve_nt ve_self (wpAny_Name (wpAny_mono (bl _ _ _ (k₂.keep.trans hx')) (fun v s₄ hq => ?_) fun _ _ x => x))
  obtain ⟨rfl, rfl⟩ := hq
  refine ⟨rfl, ⟨oe, he, hcls⟩, ?_⟩
  simp only [if_true]
  have hsz : 3 < ts.size := (Array.getElem?_eq_some_iff.mp h3).1
  refine wpAny_setFlight_none he hde h1 hT hdT hsz (k e _ c₂ (f₂.step ?_) _)
  have hx₅ : HX s₂.heap (h'.update T (Obj.mapFields (·.setIfInBounds 3 .none))) := fun b o eb => (hx' b o eb).on fun o' e' => .of (by
    have hbT : b ≠ T := fun q => by rw [q, hTn] at eb; cases eb
    rw [Heap.get?_update_other _ _ (Ne.symm hbT)]; exact e')
  refine ⟨?_, hx₅, Le.refl _, ⟨fun b x e => (hx₅ b x (k₂.ins.o b x e)).exact (k₂.ins.nf b x e), k₂.ins.nf, k₃.ins.pos, k₃.ins.lt⟩, fun _ _ e => .inl e⟩
  obtain ⟨h1, t1, e1⟩ := k₃.same
  subst e1
  exact ⟨_, _, rfl⟩
end
end Mine

/-! ### E2 -/
open PySem PySem.W PyProof.Rows PySem.SeqAt
set_option Elab.async false
set_option maxRecDepth 100000
namespace Mine
theorem join_S : ∀ (xs : List (List Nat)), Txt.join (Str.ofString "") (xs.map S) = S xs.flatten := by
  have key : ∀ (ys : List (List Nat)) (acc : Array Nat), ((ys.map S).foldl (fun acc p => acc ++ (Str.ofString "").cps ++ p.cps) acc).toList = acc.toList ++ ys.flatten := by
    intro ys
    induction ys with
    | nil => intro acc; simp
    | cons y ys ih =>
      intro acc
      rw [List.map_cons, List.foldl_cons, ih]
      have h0 : (Str.ofString "").cps = #[] := by decide
      simp [h0, S]
  intro xs
  apply Str.ext'
  apply Array.toList_inj.mp
  cases xs with
  | nil => rfl
  | cons x xs =>
    show ((xs.map S).foldl (fun acc p => acc ++ (Str.ofString "").cps ++ p.cps) (S x).cps).toList = _
    rw [key]
    simp [S]
section
variable {W : Wd} {n : Nat} {env : Env} {H : Heap} {c : Cx} {e : Expr} {pos apos p₀ : Pos} {k₀ : Nat} {A : Around} {E Q : Value → Shared → Prop} {s : Shared}
theorem strsAre_of {c : Cx} : ∀ {xs : List (List Nat)} {vs : List Value}, AllOk c (xs.map fun l => StrV (S l)) vs → StrsAre vs (xs.map S)
  | [], _, .nil => .nil
  | x :: xs, _, .cons (b := v) p r => by
    obtain ⟨t, rfl⟩ := p
    exact .cons (S x) t (strsAre_of r)
theorem join_eval {xs : List (List Nat)} {c₀ : Cx} (ins : InS c₀ s) (hsz : xs.flatten.length ≤ 100000) (harg : ∀ s₀, s₀.heap = s.heap → s₀ = { s with toks := s₀.toks } → s.toks ≤ s₀.toks → wpAny W.M A (eval e env) (fun v s₁ => ∃ c', Kp s₀ c₀ s₁ c' ∧ (ListV (xs.map fun l => StrV (S l))).ok c' v) E s₀)
    (k : ∀ v s' c', Kp s c₀ s' c' → (StrV (S xs.flatten)).ok c' v → Q v s') (hp : plainE e = true) (hline : (apos.endLine == pos.line) = true) :
    wpAny W.M A (eval (.Call (.Attribute (.Constant (.str "") k₀ p₀) "join" apos) [e] [] pos) env) Q E s := by
  refine wpAny_Call_method (T := "str") (id := "str.join") rfl ?_ hline F.plainAttrs_str F.slot_str_join F.type_str_join ?_
  · rw [starEach_plain hp]; rfl
  refine wpAny_Constant_str ⟨rfl, (fun _ h => nomatch h), ?_⟩
  rw [starEach_plain hp]
  refine Calls.callWith_builtin rfl (Calls.evalArgs_plain (Calls.spliced_cons (wpAny_mono (harg _ rfl rfl (Nat.le_succ _)) (fun v s₁ ⟨c', kk, z⟩ => Calls.spliced_nil ?_) fun _ _ x => x)))
  obtain ⟨a, vs, rfl, il, ok⟩ := z
  have hok := strsAre_of ok
  refine wpAny_with_toks (Nat.le_refl _) (join_list (ys := xs.map S) (il.list kk.ins) (by simpa using hok) ?_ fun t' tk hl => ?_)
  · have e0 : (Str.ofString "").length = 0 := by decide
    rw [e0, Nat.mul_zero, Nat.add_zero, List.map_map]
    have e1 : (List.map ((fun x => x.length) ∘ S) xs).sum = xs.flatten.length := by
      rw [List.length_flatten]
      exact congrArg List.sum (List.map_congr_left fun l _ => S_length l)
    rw [e1]; omega
  · rw [join_S]
    have k0 := Kp.toks (t := s.toks + 1) ins (Nat.le_succ _)
    exact k _ _ c' (k0.trans (kk.trans (Kp.toks kk.ins hl))) ⟨t', rfl⟩
theorem PE.join {xs : List (List Nat)} (p : PE W n env H c e (ListV (xs.map fun l => StrV (S l)))) (hsz : xs.flatten.length ≤ 100000) (hp : plainE e = true := by rfl) (hline : (apos.endLine == pos.line) = true := by rfl) :
    PE W n env H c (.Call (.Attribute (.Constant (.str "") k₀ p₀) "join" apos) [e] [] pos) (StrV (S xs.flatten)) := by
  intro A E s c₁ r hx le ins
  refine join_eval ins hsz (fun s₀ hh hs ht => ?_) (fun v s' c' kk z => ⟨c', kk, z⟩) hp hline
  have k0 : Kp s c₁ s₀ c₁ := by rw [hs]; exact Kp.toks ins ht
  exact p A E s₀ c₁ (r.on k0.keep) (hx.trans k0.keep) le k0.ins
end
end Mine

/-! ### E3 -/
open PySem PySem.W PyProof.Rows PySem.SeqAt
set_option Elab.async false
set_option maxRecDepth 100000
namespace Mine
theorem cl_sum {W : Wd} {n : Nat} {H : Heap} {l : List Int} : Cl W n H (.builtin "sum") [IntsV l] (IntW l.sum) := by
  intro A E s c vs r _ ins ok
  cases ok with
  | cons z ok =>
    cases ok
    obtain ⟨a, vs, rfl, il, ok⟩ := z
    have hl := il.list ins
    have hlt : a < s.heap.objs.size := by obtain ⟨_, e, _⟩ := hl; exact Heap.lt_size e
    have hlen : vs.length = l.length := by rw [← ok.len, List.length_map]
    refine post_of (call_sum_walkG (wpAny_pyIter_list hl ⟨s.heap.objs.size, _, _, _, _, _, fun j => l.getD j 0, rfl, Walks.list (A := A.in1) r.handled s.heap.objs.size a (Nat.ne_of_lt hlt) vs.toArray, ⟨⟨_, Heap.get?_push_size _ rfl, rfl, rfl⟩, hl.push _⟩, ?_, ?_, ?_⟩))
    · intro b hb
      show b < (s.heap.push _).objs.size
      rw [Heap.size_push]
      rcases List.mem_cons.mp hb with rfl | hb
      · exact Nat.lt_succ_self _
      · rw [List.mem_singleton.mp hb]; exact Nat.lt_succ_of_lt hlt
    · intro i v hv
      have hi : i < l.length := by
        have := (Array.getElem?_eq_some_iff.mp hv).1
        simpa [hlen] using this
      obtain ⟨v', ev, t, e, _⟩ := ok.get (i := i) (P := IntV (l.getD i 0)) (by rw [List.getElem?_map, List.getElem?_eq_getElem hi, List.getD_eq_getElem?_getD, List.getElem?_eq_getElem hi]; rfl)
      have : v = v' := by
        have hv' : vs[i]? = some v := by simpa using hv
        rw [ev] at hv'; injection hv' with hv'; exact hv'.symm
      subst this
      exact ⟨t, e⟩
    · intro h' tk t' hk hl'
      refine ⟨c, ⟨⟨h', tk, rfl⟩, fun b o e => .of (hk b o (fun q => ?_) (Heap.get?_push_of_some _ e)), Le.refl _, ⟨fun b x e => hk b x (fun q => ?_) (Heap.get?_push_of_some _ (ins.o b x e)), ins.nf, Nat.lt_of_lt_of_le ins.pos hl', fun t v e => Nat.lt_of_lt_of_le (ins.lt t v e) hl'⟩, fun _ _ e => .inl e⟩, t', ?_⟩
      · rw [List.mem_singleton.mp q, get_size] at e; cases e
      · have := ins.o b x e
        rw [List.mem_singleton.mp q, get_size] at this; cases this
      · have : preSum (fun j => l.getD j 0) vs.toArray.size = l.sum := by
          rw [List.size_toArray, hlen, preSum_getD, List.take_length]
        rw [this]
end Mine

/-! ### E4 -/
open PySem PySem.W PyProof.Rows PySem.SeqAt
set_option Elab.async false
set_option maxRecDepth 100000
namespace Mine
def zipV (l₁ l₂ : List VP) : List VP := (List.range (min l₁.length l₂.length)).map fun (i : Nat) => TupV [l₁.getD i AnyV, l₂.getD i AnyV]
theorem getD_ok {c : Cx} {l : List VP} {vs : List Value} (ok : AllOk c l vs) {i : Nat} (h : i < l.length) : ∃ v, vs[i]? = some v ∧ (l.getD i AnyV).ok c v :=
  ok.get (by rw [List.getElem?_eq_getElem h, List.getD_eq_getElem?_getD, List.getElem?_eq_getElem h]; rfl)
theorem Wk.zip {W : Wd} {elts : List Expr} {x1 : Nat} {pos : Pos} {A : Around} {c₀ : Cx} (hh : A.handled = none) {z TI TO i1 i2 a1 a2 : Addr} (D : ZipApart z TI TO i1 i2 a1 a2) {vs ws : List Value} {l₁ l₂ : List VP} (ok₁ : AllOk c₀ l₁ vs) (ok₂ : AllOk c₀ l₂ ws) :
    Wk W (.Tuple elts x1 pos) A c₀ z [z, TO, i1, i2, TI, a1, a2] [z, TO, i1, i2, TI] (zipV l₁ l₂)
      (fun i h => IsZip h z TI TO .none ∧ IsPair h TI (.ref i1) (.ref i2) ∧ (∃ a b, IsPair h TO a b) ∧ h.IsListIter i1 a1 i ∧ h.IsListIter i2 a2 i ∧ h.IsList a1 vs.toArray ∧ h.IsList a2 ws.toArray) where
  sub := fun b hb => by
    simp only [List.mem_cons, List.not_mem_nil, or_false] at hb ⊢
    rcases hb with h | h | h | h | h <;> simp [h]
  frame := fun i h h' st hk => by
    obtain ⟨h1, h2, ⟨a, b, h3⟩, h4, h5, h6, h7⟩ := st
    have g : ∀ x ∈ [z, TO, i1, i2, TI, a1, a2], ∀ o, h.get? x = some o → Gt h' x o := hk
    exact ⟨gt_exact h1 (g z (by simp)) (by intro _ _ q; cases q), gt_exact h2 (g TI (by simp)) (by intro _ _ q; cases q), ⟨a, b, gt_exact h3 (g TO (by simp)) (by intro _ _ q; cases q)⟩, liter_gt h4 (g i1 (by simp)), liter_gt h5 (g i2 (by simp)), list_gt h6 (g a1 (by simp)), list_gt h7 (g a2 (by simp))⟩
  live := fun i h st b hb => by
    obtain ⟨h1, h2, ⟨a, b', h3⟩, ⟨o4, h4, _⟩, ⟨o5, h5, _⟩, _⟩ := st
    simp only [List.mem_cons, List.not_mem_nil, or_false] at hb
    rcases hb with h | h | h | h | h <;> subst h
    · exact ⟨_, h1⟩
    · exact ⟨_, h3⟩
    · exact ⟨_, h4⟩
    · exact ⟨_, h5⟩
    · exact ⟨_, h2⟩
  item := fun i s c Q E P hP st le ins off hQ => by
    obtain ⟨h1, h2, ⟨a, b, h3⟩, h4, h5, h6, h7⟩ := st
    unfold zipV at hP
    rw [List.getElem?_map] at hP
    obtain ⟨j, hj, rfl⟩ := Option.map_eq_some_iff.mp hP
    have hlt : i < min l₁.length l₂.length := by
      have := (List.getElem?_eq_some_iff.mp hj).1
      simpa using this
    have hj' : i = j := by rw [List.getElem?_range hlt] at hj; injection hj
    subst hj'
    obtain ⟨v, ev, ov⟩ := getD_ok ok₁ (i := i) (by omega)
    obtain ⟨u, eu, ou⟩ := getD_ok ok₂ (i := i) (by omega)
    refine wpAny_pyNext_zip_item D h1 h2 h3 h4 h5 h6 h7 (x := v) (y := u) (by simpa using ev) (by simpa using eu) fun h' z1 z2 z3 z4 z5 hsz hk => ?_
    refine wpAny_letOwnedTupleGo_zip z1 fun h'' z1' hs => ?_
    have hlz := Heap.lt_size h1
    have hTz : s.heap.objs.size ≠ z := Nat.ne_of_gt hlz
    have lt2 : TI < s.heap.objs.size := Heap.lt_size h2
    have lt3 : TO < s.heap.objs.size := Heap.lt_size h3
    have lt4 : i1 < s.heap.objs.size := by obtain ⟨_, e, _⟩ := h4; exact Heap.lt_size e
    have lt5 : i2 < s.heap.objs.size := by obtain ⟨_, e, _⟩ := h5; exact Heap.lt_size e
    have hT' : h''.get? s.heap.objs.size = some { cls := .type "tuple", data := .seq #[v, u] } := hs.extBut _ _ hTz z5
    have hTown : s.heap.objs.size ∉ [z, TO, i1, i2, TI] := by
      intro hm
      simp only [List.mem_cons, List.not_mem_nil, or_false] at hm
      rcases hm with h | h | h | h | h
      · exact hTz h
      · exact Nat.ne_of_gt lt3 h
      · exact Nat.ne_of_gt lt4 h
      · exact Nat.ne_of_gt lt5 h
      · exact Nat.ne_of_gt lt2 h
    have hal : AllOk c [l₁.getD i AnyV, l₂.getD i AnyV] [v, u] := .cons (VP.mono _ le ov) (.cons (VP.mono _ le ou) .nil)
    have hk' : ∀ b x, b ≠ z → b ≠ TO → b ≠ i1 → b ≠ i2 → s.heap.get? b = some x → h''.get? b = some x := fun b x q1 q2 q3 q4 e => hs.extBut b x q1 (hk b x q1 q2 q3 q4 e)
    have y2 : IsPair h'' TI (.ref i1) (.ref i2) := hk' TI _ D.TIz D.TITO D.TIi1 D.TIi2 h2
    have y3 : IsPair h'' TO v u := hs.extBut _ _ D.TOz z2
    have y4 : h''.IsListIter i1 a1 (i + 1) := z3.extBut hs.extBut D.i1z
    have y5 : h''.IsListIter i2 a2 (i + 1) := z4.extBut hs.extBut D.i2z
    refine hQ (.ref s.heap.objs.size) _ _ (Mv.make (tk := s.toks) ins off (.toks ins (Nat.le_refl _)) (fun _ => rfl) (get_size _) hTown hT' (by intro _ _ h; cases h) (fun b x hb e' => hk' b x (fun q => hb (by rw [q]; simp)) (fun q => hb (by rw [q]; simp)) (fun q => hb (by rw [q]; simp)) (fun q => hb (by rw [q]; simp)) e') (fun b hb => ?_)) ⟨z1', y2, ⟨v, u, y3⟩, y4, y5, ?_, ?_⟩ (TupV.new (ins.none (get_size s.heap)) hal)
    · simp only [List.mem_cons, List.not_mem_nil, or_false] at hb
      rcases hb with h | h | h | h | h <;> subst h
      · exact ⟨_, z1'⟩
      · exact ⟨_, y3⟩
      · obtain ⟨o, e, _⟩ := y4; exact ⟨o, e⟩
      · obtain ⟨o, e, _⟩ := y5; exact ⟨o, e⟩
      · exact ⟨_, y2⟩
    · obtain ⟨o, e, r⟩ := h6
      exact ⟨o, hk' _ _ D.l1z D.l1TO D.l1i1 D.l1i2 e, r⟩
    · obtain ⟨o, e, r⟩ := h7
      exact ⟨o, hk' _ _ D.l2z D.l2TO D.l2i1 D.l2i2 e, r⟩
  done := fun s Q E st hQ => by
    obtain ⟨h1, h2, ⟨a, b, h3⟩, h4, h5, h6, h7⟩ := st
    have hlen : (zipV l₁ l₂).length = min l₁.length l₂.length := by simp [zipV]
    rw [hlen] at h4 h5
    refine wpAny_pyNext_zip_end hh D h1 h2 h3 h4 h5 h6 h7 ?_ fun h' hk => hQ h' s.toks (fun b o hb e => .of (hk b o (fun q => hb (by rw [q]; simp)) (fun q => hb (by rw [q]; simp)) (fun q => hb (by rw [q]; simp)) (fun q => hb (by rw [q]; simp)) e)) (Nat.le_refl _)
    have e1 := ok₁.len
    have e2 := ok₂.len
    by_cases q : l₁.length ≤ l₂.length
    · left; simp; omega
    · right; simp; omega
  self := fun i s Q E st hQ => wpAny_pyIter_zip st.1 hQ
end Mine

/-! ### E5 -/
open PySem PySem.W PyProof.Rows PySem.SeqAt
set_option Elab.async false
set_option maxRecDepth 100000
namespace Mine
theorem IterE.zip {W : Wd} {n : Nat} {env : Env} {H : Heap} {c : Cx} {e₁ e₂ : Expr} {l₁ l₂ : List VP} {elts : List Expr} {x1 : Nat} {pos np cp : Pos} (b : Bl W env H "zip" (.type "zip")) (p₁ : PE W n env H c e₁ (ListV l₁)) (p₂ : PE W n env H c e₂ (ListV l₂)) (hp₁ : plainE e₁ = true := by rfl) (hp₂ : plainE e₂ = true := by rfl) :
    IterE W n (.Tuple elts x1 pos) env H c (.Call (.Name "zip" np) [e₁, e₂] [] cp) (zipV l₁ l₂) := by
  intro A E s c₁ r hx le ins
  refine call_bl b (.inr ⟨_, rfl⟩) (.two p₁ p₂ hp₁ hp₂) r hx le ins fun vs s₁ c₂ k z => ?_
  cases z with
  | cons z₁ z' =>
    cases z' with
    | cons z₂ z' =>
      cases z'
      obtain ⟨a1, vs, rfl, il₁, ok₁⟩ := z₁
      obtain ⟨a2, ws, rfl, il₂, ok₂⟩ := z₂
      generalize hN : s₁.heap.objs.size = N
      have lt1 : a1 < N := by obtain ⟨o, e, _⟩ := il₁.list k.ins; rw [← hN]; exact Heap.lt_size e
      have lt2 : a2 < N := by obtain ⟨o, e, _⟩ := il₂.list k.ins; rw [← hN]; exact Heap.lt_size e
      refine call_zip_2 (il₁.list k.ins) (il₂.list k.ins) fun h' h1 h2 h3 h4 h5 hsz hk => ?_
      rw [hN] at h1 h2 h3 h4 h5 hsz
      rw [hN]
      have k₂ : Kp s₁ c₂ { s₁ with heap := h' } c₂ := Kp.heap k.ins (HX.ex hk)
      have ne : ∀ {i j : Nat}, i ≠ j → (N + i : Addr) ≠ (N + j : Addr) := fun h q => h (Nat.add_left_cancel q)
      have ne0 : ∀ {j : Nat}, 0 ≠ j → (N : Addr) ≠ (N + j : Addr) := fun h q => h (Nat.add_left_cancel (n := N) q)
      have lne : ∀ {a : Nat} {j : Nat}, a < N → (a : Addr) ≠ (N + j : Addr) := fun h q => by
        have q' : _ = N + _ := q
        omega
      have lne0 : ∀ {a : Nat}, a < N → (a : Addr) ≠ (N : Addr) := fun h q => by
        have q' : _ = N := q
        omega
      refine wpAny_pyIter_zip h1 ⟨_, _, _, _, c₂, rfl, k.trans k₂, Wk.zip (TI := N + 2) (TO := N + 3) (i1 := N) (i2 := N + 1) r.handled
        ⟨ne (by omega), ne (by omega), ne0 (by omega), ne (by omega), ne (by omega), Ne.symm (ne0 (by omega)), ne (by omega), Ne.symm (ne0 (by omega)), ne (by omega), ne0 (by omega), lne lt1, lne lt1, lne0 lt1, lne lt1, lne lt2, lne lt2, lne0 lt2, lne lt2⟩ ok₁ ok₂,
        ⟨h1, h2, ⟨_, _, h3⟩, h4, h5, list_gt (il₁.list k.ins) fun o e => .of (hk _ _ e), list_gt (il₂.list k.ins) fun o e => .of (hk _ _ e)⟩, ?_, ?_, ?_⟩
      · intro b hb
        show b < h'.objs.size
        rw [hsz]
        have g : ∀ {x : Nat}, x < N + 5 → (x : Addr) < (N + 5 : Nat) := fun h => h
        simp only [List.mem_cons, List.not_mem_nil, or_false] at hb
        rcases hb with h | h | h | h | h | h | h <;> subst h
        · exact g (by omega)
        · exact g (by omega)
        · exact g (by omega)
        · exact g (by omega)
        · exact g (by omega)
        · exact Nat.lt_of_lt_of_le lt1 (Nat.le_add_right _ _)
        · exact Nat.lt_of_lt_of_le lt2 (Nat.le_add_right _ _)
      · intro b hb
        have hb' : s₁.heap.get? b = none := by
          refine Heap.get?_none_of_le ?_
          rw [hN]
          simp only [List.mem_cons, List.not_mem_nil, or_false] at hb
          rcases hb with h | h | h | h | h <;> subst h
          · exact Nat.le_add_right _ _
          · exact Nat.le_add_right _ _
          · exact Nat.le_refl _
          · exact Nat.le_add_right _ _
          · exact Nat.le_add_right _ _
        exact ⟨none_of_keep k.keep hb', k.ins.none hb'⟩
      · intro b hb hw
        simp only [List.mem_cons, List.not_mem_nil, or_false] at hb hw
        rcases hb with h | h | h | h | h | h | h
        · exact absurd (.inl h) hw
        · exact absurd (.inr (.inl h)) hw
        · exact absurd (.inr (.inr (.inl h))) hw
        · exact absurd (.inr (.inr (.inr (.inl h)))) hw
        · exact absurd (.inr (.inr (.inr (.inr h)))) hw
        · obtain ⟨o, e, _⟩ := il₁.out
          rw [h]; exact ⟨o, e⟩
        · obtain ⟨o, e, _⟩ := il₂.out
          rw [h]; exact ⟨o, e⟩
/-- two names of a comprehension take a pair -/
theorem asg2_local {W : Wd} {scope : Scope} {cl : List (Str × Addr)} {env : Env} {x y : Str} {px py pos : Pos} {x1 : Nat} {P₁ P₂ : VP} (hk : scope.kind = .function) (hx : scope.names.lookup x = some .local) (hy : scope.names.lookup y = some .local) (hxy : x ≠ y) (C : Addr)
    (hn₁ : (x == ("__classdict__" : Str)) = false := by decide) (hn₂ : (y == ("__classdict__" : Str)) = false := by decide) :
    Asg W (.Tuple [.Name x px, .Name y py] x1 pos) (cEnv scope cl env C) C [] (TupV [P₁, P₂]) (fun H c => Rd W (cEnv scope cl env C) H c x P₁ ∧ Rd W (cEnv scope cl env C) H c y P₂) := by
  intro A E s c v hh ins ok z
  obtain ⟨a, vs, rfl, it, al⟩ := z
  cases al with
  | cons z₁ al =>
    cases al with
    | cons z₂ al =>
      cases al
      refine wpAny_assign_Tuple hh (it.tup ins) rfl rfl fun h' hx' => ?_
      have hX := hx_extBut hx'
      obtain ⟨⟨m, hm⟩, _⟩ := ok
      have hm' : h'.Ns C m := hm.keeps hX
      have hl₁ : (cEnv scope cl env C).kindOf x = some .local := lookup_relabel_local hx
      have hl₂ : (cEnv scope cl env C).kindOf y = some .local := lookup_relabel_local hy
      have hp : ((cEnv scope cl env C).scope.kind == .class || ((cEnv scope cl env C).scope.kind == .module && (cEnv scope cl env C).locals != (cEnv scope cl env C).globals)) = false := by
        show (scope.kind == .class || (scope.kind == .module && _)) = false; rw [hk]; rfl
      refine wpAny_assignInOrder_more (wpAny_assign_Name (wpAny_storeName_local hl₁ hm' (fun h₁ hn₁' hs₁ => wpAny_assignInOrder_more (wpAny_assign_Name (wpAny_storeName_local hl₂ hn₁' (fun h₂ hn₂' hs₂ => wpAny_assignInOrder_none ?_) hp))) hp))
      refine ⟨h₂, s.toks + 1 + 1, rfl, by omega, fun b o hb e => .of ?_, ⟨⟨_, hn₂'⟩, fun _ h => nomatch h⟩, ?_, ?_⟩
      · have hbC : b ≠ C := fun q => hb (q ▸ List.mem_cons_self)
        exact hs₂.extBut b o hbC (hs₁.extBut b o hbC (hX b o e))
      · exact Rd.held hk (.inl ⟨hl₁, _, hn₂', by simp only [if_neg hxy, if_true]⟩) z₁ hn₁
      · exact Rd.held hk (.inl ⟨hl₂, _, hn₂', by simp only [if_true]⟩) z₂ hn₂

section
variable {α : Type} {W : Wd} {n : Nat} {A : Around} {E : Value → Shared → Prop} {Q : Flow → Shared → Prop} {H₀ : Heap} {sb : Shared} {cb : Cx} {V : Vars} {s : Shared} {c : Cx} {tgt iter elt : Expr} {ifs : List Expr} {scope : Scope} {pos spos py : Pos} {y : Str} {env : Env} {cl : List (Str × Addr)} {oc : Addr → List Addr} {xs : List α} {F G : α → VP} {p : α → Bool}
  {Bd : Addr → α → Heap → Cx → Prop} {fo : List Addr} {rest : List Stmt}
/-- a name takes a comprehension's list; the comprehension lets its own names go behind that -/
theorem st_comp (f : Frm H₀ sb cb env fo V s c) (r : RoomB n A H₀ env) (itE : IterE W n tgt env s.heap c iter (xs.map F))
    (hsw : swapsWith (.ListComp elt [⟨tgt, iter, ifs, 0⟩] scope pos) (some (.Name y py)) spos.line env = pure true)
    (hclos : closureFor scope env = pure cl) (hkind : scope.kind = .function) (hnames : ∀ y ∈ scope.names, y.2 = .local → scope.names.lookup y.1 = some .local) (cells : Cells scope oc)
    (hasg : ∀ a ∈ xs, ∀ C, Asg W tgt (cEnv scope cl env C) C (oc C) (F a) (Bd C a))
    (htest : ∀ a ∈ xs, ∀ C H' c', HX s.heap H' → Le c c' → Bd C a H' c' → PTs W n (cEnv scope cl env C) H' c' ifs (p a))
    (helt : ∀ a ∈ xs, p a = true → ∀ C H' c', HX s.heap H' → Le c c' → Bd C a H' c' → PE W n (cEnv scope cl env C) H' c' elt (G a))
    (hsz : xs.length ≤ 100000) (hy : env.kindOf y = some .local)
    (k : ∀ s' c', Frm H₀ sb cb env fo (V.set y (ListV ((xs.filter p).map G))) s' c' → wpAny W.M A (execs rest env) Q E s')
    (hs : ∀ x, foldedSetIterable iter env x = pure x := by intro _; rfl) :
    wpAny W.M A (execs (.Assign [.Name y py] (.ListComp elt [⟨tgt, iter, ifs, 0⟩] scope pos) spos :: rest) env) Q E s := by
  refine wpAny_execs_cons ?_
  rw [exec_Assign_Name_used _ _ _ _ hsw]
  refine wpAny_bind (wpAny_standAt (wpAny_bind ?_))
  show wpAny _ A (do let _ ← comprehension (.ListComp elt [⟨tgt, iter, ifs, 0⟩] scope pos) scope env _ (newList []) false (eval iter env) (some (assign (.Name y py) env))) _ _ s
  refine wpAny_bind (wpAny_mono (comp_any (use := some (assign (.Name y py) env)) (Q := fun _ s' => wpAny W.M A (execs rest env) Q E s') (f.room r) itE hclos hkind hnames cells hasg htest helt hsz (HX.refl _) (Le.refl _) f.ins (fun s' c' C D kk ok hC hC' hm => ?_) hs) (fun _ s' hq => wpAny_pure (wpAny_pure hq)) fun _ _ x => x)
  have f' := f.step kk
  obtain ⟨m, hm⟩ := hm
  have hCown : ∀ b ∈ env.locals :: fo, b ≠ C := fun b hb q => by
    obtain ⟨o, e⟩ := (f.mv.off b hb).2
    rw [q, hC] at e; cases e
  refine wpAny_assign_Name (f'.base.store ok (.inl hy) fun s₂ g₂ => ?_)
  have f₂ := f'.trans g₂
  have hm₂ : s₂.heap.Ns C m := ns_gt hm fun o e => g₂.mv.keep C o (fun h => hCown C h rfl) e
  have hsb : sb.heap.get? C = none := by
    cases q : sb.heap.get? C with
    | none => rfl
    | some o =>
      obtain ⟨o', e', _⟩ := f.mv.keep C o (fun h => hCown C h rfl) q
      rw [hC] at e'; cases e'
  refine ⟨m, hm₂, fun h' hs' => k _ c' ?_⟩
  refine f₂.outside0 (own := [C]) ⟨⟨h', s₂.toks, rfl⟩, fun b o hb e => .of (hs'.extBut b o (fun q => hb (q ▸ List.mem_singleton.mpr rfl)) e), Le.refl _, ⟨fun b x e => hs'.extBut b x (fun q => by rw [q, hC'] at e; cases e) (f₂.ins.o b x e), f₂.ins.nf, f₂.ins.pos, f₂.ins.lt⟩, fun _ _ e => .inl e⟩
    (fun b hb hm => hCown b hb (List.mem_singleton.mp hm)) (fun b hb => by rw [List.mem_singleton.mp hb]; exact hsb)
end
end Mine

/-! ### E6 -/
open PySem PySem.W PyProof.Rows PySem.SeqAt
set_option Elab.async false
set_option maxRecDepth 100000
namespace Mine
def Cx.del (c : Cx) (D : Addr) : Cx := ⟨fun b => if b = D then none else c.o b, c.m⟩
theorem InS.frozen {c : Cx} {s : Shared} {D : Addr} {ys : List Value} (x : InS c s) (h : s.heap.get? D = some (lst ys)) : InS (c.put D (lst ys)) s where
  o := fun b z e => by
    have e' : (if b = D then some (lst ys) else c.o b) = some z := e
    by_cases q : b = D
    · rw [if_pos q] at e'; cases e'; rw [q]; exact h
    · rw [if_neg q] at e'; exact x.o b z e'
  nf := fun b z e => by
    have e' : (if b = D then some (lst ys) else c.o b) = some z := e
    by_cases q : b = D
    · rw [if_pos q] at e'; cases e'; exact lst_nf
    · rw [if_neg q] at e'; exact x.nf b z e'
  pos := x.pos
  lt := x.lt
/-- a step made while the list was held fast -/
theorem Kp.thaw {s s' : Shared} {c c' : Cx} {D : Addr} {o : Obj} (hc : c.o D = none) (k : Kp s (c.put D o) s' c') : Kp s c s' (c'.del D) where
  same := k.same
  keep := k.keep
  le := ⟨fun b x e => by
    show (if b = D then none else c'.o b) = some x
    have hb : b ≠ D := fun q => by rw [q, hc] at e; cases e
    rw [if_neg hb]
    exact k.le.o b x (by show (if b = D then some o else c.o b) = some x; rw [if_neg hb]; exact e), k.le.m⟩
  ins := ⟨fun b x e => by
    have e' : (if b = D then none else c'.o b) = some x := e
    by_cases q : b = D
    · rw [if_pos q] at e'; cases e'
    · rw [if_neg q] at e'; exact k.ins.o b x e', fun b x e => by
    have e' : (if b = D then none else c'.o b) = some x := e
    by_cases q : b = D
    · rw [if_pos q] at e'; cases e'
    · rw [if_neg q] at e'; exact k.ins.nf b x e', k.ins.pos, k.ins.lt⟩
  new := fun b x e => by
    have e' : (if b = D then none else c'.o b) = some x := e
    by_cases q : b = D
    · rw [if_pos q] at e'; cases e'
    · rw [if_neg q] at e'
      rcases k.new b x e' with h | h
      · have h' : (if b = D then some o else c.o b) = some x := h
        rw [if_neg q] at h'; exact .inl h'
      · exact .inr h
theorem del_none (c : Cx) (D : Addr) : (c.del D).o D = none := if_pos rfl
end Mine

/-! ### E7 -/
open PySem PySem.W PyProof.Rows PySem.SeqAt
set_option Elab.async false
set_option maxRecDepth 100000
namespace Mine
/-- a list that the frame's own code may still change -/
structure Own (sb : Shared) (env : Env) (fo : List Addr) (D : Addr) (ys : List Value) (s : Shared) (c : Cx) : Prop where
  get : s.heap.get? D = some (lst ys)
  off : c.o D = none
  new : sb.heap.get? D = none
  out : D ∉ env.locals :: fo
section
variable {α : Type} {W : Wd} {n : Nat} {A : Around} {E : Value → Shared → Prop} {Q : Flow → Shared → Prop} {H₀ : Heap} {sb : Shared} {cb : Cx} {V : Vars} {s s' : Shared} {c c' : Cx} {tgt iter elt : Expr} {ifs : List Expr} {scope : Scope} {pos spos py : Pos} {y : Str} {env : Env} {cl : List (Str × Addr)} {oc : Addr → List Addr} {xs : List α} {F G : α → VP} {p : α → Bool}
  {Bd : Addr → α → Heap → Cx → Prop} {fo : List Addr} {rest body orelse : List Stmt} {D : Addr} {ys : List Value} {l : List VP} {P : VP} {b : Bool}
theorem Frm.freeze (f : Frm H₀ sb cb env fo V s c) (w : Own sb env fo D ys s c) (ok : AllOk c l ys) (hv : V y = some (IsV (.ref D))) : Frm H₀ sb cb env fo (V.set y (ListV l)) s (c.put D (lst ys)) where
  eo := f.eo
  hb := f.hb
  fr := f.fr
  mv := ⟨f.mv.same, f.mv.keep, f.mv.le.trans (Cx.put_le w.off _), f.mv.ins.frozen w.get, fun b x e => by
      have e' : (if b = D then some (lst ys) else c.o b) = some x := e
      by_cases q : b = D
      · rw [q]; exact .inr w.new
      · rw [if_neg q] at e'; exact f.mv.new b x e', fun b hb => ⟨by
      have hbD : ¬ b = D := fun q => w.out (by rw [← q]; exact hb)
      show (if b = D then some (lst ys) else c.o b) = none
      rw [if_neg hbD]; exact (f.mv.off b hb).1, (f.mv.off b hb).2⟩⟩
  ok := f.ok
  vars := fun x P h => by
    unfold Vars.set at h
    by_cases q : x = y
    · rw [if_pos q] at h; cases h
      obtain ⟨k, v, hl, hd⟩ := f.vars y _ hv
      have hd' : v = .ref D := hd
      rw [q]
      exact ⟨k, v, hl, hd' ▸ ListV.new w.off ok⟩
    · rw [if_neg q] at h
      obtain ⟨k, v, hl, hd⟩ := f.vars x P h
      exact ⟨k, v, hl, P.mono (Cx.put_le w.off _) hd⟩
theorem Own.step (w : Own sb env fo D ys s c) (k : Kp s c s' c') (h : c'.o D = none) : Own sb env fo D ys s' c' := ⟨(k.keep D _ w.get).exact lst_nf, h, w.new, w.out⟩
theorem Own.kp (w : Own sb env fo D ys s c) (k : Kp s c s' c') : Own sb env fo D ys s' c' := w.step k (by
  cases q : c'.o D with
  | none => rfl
  | some o =>
    rcases k.new D o q with h | h
    · rw [w.off] at h; cases h
    · rw [w.get] at h; cases h)
theorem st_comp_own (f : Frm H₀ sb cb env fo V s c) (r : RoomB n A H₀ env) (itE : IterE W n tgt env s.heap c iter (xs.map F))
    (hsw : swapsWith (.ListComp elt [⟨tgt, iter, ifs, 0⟩] scope pos) (some (.Name y py)) spos.line env = pure true)
    (hclos : closureFor scope env = pure cl) (hkind : scope.kind = .function) (hnames : ∀ y ∈ scope.names, y.2 = .local → scope.names.lookup y.1 = some .local) (cells : Cells scope oc)
    (hasg : ∀ a ∈ xs, ∀ C, Asg W tgt (cEnv scope cl env C) C (oc C) (F a) (Bd C a))
    (htest : ∀ a ∈ xs, ∀ C H' c', HX s.heap H' → Le c c' → Bd C a H' c' → PTs W n (cEnv scope cl env C) H' c' ifs (p a))
    (helt : ∀ a ∈ xs, p a = true → ∀ C H' c', HX s.heap H' → Le c c' → Bd C a H' c' → PE W n (cEnv scope cl env C) H' c' elt (G a))
    (hsz : xs.length ≤ 100000) (hy : env.kindOf y = some .local)
    (k : ∀ s' c' D ys, Frm H₀ sb cb env fo (V.set y (IsV (.ref D))) s' c' → Own sb env fo D ys s' c' → AllOk c' ((xs.filter p).map G) ys → wpAny W.M A (execs rest env) Q E s')
    (hs : ∀ x, foldedSetIterable iter env x = pure x := by intro _; rfl) :
    wpAny W.M A (execs (.Assign [.Name y py] (.ListComp elt [⟨tgt, iter, ifs, 0⟩] scope pos) spos :: rest) env) Q E s := by
  refine wpAny_execs_cons ?_
  rw [exec_Assign_Name_used _ _ _ _ hsw]
  refine wpAny_bind (wpAny_standAt (wpAny_bind ?_))
  show wpAny _ A (do let _ ← comprehension (.ListComp elt [⟨tgt, iter, ifs, 0⟩] scope pos) scope env _ (newList []) false (eval iter env) (some (assign (.Name y py) env))) _ _ s
  refine wpAny_bind (wpAny_mono (comp_any0 (use := some (assign (.Name y py) env)) (Q := fun _ s' => wpAny W.M A (execs rest env) Q E s') (f.room r) itE hclos hkind hnames cells hasg htest helt hsz (HX.refl _) (Le.refl _) f.ins (fun s' c' C D ys kk hDn hDo hDs hall hC hC' hCD hm => ?_) hs) (fun _ s' hq => wpAny_pure (wpAny_pure hq)) fun _ _ x => x)
  have f' := f.step kk
  obtain ⟨m, hm⟩ := hm
  have hown : ∀ X, s.heap.get? X = none → ∀ b ∈ env.locals :: fo, b ≠ X := fun X hX b hb q => by
    obtain ⟨o, e⟩ := (f.mv.off b hb).2
    rw [q, hX] at e; cases e
  have hCown := hown C hC
  have hDown := hown D hDn
  refine wpAny_assign_Name (f'.base.store (P := IsV (.ref D)) rfl (.inl hy) fun s₂ g₂ => ?_)
  have f₂ := f'.trans g₂
  have hm₂ : s₂.heap.Ns C m := ns_gt hm fun o e => g₂.mv.keep C o (fun h => hCown C h rfl) e
  have hD₂ : s₂.heap.get? D = some (lst ys) := (g₂.mv.keep D _ (fun h => hDown D h rfl) hDs).exact lst_nf
  have hsb : ∀ X, s.heap.get? X = none → sb.heap.get? X = none := fun X hX => by
    cases q : sb.heap.get? X with
    | none => rfl
    | some o =>
      obtain ⟨o', e', _⟩ := f.mv.keep X o (fun h => hown X hX X h rfl) q
      rw [hX] at e'; cases e'
  refine ⟨m, hm₂, fun h' hs' => k _ c' D ys ?_ ⟨hs'.extBut D _ (fun q => hCD q.symm) hD₂, hDo, hsb D hDn, fun h => hDown D h rfl⟩ hall⟩
  refine f₂.outside0 (own := [C]) ⟨⟨h', s₂.toks, rfl⟩, fun b o hb e => .of (hs'.extBut b o (fun q => hb (q ▸ List.mem_singleton.mpr rfl)) e), Le.refl _, ⟨fun b x e => hs'.extBut b x (fun q => by rw [q, hC'] at e; cases e) (f₂.ins.o b x e), f₂.ins.nf, f₂.ins.pos, f₂.ins.lt⟩, fun _ _ e => .inl e⟩
    (fun b hb hm => hCown b hb (List.mem_singleton.mp hm)) (fun b hb => by rw [List.mem_singleton.mp hb]; exact hsb C hC)
theorem st_if_own {t : Expr} (f : Frm H₀ sb cb env fo V s c) (r : RoomB n A H₀ env) (w : Own sb env fo D ys s c) (ok : AllOk c l ys) (hv : V y = some (IsV (.ref D))) (p : Frm H₀ sb cb env fo (V.set y (ListV l)) s (c.put D (lst ys)) → PT W n env s.heap (c.put D (lst ys)) t b)
    (h₁ : b = true → ∀ s' c', Frm H₀ sb cb env fo V s' c' → Own sb env fo D ys s' c' → AllOk c' l ys → wpAny W.M A (execs body env) (Goes W A rest env Q E) E s')
    (h₂ : b = false → ∀ s' c', Frm H₀ sb cb env fo V s' c' → Own sb env fo D ys s' c' → AllOk c' l ys → wpAny W.M A (execs orelse env) (Goes W A rest env Q E) E s') : wpAny W.M A (execs (.If t body orelse pos :: rest) env) Q E s := by
  have g := f.freeze w ok hv
  refine wpAny_execs_cons (wpAny_If ((p g).at (g.room r) g.ins fun s' c' kp => ?_))
  have kp' := kp.thaw w.off
  have f' := f.step kp'
  have w' := w.kp kp'
  cases b
  · exact h₂ rfl _ _ f' w' (ok.mono kp'.le)
  · exact h₁ rfl _ _ f' w' (ok.mono kp'.le)
theorem st_append_own {e : Expr} {apos cpos epos : Pos} (f : Frm H₀ sb cb env fo V s c) (r : RoomB n A H₀ env) (w : Own sb env fo D ys s c) (hv : V y = some (IsV (.ref D))) (p : PE W n env s.heap c e P) (hsz : ys.length ≤ 1000)
    (hi : interactive env = false) (hsw : swapsWith (.Call (.Attribute (.Name y py) "append" apos) [e] [] cpos) none epos.line env = pure false) (hab : attributeBase (.Name y py) "append" env (eval (.Name y py) env) = eval (.Name y py) env)
    (k : ∀ s' c' v, Frm H₀ sb cb env fo V s' c' → Own sb env fo D (ys ++ [v]) s' c' → Le c c' → P.ok c' v → wpAny W.M A (execs rest env) Q E s')
    (hp : plainE e = true := by rfl) (hline : (apos.endLine == cpos.line) = true := by rfl) (hd : (y == ("__debug__" : Str)) = false := by decide) (hn : (y == ("__classdict__" : Str)) = false := by decide) :
    wpAny W.M A (execs (.Expr (.Call (.Attribute (.Name y py) "append" apos) [e] [] cpos) epos :: rest) env) Q E s := by
  refine wpAny_execs_cons (wpAny_Expr_any ?_ hi hsw)
  refine wpAny_Call_method (T := "list") (id := "list.append") hab ?_ hline F.plainAttrs_list F.slot_list_append F.type_list_append ?_
  · rw [starEach_plain hp]; rfl
  refine wpAny_Name (wpAny_mono (f.rd (W := W) hv hn A E s c (HX.refl _) (Le.refl _)) (fun v s₁ hq => ?_) fun _ _ x => x) hd
  obtain ⟨rfl, hq⟩ := hq
  have hq' : v = .ref D := hq
  subst hq'
  refine ⟨⟨_, w.get, rfl⟩, fun a ha => ?_, ?_⟩
  · cases ha; exact ⟨_, w.get, rfl⟩
  rw [starEach_plain hp]
  refine Calls.callWith_builtin rfl (Calls.evalArgs_plain (Calls.spliced_cons (p.at (f.room r) f.ins fun v s' c' kk z => Calls.spliced_nil ?_)))
  have f' := f.step kk
  have w' := w.kp kk
  refine append_at w'.get (fun h' hs' hD' => ?_) (by rw [List.size_toArray, sizeLine_eq]; omega)
  refine k _ c' v (f'.outside0 (own := [D]) (s' := { s' with heap := h' }) (c' := c') ⟨⟨h', s'.toks, rfl⟩, fun b o hb e => .of (hs'.extBut b o (fun q => hb (q ▸ List.mem_singleton.mpr rfl)) e), Le.refl _, ⟨fun b x e => hs'.extBut b x (fun q => by rw [q, w'.off] at e; cases e) (f'.ins.o b x e), f'.ins.nf, f'.ins.pos, f'.ins.lt⟩, fun _ _ e => .inl e⟩
    (fun b hb hm => w.out (by rw [← List.mem_singleton.mp hm]; exact hb)) (fun b hb => by rw [List.mem_singleton.mp hb]; exact w.new)) ⟨?_, w'.off, w.new, w.out⟩ kk.le z
  rw [hD']
  simp [lst, LCg.lst]
theorem PE.tup {es : List Expr} {Ps : List VP} {x1 : Nat} {H : Heap} (p : PEs W n env H c es Ps) (hsz : Ps.length ≤ 1000) : PE W n env H c (.Tuple es x1 pos) (TupV Ps) := by
  intro A E s c₁ r hx le ins
  refine Tuple_ (wpAny_mono (p.run E s c₁ r hx le ins) (fun vs s₁ ⟨c', kk, ok⟩ => ?_) fun _ _ x => x)
  refine wpAny_newTuple ?_ (by rw [sizeLine_eq, ← ok.len]; omega)
  exact ⟨_, kk.trans (Kp.push kk.ins _), TupV.new (kk.ins.none (get_size _)) ok⟩
theorem st_assign2 {x : Str} {e : Expr} {px pt : Pos} {x1 : Nat} {P₁ P₂ : VP} (f : Frm H₀ sb cb env fo V s c) (r : RoomB n A H₀ env) (p : PE W n env s.heap c e (TupV [P₁, P₂])) (hx : env.kindOf x = some .local ∨ env.kindOf x = some .cell) (hy : env.kindOf y = some .local ∨ env.kindOf y = some .cell)
    (hs : swapsWithSole [.Tuple [.Name x px, .Name y py] x1 pt] e pos.line env = pure false) (hw : swappedStores [.Tuple [.Name x px, .Name y py] x1 pt] e env = pure none)
    (k : ∀ s' c', Frm H₀ sb cb env fo ((V.set x P₁).set y P₂) s' c' → wpAny W.M A (execs rest env) Q E s') :
    wpAny W.M A (execs (.Assign [.Tuple [.Name x px, .Name y py] x1 pt] e pos :: rest) env) Q E s :=
  wpAny_execs_cons (Assign_Tuple (p.at (f.room r) f.ins fun v s' c' kk z => frm_assign2 r.handled (f.step kk) z hx hy fun s'' c'' f'' => k s'' c'' f'') hs hw)
end
end Mine

/-! ### HA -/
open PySem PySem.W PyProof.Rows PySem.SeqAt
set_option Elab.async false
set_option maxRecDepth 100000
namespace Mine
set_option maxHeartbeats 4000000
theorem lk_getitem : typeLookup (.type "str") "__getitem__" = pure (some (.builtin "str.__getitem__")) := slot_str_getitem.lookup
theorem ty_getitem : typeOf (.builtin "str.__getitem__") = pure (.type "wrapper_descriptor") := by kernel_rfl
theorem slot_wd_get : Slot "wrapper_descriptor" "__get__" "wrapper_descriptor.__get__" :=
  .of (owner := "wrapper_descriptor") (n := "__get__") (by rw [typeLookup_type, builtinLookup_eq_fast]; kernel_rfl) (by decide +kernel) (by decide +kernel) (by decide +kernel)
    (by first | exact .inl (by decide +kernel) | exact .inr (by decide +kernel)) (by rw [isSubtype_type]; kernel_rfl)
theorem entry_wd_get : entryFor table "wrapper_descriptor.__get__" = some Builtin.«wrapper_descriptor.__get__» := entryFor_of_tree (by kernel_rfl)
theorem args_wd_get (a b c : Value) : argsOk "wrapper_descriptor.__get__" ⟨[a, b, c], []⟩ := by unfold argsOk; kernel_rfl
theorem lk_wd_set : typeLookup (.type "wrapper_descriptor") "__set__" = pure none := by rw [typeLookup_type, builtinLookup_eq_fast]; kernel_rfl
theorem lk_wd_del : typeLookup (.type "wrapper_descriptor") "__delete__" = pure none := by rw [typeLookup_type, builtinLookup_eq_fast]; kernel_rfl
theorem sub_str_str : isSubtype (.type "str") (.type "str") = pure true := by rw [isSubtype_type]; kernel_rfl
theorem own_getitem : (".".intercalate ("str.__getitem__".cutAt '.').dropLast) = "str" := by
  have e0 : "str.__getitem__".cutAt '.' = ["str", "__getitem__"] := by first | rfl | decide +kernel
  rw [e0]; decide +kernel
theorem sub_str_own : isSubtype (.type "str") (.type (".".intercalate ("str.__getitem__".cutAt '.').dropLast)) = pure true := by rw [own_getitem, isSubtype_type]; kernel_rfl
section
variable {prog : Program} {w : World} {A : Around} {E : Value → Shared → Prop} {h : Heap} {g : Array GenState} {d : Drawn} {t : Nat} {os : OsState} {x : Str} {u : Tok}
theorem getitem_get {R : Result → Shared → Prop} (hq : ∀ b h', HX h h' → R (.ok (.ret (.ref b))) ⟨h', g, d, t, os⟩) :
    codeAny (model prog w) A (.call (.builtin "wrapper_descriptor.__get__") ⟨[.builtin "str.__getitem__", .str x u, .type "str"], []⟩) R ⟨h, g, d, t, os⟩ := by
  have hT : (⟨h, g, d, t, os⟩ : Shared).TypeIs (.str x u) "str" := rfl
  have hT5 : (⟨h, g, d, t, os⟩ : Shared).TypeIs (.builtin "str.__getitem__") "wrapper_descriptor" := ty_getitem
  have f8 := sub_str_own
  have f9 := sub_str_str
  refine codeAny_call_builtin slot_wd_get.plain entry_wd_get (slot_wd_get.check _ _ _ _ _ _ _ _ hT5 (args_wd_get _ _ _) ?_)
  repeat (any_goals (first | assumption | wp_step))
  exact hq _ _ (HX.push _ _)
theorem getitem_entry {tk : Tok} {Q : Fin → Shared → Prop} (hq : ∀ b h', HX h h' → Q (.done (.ret (.ref b))) ⟨h', g, d, t, os⟩) :
    wpAny (model prog w) A (Builtin.«object.__getattribute__» ⟨[.str x u, .str "__getitem__" tk], []⟩) Q E ⟨h, g, d, t, os⟩ := by
  have hT : (⟨h, g, d, t, os⟩ : Shared).TypeIs (.str x u) "str" := rfl
  have hT5 : (⟨h, g, d, t, os⟩ : Shared).TypeIs (.builtin "str.__getitem__") "wrapper_descriptor" := ty_getitem
  have f4 := lk_getitem
  have f5 := ty_getitem
  have f6 := slot_wd_get.lookup
  have f7 := lk_wd_set
  have f8 := lk_wd_del
  repeat (any_goals (first | assumption | wp_step))
  exact getitem_get fun v h' k => wpAny_pure (hq v h' k)
theorem getitem_call {tk : Tok} {R : Result → Shared → Prop} (hq : ∀ b h', HX h h' → R (.ok (.ret (.ref b))) ⟨h', g, d, t, os⟩) :
    codeAny (model prog w) A (.call (.builtin "object.__getattribute__") ⟨[.str x u, .str "__getitem__" tk], []⟩) R ⟨h, g, d, t, os⟩ :=
  codeAny_call_builtin F.slot_str_getattribute.plain F.entry_object_getattribute (F.slot_str_getattribute.check _ _ _ _ _ _ _ _ (show (⟨h, g, d, t, os⟩ : Shared).TypeIs (.str x u) "str" from rfl) (F.args_object_getattribute_2 _ _) (getitem_entry hq))
theorem getitem_by {tk : Tok} {Q : Value → Shared → Prop} (hq : ∀ b h', HX h h' → Q (.ref b) ⟨h', g, d, t, os⟩) : wpAny (model prog w) A (getAttrBy (.str x u) (.str "__getitem__" tk) false) Q E ⟨h, g, d, t, os⟩ := by
  have hT : (⟨h, g, d, t, os⟩ : Shared).TypeIs (.str x u) "str" := rfl
  have f2 := F.slot_str_getattribute.lookup
  have f3 := F.slot_str_getattribute.bind (.str x u)
  repeat (any_goals (first | assumption | wp_step))
  refine getitem_call fun v h' k => ?_
  exact wpAny_of_eq (a := .ref v) rfl (hq v h' k)
theorem kind_hasattr : builtinKind "hasattr" = none := by decide +kernel
theorem plain_hasattr : plainId "hasattr" = true := by decide +kernel
theorem entry_hasattr : entryFor table "hasattr" = some Builtin.«hasattr» := entryFor_of_tree (by kernel_rfl)
theorem args_hasattr_2 (a b : Value) : argsOk "hasattr" ⟨[a, b], []⟩ := by unfold argsOk; kernel_rfl
theorem hasattr_str {tk : Tok} {Q : Value → Shared → Prop} (hq : ∀ h', HX h h' → Q (.bool true) ⟨h', g, d, t, os⟩) : wpAny (model prog w) A (call (.builtin "hasattr") [.str x u, .str "__getitem__" tk]) Q E ⟨h, g, d, t, os⟩ := by
  refine Calls.call_function_entry kind_hasattr plain_hasattr entry_hasattr (args_hasattr_2 _ _) ?_
  have hT : (⟨h, g, d, t, os⟩ : Shared).TypeIs (.str x u) "str" := rfl
  have f2 := F.slot_str_getattribute.lookup
  have f4 := lk_getitem
  unfold Builtin.«hasattr»
  refine wpAny_bind (wpAny_of_eq (a := [.str x u, .str "__getitem__" tk]) (by first | rfl | kernel_rfl) ?_)
  dsimp only
  refine wpAny_bind (wpAny_of_eq (a := ()) (by first | rfl | kernel_rfl) ?_)
  refine wpAny_ite_false rfl ?_
  refine wpAny_bind (wpAny_of_eq (a := .type "str") rfl ?_)
  dsimp only
  refine wpAny_bind (wpAny_of_eq (a := some (Str.ofString "__getitem__")) rfl ?_)
  dsimp only
  refine wpAny_bind (wpAny_of_eq f4 ?_)
  dsimp only
  refine wpAny_bind (wpAny_of_eq f2 ?_)
  refine wpAny_ite_false (by decide +kernel) ?_
  refine wpAny_bind (wpAny_of_eq (a := 0) rfl ?_)
  refine wpAny_ite_false (by decide) ?_
  refine wpAny_bind ?_
  unfold getAttrBy?
  refine wpAny_bind (wpAny_attempt (getitem_by fun b h' k => wpAny_pure ?_))
  refine wpAny_ite_false rfl ?_
  exact wpAny_pure ⟨_, rfl, hq h' k⟩
end
theorem cl_hasattr {W : Wd} {n : Nat} {H : Heap} {x : Str} : Cl W n H (.builtin "hasattr") [StrV x, StrT "__getitem__"] (BoolV true) := by
  intro A E s c vs r _ ins ok
  cases ok with
  | cons z₁ ok =>
    cases ok with
    | cons z₂ ok =>
      cases ok
      obtain ⟨t, rfl⟩ := z₁
      obtain ⟨u, rfl, _⟩ := z₂
      obtain ⟨h, g, d, tk, os⟩ := s
      exact hasattr_str fun h' k => ⟨c, Kp.heap ins k, rfl⟩
end Mine

/-! ### F1 -/
open PySem PySem.W PyProof.Rows PySem.SeqAt
set_option Elab.async false
namespace Mine
def stAt (i : Nat) : Stmt := (PySem.Challenge.pw_pk0023_02.main.body)[i]?.getD (.Pass default)
def bodyAt (i : Nat) : List Stmt := match stAt i with | .FunctionDef _ _ b _ _ _ _ _ _ _ => b | _ => []
def paramsAt (i : Nat) : Arguments := match stAt i with | .FunctionDef _ a _ _ _ _ _ _ _ _ => a | _ => { posonlyargs := [], args := [], vararg := none, kwonlyargs := [], kw_defaults := [], kwarg := none, defaults := [] }
def scopeAt (i : Nat) : Scope := match stAt i with | .FunctionDef _ _ _ _ _ _ s _ _ _ => s | _ => default
abbrev DefI (H₀ : Heap) (a : Addr) (x : Str) (i : Nat) (pm code doc : Value) : Prop := DefIn H₀ a x (paramsAt i) (bodyAt i) (scopeAt i) pm code doc
set_option maxRecDepth 100000
section
variable {W : Wd} {n : Nat} {H₀ : Heap} {a : Addr} {pm code doc : Value}
theorem cl_contains {l : List Int} {i : Int} (nl : H₀.NoLimit) (d : DefI H₀ a "contains" 6 pm code doc) : Cl W (n + 1) H₀ (.ref a) [IntsV l, IntV i] (BoolV (l.contains i)) := by
  refine Cl.of_def d nl (names := ["a", "b"]) (by decide) rfl ?_ ?_ ?_ rfl rfl rfl ?_
  · intro vals hv
    match vals, hv with
    | [x, y], _ => rfl
  · decide
  · decide
  intro Hc L A E s c hH r f
  refine st_return f r (P := BoolV (l.contains i)) (PE.cmp (PE.name (f.rd (P := IntV i) rfl)) (PE.name (f.rd (P := IntsV l) rfl)) (o_in (a := i))) fun v s' c' f' z => ⟨c', f'.weak (fun _ _ h => nomatch h), z⟩
end
end Mine

/-! ### F2 -/
open PySem PySem.W PyProof.Rows PySem.SeqAt
set_option Elab.async false
namespace Mine
set_option maxRecDepth 100000
theorem take_count {α : Type} [BEq α] [LawfulBEq α] (l : List α) (b a : α) (i : Nat) (h : l[i]? = some a) : (l.take (i + 1)).count b = (l.take i).count b + (if a == b then 1 else 0) := by
  rw [List.take_add_one, h]
  simp only [Option.toList, List.count_append, List.count_cons, List.count_nil, Nat.zero_add]
section
variable {W : Wd} {n : Nat} {H₀ : Heap} {a : Addr} {pm code doc : Value}
theorem cl_countOf {l : List Int} {b : Int} (hb : smallInt b = true) (nl : H₀.NoLimit) (d : DefI H₀ a "countOf" 7 pm code doc) : Cl W (n + 1) H₀ (.ref a) [IntsV l, IntV b] (IntV (l.count b)) := by
  refine Cl.of_def d nl (names := ["a", "b"]) (by decide) rfl ?_ ?_ ?_ rfl rfl rfl ?_
  · intro vals hv
    match vals, hv with
    | [x, y], _ => rfl
  · decide
  · decide
  intro Hc L A E s c hH r f
  refine st_assign f r (P := IntV 0) PE.int (.inl rfl) rfl fun s₁ c₁ f₁ => ?_
  refine st_for (xs := l) (F := IntV) (bind := fun i V => V.set "i" (IntV i)) (Inv := fun i => listV [("a", IntsV l), ("b", IntV b), ("count", IntV ((l.take i).count b))]) (RP := fun _ _ => False)
    f₁ r (PE.name (f₁.rd (P := IntsV l) rfl)) (iters_list (whole_name _ _)) (fun i hi sb cb V s c v A E Q f ok k => frm_assign f ok (.inl rfl) fun s' f' => k s' c f') (VLe.le ⟨rfl, rfl, rfl, trivial⟩) ?_ (fun _ _ _ _ h => h.elim) ?_
  · intro i x hx s c Ex f le
    have tk := take_count l b x i hx
    refine st_if (b := (x == b)) f r ?_ (fun hxb s₁ c₁ f₁ => ?_) (fun hxb s₁ c₁ f₁ => ?_)
    · exact (PT.or (PT.cmp (PE.name (f.rd (P := IntV x) rfl)) (PE.name (f.rd (P := IntV b) rfl)) (o_is hb)) (fun _ => PT.cmp (PE.name (f.rd (P := IntV x) rfl)) (PE.name (f.rd (P := IntV b) rfl)) (o_eq (a := x) (b := b)))).eq (Bool.or_self _)
    · refine st_aug f₁ r (P₀ := IntV ((l.take i).count b)) (P₁ := IntV 1) rfl PE.int (o_iadd (a := ((l.take i).count b : Int)) (b := 1)) (.inl rfl) fun s₂ c₂ f₂ => st_end (st_end ⟨c₂, f₂.to _ ⟨rfl, rfl, ?_, trivial⟩⟩)
      rw [tk, hxb]; rfl
    · refine st_end (st_end ⟨c₁, f₁.to _ ⟨rfl, rfl, ?_, trivial⟩⟩)
      rw [tk, hxb]; rfl
  · intro s c f
    refine st_end (st_return f r (P := IntV (l.count b)) (PE.name (f.rd ?_)) fun v s' c' f' z => ⟨c', f'.nil, z⟩)
    rw [List.take_length]; rfl
end
end Mine

/-! ### F3 -/
open PySem PySem.W PyProof.Rows PySem.SeqAt
set_option Elab.async false
namespace Mine
set_option maxRecDepth 100000
section
variable {W : Wd} {n : Nat} {env : Env} {H : Heap} {c : Cx} {e₁ e₂ : Expr} {pos p₁ p₂ : Pos} {P : VP}
/-- a sign in a text -/
theorem o_inS {x : List Nat} {d : Nat} {P₁ P₂ : VP} (i₁ : IsS P₁ (S [d]) := by first | exact isS_t _ | exact isS_v _) (i₂ : IsS P₂ (S x) := by first | exact isS_t _ | exact isS_v _) : Op2 W n (compareOp .In) P₁ P₂ (BoolV (x.contains d)) := by
  intro A E s c v₁ v₂ r ins z₁ z₂
  obtain ⟨t, rfl⟩ := i₁ _ _ z₁
  obtain ⟨u, rfl⟩ := i₂ _ _ z₂
  refine in_str ⟨_, .refl ins, ?_⟩
  have := StrLaws.found_one (S x) d
  show Value.bool (!(Builtin.Str.occurrences (S x) ⟨#[d]⟩ 0 (S x).length 1).isEmpty) = _
  rw [this]
  refine congrArg Value.bool ?_
  rw [Bool.eq_iff_iff, decide_eq_true_eq, List.contains_iff_mem]
  simp [S]
/-- «a is b or a == b» upon texts -/
theorem PT.isEq {x y : Str} {e₁' e₂' : Expr} (hb : NoneBooked H) (a₁ : PE W n env H c e₁ (StrT x)) (a₂ : PE W n env H c e₂ (StrT y)) (b₁ : PE W n env H c e₁' (StrT x)) (b₂ : PE W n env H c e₂' (StrT y))
    (hm : behindInMarks .Is e₂ = false := by with_unfolding_all rfl) (hm' : behindInMarks .Eq e₂' = false := by with_unfolding_all rfl) :
    PT W n env H c (.BoolOp .Or [.Compare e₁ [.Is] [e₂] p₁, .Compare e₁' [.Eq] [e₂'] p₂] pos) (x == y) := by
  intro A E s c₁ r h l ins
  refine wpAny_isTrue_BoolOp (wpAny_allTrue_Or_cons (wpAny_isTrue_Compare1 (two_at a₁ a₂ r h l ins (R := fun s₂ c₂ v s₃ => s₃ = s₂ ∧ InS c₂ s₂ ∧ ∃ d : Bool, v = .bool d ∧ (d = true → x = y)) (fun s₂ c₂ v₁ v₂ k z₁ z₂ => ?_) fun s₂ c₂ v s₃ k hq => ?_) hm))
  · exact is_str (booked_mono hb (h.trans k.keep)) z₁ z₂ fun d hd => ⟨rfl, k.ins, d, rfl, hd⟩
  · obtain ⟨rfl, _, d, rfl, hd⟩ := hq
    refine wpAny_truthy_bool ?_
    cases d with
    | true => exact ⟨c₂, k, by rw [hd rfl]; simp⟩
    | false =>
      refine wpAny_allTrue_Or_cons (wpAny_mono ((PT.cmp b₁ b₂ (o_eqs (a := x) (b := y)) hm').mono (HX.refl _) (Le.refl _) A E s₃ c₂ (r.on k.keep) (h.trans k.keep) (l.trans k.le) k.ins) (fun b s₄ ⟨c₄, k₄, z⟩ => ?_) fun _ _ x => x)
      subst z
      cases hxy : (x == y) with
      | true => exact ⟨c₄, k.trans k₄, rfl⟩
      | false => exact wpAny_allTrue_Or_nil ⟨c₄, k.trans k₄, rfl⟩
end
section
variable {W : Wd} {n : Nat} {H₀ : Heap} {a : Addr} {pm code doc : Value}
theorem cl_containsS {x : List Nat} {d : Nat} (nl : H₀.NoLimit) (df : DefI H₀ a "contains" 6 pm code doc) : Cl W (n + 1) H₀ (.ref a) [StrV (S x), StrT (S [d])] (BoolV (x.contains d)) := by
  refine Cl.of_def df nl (names := ["a", "b"]) (by decide) rfl ?_ ?_ ?_ rfl rfl rfl ?_
  · intro vals hv
    match vals, hv with
    | [x, y], _ => rfl
  · decide
  · decide
  intro Hc L A E s c hH r f
  exact st_return f r (P := BoolV (x.contains d)) (PE.cmp (PE.name (f.rd (P := StrT (S [d])) rfl)) (PE.name (f.rd (P := StrV (S x)) rfl)) (o_inS (d := d) (x := x))) fun v s' c' f' z => ⟨c', f'.nil, z⟩
theorem cl_countOfS {x : List Nat} {d : Nat} (hx : ∀ y ∈ x, y < 128) (hbk : NoneBooked H₀) (nl : H₀.NoLimit) (df : DefI H₀ a "countOf" 7 pm code doc) : Cl W (n + 1) H₀ (.ref a) [StrV (S x), StrT (S [d])] (IntV (x.count d)) := by
  refine Cl.of_def df nl (names := ["a", "b"]) (by decide) rfl ?_ ?_ ?_ rfl rfl rfl ?_
  · intro vals hv
    match vals, hv with
    | [x, y], _ => rfl
  · decide
  · decide
  intro Hc L A E s c hH r f
  refine st_assign f r (P := IntV 0) PE.int (.inl rfl) rfl fun s₁ c₁ f₁ => ?_
  refine st_for (xs := x) (F := fun y => StrT (S [y])) (bind := fun y V => V.set "i" (StrT (S [y]))) (Inv := fun i => listV [("a", StrV (S x)), ("b", StrT (S [d])), ("count", IntV ((x.take i).count d))]) (RP := fun _ _ => False)
    f₁ r (PE.name (f₁.rd (P := StrV (S x)) rfl)) (iters_str (whole_name _ _) hx) (fun i hi sb cb V s c v A E Q f ok k => frm_assign f ok (.inl rfl) fun s' f' => k s' c f') (VLe.le ⟨rfl, rfl, rfl, trivial⟩) ?_ (fun _ _ _ _ h => h.elim) ?_
  · intro i y hy s c Ex f le
    have tk := take_count x d y i hy
    have hyd : (S [y] == S [d]) = (y == d) := by rw [S_beq]; simp
    refine st_if (b := (y == d)) f r ?_ (fun hxb s₁ c₁ f₁ => ?_) (fun hxb s₁ c₁ f₁ => ?_)
    · exact (PT.isEq (booked_mono hbk (hH.trans f.h0)) (PE.name (f.rd (P := StrT (S [y])) rfl)) (PE.name (f.rd (P := StrT (S [d])) rfl)) (PE.name (f.rd (P := StrT (S [y])) rfl)) (PE.name (f.rd (P := StrT (S [d])) rfl))).eq hyd
    · refine st_aug f₁ r (P₀ := IntV ((x.take i).count d)) (P₁ := IntV 1) rfl PE.int (o_iadd (a := ((x.take i).count d : Int)) (b := 1)) (.inl rfl) fun s₂ c₂ f₂ => st_end (st_end ⟨c₂, f₂.to _ ⟨rfl, rfl, ?_, trivial⟩⟩)
      rw [tk, hxb]; rfl
    · refine st_end (st_end ⟨c₁, f₁.to _ ⟨rfl, rfl, ?_, trivial⟩⟩)
      rw [tk, hxb]; rfl
  · intro s c f
    refine st_end (st_return f r (P := IntV (x.count d)) (PE.name (f.rd ?_)) fun v s' c' f' z => ⟨c', f'.nil, z⟩)
    rw [List.take_length]; rfl
end
end Mine

/-! ### F4 -/
open PySem PySem.W PyProof.Rows PySem.SeqAt
set_option Elab.async false
namespace Mine
set_option maxRecDepth 100000
/-- what parse257 tells of what stands behind the opening mark -/
def prs : List Nat → List Nat
  | [] => []
  | [c] => if c = 34 then [] else [c]
  | c :: d :: r => if c = 34 then (if d = 34 then 34 :: prs r else []) else c :: prs (d :: r)
theorem prs_other {c : Nat} (h : c ≠ 34) (r : List Nat) : prs (c :: r) = c :: prs r := by
  cases r with
  | nil => simp [prs, h]
  | cons d r => rw [prs, if_neg h]
theorem drop_eq {x : List Nat} {k d : Nat} (h : x[k]? = some d) : x.drop k = d :: x.drop (k + 1) := by
  have hlt : k < x.length := (List.getElem?_eq_some_iff.mp h).1
  rw [List.drop_eq_getElem_cons hlt]
  rw [List.getElem?_eq_getElem hlt] at h
  injection h with h
  rw [h]
section
variable {W : Wd} {n : Nat} {H₀ : Heap} {a : Addr} {pm code doc : Value} {mg mb : Str → Option Value}
theorem cl_concat {x y : Str} (hsz : x.length + y.length ≤ 100000) (G : Gl H₀ mg mb) (hh : mg "hasattr" = none) (df : DefI H₀ a "concat" 5 pm code doc) : Cl W (n + 1) H₀ (.ref a) [StrV x, StrV y] (StrV (x ++ y)) := by
  refine Cl.of_def df G.nl (names := ["a", "b"]) (by decide) rfl ?_ ?_ ?_ rfl rfl rfl ?_
  · intro vals hv
    match vals, hv with
    | [x, y], _ => rfl
  · decide
  · decide
  intro Hc L A E s c hH r f
  refine st_if (b := !true) f r (PT.not (PT.val (PE.call (Ps := [StrV x, StrT "__getitem__"]) (Fn.blt G (hH.trans f.h0) ⟨rfl, rfl, rfl, rfl⟩ hh boot_hasattr (.inl ⟨_, rfl⟩) cl_hasattr) (.two (PE.name (f.rd rfl)) PE.str)))) (fun h => by cases h) fun _ s₁ c₁ f₁ => ?_
  refine st_end ?_
  exact st_return f₁ r (P := StrV (x ++ y)) (PE.two (PE.name (f₁.rd (P := StrV x) rfl)) (PE.name (f₁.rd (P := StrV y) rfl)) (o_adds (a := x) (b := y) (by rw [sizeLine_eq]; omega))) fun v s' c' f' z => ⟨c', f'.nil, z⟩
theorem cl_parse {x : List Nat} (hsz : x.length ≤ 90000) (G : Gl H₀ mg mb) (hl : mg "len" = none) (df : DefI H₀ a "parse257" 3 pm code doc) :
    Cl W (n + 1) H₀ (.ref a) [StrV (S (50 :: 53 :: 55 :: 32 :: 34 :: x))] (StrV (S (prs x))) := by
  refine Cl.of_def df G.nl (names := ["resp"]) (by decide) rfl ?_ ?_ ?_ rfl rfl rfl ?_
  · intro vals hv
    match vals, hv with
    | [x], _ => rfl
  · decide
  · decide
  intro Hc L A E s c hH r f
  generalize hF : 50 :: 53 :: 55 :: 32 :: 34 :: x = full at f
  have hlen : full.length = x.length + 5 := by rw [← hF]; simp
  have hget : ∀ k, full[5 + k]? = x[k]? := fun k => by rw [← hF, Nat.add_comm]; simp
  refine st_if (b := false) f r ((PT.cmp (PE.uptoS (x := full) (k := 3) (PE.name (f.rd rfl)) PE.int (by omega) (by omega)) PE.str (o_nes (a := S (full.take 3)) (b := Str.ofString "257"))).eq (by rw [← hF]; show (S [50, 53, 55] != Str.ofString "257") = false; decide)) (fun h => by cases h) fun _ s₁ c₁ f₁ => st_end ?_
  refine st_if (b := false) f₁ r ((PT.cmp (PE.fromToS (x := full) (a := 3) (b := 5) (PE.name (f₁.rd rfl)) PE.int PE.int (by omega) (by omega)) PE.str (o_nes (a := S ((full.drop 3).take 2)) (b := Str.ofString " \""))).eq (by rw [← hF]; show (S [32, 34] != Str.ofString " \"") = false; decide)) (fun h => by cases h) fun _ s₂ c₂ f₂ => st_end ?_
  refine st_assign f₂ r (P := StrV (S [])) (PE.str.sw) (.inl rfl) rfl fun s₃ c₃ f₃ => ?_
  refine st_assign f₃ r (P := IntV 5) PE.int (.inl rfl) rfl fun s₄ c₄ f₄ => ?_
  refine st_assign f₄ r (P := IntV full.length) (PE.call (Fn.blt G (hH.trans f₄.h0) ⟨rfl, rfl, rfl, rfl⟩ hl boot_len (.inl ⟨_, rfl⟩) (cl_lenS (x := full) (by omega))) (.one (PE.name (f₄.rd (P := StrV (S full)) rfl)))) (.inl rfl) rfl fun s₅ c₅ f₅ => ?_
  refine st_while (β := Nat × List Nat) (Inv := fun b => listV [("resp", StrV (S full)), ("dirname", StrV (S b.2)), ("i", IntV (5 + b.1 : Nat)), ("n", IntV full.length)]) (μ := fun b => x.length - b.1) (t := fun b => decide (b.1 < x.length))
    (Good := fun b => b.1 ≤ x.length ∧ prs x = b.2 ++ prs (x.drop b.1) ∧ b.2.length ≤ b.1) (Fin := fun b => b.2 = prs x) f₅ r (0, []) ⟨Nat.zero_le _, by simp, by simp⟩ (VLe.le ⟨rfl, rfl, rfl, rfl, trivial⟩) ?_ ?_ ?_ ?_
  · intro b hb s c f le
    refine (PT.cmp (PE.name (f.rd rfl)) (PE.name (f.rd rfl)) (o_lt (a := ((5 + b.1 : Nat) : Int)) (b := (full.length : Int)))).eq ?_
    rw [hlen, decide_eq_decide]; omega
  · rintro ⟨k, dn⟩ ⟨hk, hp, hdl⟩ ht s c Ex f le
    have hlt : k < x.length := by simpa using ht
    obtain ⟨d, hd⟩ : ∃ d, x[k]? = some d := ⟨_, List.getElem?_eq_getElem hlt⟩
    have hdrop := drop_eq hd
    have hl2 : dn.length ≤ k := hdl
    refine st_assign f r (P := StrT (S [d])) (PE.itemS (x := full) (k := ((5 + k : Nat) : Int)) (d := d) (PE.name (f.rd (P := StrV (S full)) rfl)) (PE.name (f.rd (P := IntV ((5 + k : Nat) : Int)) rfl)) (by omega) (by rw [Int.toNat_natCast, hget]; exact hd)) (.inl rfl) rfl fun s₁ c₁ f₁ => ?_
    refine st_assign f₁ r (P := IntV (((5 + k : Nat) : Int) + 1)) (PE.add (a := ((5 + k : Nat) : Int)) (b := 1) (PE.name (f₁.rd rfl)) PE.int) (.inl rfl) rfl fun s₂ c₂ f₂ => ?_
    have e1 : ((5 + k : Nat) : Int) + 1 = ((5 + (k + 1) : Nat) : Int) := by omega
    rw [e1] at f₂
    refine st_if (b := (S [d] == Str.ofString "\"")) f₂ r (PT.cmp (PE.name (f₂.rd rfl)) PE.str (o_eqs (a := S [d]) (b := Str.ofString "\""))) (fun hq s₃ c₃ f₃ => ?_) (fun hq s₃ c₃ f₃ => ?_)
    · have hd34 : d = 34 := by
        rw [show Str.ofString "\"" = S [34] from by decide, S_beq] at hq
        simpa using hq
      subst hd34
      refine st_if (b := (decide ((full.length : Int) ≤ ((5 + (k + 1) : Nat) : Int)) || (x[k + 1]? != some 34))) f₃ r ?_ (fun hb s₄ c₄ f₄ => ?_) (fun hb s₄ c₄ f₄ => ?_)
      · refine PT.or (PT.cmp (PE.name (f₃.rd rfl)) (PE.name (f₃.rd rfl)) (o_ge (a := ((5 + (k + 1) : Nat) : Int)) (b := (full.length : Int)))) fun hge => ?_
        have hlt' : k + 1 < x.length := by
          have := of_decide_eq_false hge
          omega
        obtain ⟨d', hd'⟩ : ∃ d, x[k + 1]? = some d := ⟨_, List.getElem?_eq_getElem hlt'⟩
        refine (PT.cmp (PE.itemS (x := full) (k := ((5 + (k + 1) : Nat) : Int)) (d := d') (PE.name (f₃.rd (P := StrV (S full)) rfl)) (PE.name (f₃.rd (P := IntV ((5 + (k + 1) : Nat) : Int)) rfl)) (by omega) (by rw [Int.toNat_natCast, hget]; exact hd')) PE.str (o_nes (a := S [d']) (b := Str.ofString "\""))).eq ?_
        rw [hd', show Str.ofString "\"" = S [34] from by decide, S_bne]
        simp [bne]
      · refine st_break ⟨(k + 1, dn), c₄, ?_, f₄.to _ ⟨rfl, rfl, rfl, rfl, trivial⟩⟩
        · show dn = prs x
          rw [hp, hdrop]
          cases hr : x.drop (k + 1) with
          | nil => simp [prs]
          | cons d' r' =>
            have hd' : x[k + 1]? = some d' := by
              have := congrArg (fun l => l[0]?) hr
              simpa using this
            have hlt' : k + 1 < x.length := (List.getElem?_eq_some_iff.mp hd').1
            have h34 : d' ≠ 34 := by
              rintro rfl
              rw [hd'] at hb
              simp at hb
              omega
            simp [prs, h34]
      · have hlt' : k + 1 < x.length := by
          rw [Bool.or_eq_false_iff] at hb
          have := of_decide_eq_false hb.1
          omega
        have hd' : x[k + 1]? = some 34 := by
          rw [Bool.or_eq_false_iff] at hb
          simpa using hb.2
        refine st_end ?_
        refine st_assign f₄ r (P := IntV (((5 + (k + 1) : Nat) : Int) + 1)) (PE.add (a := ((5 + (k + 1) : Nat) : Int)) (b := 1) (PE.name (f₄.rd rfl)) PE.int) (.inl rfl) rfl fun s₅ c₅ f₅ => st_end ?_
        have e2 : ((5 + (k + 1) : Nat) : Int) + 1 = ((5 + (k + 2) : Nat) : Int) := by omega
        rw [e2] at f₅
        refine st_assign f₅ r (P := StrV (S dn ++ S [34])) (PE.two (PE.name (f₅.rd (P := StrV (S dn)) rfl)) (PE.name (f₅.rd (P := StrT (S [34])) rfl)) (o_adds (a := S dn) (b := S [34]) (by rw [sizeLine_eq, S_length, S_length]; simp; omega))) (.inl rfl) rfl fun s₆ c₆ f₆ => st_end ?_
        rw [S_append] at f₆
        refine ⟨(k + 2, dn ++ [34]), c₆, ?_, ⟨?_, ?_, ?_⟩, f₆.to _ ⟨rfl, rfl, rfl, rfl, trivial⟩⟩
        · show x.length - (k + 2) < x.length - k; omega
        · show k + 2 ≤ x.length; omega
        · show prs x = (dn ++ [34]) ++ prs (x.drop (k + 2))
          rw [hp, hdrop, drop_eq hd']
          simp [prs]
        · simp; omega
    · have hd34 : d ≠ 34 := by
        rw [show Str.ofString "\"" = S [34] from by decide, S_beq] at hq
        simpa using hq
      refine st_end ?_
      refine st_assign f₃ r (P := StrV (S dn ++ S [d])) (PE.two (PE.name (f₃.rd (P := StrV (S dn)) rfl)) (PE.name (f₃.rd (P := StrT (S [d])) rfl)) (o_adds (a := S dn) (b := S [d]) (by rw [sizeLine_eq, S_length, S_length]; simp; omega))) (.inl rfl) rfl fun s₆ c₆ f₆ => st_end ?_
      rw [S_append] at f₆
      refine ⟨(k + 1, dn ++ [d]), c₆, ?_, ⟨?_, ?_, ?_⟩, f₆.to _ ⟨rfl, rfl, rfl, rfl, trivial⟩⟩
      · show x.length - (k + 1) < x.length - k; omega
      · show k + 1 ≤ x.length; omega
      · show prs x = (dn ++ [d]) ++ prs (x.drop (k + 1))
        rw [hp, hdrop, prs_other hd34]
        simp
      · simp; omega
  · rintro ⟨k, dn⟩ ⟨hk, hp, _⟩ ht
    have : ¬ k < x.length := by simpa using ht
    have hk' : k = x.length := by omega
    subst hk'
    rw [List.drop_length] at hp
    simpa [prs] using hp.symm
  · rintro ⟨k, dn⟩ s c hf f
    exact st_return f r (P := StrV (S (prs x))) (PE.name (f.rd (by rw [← hf]; rfl))) fun v s' c' f' z => ⟨c', f'.nil, z⟩
end
end Mine

/-! ### F5 -/
open PySem PySem.W PyProof.Rows PySem.SeqAt
set_option Elab.async false
namespace Mine
set_option maxRecDepth 100000
def AndV (P : VP) (p : Prop) : VP := ⟨fun c v => P.ok c v ∧ p, fun x ⟨a, b⟩ => ⟨P.mono x a, b⟩⟩
theorem Rd.weak {W : Wd} {env : Env} {H : Heap} {c : Cx} {x : Str} {P P' : VP} (r : Rd W env H c x P) (k : ∀ c v, P.ok c v → P'.ok c v) : Rd W env H c x P' :=
  fun A E s c₁ h l => wpAny_mono (r A E s c₁ h l) (fun _ _ z => ⟨z.1, k _ _ z.2⟩) fun _ _ x => x
def VImp : List (Str × VP) → Vars → Prop
  | [], _ => True
  | (x, P') :: r, V => (∃ P, V x = some P ∧ ∀ c v, P.ok c v → P'.ok c v) ∧ VImp r V
theorem VImp.get : ∀ {l : List (Str × VP)} {V : Vars}, VImp l V → ∀ y P', listV l y = some P' → ∃ P, V y = some P ∧ ∀ c v, P.ok c v → P'.ok c v
  | [], _, _, _, _, h => by cases h
  | (x, Q) :: r, V, ⟨h1, h2⟩, y, P, h => by
    unfold listV at h
    rw [List.lookup_cons] at h
    cases hb : y == x with
    | true => rw [hb] at h; cases h; rw [beq_iff_eq.mp hb]; exact h1
    | false => rw [hb] at h; exact VImp.get h2 y P h
theorem Frm.toI {H₀ : Heap} {sb : Shared} {cb : Cx} {env : Env} {oc : List Addr} {V : Vars} {s : Shared} {c : Cx} (f : Frm H₀ sb cb env oc V s c) (l : List (Str × VP)) (h : VImp l V) : Frm H₀ sb cb env oc (listV l) s c :=
  ⟨f.eo, f.hb, f.fr, f.mv, f.ok, fun x P' e => by
    obtain ⟨P, e', k⟩ := h.get x P' e
    obtain ⟨a, v, hv, ok⟩ := f.vars x P e'
    exact ⟨a, v, hv, k _ _ ok⟩⟩
theorem Frm.fact {H₀ : Heap} {sb : Shared} {cb : Cx} {env : Env} {oc : List Addr} {V : Vars} {s : Shared} {c : Cx} {x : Str} {P : VP} {p : Prop} (f : Frm H₀ sb cb env oc V s c) (h : V x = some (AndV P p)) : p := by
  obtain ⟨_, v, _, ok⟩ := f.vars x _ h
  exact ok.2
theorem imp_refl (P : VP) : ∀ c v, P.ok c v → P.ok c v := fun _ _ h => h
theorem imp_and {P : VP} {p : Prop} (h : p) : ∀ c v, P.ok c v → (AndV P p).ok c v := fun _ _ o => ⟨o, h⟩
theorem and_imp' {P : VP} {p q : Prop} (h : q) : ∀ c v, (AndV P p).ok c v → (AndV P q).ok c v := fun _ _ o => ⟨o.1, h⟩
section
variable {W : Wd} {n : Nat} {H₀ : Heap} {a : Addr} {pm code doc : Value} {mg mb : Str → Option Value}
theorem idx_of {l : List Int} {b : Int} {i : Nat} (h : l[i]? = some b) (hn : b ∉ l.take i) : l.idxOf b = i := by
  induction l generalizing i with
  | nil => simp at h
  | cons y l ih =>
    cases i with
    | zero => simp at h; subst h; simp
    | succ i =>
      simp at h
      rw [List.take_succ_cons, List.mem_cons, not_or] at hn
      have hyb : (y == b) = false := beq_eq_false_iff_ne.mpr fun q => hn.1 q.symm
      rw [List.idxOf_cons, hyb, cond_false, ih h hn.2]
abbrev idxTgt (p₁ p₂ p₃ : Pos) : Expr := .Tuple [.Name "i" p₁, .Name "j" p₂] 0 p₃
theorem cl_indexOf {l : List Int} {b : Int} (hb : smallInt b = true) (hm : b ∈ l) (G : Gl H₀ mg mb) (he : mg "enumerate" = none) (d : DefI H₀ a "indexOf" 8 pm code doc) : Cl W (n + 1) H₀ (.ref a) [IntsV l, IntV b] (IntV (l.idxOf b)) := by
  refine Cl.of_def d G.nl (names := ["a", "b"]) (by decide) rfl ?_ ?_ ?_ rfl rfl rfl ?_
  · intro vals hv
    match vals, hv with
    | [x, y], _ => rfl
  · decide
  · decide
  intro Hc L A E s c hH r f
  have hen : (enumV (l.map IntV)) = (List.range l.length).map fun (i : Nat) => TupV [IntV (i : Int), IntV (l.getD i 0)] := by
    unfold enumV
    rw [List.length_map]
    refine List.map_congr_left fun i hi => ?_
    have hi' : i < l.length := List.mem_range.mp hi
    rw [List.getD_eq_getElem?_getD, List.getElem?_map, List.getD_eq_getElem?_getD, List.getElem?_eq_getElem hi']
    rfl
  refine st_forI (xs := List.range l.length) (F := fun (i : Nat) => TupV [IntV (i : Int), IntV (l.getD i 0)]) (bind := fun i V => (V.set "i" (IntV (i : Int))).set "j" (IntV (l.getD i 0)))
    (Inv := fun i => listV [("a", AndV (IntsV l) (b ∉ l.take i)), ("b", IntV b)]) (RP := fun v c => (IntV (l.idxOf b)).ok c v)
    (f.toI [("a", AndV (IntsV l) (b ∉ l.take 0)), ("b", IntV b)] ⟨⟨_, rfl, imp_and (by simp)⟩, ⟨_, rfl, imp_refl _⟩, trivial⟩) r
    (hen ▸ IterE.enum (Bl.of G (hH.trans f.h0) ⟨rfl, rfl, rfl, rfl⟩ he boot_enumerate) (PE.name (f.rd (P := IntsV l) rfl))) (fun i hi sb cb V s c v A E Q hh f ok k => frm_assign2 hh f ok (.inl rfl) (.inl rfl) k) (fun _ _ h => h) ?_ ?_ ?_
  · intro i j hj s c Ex f le
    have hlt : i < l.length := by
      have := (List.getElem?_eq_some_iff.mp hj).1
      simpa using this
    have hij : i = j := by rw [List.getElem?_range hlt] at hj; injection hj
    subst hij
    have hget : l[i]? = some (l.getD i 0) := by rw [List.getElem?_eq_getElem hlt, List.getD_eq_getElem?_getD, List.getElem?_eq_getElem hlt]; rfl
    have hni : b ∉ l.take i := f.fact (x := "a") rfl
    generalize l.getD i 0 = x at f hget
    refine st_if (b := (x == b)) f r ?_ (fun hxb s₁ c₁ f₁ => ?_) (fun hxb s₁ c₁ f₁ => ?_)
    · exact (PT.or (PT.cmp (PE.name (f.rd (P := IntV x) rfl)) (PE.name (f.rd (P := IntV b) rfl)) (o_is hb)) (fun _ => PT.cmp (PE.name (f.rd (P := IntV x) rfl)) (PE.name (f.rd (P := IntV b) rfl)) (o_eq (a := x) (b := b)))).eq (Bool.or_self _)
    · have hx : x = b := by simpa using hxb
      subst hx
      have hidx : l.idxOf x = i := idx_of hget hni
      refine st_return f₁ r (P := IntV (i : Int)) (PE.name (f₁.rd rfl)) fun v s' c' f' z => ?_
      exact ⟨c', f'.nil, by rw [hidx]; exact z⟩
    · refine st_end (st_end ⟨c₁, f₁.toI _ ⟨⟨_, rfl, and_imp' ?_⟩, ⟨_, rfl, imp_refl _⟩, trivial⟩⟩)
      rw [List.take_add_one, hget]
      simp only [Option.toList, List.mem_append, List.mem_singleton, not_or]
      exact ⟨hni, fun q => by rw [q] at hxb; simp at hxb⟩
  · intro s c v f h
    exact ⟨c, f, h⟩
  · intro s c f
    have := f.fact (x := "a") rfl
    rw [List.length_range, List.take_length] at this
    exact absurd hm this
end
end Mine

/-! ### F6 -/
open PySem PySem.W PyProof.Rows PySem.SeqAt
set_option Elab.async false
namespace Mine
set_option maxRecDepth 100000
theorem boot_ValueError : bootBuiltins "ValueError" = some (.type "ValueError") := by decide +kernel
section
variable {W : Wd} {n : Nat} {H₀ : Heap} {a : Addr} {pm code doc : Value} {mg mb : Str → Option Value}
theorem rs_indexOf {l : List Int} {b : Int} (hb : smallInt b = true) (hm : b ∉ l) (G : Gl H₀ mg mb) (he : mg "enumerate" = none) (hv : mg "ValueError" = none) (d : DefI H₀ a "indexOf" 8 pm code doc) : Raises W (n + 1) H₀ (.ref a) [IntsV l, IntV b] "ValueError" := by
  intro A E Q s c vs r₀ hx ins ok hE
  refine wpAny_call (call_def d G.nl (names := ["a", "b"]) (by decide) rfl ?_ ?_ ?_ r₀ hx ins ok ?_ rfl rfl rfl)
  · intro vals hv
    match vals, hv with
    | [x, y], _ => rfl
  · decide
  · decide
  intro L s₁ f kp own r
  have hen : (enumV (l.map IntV)) = (List.range l.length).map fun (i : Nat) => TupV [IntV (i : Int), IntV (l.getD i 0)] := by
    unfold enumV
    rw [List.length_map]
    refine List.map_congr_left fun i hi => ?_
    have hi' : i < l.length := List.mem_range.mp hi
    rw [List.getD_eq_getElem?_getD, List.getElem?_map, List.getD_eq_getElem?_getD, List.getElem?_eq_getElem hi']
    rfl
  refine st_forI (xs := List.range l.length) (F := fun (i : Nat) => TupV [IntV (i : Int), IntV (l.getD i 0)]) (bind := fun i V => (V.set "i" (IntV (i : Int))).set "j" (IntV (l.getD i 0)))
    (Inv := fun _ => listV [("a", IntsV l), ("b", IntV b)]) (RP := fun _ _ => False) f r
    (hen ▸ IterE.enum (Bl.of G (hx.trans f.h0) ⟨rfl, rfl, rfl, rfl⟩ he boot_enumerate) (PE.name (f.rd (P := IntsV l) rfl))) (fun i hi sb cb V s c v A E Q hh f ok k => frm_assign2 hh f ok (.inl rfl) (.inl rfl) k) (VLe.le ⟨rfl, rfl, trivial⟩) ?_ (fun _ _ _ _ h => h.elim) ?_
  · intro i j hj s c Ex f le
    have hlt : i < l.length := by
      have := (List.getElem?_eq_some_iff.mp hj).1
      simpa using this
    have hij : i = j := by rw [List.getElem?_range hlt] at hj; injection hj
    subst hij
    have hget : l[i]? = some (l.getD i 0) := by rw [List.getElem?_eq_getElem hlt, List.getD_eq_getElem?_getD, List.getElem?_eq_getElem hlt]; rfl
    generalize l.getD i 0 = x at f hget
    have hne : (x == b) = false := beq_eq_false_iff_ne.mpr fun q => hm (q ▸ List.mem_of_getElem? hget)
    refine st_if (b := (x == b)) f r ?_ (fun hxb s₁ c₁ f₁ => by rw [hne] at hxb; cases hxb) (fun hxb s₁ c₁ f₁ => ?_)
    · exact (PT.or (PT.cmp (PE.name (f.rd (P := IntV x) rfl)) (PE.name (f.rd (P := IntV b) rfl)) (o_is hb)) (fun _ => PT.cmp (PE.name (f.rd (P := IntV x) rfl)) (PE.name (f.rd (P := IntV b) rfl)) (o_eq (a := x) (b := b)))).eq (Bool.or_self _)
    · exact st_end (st_end ⟨c₁, f₁.to _ ⟨rfl, rfl, trivial⟩⟩)
  · intro s₂ c₂ f₂
    have hbl := Bl.of (W := W) (env := fEnv "indexOf" (paramsAt 8) (bodyAt 8) (scopeAt 8) pm code doc L a) G (hx.trans f₂.h0) ⟨rfl, rfl, rfl, rfl⟩ hv boot_ValueError
    refine wpAny_execs_cons (wpAny_Raise_call F.excCall_ValueError F.excRaise_ValueError r.handled rfl (wpAny_Name (wpAny_mono (hbl _ _ s₂ (HX.refl _)) (fun v s₃ hq => ?_) fun _ _ x => x)))
    obtain ⟨rfl, rfl⟩ := hq
    refine ⟨rfl, ?_⟩
    refine Calls.evalArgs_plain ?_
    refine Calls.spliced_cons (wpAny_mono ((PE.str (W := W) (n := n) (c := c₂) (k := 0) (pos := default)) _ _ s₃ c₂ (f₂.room r) (HX.refl _) (Le.refl _) f₂.ins) (fun v₁ s₄ ⟨c₄, k₄, z₄⟩ => Calls.spliced_nil ?_) fun _ _ x => x)
    refine ⟨rfl, by show 1 ≤ sizeLine; rw [sizeLine_eq]; omega, fun h' e mk => ?_⟩
    have f₄ := f₂.step k₄
    have k₅ : HX s.heap h' := f₄.h0.trans (HX.ex mk.keeps)
    obtain ⟨outer, hfr, hlive⟩ := r.fr
    obtain ⟨t, hte, _⟩ := mk.there
    have hnew : s.heap.get? e = none := none_of_keep f₄.h0 mk.new
    refine wpAny_leaving_again (SameStack.refl _) (wpAny_leaving_first (base := hideD s.heap) hfr ?_ rfl hte (stays_of k₅) (hideD_none hnew) rfl rfl fun h'' left => ?_)
    · obtain ⟨m, hn⟩ := f₄.ok.1
      obtain ⟨o, es, ep, eo, hd, _⟩ := ns_hx hn (HX.ex mk.keeps)
      refine ⟨(by intro h; cases h), ⟨L, o, rfl, hideD_none (own L List.mem_cons_self), eo, fun vs q => by rw [hd] at q; cases q⟩, funFrames_of k₅ hlive⟩
    · have hx'' : HX s.heap h'' := hx_left k₅ left
      have kk := kp.then_mv f₄.mv own
      refine hE e _ ⟨?_, hx'', Le.refl _, ⟨fun b x e => (hx'' b x (ins.o b x e)).exact (ins.nf b x e), ins.nf, k₄.ins.pos, fun t v e => k₄.ins.lt t v (kk.le.m t v e)⟩, fun _ _ e => .inl e⟩ ⟨hideD_none hnew, left.2.2.1⟩
      obtain ⟨h1, t1, e1⟩ := kk.same
      subst e1
      exact ⟨_, _, rfl⟩
end
end Mine

/-! ### K1 -/
open PySem PySem.W PyProof.Rows PySem.SeqAt
set_option Elab.async false
set_option maxRecDepth 100000
namespace Mine
/-- one turn of a comprehension's loop, whatever stands inside -/
def TurnAs (W : Wd) (cd : Code) (T : Sem Fin) (tgt : Expr) (ifs : List Expr) (it : Value) (env : Env) (inner : Around → (Shared → Prop) → (Value → Shared → Prop) → Shared → Prop) : Prop :=
  ∀ (A : Around) (E : Value → Shared → Prop) (Q : Fin → Shared → Prop) (s : Shared), wpAny W.M A (pyNext it) (fun r s₁ => match r with
      | none => Q (.done .next) s₁
      | some v => wpAny W.M A (letOwnedTupleGo tgt it v) (fun _ s₁ => wpAny W.M A (assign tgt env v) (fun _ s₂ => wpAny W.M A (cTests ifs env) (fun ok s₃ =>
          if ok = true then inner A (fun s₅ => Q (.again cd) s₅) E s₃
          else Q (.again cd) s₃) E s₂) E s₁) E s₁) E s → wpAny W.M A T Q E s
theorem compTurn_two0 (elt t1 i1 t2 i2 : Expr) (ifs1 ifs2 : List Expr) (scope : Scope) (pos : Pos) (it acc : Value) (env : Env) :
    compTurn (.ListComp elt [⟨t1, i1, ifs1, 0⟩, ⟨t2, i2, ifs2, 0⟩] scope pos) 0 it acc env = (do
      standAt i1.pos
      match ← pyNext it with
      | none => pure (.done .next)
      | some v =>
        letOwnedTupleGo t1 it v
        assign t1 env v
        let mut ok := true
        for c in ifs1 do
          if ok then ok ← isTrue c env (eval c env)
        if ok then
          let x ← eval i2 env
          standAt i2.pos
          let x ← foldedSetIterable i2 env x
          let _ ← runOwn (.compStart (.ListComp elt [⟨t1, i1, ifs1, 0⟩, ⟨t2, i2, ifs2, 0⟩] scope pos) 1 (← holding [x] (pyIter x)) acc env) env
        again (.compLoop (.ListComp elt [⟨t1, i1, ifs1, 0⟩, ⟨t2, i2, ifs2, 0⟩] scope pos) 0 it acc env)) := by rfl
theorem compTurn_two1 (elt t1 i1 t2 i2 : Expr) (ifs1 ifs2 : List Expr) (scope : Scope) (pos : Pos) (it acc : Value) (env : Env) :
    compTurn (.ListComp elt [⟨t1, i1, ifs1, 0⟩, ⟨t2, i2, ifs2, 0⟩] scope pos) 1 it acc env = (do
      standAt i2.pos
      match ← pyNext it with
      | none => pure (.done .next)
      | some v =>
        letOwnedTupleGo t2 it v
        assign t2 env v
        let mut ok := true
        for c in ifs2 do
          if ok then ok ← isTrue c env (eval c env)
        if ok then
          (do let _ ← call (.builtin "list.append") [acc, ← eval elt env])
        again (.compLoop (.ListComp elt [⟨t1, i1, ifs1, 0⟩, ⟨t2, i2, ifs2, 0⟩] scope pos) 1 it acc env)) := by rfl
section
variable (W : Wd) (elt t1 i1 t2 i2 : Expr) (ifs1 ifs2 : List Expr) (scope : Scope) (pos : Pos) (it acc : Value) (env : Env)
def inner0 (A : Around) (Q : Shared → Prop) (E : Value → Shared → Prop) (s : Shared) : Prop :=
  wpAny W.M A (eval i2 env) (fun x s₁ => wpAny W.M A (pyIter x) (fun it' s₂ => codeAny W.M A (.compStart (.ListComp elt [⟨t1, i1, ifs1, 0⟩, ⟨t2, i2, ifs2, 0⟩] scope pos) 1 it' acc env)
    (fun r s' => match r with | .ok _ => Q s' | .error e => cameBackBy W.M A env E e s') s₂) E s₁) E s
def inner1 (A : Around) (Q : Shared → Prop) (E : Value → Shared → Prop) (s : Shared) : Prop :=
  wpAny W.M A (eval elt env) (fun x s₁ => wpAny W.M A (call (.builtin "list.append") [acc, x]) (fun _ s₂ => Q s₂) E s₁) E s
theorem turn_two0 (hs : ∀ x, foldedSetIterable i2 env x = pure x) : TurnAs W (.compLoop (.ListComp elt [⟨t1, i1, ifs1, 0⟩, ⟨t2, i2, ifs2, 0⟩] scope pos) 0 it acc env) (compTurn (.ListComp elt [⟨t1, i1, ifs1, 0⟩, ⟨t2, i2, ifs2, 0⟩] scope pos) 0 it acc env) t1 ifs1 it env (inner0 W elt t1 i1 t2 i2 ifs1 ifs2 scope pos acc env) := by
  intro A E Q s h
  rw [compTurn_two0]
  refine wpAny_bind (wpAny_standAt (wpAny_bind (wpAny_mono h (fun r s₁ h₁ => ?_) fun _ _ h' => h')))
  cases r with
  | none => exact wpAny_pure h₁
  | some v =>
    refine wpAny_bind (wpAny_mono h₁ (fun _ s₁ h₁ => ?_) fun _ _ h' => h')
    refine wpAny_bind (wpAny_mono h₁ (fun _ s₂ h₂ => wpAny_bind (wpAny_mono h₂ (fun ok s₃ h₃ => ?_) fun _ _ h' => h')) fun _ _ h' => h')
    cases ok with
    | false => exact wpAny_pure h₃
    | true => exact wpAny_bind (wpAny_mono h₃ (fun x s₄ h₄ => wpAny_bind (wpAny_standAt (wpAny_bind (wpAny_of_eq (hs x) (wpAny_bind (wpAny_holding (wpAny_mono h₄ (fun it' s₅ h₅ => wpAny_bind (wpAny_runOwn (codeAny_mono h₅ fun r s₆ h₆ => by
        cases r with
        | ok f => exact wpAny_pure h₆
        | error e => exact h₆))) fun _ _ h' => h')))))) ) fun _ _ h' => h')
theorem turn_two1 : TurnAs W (.compLoop (.ListComp elt [⟨t1, i1, ifs1, 0⟩, ⟨t2, i2, ifs2, 0⟩] scope pos) 1 it acc env) (compTurn (.ListComp elt [⟨t1, i1, ifs1, 0⟩, ⟨t2, i2, ifs2, 0⟩] scope pos) 1 it acc env) t2 ifs2 it env (inner1 W elt acc env) := by
  intro A E Q s h
  rw [compTurn_two1]
  refine wpAny_bind (wpAny_standAt (wpAny_bind (wpAny_mono h (fun r s₁ h₁ => ?_) fun _ _ h' => h')))
  cases r with
  | none => exact wpAny_pure h₁
  | some v =>
    refine wpAny_bind (wpAny_mono h₁ (fun _ s₁ h₁ => ?_) fun _ _ h' => h')
    refine wpAny_bind (wpAny_mono h₁ (fun _ s₂ h₂ => wpAny_bind (wpAny_mono h₂ (fun ok s₃ h₃ => ?_) fun _ _ h' => h')) fun _ _ h' => h')
    cases ok with
    | false => exact wpAny_pure h₃
    | true => exact wpAny_bind (wpAny_bind (wpAny_mono h₃ (fun x s₄ h₄ => wpAny_bind (wpAny_mono h₄ (fun _ s₅ h₅ => wpAny_pure (wpAny_pure h₅)) fun _ _ h' => h')) fun _ _ h' => h'))
end
theorem codeAny_compStart1 {W : Wd} {A : Around} {R : Result → Shared → Prop} {s : Shared} {elt : Expr} {g : Comprehension} {target iter : Expr} {ifs : List Expr} {rest : List Comprehension} {scope : Scope} {pos : Pos} {it acc : Value} {env : Env}
    (h0 : codeAny W.M A (.compLoop (.ListComp elt (g :: ⟨target, iter, ifs, 0⟩ :: rest) scope pos) 1 it acc env) R s)
    (h : wpAny W.M A (pyIter it) (fun it' s' => codeAny W.M A (.compLoop (.ListComp elt (g :: ⟨target, iter, ifs, 0⟩ :: rest) scope pos) 1 it' acc env) R s')
      (notedBy W.M A env fun x s' => R (.error x) s') s) :
    codeAny W.M A (.compStart (.ListComp elt (g :: ⟨target, iter, ifs, 0⟩ :: rest) scope pos) 1 it acc env) R s := by
  refine codeAny_of_tree ?_
  show wpAny _ _ ((compStart (.ListComp elt (g :: ⟨target, iter, ifs, 0⟩ :: rest) scope pos) 1 it acc env).onRaise (fun x => do noteFrame x env; standAt theWindowsPlace)) _ _ s
  refine wpAny_notedAt ?_
  unfold compStart
  show wpAny _ _ (ask >>= _) _ _ s
  refine wpAny_bind (wpAny_askSetting (wpAny_ite ?_))
  split
  · first
      | exact wpAny_bind (wpAny_pure (wpAny_pure (And.intro rfl h0)))
      | exact wpAny_pure (And.intro rfl h0)
  · first
      | exact wpAny_bind (wpAny_rule (wpAny_bind (wpAny_standAt (wpAny_bind (wpAny_mono h (fun it' s' h' => wpAny_pure (And.intro rfl h')) fun _ _ x => x)))))
      | (refine wpAny_bind (wpAny_rule ?_); show wpAny _ _ (standAt iter.pos >>= _) _ _ s; exact wpAny_bind (wpAny_standAt (wpAny_bind (wpAny_mono h (fun it' s' h' => wpAny_pure (And.intro rfl h')) fun _ _ x => x))))
end Mine

/-! ### K2 -/
open PySem PySem.W PyProof.Rows PySem.SeqAt
set_option Elab.async false
set_option maxRecDepth 100000
namespace Mine
theorem flat_len {α : Type} (p : α → Bool) (Gs : α → List VP) (xs : List α) (i : Nat) (a : α) (ha : xs[i]? = some a) (hp : p a = true) :
    (((xs.take i).filter p).flatMap Gs).length + (Gs a).length ≤ ((xs.filter p).flatMap Gs).length := by
  have e : xs = xs.take (i + 1) ++ xs.drop (i + 1) := (List.take_append_drop _ _).symm
  have e1 : (xs.filter p).flatMap Gs = (((xs.take (i + 1)).filter p).flatMap Gs) ++ (((xs.drop (i + 1)).filter p).flatMap Gs) := by
    rw [← List.flatMap_append, ← List.filter_append, ← e]
  rw [e1, take_succ_filter p xs i a ha, hp]
  simp only [if_true, List.flatMap_append, List.length_append, List.flatMap_cons, List.flatMap_nil, List.append_nil]
  omega
section
variable {α : Type} {W : Wd} {n : Nat} {A : Around} {tgt elt : Expr} {gens : List Comprehension} {ifs : List Expr} {scope : Scope} {pos : Pos} {cenv : Env} {C D I : Addr} {oc fp wr : List Addr} {St : Nat → Heap → Prop} {xs : List α} {F : α → VP} {Gs : α → List VP} {p : α → Bool}
  {Bd : α → Heap → Cx → Prop} {s₀ sB s₁ : Shared} {cB c₁ : Cx} {R : Result → Shared → Prop} {d : Nat} {ys₀ : List Value} {inner : Around → (Shared → Prop) → (Value → Shared → Prop) → Shared → Prop}
theorem comp_loopN (tn : TurnAs W (.compLoop (.ListComp elt gens scope pos) d (.ref I) (.ref D) cenv) (compTurn (.ListComp elt gens scope pos) d (.ref I) (.ref D) cenv) tgt ifs (.ref I) cenv inner)
    (r : Room n A s₀.heap) (wk : Wk W tgt A c₁ I fp wr (xs.map F) St) (hDf : D ∉ fp) (hCf : ∀ b ∈ C :: oc, b ∉ fp) (hDC : D ∉ C :: oc)
    (hasg : ∀ a ∈ xs, Asg W tgt cenv C oc (F a) (Bd a)) (hBd : ∀ a ∈ xs, ∀ H H' c c', Bd a H c → HX H H' → Le c c' → Bd a H' c')
    (htest : ∀ a ∈ xs, ∀ H c, HX s₀.heap H → Le c₁ c → Bd a H c → PTs W n cenv H c ifs (p a))
    (hin : ∀ a ∈ xs, p a = true → ∀ (E : Value → Shared → Prop) (s : Shared) (c : Cx) (ys : List Value), HX s₀.heap s.heap → Le c₁ c → InS c s → Bd a s.heap c → CompOk C oc s.heap → s.heap.get? D = some (lst ys) → (∀ b ∈ D :: C :: oc, c.o b = none) → ys.length + (Gs a).length ≤ 100000 →
      ∀ Q : Shared → Prop, (∀ s' c' zs, Mv (D :: C :: oc) s c s' c' → CompOk C oc s'.heap → s'.heap.get? D = some (lst (ys ++ zs)) → AllOk c' (Gs a) zs → Q s') → inner A Q E s)
    (hsz : ys₀.length + ((xs.filter p).flatMap Gs).length ≤ 100000) (i₀ : ∀ b ∈ D :: (C :: oc ++ wr), c₁.o b = none) (k₀ : HX s₀.heap s₁.heap) (hnew : ∀ b ∈ D :: (C :: oc ++ wr), s₀.heap.get? b = none)
    (mB : Mv (D :: C :: oc) sB cB s₁ c₁) (hwB : ∀ b ∈ wr, sB.heap.get? b = none)
    (st₀ : St 0 s₁.heap) (ok₀ : CompOk C oc s₁.heap) (hD₀ : s₁.heap.get? D = some (lst ys₀))
    (hR : ∀ s' c' zs, Mv (D :: C :: oc) sB cB s' c' → CompOk C oc s'.heap → s'.heap.get? D = some (lst (ys₀ ++ zs)) → AllOk c' ((xs.filter p).flatMap Gs) zs → R (.ok .next) s') :
    codeAny W.M A (.compLoop (.ListComp elt gens scope pos) d (.ref I) (.ref D) cenv) R s₁ := by
  have mD : D ∈ D :: (C :: oc ++ wr) := List.mem_cons_self
  have mC : ∀ b ∈ C :: oc, b ∈ D :: (C :: oc ++ wr) := fun b hb => List.mem_cons_of_mem _ (List.mem_append_left _ hb)
  have mDC : ∀ b ∈ D :: C :: oc, b ∈ D :: (C :: oc ++ wr) := fun b hb => by
    rcases List.mem_cons.mp hb with rfl | hb
    · exact mD
    · exact mC b hb
  have mW : ∀ b ∈ wr, b ∈ D :: (C :: oc ++ wr) := fun b hb => List.mem_cons_of_mem _ (List.mem_append_right _ hb)
  have off₀ : ∀ b ∈ D :: (C :: oc ++ wr), c₁.o b = none ∧ ∃ o, s₁.heap.get? b = some o := by
    intro b hb
    refine ⟨i₀ b hb, ?_⟩
    rcases List.mem_cons.mp hb with rfl | hb
    · exact ⟨_, hD₀⟩
    · rcases List.mem_append.mp hb with hb | hb
      · exact ok₀.live b hb
      · exact wk.live _ _ st₀ b hb
  have outwr : ∀ b ∈ D :: C :: oc, b ∉ wr := fun b hb hw => by
    rcases List.mem_cons.mp hb with rfl | hb
    · exact hDf (wk.sub b hw)
    · exact hCf b hb (wk.sub b hw)
  have fpDC : ∀ b ∈ fp, b ∉ D :: C :: oc := fun b hb hm => by
    rcases List.mem_cons.mp hm with rfl | hm
    · exact hDf hb
    · exact hCf b hm hb
  refine codeAny_loop rfl (fun k s' => ∃ i c' ws, k = xs.length + 1 - i ∧ i ≤ xs.length ∧ Mv (D :: (C :: oc ++ wr)) s₁ c₁ s' c' ∧ St i s'.heap ∧ CompOk C oc s'.heap ∧ s'.heap.get? D = some (lst (ys₀ ++ ws)) ∧
    AllOk c' (((xs.take i).filter p).flatMap Gs) ws) ?_ (xs.length + 1) ⟨0, c₁, [], by omega, Nat.zero_le _, .refl mB.ins off₀, st₀, ok₀, by rw [List.append_nil]; exact hD₀, by simp only [List.take_zero, List.filter_nil, List.flatMap_nil]; exact .nil⟩
  rintro k s ⟨i, c, ws, rfl, hi, mv, st, ok, hD, hall⟩
  show wpAny _ A ((compTurn (.ListComp elt gens scope pos) d (.ref I) (.ref D) cenv).onRaise (fun x => do noteFrame x cenv; theTreesLotGoes x)) _ _ s
  refine wpAny_noted (tn _ _ _ _ ?_)
  by_cases hlt : i < xs.length
  · obtain ⟨a, ha⟩ : ∃ a, xs[i]? = some a := ⟨xs[i], List.getElem?_eq_getElem hlt⟩
    have hmem : a ∈ xs := List.mem_of_getElem? ha
    refine wpAny_mono (wk.item i s c (fun v s₂ => ∃ c', Mv wr s c s₂ c' ∧ St (i + 1) s₂.heap ∧ (F a).ok c' v) _ (F a) (by rw [List.getElem?_map, ha]; rfl) st mv.le mv.ins (fun b hb => (mv.off b (mW b hb)).1) (fun v s' c' m st' okv => ⟨c', m, st', okv⟩)) (fun rr s₂ h₂ => ?_) fun _ _ x => x
    cases rr with
    | none => exact h₂.elim
    | some v =>
      dsimp only at h₂ ⊢
      refine wpAny_mono h₂ (fun _ s₂ ⟨c₂, m₂, st₂, okv⟩ => ?_) fun _ _ x => x
      have M₂ := mv.trans (m₂.weaken mW mv.off)
      have ok₂ : CompOk C oc s₂.heap := ok.on fun b o hb e => m₂.keep b o (outwr b (List.mem_cons_of_mem _ hb)) e
      have hD₂ : s₂.heap.get? D = some (lst (ys₀ ++ ws)) := (m₂.keep D _ (outwr D List.mem_cons_self) hD).exact lst_nf
      refine wpAny_mono (hasg a hmem A _ s₂ c₂ v r.handled M₂.ins ok₂ okv) (fun _ s₃ h₃ => ?_) fun _ _ x => x
      obtain ⟨h', tk, rfl, htk, hk, ok₃, bd⟩ := h₃
      have A₃ := Mv.assign M₂.ins M₂.off mC htk hk ok₃
      have M₃ := M₂.trans A₃
      have st₃ : St (i + 1) h' := wk.frame _ _ _ st₂ fun b hb o e => hk b o (fun q => hCf b q hb) e
      have hD₃ : h'.get? D = some (lst (ys₀ ++ ws)) := (hk D _ hDC hD₂).exact lst_nf
      have HX₃ : HX s₀.heap h' := fun b o e => by
        have hb : b ∉ D :: (C :: oc ++ wr) := fun q => by rw [hnew b q] at e; cases e
        exact (k₀ b o e).on fun o e => M₃.keep b o hb e
      refine wpAny_mono (htest a hmem h' c₂ HX₃ M₃.le bd A _ _ c₂ (r.on HX₃) (HX.refl _) (Le.refl _) M₃.ins) (fun b s₄ ⟨c₄, k₄, hb⟩ => ?_) fun _ _ x => x
      subst hb
      have M₄ := M₃.after k₄
      have snoc : (((xs.take (i + 1)).filter p).flatMap Gs) = (((xs.take i).filter p).flatMap Gs) ++ (if p a then Gs a else []) := by
        rw [take_succ_filter p xs i a ha, List.flatMap_append]
        cases p a <;> simp
      have hD₄ : s₄.heap.get? D = some (lst (ys₀ ++ ws)) := (k₄.keep _ _ hD₃).exact lst_nf
      have ok₄ := ok₃.keep k₄.keep
      have st₄ := wk.frame _ _ _ st₃ fun b _ o e => k₄.keep b o e
      cases hp : p a with
      | false =>
        simp only [Bool.false_eq_true, if_false]
        refine ⟨trivial, _, ?_, i + 1, c₄, ws, rfl, hlt, M₄, st₄, ok₄, hD₄, ?_⟩
        · omega
        · rw [snoc, hp]; simp only [Bool.false_eq_true, if_false, List.append_nil]; exact hall.mono (m₂.le.trans (A₃.le.trans k₄.le))
      | true =>
        simp only [if_true]
        have hln := flat_len p Gs xs i a ha hp
        have hws := hall.len
        refine hin a hmem hp _ s₄ c₄ (ys₀ ++ ws) (HX₃.trans k₄.keep) M₄.le M₄.ins (hBd a hmem _ _ _ _ bd k₄.keep k₄.le) ok₄ hD₄ (fun b hb => (M₄.off b (mDC b hb)).1) (by rw [List.length_append]; omega) _ fun s₅ c₅ zs m₅ ok₅ hD₅ hz => ?_
        have M₅ := M₄.trans (m₅.weaken mDC M₄.off)
        refine ⟨trivial, _, ?_, i + 1, c₅, ws ++ zs, rfl, hlt, M₅, wk.frame _ _ _ st₄ fun b hb o e => m₅.keep b o (fpDC b hb) e, ok₅, by rw [← List.append_assoc]; exact hD₅, ?_⟩
        · omega
        · rw [snoc, hp]
          simp only [if_true]
          exact (hall.mono (m₂.le.trans (A₃.le.trans (k₄.le.trans m₅.le)))).append hz
  · obtain rfl : i = xs.length := by omega
    rw [show xs.length = (xs.map F).length from (List.length_map ..).symm] at st
    refine wk.done s _ _ st fun h' tk hk ht => ?_
    refine hR _ c ws ⟨?_, ?_, mB.le.trans mv.le, ⟨?_, mv.ins.nf, ?_, ?_⟩, ?_, fun b hb => ⟨(mv.off b (mDC b hb)).1, ?_⟩⟩ (ok.on fun b o hb e => hk b o (outwr b (List.mem_cons_of_mem _ hb)) e) ((hk D _ (outwr D List.mem_cons_self) hD).exact lst_nf) (by rw [List.take_length] at hall; exact hall)
    · obtain ⟨h1, t1, rfl⟩ := mB.same
      obtain ⟨h2, t2, rfl⟩ := mv.same
      exact ⟨_, _, rfl⟩
    · intro b o hb e
      have hbw : b ∉ wr := fun q => by rw [hwB b q] at e; cases e
      have hb' : b ∉ D :: (C :: oc ++ wr) := fun q => by
        rcases List.mem_cons.mp q with q | q
        · exact hb (q ▸ List.mem_cons_self)
        · rcases List.mem_append.mp q with q | q
          · exact hb (List.mem_cons_of_mem _ q)
          · exact hbw q
      exact ((mB.keep b o hb e).on fun o e => mv.keep b o hb' e).on fun o e => hk b o hbw e
    · intro b x e
      exact (hk b x (fun q => by rw [(mv.off b (mW b q)).1] at e; cases e) (mv.ins.o b x e)).exact (mv.ins.nf b x e)
    · exact Nat.lt_of_lt_of_le mv.ins.pos ht
    · exact fun t v e => Nat.lt_of_lt_of_le (mv.ins.lt t v e) ht
    · intro b x e
      rcases mv.new b x e with q | q
      · exact mB.new b x q
      · by_cases hb : b ∈ D :: C :: oc
        · rw [(mv.off b (mDC b hb)).1] at e; cases e
        · refine .inr ?_
          cases w : sB.heap.get? b with
          | none => rfl
          | some o => obtain ⟨o', e', _⟩ := mB.keep b o hb w; rw [q] at e'; cases e'
    · obtain ⟨o, e⟩ := (mv.off b (mDC b hb)).2
      exact (hk b o (outwr b hb) e).live
end
end Mine

/-! ### K3 -/
open PySem PySem.W PyProof.Rows PySem.SeqAt
set_option Elab.async false
set_option maxRecDepth 100000
namespace Mine
section
variable {α β : Type} {W : Wd} {n : Nat} {A : Around} {E : Value → Shared → Prop} {t1 i1 t2 i2 elt : Expr} {ifs : List Expr} {scope : Scope} {pos pos' : Pos} {env cenv : Env} {cl : List (Str × Addr)} {xs : List α} {F₁ : α → VP} {p : α → Bool} {ysf : α → List β} {F₂ G : β → VP} {P : VP}
  {s : Shared} {H : Heap} {c c₁ : Cx} {C D : Addr} {oc : List Addr} {ys : List Value}
theorem own_live (ok : CompOk C oc s.heap) (hD : s.heap.get? D = some (lst ys)) (off : ∀ b ∈ D :: C :: oc, c.o b = none) : ∀ b ∈ D :: C :: oc, c.o b = none ∧ ∃ o, s.heap.get? b = some o := fun b hb => by
  refine ⟨off b hb, ?_⟩
  rcases List.mem_cons.mp hb with rfl | hb
  · exact ⟨_, hD⟩
  · exact ok.live b hb
theorem in1_ok (pe : PE W n cenv s.heap c elt P) (r : Room n A s.heap) (ins : InS c s) (ok : CompOk C oc s.heap) (hD : s.heap.get? D = some (lst ys)) (off : ∀ b ∈ D :: C :: oc, c.o b = none) (hDC : D ∉ C :: oc) (hsz : ys.length + 1 ≤ 100000) {Q : Shared → Prop}
    (hQ : ∀ s' c' zs, Mv (D :: C :: oc) s c s' c' → CompOk C oc s'.heap → s'.heap.get? D = some (lst (ys ++ zs)) → AllOk c' [P] zs → Q s') : inner1 W elt (.ref D) cenv A Q E s := by
  refine wpAny_mono (pe A E s c r (HX.refl _) (Le.refl _) ins) (fun y s₅ ⟨c₅, k₅, oky⟩ => ?_) fun _ _ x => x
  have M₅ := k₅.mv (own_live ok hD off)
  have hD₅ : s₅.heap.get? D = some (lst ys) := (k₅.keep _ _ hD).exact lst_nf
  refine append_at (hsz := by rw [List.size_toArray, sizeLine_eq]; omega) hD₅ fun h₆ hs₆ hD₆ => ?_
  rw [LCg.lst_snoc] at hD₆
  have M₆ := M₅.trans (Mv.change (tk := s₅.toks) M₅.ins M₅.off List.mem_cons_self hs₆ ⟨_, hD₆⟩ (Nat.le_refl _))
  exact hQ _ c₅ [y] M₆ ((ok.keep k₅.keep).on fun b o hb e => .of (hs₆.extBut b o (fun q => hDC (q ▸ hb)) e)) hD₆ (.cons oky .nil)
abbrev e2 (elt t1 i1 t2 i2 : Expr) (ifs : List Expr) (scope : Scope) (pos : Pos) : Expr := .ListComp elt [⟨t1, i1, ifs, 0⟩, ⟨t2, i2, [], 0⟩] scope pos
/-- the inner clause, once -/
theorem in0_ok {a : α} {Bd₂ : β → Heap → Cx → Prop} (itE : IterE W n t2 cenv s.heap c i2 ((ysf a).map F₂)) (ins : InS c s) (ok : CompOk C oc s.heap) (hD : s.heap.get? D = some (lst ys)) (off : ∀ b ∈ D :: C :: oc, c.o b = none) (hDC : D ∉ C :: oc)
    (hasg : ∀ b ∈ ysf a, Asg W t2 cenv C oc (F₂ b) (Bd₂ b)) (hBd : ∀ b ∈ ysf a, ∀ H H' c c', Bd₂ b H c → HX H H' → Le c c' → Bd₂ b H' c')
    (s₀ : Shared) (r₀ : Room n A s₀.heap) (hs₀ : HX s₀.heap s.heap) (hnew : ∀ b ∈ D :: C :: oc, s₀.heap.get? b = none)
    (helt : ∀ b ∈ ysf a, ∀ H' c', HX s₀.heap H' → Le c c' → Bd₂ b H' c' → PE W n cenv H' c' elt (G b))
    (hsz : ys.length + (ysf a).length ≤ 100000) {Q : Shared → Prop}
    (hQ : ∀ s' c' zs, Mv (D :: C :: oc) s c s' c' → CompOk C oc s'.heap → s'.heap.get? D = some (lst (ys ++ zs)) → AllOk c' ((ysf a).map G) zs → Q s') :
    inner0 W elt t1 i1 t2 i2 ifs [] scope pos (.ref D) cenv A Q E s := by
  refine wpAny_mono (itE A E s c (r₀.on hs₀) (HX.refl _) (Le.refl _) ins) (fun xv s₁ h₁ => wpAny_mono h₁ (fun it s₂ h₂ => ?_) fun _ _ x => x) fun _ _ x => x
  obtain ⟨I, fp, wr, St, c₂, rfl, k₂, wk, st₀, hfp, hwr, hfv⟩ := h₂
  have ownl := own_live ok hD off
  have M₂ := k₂.mv ownl
  have nwr : ∀ b ∈ D :: C :: oc, b ∉ wr := fun b hb hw => by
    obtain ⟨o, e⟩ := (ownl b hb).2
    rw [(hwr b hw).1] at e; cases e
  have nfp : ∀ b ∈ D :: C :: oc, b ∉ fp := fun b hb hf => by
    obtain ⟨o, e⟩ := hfv b hf (nwr b hb)
    rw [(M₂.off b hb).1] at e; cases e
  have hflat : ((ysf a).filter fun _ => true).flatMap (fun b => [G b]) = (ysf a).map G := by
    rw [List.filter_eq_self.mpr (fun _ _ => rfl)]
    induction ysf a with
    | nil => rfl
    | cons b l ih => rw [List.flatMap_cons, List.map_cons, ih]; rfl
  have loop : codeAny W.M A (.compLoop (e2 elt t1 i1 t2 i2 ifs scope pos) 1 (.ref I) (.ref D) cenv) (fun r s' => match r with | .ok _ => Q s' | .error e => cameBackBy W.M A cenv E e s') s₂ := by
    refine comp_loopN (s₀ := s₀) (sB := s) (cB := c) (p := fun _ => true) (Gs := fun b => [G b]) (ys₀ := ys) (turn_two1 W elt t1 i1 t2 i2 ifs [] scope pos (.ref I) (.ref D) cenv)
      r₀ wk (nfp D List.mem_cons_self) (fun b hb => nfp b (List.mem_cons_of_mem _ hb)) hDC hasg hBd (fun _ _ _ _ _ _ _ => .nil)
      (fun b hb _ E s' c' ys' hx le ins' bd ok' hD' off' hsz' Q' hQ' => in1_ok (helt b hb _ _ hx (k₂.le.trans le) bd) (r₀.on hx) ins' ok' hD' off' hDC hsz' hQ')
      (by rw [hflat, List.length_map]; exact hsz) ?_ (hs₀.trans k₂.keep) ?_ M₂ (fun b hb => (hwr b hb).1) st₀ (ok.keep k₂.keep) ((k₂.keep _ _ hD).exact lst_nf) (fun s' c' zs m ok' hD' hz => hQ s' c' zs m ok' hD' (by rw [hflat] at hz; exact hz))
    · intro b hb
      rcases List.mem_cons.mp hb with rfl | hb
      · exact (M₂.off b List.mem_cons_self).1
      · rcases List.mem_append.mp hb with hb | hb
        · exact (M₂.off b (List.mem_cons_of_mem _ hb)).1
        · exact (hwr b hb).2
    · intro b hb
      rcases List.mem_cons.mp hb with rfl | hb
      · exact hnew b List.mem_cons_self
      · rcases List.mem_append.mp hb with hb | hb
        · exact hnew b (List.mem_cons_of_mem _ hb)
        · exact none_of_keep hs₀ (hwr b hb).1
  exact codeAny_compStart1 loop (wk.self 0 _ _ _ st₀ loop)
end
end Mine

/-! ### K4 -/
open PySem PySem.W PyProof.Rows PySem.SeqAt
set_option Elab.async false
set_option maxRecDepth 100000
namespace Mine
section
variable {α β : Type} {W : Wd} {n : Nat} {A : Around} {E : Value → Shared → Prop} {t1 i1 t2 i2 elt : Expr} {ifs : List Expr} {scope : Scope} {pos pos' : Pos} {env : Env} {cl : List (Str × Addr)} {oc : Addr → List Addr} {xs : List α} {F₁ : α → VP} {p : α → Bool} {ysf : α → List β} {F₂ G : β → VP}
  {Bd : Addr → α → Heap → Cx → Prop} {Bd₂ : Addr → β → Heap → Cx → Prop} {s : Shared} {H : Heap} {c c₁ : Cx}
theorem comp2_any0 {use : Option (Value → Sem Unit)} {Q : Value → Shared → Prop} (r : Room n A s.heap) (itE : IterE W n t1 env H c i1 (xs.map F₁))
    (hclos : closureFor scope env = pure cl) (hkind : scope.kind = .function) (hnames : ∀ y ∈ scope.names, y.2 = .local → scope.names.lookup y.1 = some .local) (cells : Cells scope oc)
    (hasg : ∀ a ∈ xs, ∀ C, Asg W t1 (cEnv scope cl env C) C (oc C) (F₁ a) (Bd C a)) (hBd : ∀ C, ∀ a ∈ xs, ∀ H H' c c', Bd C a H c → HX H H' → Le c c' → Bd C a H' c')
    (htest : ∀ a ∈ xs, ∀ C H' c', HX H H' → Le c c' → Bd C a H' c' → PTs W n (cEnv scope cl env C) H' c' ifs (p a))
    (hit2 : ∀ a ∈ xs, p a = true → ∀ C H' c', HX H H' → Le c c' → Bd C a H' c' → IterE W n t2 (cEnv scope cl env C) H' c' i2 ((ysf a).map F₂))
    (hasg₂ : ∀ a ∈ xs, ∀ b ∈ ysf a, ∀ C, Asg W t2 (cEnv scope cl env C) C (oc C) (F₂ b) (Bd₂ C b)) (hBd₂ : ∀ C, ∀ a ∈ xs, ∀ b ∈ ysf a, ∀ H H' c c', Bd₂ C b H c → HX H H' → Le c c' → Bd₂ C b H' c')
    (helt : ∀ a ∈ xs, ∀ b ∈ ysf a, ∀ C H' c', HX H H' → Le c c' → Bd₂ C b H' c' → PE W n (cEnv scope cl env C) H' c' elt (G b))
    (hsz : ((xs.filter p).flatMap ysf).length ≤ 100000) (hx : HX H s.heap) (le : Le c c₁) (ins : InS c₁ s)
    (hfin : ∀ s' c' C D ys, Kp s c₁ s' c' → s.heap.get? D = none → c'.o D = none → s'.heap.get? D = some (lst ys) → AllOk c' (((xs.filter p).flatMap ysf).map G) ys → s.heap.get? C = none → c'.o C = none → C ≠ D → (∃ m, s'.heap.Ns C m) → compPost W.M A E use Q (.ref D) C (.ok .next) s')
    (hs : ∀ x, foldedSetIterable i1 env x = pure x := by intro _; rfl) (hs₂ : ∀ C x, foldedSetIterable i2 (cEnv scope cl env C) x = pure x := by intro _ _; rfl) :
    wpAny W.M A (comprehension (.ListComp elt [⟨t1, i1, ifs, 0⟩, ⟨t2, i2, [], 0⟩] scope pos) scope env pos' (newList []) false (eval i1 env) use) Q E s := by
  refine wpAny_comprehension_free rfl hs hclos hkind hnames (wpAny_mono (itE A E s c₁ r hx le ins) (fun xv s₁ h₁ => wpAny_mono h₁ (fun it s₂ h₂ => ?_) fun _ _ x => x) fun _ _ x => x)
  obtain ⟨I, fp, wr, St, c₂, rfl, k₂, wk, st₀, hfp, hwr, _⟩ := h₂
  refine wpAny_newObj_type (wpAny_newCompEnv ?_)
  generalize hD : s₂.heap.objs.size = D
  generalize hh2 : s₂.heap.push { cls := .type "list", dict := none, data := .seq ([] : List Value).toArray } = h2
  have hC : h2.objs.size = D + 1 := by rw [← hh2, Heap.size_push, hD]
  have hDlt : D < h2.objs.size := by omega
  have up1 : HX s₂.heap h2 := hh2 ▸ HX.push _ _
  have up2 : HX h2 (pushCells (h2.push { cls := .type "dict", data := .dict #[] }) scope.names) := fun b o e => .of (pushCells_keeps _ _ b o (Heap.get?_push_of_some _ e))
  have up : HX s₂.heap (pushCells (h2.push { cls := .type "dict", data := .dict #[] }) scope.names) := up1.trans up2
  have hD2 : h2.get? D = some (lst []) := by rw [← hh2, ← hD]; exact Heap.get?_push_size _ rfl
  have ok := cells.ok h2
  have k₃ : Kp s₂ c₂ { s₂ with heap := pushCells (h2.push { cls := .type "dict", data := .dict #[] }) scope.names } c₂ := Kp.heap k₂.ins up
  have big : ∀ b ∈ h2.objs.size :: oc h2.objs.size, h2.objs.size ≤ b := fun b hb => by
    rcases List.mem_cons.mp hb with rfl | hb
    · exact Nat.le_refl _
    · exact Nat.le_of_lt (cells.gt _ b hb)
  have fresh : ∀ b, s₂.heap.objs.size ≤ b → s.heap.get? b = none := fun b hb => none_of_keep k₂.keep (Heap.get?_none_of_le hb)
  have hDf : D ∉ fp := fun hm => absurd (hfp D hm) (by rw [hD]; exact Nat.lt_irrefl _)
  have hCf : ∀ b ∈ h2.objs.size :: oc h2.objs.size, b ∉ fp := fun b hb hm => absurd (hfp b hm) (Nat.not_lt.mpr (Nat.le_trans (by omega) (big b hb)))
  have hDC : D ∉ h2.objs.size :: oc h2.objs.size := fun hm => by have := big D hm; omega
  have hnew : ∀ b ∈ D :: (h2.objs.size :: oc h2.objs.size ++ wr), s.heap.get? b = none := fun b hb => by
    rcases List.mem_cons.mp hb with rfl | hb
    · exact fresh b (by omega)
    · rcases List.mem_append.mp hb with hb | hb
      · exact fresh b (by have := big b hb; omega)
      · exact (hwr b hb).1
  have hoff : ∀ b ∈ D :: (h2.objs.size :: oc h2.objs.size ++ wr), c₂.o b = none := fun b hb => by
    rcases List.mem_cons.mp hb with rfl | hb
    · exact k₂.ins.none (Heap.get?_none_of_le (by omega))
    · rcases List.mem_append.mp hb with hb | hb
      · exact k₂.ins.none (Heap.get?_none_of_le (by have := big b hb; omega))
      · exact (hwr b hb).2
  have mDC : ∀ b ∈ D :: h2.objs.size :: oc h2.objs.size, b ∈ D :: (h2.objs.size :: oc h2.objs.size ++ wr) := fun b hb => by
    rcases List.mem_cons.mp hb with rfl | hb
    · exact List.mem_cons_self
    · exact List.mem_cons_of_mem _ (List.mem_append_left _ hb)
  have hfl : ((xs.filter p).flatMap fun a => (ysf a).map G) = ((xs.filter p).flatMap ysf).map G := by
    induction xs.filter p with
    | nil => rfl
    | cons a l ih => rw [List.flatMap_cons, List.flatMap_cons, List.map_append, ih]
  have loop : ∀ s₃ : Shared, s₃ = { s₂ with heap := pushCells (h2.push { cls := .type "dict", data := .dict #[] }) scope.names } →
      codeAny W.M A (.compLoop (e2 elt t1 i1 t2 i2 ifs scope pos) 0 (.ref I) (.ref D) (cEnv scope cl env h2.objs.size)) (compPost W.M A E use Q (.ref D) h2.objs.size) s₃ := by
    rintro s₃ rfl
    have hD3 := (up2 _ _ hD2).exact lst_nf
    have kk := (k₂.trans k₃).self
    have mB : Mv (D :: h2.objs.size :: oc h2.objs.size) s c₂ { s₂ with heap := pushCells (h2.push { cls := .type "dict", data := .dict #[] }) scope.names } c₂ :=
      ⟨kk.same, fun b o _ e => kk.keep b o e, kk.le, kk.ins, kk.new, own_live ok hD3 fun b hb => hoff b (mDC b hb)⟩
    refine comp_loopN (s₀ := s) (sB := s) (cB := c₂) (p := p) (Gs := fun a => (ysf a).map G) (ys₀ := []) (turn_two0 W elt t1 i1 t2 i2 ifs [] scope pos (.ref I) (.ref D) _ (hs₂ _)) r wk hDf hCf hDC (fun a ha => hasg a ha h2.objs.size) (hBd _)
      (fun a ha H' c' h1 h2' => htest a ha _ H' c' (hx.trans h1) (le.trans (k₂.le.trans h2')))
      (fun a ha hp E s' c' ys' hx' le' ins' bd ok' hD' off' hsz' Q' hQ' => in0_ok (hit2 a ha hp _ _ _ (hx.trans hx') (le.trans (k₂.le.trans le')) bd) ins' ok' hD' off' hDC (fun b hb => hasg₂ a ha b hb _) (hBd₂ _ a ha) s r hx' (fun b hb => hnew b (mDC b hb))
        (fun b hb H'' c'' hx'' le'' bd'' => helt a ha b hb _ _ _ (hx.trans hx'') (le.trans (k₂.le.trans (le'.trans le''))) bd'') (by rw [List.length_map] at hsz'; exact hsz') hQ')
      (by rw [hfl, List.length_map]; simpa using hsz) hoff (k₂.trans k₃).keep hnew mB (fun b hb => (hwr b hb).1) (wk.frame _ _ _ st₀ fun b _ o e => up b o e) ok hD3 fun s' c' zs m ok' hDs hall => ?_
    have hCD : h2.objs.size ≠ D := by omega
    have k := m.kp fun b hb => hnew b (mDC b hb)
    exact hfin s' c' h2.objs.size D zs (k₂.rebase k) (hnew D List.mem_cons_self) (m.off D List.mem_cons_self).1 hDs (hfl ▸ hall) (fresh _ (by omega)) (m.off _ (List.mem_cons_of_mem _ List.mem_cons_self)).1 hCD ok'.1
  exact codeAny_compStart_list (loop _ rfl) (wk.self 0 _ _ _ (wk.frame _ _ _ st₀ fun b _ o e => up b o e) (loop _ rfl))
theorem comp2_any {use : Option (Value → Sem Unit)} {Q : Value → Shared → Prop} (r : Room n A s.heap) (itE : IterE W n t1 env H c i1 (xs.map F₁))
    (hclos : closureFor scope env = pure cl) (hkind : scope.kind = .function) (hnames : ∀ y ∈ scope.names, y.2 = .local → scope.names.lookup y.1 = some .local) (cells : Cells scope oc)
    (hasg : ∀ a ∈ xs, ∀ C, Asg W t1 (cEnv scope cl env C) C (oc C) (F₁ a) (Bd C a)) (hBd : ∀ C, ∀ a ∈ xs, ∀ H H' c c', Bd C a H c → HX H H' → Le c c' → Bd C a H' c')
    (htest : ∀ a ∈ xs, ∀ C H' c', HX H H' → Le c c' → Bd C a H' c' → PTs W n (cEnv scope cl env C) H' c' ifs (p a))
    (hit2 : ∀ a ∈ xs, p a = true → ∀ C H' c', HX H H' → Le c c' → Bd C a H' c' → IterE W n t2 (cEnv scope cl env C) H' c' i2 ((ysf a).map F₂))
    (hasg₂ : ∀ a ∈ xs, ∀ b ∈ ysf a, ∀ C, Asg W t2 (cEnv scope cl env C) C (oc C) (F₂ b) (Bd₂ C b)) (hBd₂ : ∀ C, ∀ a ∈ xs, ∀ b ∈ ysf a, ∀ H H' c c', Bd₂ C b H c → HX H H' → Le c c' → Bd₂ C b H' c')
    (helt : ∀ a ∈ xs, ∀ b ∈ ysf a, ∀ C H' c', HX H H' → Le c c' → Bd₂ C b H' c' → PE W n (cEnv scope cl env C) H' c' elt (G b))
    (hsz : ((xs.filter p).flatMap ysf).length ≤ 100000) (hx : HX H s.heap) (le : Le c c₁) (ins : InS c₁ s)
    (hfin : ∀ s' c' C D, Kp s c₁ s' c' → (ListV (((xs.filter p).flatMap ysf).map G)).ok c' (.ref D) → s.heap.get? C = none → c'.o C = none → (∃ m, s'.heap.Ns C m) → compPost W.M A E use Q (.ref D) C (.ok .next) s')
    (hs : ∀ x, foldedSetIterable i1 env x = pure x := by intro _; rfl) (hs₂ : ∀ C x, foldedSetIterable i2 (cEnv scope cl env C) x = pure x := by intro _ _; rfl) :
    wpAny W.M A (comprehension (.ListComp elt [⟨t1, i1, ifs, 0⟩, ⟨t2, i2, [], 0⟩] scope pos) scope env pos' (newList []) false (eval i1 env) use) Q E s :=
  comp2_any0 r itE hclos hkind hnames cells hasg hBd htest hit2 hasg₂ hBd₂ helt hsz hx le ins (fun s' c' C D ys k hD hDn hDs hall hC hC' hCD hm => by
    refine hfin s' (c'.put D (lst ys)) C D (k.put hD hDn hDs lst_nf) (ListV.new hDn hall) hC ?_ hm
    show (if C = D then _ else c'.o C) = none
    rw [if_neg hCD]
    exact hC') hs hs₂
/-- a list comprehension of two clauses -/
theorem PE.comp2 (itE : IterE W n t1 env H c i1 (xs.map F₁))
    (hclos : closureFor scope env = pure cl) (hkind : scope.kind = .function) (hnames : ∀ y ∈ scope.names, y.2 = .local → scope.names.lookup y.1 = some .local) (cells : Cells scope oc)
    (hasg : ∀ a ∈ xs, ∀ C, Asg W t1 (cEnv scope cl env C) C (oc C) (F₁ a) (Bd C a)) (hBd : ∀ C, ∀ a ∈ xs, ∀ H H' c c', Bd C a H c → HX H H' → Le c c' → Bd C a H' c')
    (htest : ∀ a ∈ xs, ∀ C H' c', HX H H' → Le c c' → Bd C a H' c' → PTs W n (cEnv scope cl env C) H' c' ifs (p a))
    (hit2 : ∀ a ∈ xs, p a = true → ∀ C H' c', HX H H' → Le c c' → Bd C a H' c' → IterE W n t2 (cEnv scope cl env C) H' c' i2 ((ysf a).map F₂))
    (hasg₂ : ∀ a ∈ xs, ∀ b ∈ ysf a, ∀ C, Asg W t2 (cEnv scope cl env C) C (oc C) (F₂ b) (Bd₂ C b)) (hBd₂ : ∀ C, ∀ a ∈ xs, ∀ b ∈ ysf a, ∀ H H' c c', Bd₂ C b H c → HX H H' → Le c c' → Bd₂ C b H' c')
    (helt : ∀ a ∈ xs, ∀ b ∈ ysf a, ∀ C H' c', HX H H' → Le c c' → Bd₂ C b H' c' → PE W n (cEnv scope cl env C) H' c' elt (G b))
    (hsz : ((xs.filter p).flatMap ysf).length ≤ 100000)
    (hs : ∀ x, foldedSetIterable i1 env x = pure x := by intro _; rfl) (hs₂ : ∀ C x, foldedSetIterable i2 (cEnv scope cl env C) x = pure x := by intro _ _; rfl) :
    PE W n env H c (.ListComp elt [⟨t1, i1, ifs, 0⟩, ⟨t2, i2, [], 0⟩] scope pos) (ListV (((xs.filter p).flatMap ysf).map G)) := by
  intro A E s c₁ r hx le ins
  rw [eval_ListComp]
  refine comp2_any r itE hclos hkind hnames cells hasg hBd htest hit2 hasg₂ hBd₂ helt hsz hx le ins (fun s' c' C D k ok hC hC' hm => ?_) hs hs₂
  obtain ⟨m, hm⟩ := hm
  refine ⟨m, hm, fun h' hs' => ⟨c', ?_, ok⟩⟩
  refine ⟨?_, fun b o e => (k.keep b o e).on fun o' e' => .of (hs'.extBut b o' (fun q => by rw [q, hC] at e; cases e) e'), k.le, ⟨fun b x e => hs'.extBut b x (fun q => by rw [q, hC'] at e; cases e) (k.ins.o b x e), k.ins.nf, k.ins.pos, k.ins.lt⟩, k.new⟩
  obtain ⟨h1, t1, rfl⟩ := k.same
  exact ⟨_, _, rfl⟩
end
section
variable {α β : Type} {W : Wd} {n : Nat} {A : Around} {E : Value → Shared → Prop} {Q : Flow → Shared → Prop} {H₀ : Heap} {sb : Shared} {cb : Cx} {V : Vars} {s : Shared} {c : Cx} {t1 i1 t2 i2 elt : Expr} {ifs : List Expr} {scope : Scope} {pos spos py : Pos} {y : Str} {env : Env} {cl : List (Str × Addr)} {oc : Addr → List Addr} {xs : List α} {F₁ : α → VP} {p : α → Bool} {ysf : α → List β} {F₂ G : β → VP}
  {Bd : Addr → α → Heap → Cx → Prop} {Bd₂ : Addr → β → Heap → Cx → Prop} {fo : List Addr} {rest : List Stmt}
/-- a name takes a comprehension's list of two clauses -/
theorem st_comp2 (f : Frm H₀ sb cb env fo V s c) (r : RoomB n A H₀ env) (itE : IterE W n t1 env s.heap c i1 (xs.map F₁))
    (hsw : swapsWith (.ListComp elt [⟨t1, i1, ifs, 0⟩, ⟨t2, i2, [], 0⟩] scope pos) (some (.Name y py)) spos.line env = pure true)
    (hclos : closureFor scope env = pure cl) (hkind : scope.kind = .function) (hnames : ∀ y ∈ scope.names, y.2 = .local → scope.names.lookup y.1 = some .local) (cells : Cells scope oc)
    (hasg : ∀ a ∈ xs, ∀ C, Asg W t1 (cEnv scope cl env C) C (oc C) (F₁ a) (Bd C a)) (hBd : ∀ C, ∀ a ∈ xs, ∀ H H' c c', Bd C a H c → HX H H' → Le c c' → Bd C a H' c')
    (htest : ∀ a ∈ xs, ∀ C H' c', HX s.heap H' → Le c c' → Bd C a H' c' → PTs W n (cEnv scope cl env C) H' c' ifs (p a))
    (hit2 : ∀ a ∈ xs, p a = true → ∀ C H' c', HX s.heap H' → Le c c' → Bd C a H' c' → IterE W n t2 (cEnv scope cl env C) H' c' i2 ((ysf a).map F₂))
    (hasg₂ : ∀ a ∈ xs, ∀ b ∈ ysf a, ∀ C, Asg W t2 (cEnv scope cl env C) C (oc C) (F₂ b) (Bd₂ C b)) (hBd₂ : ∀ C, ∀ a ∈ xs, ∀ b ∈ ysf a, ∀ H H' c c', Bd₂ C b H c → HX H H' → Le c c' → Bd₂ C b H' c')
    (helt : ∀ a ∈ xs, ∀ b ∈ ysf a, ∀ C H' c', HX s.heap H' → Le c c' → Bd₂ C b H' c' → PE W n (cEnv scope cl env C) H' c' elt (G b))
    (hsz : ((xs.filter p).flatMap ysf).length ≤ 100000) (hy : env.kindOf y = some .local)
    (k : ∀ s' c', Frm H₀ sb cb env fo (V.set y (ListV (((xs.filter p).flatMap ysf).map G))) s' c' → wpAny W.M A (execs rest env) Q E s')
    (hs : ∀ x, foldedSetIterable i1 env x = pure x := by intro _; rfl) (hs₂ : ∀ C x, foldedSetIterable i2 (cEnv scope cl env C) x = pure x := by intro _ _; rfl) :
    wpAny W.M A (execs (.Assign [.Name y py] (.ListComp elt [⟨t1, i1, ifs, 0⟩, ⟨t2, i2, [], 0⟩] scope pos) spos :: rest) env) Q E s := by
  refine wpAny_execs_cons ?_
  rw [exec_Assign_Name_used _ _ _ _ hsw]
  refine wpAny_bind (wpAny_standAt (wpAny_bind ?_))
  show wpAny _ A (do let _ ← comprehension (.ListComp elt [⟨t1, i1, ifs, 0⟩, ⟨t2, i2, [], 0⟩] scope pos) scope env _ (newList []) false (eval i1 env) (some (assign (.Name y py) env))) _ _ s
  refine wpAny_bind (wpAny_mono (comp2_any (use := some (assign (.Name y py) env)) (Q := fun _ s' => wpAny W.M A (execs rest env) Q E s') (f.room r) itE hclos hkind hnames cells hasg hBd htest hit2 hasg₂ hBd₂ helt hsz (HX.refl _) (Le.refl _) f.ins (fun s' c' C D kk ok hC hC' hm => ?_) hs hs₂) (fun _ s' hq => wpAny_pure (wpAny_pure hq)) fun _ _ x => x)
  have f' := f.step kk
  obtain ⟨m, hm⟩ := hm
  have hCown : ∀ b ∈ env.locals :: fo, b ≠ C := fun b hb q => by
    obtain ⟨o, e⟩ := (f.mv.off b hb).2
    rw [q, hC] at e; cases e
  refine wpAny_assign_Name (f'.base.store ok (.inl hy) fun s₂ g₂ => ?_)
  have f₂ := f'.trans g₂
  have hm₂ : s₂.heap.Ns C m := ns_gt hm fun o e => g₂.mv.keep C o (fun h => hCown C h rfl) e
  have hsb : sb.heap.get? C = none := by
    cases q : sb.heap.get? C with
    | none => rfl
    | some o =>
      obtain ⟨o', e', _⟩ := f.mv.keep C o (fun h => hCown C h rfl) q
      rw [hC] at e'; cases e'
  refine ⟨m, hm₂, fun h' hs' => k _ c' ?_⟩
  refine f₂.outside0 (own := [C]) ⟨⟨h', s₂.toks, rfl⟩, fun b o hb e => .of (hs'.extBut b o (fun q => hb (q ▸ List.mem_singleton.mpr rfl)) e), Le.refl _, ⟨fun b x e => hs'.extBut b x (fun q => by rw [q, hC'] at e; cases e) (f₂.ins.o b x e), f₂.ins.nf, f₂.ins.pos, f₂.ins.lt⟩, fun _ _ e => .inl e⟩
    (fun b hb hm => hCown b hb (List.mem_singleton.mp hm)) (fun b hb => by rw [List.mem_singleton.mp hb]; exact hsb)
end
end Mine

/-! ### K5 -/
open PySem PySem.W PyProof.Rows PySem.SeqAt
set_option Elab.async false
set_option maxRecDepth 100000
namespace Mine
def lsv (ys : List Value) (v : Nat) : Obj := { cls := .type "list", data := .seq ys.toArray v }
theorem lsv_nf {ys : List Value} {v : Nat} : NoD (lsv ys v) := by intro _ _ h; cases h
/-- a list that the frame's own code may still change: its items are told -/
structure OwnL (sb : Shared) (env : Env) (fo : List Addr) (D : Addr) (L : List VP) (s : Shared) (c : Cx) : Prop where
  get : ∃ ys v, s.heap.get? D = some (lsv ys v) ∧ AllOk c L ys
  off : c.o D = none
  new : sb.heap.get? D = none
  out : D ∉ env.locals :: fo
theorem OwnL.live {sb : Shared} {env : Env} {fo : List Addr} {D : Addr} {L : List VP} {s : Shared} {c : Cx} (w : OwnL sb env fo D L s c) : ∃ o, s.heap.get? D = some o := let ⟨_, _, e, _⟩ := w.get; ⟨_, e⟩
theorem OwnL.mv {sb : Shared} {env : Env} {fo : List Addr} {D : Addr} {L : List VP} {s s' : Shared} {c c' : Cx} {own : List Addr} (w : OwnL sb env fo D L s c) (m : Mv own s c s' c') (h : D ∉ own) : OwnL sb env fo D L s' c' where
  get := let ⟨ys, v, e, ok⟩ := w.get; ⟨ys, v, (m.keep D _ h e).exact lsv_nf, ok.mono m.le⟩
  off := by
    cases q : c'.o D with
    | none => rfl
    | some o =>
      rcases m.new D o q with e | e
      · rw [w.off] at e; cases e
      · obtain ⟨o', e'⟩ := w.live; rw [e'] at e; cases e
  new := w.new
  out := w.out
theorem OwnL.kp {sb : Shared} {env : Env} {fo : List Addr} {D : Addr} {L : List VP} {s s' : Shared} {c c' : Cx} (w : OwnL sb env fo D L s c) (k : Kp s c s' c') : OwnL sb env fo D L s' c' := w.mv (k.mv (own := []) fun _ h => nomatch h) (fun h => nomatch h)
open PySem.AutoSeq1 in
set_option maxHeartbeats 4000000 in
theorem list_extend_any (l : Addr) (items : Array Value) (n : Nat) (b : Addr) (items2 : Array Value) (n2 : Nat) (d2 : Option Addr) (sl2 : Array (Option Value)) (hc0 : ¬(!items.isEmpty && Builtin.List.listTooLong (items.size + items2.size)) = true) (hc1 : items.size ≤ sizeLine) (hs2 : items.size + items2.size ≤ sizeLine + 1) :
    Meets (Builtin.«list.extend» ⟨[.ref l, .ref b], []⟩) (fun _ R s => s.heap.get? l = some { cls := .type "list", dict := none, data := .seq items n, slots := #[] } ∧ s.heap.get? b = some { cls := .type "list", dict := d2, data := .seq items2 n2, slots := sl2 } ∧ R (.ok (.ret Value.none)) { s with heap := s.heap.update l (Obj.mapSeq fun x => x ++ items2), toks := s.toks }) :=
  .of_wp fun prog w A R s h => by
    obtain ⟨hp, g, d, tk, os⟩ := s; obtain ⟨hl, hb, h⟩ := h; have f1 := AutoSeq1.idx_int; have f2 := AutoSeq1.sub_tuple_tuple; have f3 := AutoSeq1.sub_list_list; have f4 := AutoSeq1.sub_tuple_list; have f5 := AutoSeq1.sub_list_tuple
    have hz' : (items ++ items2).size ≤ sizeLine + 1 := by rw [Array.size_append]; exact hs2
    wp_walk using (wpAny_updateSeq hl rfl (hz := hc1) (_hz' := hz')), wpAny_loadPart' hl, wpAny_loadPart' hb; exact ⟨_, rfl, h⟩
/-- a frame with two lists of its own; st ct: where the present turn began -/
structure RS (H₀ : Heap) (sb : Shared) (cb : Cx) (st : Shared) (ct : Cx) (env : Env) (oc : List Addr) (V : Vars) (D₁ : Addr) (L₁ : List VP) (D₂ : Addr) (L₂ : List VP) (s : Shared) (c : Cx) : Prop where
  f : Frm H₀ sb cb env oc V s c
  w₁ : OwnL sb env oc D₁ L₁ s c
  w₂ : OwnL sb env oc D₂ L₂ s c
  ne : D₁ ≠ D₂
  mt : Mv (D₁ :: D₂ :: env.locals :: oc) st ct s c
section
variable {W : Wd} {n : Nat} {A : Around} {E : Value → Shared → Prop} {Q : Flow → Shared → Prop} {H₀ : Heap} {sb st : Shared} {cb ct : Cx} {env : Env} {oc : List Addr} {V V' : Vars} {s s' : Shared} {c c' : Cx} {D₁ D₂ D : Addr} {L₁ L₂ L l : List VP} {x y : Str} {e : Expr} {P P₁ P₂ P₃ : VP} {pos px py : Pos} {rest body : List Stmt}
theorem RS.offs (R : RS H₀ sb cb st ct env oc V D₁ L₁ D₂ L₂ s c) : ∀ b ∈ D₁ :: D₂ :: env.locals :: oc, c.o b = none ∧ ∃ o, s.heap.get? b = some o := R.mt.off
theorem RS.rebase (R : RS H₀ sb cb st ct env oc V D₁ L₁ D₂ L₂ s c) : RS H₀ sb cb s c env oc V D₁ L₁ D₂ L₂ s c := ⟨R.f, R.w₁, R.w₂, R.ne, .refl R.f.ins R.offs⟩
theorem RS.go (R : RS H₀ sb cb st ct env oc V D₁ L₁ D₂ L₂ s c) (g : Frm H₀ s c env oc V' s' c') : RS H₀ sb cb st ct env oc V' D₁ L₁ D₂ L₂ s' c' :=
  ⟨R.f.trans g, R.w₁.mv g.mv R.w₁.out, R.w₂.mv g.mv R.w₂.out, R.ne, R.mt.trans (g.mv.weaken (fun _ hb => List.mem_cons_of_mem _ (List.mem_cons_of_mem _ hb)) R.offs)⟩
theorem RS.weak (R : RS H₀ sb cb st ct env oc V D₁ L₁ D₂ L₂ s c) (h : ∀ x P, V' x = some P → V x = some P) : RS H₀ sb cb st ct env oc V' D₁ L₁ D₂ L₂ s c := ⟨R.f.weak h, R.w₁, R.w₂, R.ne, R.mt⟩
theorem RS.to (R : RS H₀ sb cb st ct env oc V D₁ L₁ D₂ L₂ s c) (l : List (Str × VP)) (h : VLe l V) : RS H₀ sb cb st ct env oc (listV l) D₁ L₁ D₂ L₂ s c := R.weak h.le
/-- one of the two lists is changed -/
theorem RS.change (R : RS H₀ sb cb st ct env oc V D₁ L₁ D₂ L₂ s c) {h' : Heap} (hD : D = D₁ ∨ D = D₂) (hs : Heap.SameBut D s.heap h') (hl : ∃ o, h'.get? D = some o)
    (w₁ : ∃ ys v, h'.get? D₁ = some (lsv ys v) ∧ AllOk c L ys) (w₂ : ∃ ys v, h'.get? D₂ = some (lsv ys v) ∧ AllOk c l ys) : RS H₀ sb cb st ct env oc V D₁ L D₂ l { s with heap := h' } c := by
  have hm : D ∈ D₁ :: D₂ :: env.locals :: oc := by
    rcases hD with rfl | rfl
    · exact List.mem_cons_self
    · exact List.mem_cons_of_mem _ List.mem_cons_self
  have hout : D ∉ env.locals :: oc := by
    rcases hD with rfl | rfl
    · exact R.w₁.out
    · exact R.w₂.out
  have hnew : sb.heap.get? D = none := by
    rcases hD with rfl | rfl
    · exact R.w₁.new
    · exact R.w₂.new
  have m := Mv.change (tk := s.toks) R.f.ins R.offs hm hs hl (Nat.le_refl _)
  refine ⟨R.f.outside0 (own := [D]) ⟨⟨h', s.toks, rfl⟩, fun b o hb e => .of (hs.extBut b o (fun q => hb (q ▸ List.mem_singleton.mpr rfl)) e), Le.refl _, m.ins, fun _ _ e => .inl e⟩ (fun b hb hm => hout (by rw [← List.mem_singleton.mp hm]; exact hb)) (fun b hb => by rw [List.mem_singleton.mp hb]; exact hnew),
    ⟨w₁, R.w₁.off, R.w₁.new, R.w₁.out⟩, ⟨w₂, R.w₂.off, R.w₂.new, R.w₂.out⟩, R.ne, R.mt.trans m⟩
theorem other_list {h h' : Heap} {D D' : Addr} (hs : Heap.SameBut D h h') (hne : D' ≠ D) (w : ∃ ys v, h.get? D' = some (lsv ys v) ∧ AllOk c L ys) : ∃ ys v, h'.get? D' = some (lsv ys v) ∧ AllOk c L ys :=
  let ⟨ys, v, e, ok⟩ := w; ⟨ys, v, hs.extBut _ _ hne e, ok⟩
/-- a name that holds an owned list is read -/
theorem read_own (f : Frm H₀ sb cb env oc V s c) (hv : V y = some (IsV (.ref D))) {Q : Value → Shared → Prop} (h : Q (.ref D) s) (hd : (y == ("__debug__" : Str)) = false := by decide) (hn : (y == ("__classdict__" : Str)) = false := by decide) :
    wpAny W.M A (eval (.Name y py) env) Q E s := by
  refine wpAny_Name (wpAny_mono (f.rd (W := W) hv hn A E s c (HX.refl _) (Le.refl _)) (fun v s₁ hq => ?_) fun _ _ x => x) hd
  obtain ⟨rfl, hq⟩ := hq
  have hq' : v = .ref D := hq
  subst hq'; exact h
/-- w.append(e) -/
theorem rs_append {apos cpos epos : Pos} (R : RS H₀ sb cb st ct env oc V D₁ L₁ D₂ L₂ s c) (r : RoomB n A H₀ env) (hv : V y = some (IsV (.ref D₂))) (p : PE W n env s.heap c e P) (hsz : L₂.length ≤ 100000)
    (hi : interactive env = false) (hsw : swapsWith (.Call (.Attribute (.Name y py) "append" apos) [e] [] cpos) none epos.line env = pure false) (hab : attributeBase (.Name y py) "append" env (eval (.Name y py) env) = eval (.Name y py) env)
    (k : ∀ s' c', RS H₀ sb cb st ct env oc V D₁ L₁ D₂ (L₂ ++ [P]) s' c' → wpAny W.M A (execs rest env) Q E s')
    (hp : plainE e = true := by rfl) (hline : (apos.endLine == cpos.line) = true := by rfl) (hd : (y == ("__debug__" : Str)) = false := by decide) (hn : (y == ("__classdict__" : Str)) = false := by decide) :
    wpAny W.M A (execs (.Expr (.Call (.Attribute (.Name y py) "append" apos) [e] [] cpos) epos :: rest) env) Q E s := by
  refine wpAny_execs_cons (wpAny_Expr_any ?_ hi hsw)
  refine wpAny_Call_method (T := "list") (id := "list.append") hab ?_ hline F.plainAttrs_list F.slot_list_append F.type_list_append ?_
  · rw [starEach_plain hp]; rfl
  obtain ⟨ys₀, v₀, g₀, _⟩ := R.w₂.get
  refine read_own R.f hv ⟨⟨_, g₀, rfl⟩, fun a ha => ?_, ?_⟩ hd hn
  · cases ha; exact ⟨_, g₀, rfl⟩
  rw [starEach_plain hp]
  refine Calls.callWith_builtin rfl (Calls.evalArgs_plain (Calls.spliced_cons (p.at (R.f.room r) R.f.ins fun v s' c' kk z => Calls.spliced_nil ?_)))
  have R' := R.go (R.f.base.step kk)
  obtain ⟨ys, v₁, g, ok⟩ := R'.w₂.get
  have hlen := ok.len
  refine append_at g (fun h' hs' hD' => ?_) (by rw [List.size_toArray, sizeLine_eq]; omega)
  refine k _ c' (R'.change (.inr rfl) hs' ⟨_, hD'⟩ (other_list hs' R.ne R'.w₁.get) ⟨ys ++ [v], v₁ + 1, ?_, ok.append (.cons z .nil)⟩)
  rw [hD']; simp [lsv]
/-- w.extend(e) -/
theorem rs_extend {apos cpos epos : Pos} (R : RS H₀ sb cb st ct env oc V D₁ L₁ D₂ L₂ s c) (r : RoomB n A H₀ env) (hv : V y = some (IsV (.ref D₁))) (p : PE W n env s.heap c e (ListV l)) (hsz : L₁.length + l.length ≤ 100000)
    (hi : interactive env = false) (hsw : swapsWith (.Call (.Attribute (.Name y py) "extend" apos) [e] [] cpos) none epos.line env = pure false) (hab : attributeBase (.Name y py) "extend" env (eval (.Name y py) env) = eval (.Name y py) env)
    (k : ∀ s' c', RS H₀ sb cb st ct env oc V D₁ (L₁ ++ l) D₂ L₂ s' c' → wpAny W.M A (execs rest env) Q E s')
    (hp : plainE e = true := by rfl) (hline : (apos.endLine == cpos.line) = true := by rfl) (hd : (y == ("__debug__" : Str)) = false := by decide) (hn : (y == ("__classdict__" : Str)) = false := by decide) :
    wpAny W.M A (execs (.Expr (.Call (.Attribute (.Name y py) "extend" apos) [e] [] cpos) epos :: rest) env) Q E s := by
  refine wpAny_execs_cons (wpAny_Expr_any ?_ hi hsw)
  refine wpAny_Call_method (T := "list") (id := "list.extend") hab ?_ hline F.plainAttrs_list F.slot_list_extend F.type_list_extend ?_
  · rw [starEach_plain hp]; rfl
  obtain ⟨ys₀, v₀, g₀, _⟩ := R.w₁.get
  refine read_own R.f hv ⟨⟨_, g₀, rfl⟩, fun a ha => ?_, ?_⟩ hd hn
  · cases ha; exact ⟨_, g₀, rfl⟩
  rw [starEach_plain hp]
  refine Calls.callWith_builtin rfl (Calls.evalArgs_plain (Calls.spliced_cons (p.at (R.f.room r) R.f.ins fun v s' c' kk z => Calls.spliced_nil ?_)))
  have R' := R.go (R.f.base.step kk)
  obtain ⟨ys, v₁, g, ok⟩ := R'.w₁.get
  obtain ⟨b, zs, rfl, il, okz⟩ := z
  have hlen := ok.len
  have hlenz := okz.len
  obtain ⟨⟨cls, dd, data, sl⟩, ex, hc, n2, hd2⟩ := il.out
  simp only at hc hd2
  subst hc hd2
  have hb := R'.f.ins.o _ _ ex
  have h1 : ys.toArray.size + zs.toArray.size ≤ sizeLine := by rw [List.size_toArray, List.size_toArray, sizeLine_eq]; omega
  refine call_meets PySem.F.slot_list_extend ⟨_, g, rfl⟩ PySem.F.entry_list_extend (PySem.F.args_list_extend_2 _ _) (list_extend_any D₁ ys.toArray v₁ b zs.toArray n2 dd sl (extend_door h1) (by omega) (by omega)) ⟨g, hb, ?_⟩
  have e : ys.toArray ++ zs.toArray = (ys ++ zs).toArray := by simp
  have ho' : (s'.heap.update D₁ (Obj.mapSeq fun x => x ++ zs.toArray)).get? D₁ = some (lsv (ys ++ zs) (if (ys.toArray ++ zs.toArray).size == ys.toArray.size then v₁ else v₁ + 1)) := by
    rw [Heap.get?_update_self _ g (by unfold lsv; rw [mapSeq_app]; rfl)]
    unfold lsv
    rw [mapSeq_app, e]
  exact k _ c' (R'.change (.inl rfl) (Heap.SameBut.update ..) ⟨_, ho'⟩ ⟨ys ++ zs, _, ho', ok.append okz⟩ (other_list (Heap.SameBut.update ..) R.ne.symm R'.w₂.get))
end
end Mine

/-! ### K6 -/
open PySem PySem.W PyProof.Rows PySem.SeqAt
set_option Elab.async false
set_option maxRecDepth 100000
namespace Mine
theorem AllOk.unsnoc {c : Cx} {P : VP} : ∀ {L : List VP} {ys : List Value}, AllOk c (L ++ [P]) ys → ∃ ws v, ys = ws ++ [v] ∧ AllOk c L ws ∧ P.ok c v
  | [], _, .cons (b := v) p .nil => ⟨[], v, rfl, .nil, p⟩
  | _ :: _, _, .cons (b := u) p r => by
    obtain ⟨ws, v, rfl, ok, pv⟩ := AllOk.unsnoc r
    exact ⟨u :: ws, v, rfl, .cons p ok, pv⟩
theorem assign_Tuple_list {W : Wd} {A : Around} {E : Value → Shared → Prop} {s : Shared} {env : Env} {elts : List Expr} {k : Nat} {pos : Pos} {l : Addr} {items : Array Value} {Q : Unit → Shared → Prop} (hl : s.heap.IsList l items) (hh : A.handled = none) (hn : (assignEach elts env).length = items.size)
    (hstar : (assignEach elts env).findIdx? (·.1) = none) (h : ∀ h', Heap.ExtBut s.heap.objs.size s.heap h' → wpAny W.M A (assignInOrder ((assignEach elts env).map (·.2)) items.toList) Q E { s with heap := h' }) :
    wpAny W.M A (assign (.Tuple elts k pos) env (.ref l)) Q E s := by
  rw [arm_assign_Tuple]
  refine wpAny_bind (wpAny_standAt ?_)
  unfold unpack
  rw [hn, hstar]
  exact wpAny_bind (wpAny_holding (kun_itemsOf hh hl h))
section
variable {W : Wd} {n : Nat} {A : Around} {E : Value → Shared → Prop} {Q : Flow → Shared → Prop} {H₀ : Heap} {sb st : Shared} {cb ct : Cx} {env : Env} {oc : List Addr} {V V' : Vars} {s s' : Shared} {c c' : Cx} {D₁ D₂ D : Addr} {L₁ L₂ L l : List VP} {x y z w : Str} {e test : Expr} {P P₁ P₂ P₃ : VP} {pos px py pz pw pt ap cp : Pos} {x1 : Nat} {rest body : List Stmt} {b : Bool}
/-- three names take a list of three, in a frame -/
theorem frm_assign3 {v : Value} {Q : Unit → Shared → Prop} (hh : A.handled = none)
    (f : Frm H₀ sb cb env oc V s c) (ok : (ListV [P₁, P₂, P₃]).ok c v) (hx : env.kindOf x = some .local ∨ env.kindOf x = some .cell) (hy : env.kindOf y = some .local ∨ env.kindOf y = some .cell) (hz : env.kindOf z = some .local ∨ env.kindOf z = some .cell)
    (k : ∀ s' c', Frm H₀ sb cb env oc (((V.set x P₁).set y P₂).set z P₃) s' c' → Q () s') : wpAny W.M A (assign (.Tuple [.Name x px, .Name y py, .Name z pz] x1 pos) env v) Q E s := by
  obtain ⟨a, vs, rfl, it, al⟩ := ok
  cases al with
  | cons z₁ al =>
    cases al with
    | cons z₂ al =>
      cases al with
      | cons z₃ al =>
        cases al
        refine assign_Tuple_list (it.list f.ins) hh rfl rfl fun h' hx' => ?_
        have f' := f.step (Kp.heap f.ins (HX.ex (hx_extBut hx')))
        exact wpAny_assignInOrder_more (frm_assign f' z₁ hx fun s₁ f₁ => wpAny_assignInOrder_more (frm_assign f₁ z₂ hy fun s₂ f₂ => wpAny_assignInOrder_more (frm_assign f₂ z₃ hz fun s₃ f₃ => wpAny_assignInOrder_none (k s₃ c f₃))))
/-- x, y, z = w.pop() -/
theorem rs_pop3 (R : RS H₀ sb cb st ct env oc V D₁ L₁ D₂ (L ++ [ListV [P₁, P₂, P₃]]) s c) (r : RoomB n A H₀ env) (hv : V w = some (IsV (.ref D₂))) (hsz : L.length ≤ 100000)
    (hx : env.kindOf x = some .local ∨ env.kindOf x = some .cell) (hy : env.kindOf y = some .local ∨ env.kindOf y = some .cell) (hz : env.kindOf z = some .local ∨ env.kindOf z = some .cell)
    (hs : swapsWithSole [.Tuple [.Name x px, .Name y py, .Name z pz] x1 pt] (.Call (.Attribute (.Name w pw) "pop" ap) [] [] cp) pos.line env = pure false) (hw : swappedStores [.Tuple [.Name x px, .Name y py, .Name z pz] x1 pt] (.Call (.Attribute (.Name w pw) "pop" ap) [] [] cp) env = pure none)
    (hab : attributeBase (.Name w pw) "pop" env (eval (.Name w pw) env) = eval (.Name w pw) env)
    (k : ∀ s' c', RS H₀ sb cb st ct env oc (((V.set x P₁).set y P₂).set z P₃) D₁ L₁ D₂ L s' c' → wpAny W.M A (execs rest env) Q E s')
    (hline : (ap.endLine == cp.line) = true := by rfl) (hd : (w == ("__debug__" : Str)) = false := by decide) (hn : (w == ("__classdict__" : Str)) = false := by decide) :
    wpAny W.M A (execs (.Assign [.Tuple [.Name x px, .Name y py, .Name z pz] x1 pt] (.Call (.Attribute (.Name w pw) "pop" ap) [] [] cp) pos :: rest) env) Q E s := by
  refine wpAny_execs_cons (Assign_Tuple ?_ hs hw)
  refine wpAny_Call_method (T := "list") (id := "list.pop") hab rfl hline F.plainAttrs_list F.slot_list_pop F.type_list_pop ?_
  obtain ⟨ys, v₀, g, ok⟩ := R.w₂.get
  refine read_own R.f hv ⟨⟨_, g, rfl⟩, fun a ha => ?_, ?_⟩ hd hn
  · cases ha; exact ⟨_, g, rfl⟩
  refine Calls.callWith_builtin (args := []) rfl (evalArgs_nil3 ?_)
  obtain ⟨ws, v, rfl, okw, okv⟩ := ok.unsnoc
  have hlen := okw.len
  refine Copied.pop_at (y := v) g (by simp) (fun h' hs' hD' => ?_) (by rw [List.size_toArray, List.length_append, sizeLine_eq]; simp only [List.length_cons, List.length_nil]; omega)
  have hg : h'.get? D₂ = some (lsv ws (v₀ + 1)) := by rw [hD']; simp [lsv]
  have R' := R.change (L := L₁) (l := L) (.inr rfl) hs' ⟨_, hD'⟩ (other_list hs' R.ne R.w₁.get) ⟨ws, _, hg, okw⟩
  exact frm_assign3 r.handled R'.f.base okv hx hy hz fun s₂ c₂ f₂ => k s₂ c₂ (R'.go f₂)
theorem InS.frozenO {o : Obj} (x : InS c s) (h : s.heap.get? D = some o) (hf : NoD o) : InS (c.put D o) s where
  o := fun b z e => by
    have e' : (if b = D then some o else c.o b) = some z := e
    by_cases q : b = D
    · rw [if_pos q] at e'; cases e'; rw [q]; exact h
    · rw [if_neg q] at e'; exact x.o b z e'
  nf := fun b z e => by
    have e' : (if b = D then some o else c.o b) = some z := e
    by_cases q : b = D
    · rw [if_pos q] at e'; cases e'; exact hf
    · rw [if_neg q] at e'; exact x.nf b z e'
  pos := x.pos
  lt := x.lt
theorem Frm.freezeL (f : Frm H₀ sb cb env oc V s c) (w : OwnL sb env oc D L s c) (hv : V y = some (IsV (.ref D))) : ∃ o, Frm H₀ sb cb env oc (V.set y (ListV L)) s (c.put D o) := by
  obtain ⟨ys, vn, g, ok⟩ := w.get
  refine ⟨lsv ys vn, f.eo, f.hb, f.fr, ⟨f.mv.same, f.mv.keep, f.mv.le.trans (Cx.put_le w.off _), f.mv.ins.frozenO g lsv_nf, fun b x e => ?_, fun b hb => ⟨?_, (f.mv.off b hb).2⟩⟩, f.ok, fun x P h => ?_⟩
  · have e' : (if b = D then some (lsv ys vn) else c.o b) = some x := e
    by_cases q : b = D
    · rw [q]; exact .inr w.new
    · rw [if_neg q] at e'; exact f.mv.new b x e'
  · have hbD : ¬ b = D := fun q => w.out (by rw [← q]; exact hb)
    show (if b = D then some (lsv ys vn) else c.o b) = none
    rw [if_neg hbD]; exact (f.mv.off b hb).1
  · unfold Vars.set at h
    by_cases q : x = y
    · rw [if_pos q] at h; cases h
      obtain ⟨k, v, hl, hd⟩ := f.vars y _ hv
      have hd' : v = .ref D := hd
      rw [q]
      exact ⟨k, v, hl, hd' ▸ ListV.new w.off ok⟩
    · rw [if_neg q] at h
      obtain ⟨k, v, hl, hd⟩ := f.vars x P h
      exact ⟨k, v, hl, P.mono (Cx.put_le w.off _) hd⟩
/-- a test that looks at the second list -/
theorem rs_test (R : RS H₀ sb cb st ct env oc V D₁ L₁ D₂ L₂ s c) (r : RoomB n A H₀ env) (hv : V y = some (IsV (.ref D₂))) (p : ∀ c', Frm H₀ sb cb env oc (V.set y (ListV L₂)) s c' → PT W n env s.heap c' test b) {Q : Bool → Shared → Prop}
    (k : ∀ s' c', RS H₀ sb cb st ct env oc V D₁ L₁ D₂ L₂ s' c' → Q b s') : wpAny W.M A (isTrue test env (eval test env)) Q E s := by
  obtain ⟨o, g⟩ := R.f.freezeL R.w₂ hv
  exact (p _ g).at (g.room r) g.ins fun s' c' kp => k _ _ (R.go (R.f.base.step (kp.thaw R.w₂.off)))
/-- a name takes a new list display, that stays its own -/
theorem st_own_list {es : List Expr} {Ps : List VP} (f : Frm H₀ sb cb env oc V s c) (r : RoomB n A H₀ env) (p : PEs W n env s.heap c es Ps) (hsz : Ps.length ≤ 1000) (hx : env.kindOf x = some .local ∨ env.kindOf x = some .cell) (hs : swapsWith (.List es pt) (some (.Name x px)) pos.line env = pure false)
    (k : ∀ s' c' D, Frm H₀ s c env oc (V.set x (IsV (.ref D))) s' c' → OwnL sb env oc D Ps s' c' → s.heap.get? D = none → wpAny W.M A (execs rest env) Q E s') :
    wpAny W.M A (execs (.Assign [.Name x px] (.List es pt) pos :: rest) env) Q E s := by
  refine wpAny_execs_cons (wpAny_Assign_Name (List_ (wpAny_mono (p.run E s c (f.room r) (HX.refl _) (Le.refl _) f.ins) (fun vs s₁ ⟨c₂, kk, z⟩ => ?_) fun _ _ x => x)) hs)
  refine wpAny_newList ?_ (by rw [← z.len, sizeLine_eq]; omega)
  have k₂ : Kp s c { s₁ with heap := s₁.heap.push (lsv vs 0) } c₂ := kk.trans (Kp.heap kk.ins (HX.push _ _))
  have hDn : s.heap.get? s₁.heap.objs.size = none := none_of_keep kk.keep (get_size _)
  have hown : s₁.heap.objs.size ∉ env.locals :: oc := fun hb => by
    obtain ⟨o, e⟩ := (f.mv.off _ hb).2
    rw [hDn] at e; cases e
  have hsb : sb.heap.get? s₁.heap.objs.size = none := by
    cases q : sb.heap.get? s₁.heap.objs.size with
    | none => rfl
    | some o =>
      obtain ⟨o', e', _⟩ := f.mv.keep _ o hown q
      rw [hDn] at e'; cases e'
  have w : OwnL sb env oc s₁.heap.objs.size Ps { s₁ with heap := s₁.heap.push (lsv vs 0) } c₂ := ⟨⟨vs, 0, Heap.get?_push_size _ rfl, z⟩, kk.ins.none (get_size _), hsb, hown⟩
  exact (f.base.step k₂).base.store (P := IsV (.ref s₁.heap.objs.size)) rfl hx fun s₃ g => k s₃ c₂ s₁.heap.objs.size ((f.base.step k₂).trans g) (w.mv g.mv hown) hDn
end
end Mine

/-! ### K7 -/
open PySem PySem.W PyProof.Rows PySem.SeqAt
set_option Elab.async false
set_option maxRecDepth 100000
namespace Mine
section
variable {W : Wd} {n : Nat} {A : Around} {E : Value → Shared → Prop} {Q : Flow → Shared → Prop} {H₀ : Heap} {sb st : Shared} {cb ct : Cx} {env : Env} {oc : List Addr} {V V' : Vars} {s s' : Shared} {c c' : Cx} {D₁ D₂ D : Addr} {e test : Expr} {P₀ : VP} {pos : Pos} {rest body orelse : List Stmt}
theorem st_whileX {β : Type} {Inv : β → Vars} {M₁ M₂ : β → List VP} {μ : β → Nat} {t : β → Bool} {Good : β → Prop} (b₀ : β) (R : RS H₀ sb cb st ct env oc V D₁ (M₁ b₀) D₂ (M₂ b₀) s c) (g₀ : Good b₀) (h0 : ∀ y P, Inv b₀ y = some P → V y = some P)
    (htest : ∀ b, Good b → ∀ s c Ex (Q : Bool → Shared → Prop), RS H₀ sb cb s c env oc (Inv b) D₁ (M₁ b) D₂ (M₂ b) s c → (∀ s' c', RS H₀ sb cb s c env oc (Inv b) D₁ (M₁ b) D₂ (M₂ b) s' c' → Q (t b) s') → wpAny W.M A (isTrue test env (eval test env)) Q Ex s)
    (turn : ∀ b, Good b → t b = true → ∀ s c Ex, RS H₀ sb cb s c env oc (Inv b) D₁ (M₁ b) D₂ (M₂ b) s c → wpAny W.M A (execs body env) (fun fl s' => match fl with
      | .next | .cont => ∃ b' c', μ b' < μ b ∧ Good b' ∧ RS H₀ sb cb s' c' env oc (Inv b') D₁ (M₁ b') D₂ (M₂ b') s' c'
      | _ => False) Ex s)
    (fin : ∀ b s c, Good b → t b = false → RS H₀ sb cb s c env oc (Inv b) D₁ (M₁ b) D₂ (M₂ b) s c → wpAny W.M A (execs rest env) Q E s) :
    wpAny W.M A (execs (.While test body [] pos :: rest) env) Q E s := by
  refine wpAny_execs_cons (wpAny_While (codeAny_whileLoop (fun k s' => ∃ b c', k = μ b ∧ Good b ∧ RS H₀ sb cb s' c' env oc (Inv b) D₁ (M₁ b) D₂ (M₂ b) s' c') ?_ (μ b₀) ⟨b₀, c, rfl, g₀, (R.weak h0).rebase⟩))
  rintro k s ⟨b, c, rfl, g, R⟩
  refine htest b g s c _ _ R fun s₁ c₁ R₁ => ?_
  cases ht : t b with
  | false => exact wpAny_execs_nil (fin b s₁ c₁ g ht R₁.rebase)
  | true =>
    refine wpAny_mono (turn b g ht s₁ c₁ _ R₁.rebase) (fun fl s₂ h₂ => ?_) fun _ _ x => x
    cases fl with
    | next => obtain ⟨b', c', hlt, g', R'⟩ := h₂; exact ⟨μ b', hlt, b', c', rfl, g', R'⟩
    | cont => obtain ⟨b', c', hlt, g', R'⟩ := h₂; exact ⟨μ b', hlt, b', c', rfl, g', R'⟩
    | brk => exact h₂.elim
    | ret v => exact h₂.elim
theorem OwnL.outside {D : Addr} {L : List VP} {wr : List Addr} (w : OwnL sb env oc D L s c) (m : Mv wr s c s' c') (hw : D ∉ wr) : OwnL sb env oc D L s' c' := w.mv m hw
theorem st_forX {α : Type} {tgt iter : Expr} {xs : List α} {F : α → VP} {bind : α → Vars → Vars} {Inv : Nat → Vars} {M₁ M₂ : Nat → List VP} (r : RoomB n A H₀ env) (R : RS H₀ sb cb st ct env oc V D₁ (M₁ 0) D₂ (M₂ 0) s c) (it : PE W n env s.heap c iter P₀) (iters : Iters W tgt P₀ (xs.map F))
    (hasg : ∀ a ∈ xs, ∀ (sb : Shared) (cb : Cx) (V : Vars) (s : Shared) (c : Cx) (v : Value) (A : Around) (E : Value → Shared → Prop) (Q : Unit → Shared → Prop), Frm H₀ sb cb env oc V s c → (F a).ok c v →
      (∀ s' c', Frm H₀ sb cb env oc (bind a V) s' c' → Q () s') → wpAny W.M A (assign tgt env v) Q E s)
    (h0 : ∀ y P, Inv 0 y = some P → V y = some P)
    (turn : ∀ i a, xs[i]? = some a → ∀ s c Ex, RS H₀ sb cb s c env oc (bind a (Inv i)) D₁ (M₁ i) D₂ (M₂ i) s c → wpAny W.M A (execs body env) (fun fl s' => match fl with
      | .next | .cont => ∃ c', RS H₀ sb cb s c env oc (Inv (i + 1)) D₁ (M₁ (i + 1)) D₂ (M₂ (i + 1)) s' c'
      | _ => False) Ex s)
    (fin : ∀ s c, RS H₀ sb cb s c env oc (Inv xs.length) D₁ (M₁ xs.length) D₂ (M₂ xs.length) s c → wpAny W.M A (execs orelse env) (Goes W A rest env Q E) (notedBy W.M A env fun e s' => cameBackBy W.M A env E e s') s)
    (hs : ∀ x, foldedSetIterable iter env x = pure x := by intro _; rfl) : wpAny W.M A (execs (.For tgt iter body orelse pos :: rest) env) Q E s := by
  refine wpAny_execs_cons (wpAny_For (wpAny_mono (IterE.of it iters A E s c (R.f.room r) (HX.refl _) (Le.refl _) R.f.ins) (fun xv s₁ h₁ => wpAny_mono h₁ (fun it s₂ h₂ => ?_) fun _ _ x => x) fun _ _ x => x) hs)
  obtain ⟨I, fp, wr, St, c₁, rfl, k₂, wk, st₀, hfp, hwr, hfv⟩ := h₂
  have R₂ := (R.go (R.f.base.step k₂)).rebase
  have own_lt : ∀ b ∈ D₁ :: D₂ :: env.locals :: oc, b ∉ wr := fun b hb hw => by
    obtain ⟨o, e⟩ := (R.offs b hb).2
    rw [(hwr b hw).1] at e; cases e
  have up : ∀ b ∈ env.locals :: oc, b ∈ D₁ :: D₂ :: env.locals :: oc := fun _ hb => List.mem_cons_of_mem _ (List.mem_cons_of_mem _ hb)
  have hwb : ∀ b ∈ wr, sb.heap.get? b = none := fun b hb => by
    cases q : sb.heap.get? b with
    | none => rfl
    | some o =>
      obtain ⟨o', e', _⟩ := R.f.mv.keep b o (fun h => own_lt b (up b h) hb) q
      rw [(hwr b hb).1] at e'; cases e'
  have own_fp : ∀ b ∈ D₁ :: D₂ :: env.locals :: oc, b ∉ fp := fun b hb hf => by
    obtain ⟨o, e⟩ := hfv b hf (own_lt b hb)
    rw [(R₂.offs b hb).1] at e; cases e
  refine codeAny_loop' rfl (fun k s' => ∃ i c', k = xs.length + 1 - i ∧ i ≤ xs.length ∧ RS H₀ sb cb s' c' env oc (Inv i) D₁ (M₁ i) D₂ (M₂ i) s' c' ∧ Le c₁ c' ∧ (∀ b ∈ wr, c'.o b = none) ∧ St i s'.heap) ?_ (xs.length + 1) ⟨0, c₁, by omega, Nat.zero_le _, R₂.weak h0, Le.refl _, fun b hb => (hwr b hb).2, st₀⟩
  rintro k s ⟨i, c, rfl, hi, R, le, off, st⟩
  show wpAny _ _ ((forTurn tgt (.ref I) body orelse env).onRaise (fun x => do noteFrame x env; theTreesLotGoes x)) _ _ s
  refine wpAny_noted ?_
  simp only [forTurn]
  refine wpAny_bind (wpAny_standAt (wpAny_bind (wpAny_onRaise ?_)))
  by_cases hlt : i < xs.length
  · obtain ⟨a, ha⟩ : ∃ a, xs[i]? = some a := ⟨xs[i], List.getElem?_eq_getElem hlt⟩
    refine wpAny_mono (wk.item i s c (fun v s₂ => ∃ c', Mv wr s c s₂ c' ∧ St (i + 1) s₂.heap ∧ (F a).ok c' v) _ (F a) (by rw [List.getElem?_map, ha]; rfl) st le R.f.ins off (fun v s' c' m st' okv => ⟨c', m, st', okv⟩)) (fun rr s₂ h₂ => ?_) fun _ _ x => wpAny_standAt x
    cases rr with
    | none => exact h₂.elim
    | some v =>
      dsimp only at h₂ ⊢
      refine wpAny_bind (wpAny_mono h₂ (fun _ s₂ ⟨c₂, m₂, st₂, okv⟩ => ?_) fun _ _ x => x)
      have f₂ := R.f.outside m₂ (fun b hb => own_lt b (up b hb)) hwb
      have w₁ := R.w₁.mv m₂ (own_lt _ List.mem_cons_self)
      have w₂ := R.w₂.mv m₂ (own_lt _ (List.mem_cons_of_mem _ List.mem_cons_self))
      have R₂ : RS H₀ sb cb s₂ c₂ env oc (Inv i) D₁ (M₁ i) D₂ (M₂ i) s₂ c₂ := ⟨f₂, w₁, w₂, R.ne, .refl f₂.ins fun b hb => by
        rcases List.mem_cons.mp hb with rfl | hb
        · exact ⟨w₁.off, w₁.live⟩
        · rcases List.mem_cons.mp hb with rfl | hb
          · exact ⟨w₂.off, w₂.live⟩
          · exact f₂.mv.off b hb⟩
      refine wpAny_bind (hasg a (List.mem_of_getElem? ha) s₂ c₂ _ s₂ c₂ v A _ _ f₂.base okv fun s₃ c₃ f₃ => ?_)
      have R₃ := (R₂.go f₃).rebase
      have st₃ : St (i + 1) s₃.heap := wk.frame _ _ _ st₂ fun b hb o e => f₃.mv.keep b o (fun q => own_fp b (up b q) hb) e
      have off₃ : ∀ b ∈ wr, c₃.o b = none := fun b hb => by
        cases q : c₃.o b with
        | none => rfl
        | some z => rcases f₃.mv.new b z q with e | e
                    · rw [(m₂.off b hb).1] at e; cases e
                    · obtain ⟨o, e'⟩ := (m₂.off b hb).2; rw [e'] at e; cases e
      refine wpAny_bind (wpAny_mono (turn i a ha s₃ c₃ _ R₃) (fun fl s₄ h₄ => ?_) fun _ _ x => x)
      have go : ∀ c₄, RS H₀ sb cb s₃ c₃ env oc (Inv (i + 1)) D₁ (M₁ (i + 1)) D₂ (M₂ (i + 1)) s₄ c₄ → ∃ m, m < xs.length + 1 - i ∧ ∃ i' c', m = xs.length + 1 - i' ∧ i' ≤ xs.length ∧ RS H₀ sb cb s₄ c' env oc (Inv i') D₁ (M₁ i') D₂ (M₂ i') s₄ c' ∧ Le c₁ c' ∧ (∀ b ∈ wr, c'.o b = none) ∧ St i' s₄.heap := fun c₄ R₄ => by
        refine ⟨xs.length + 1 - (i + 1), by omega, i + 1, c₄, rfl, hlt, R₄.rebase, ((le.trans m₂.le).trans f₃.mv.le).trans R₄.mt.le, fun b hb => ?_, wk.frame _ _ _ st₃ fun b hb o e => R₄.mt.keep b o (fun q => own_fp b q hb) e⟩
        cases q : c₄.o b with
        | none => rfl
        | some z => rcases R₄.mt.new b z q with e | e
                    · rw [off₃ b hb] at e; cases e
                    · obtain ⟨o, e'⟩ := wk.live _ _ st₃ b hb; rw [e'] at e; cases e
      cases fl with
      | next => obtain ⟨c₄, R₄⟩ := h₄; exact wpAny_pure (.inl ⟨rfl, go c₄ R₄⟩)
      | cont => obtain ⟨c₄, R₄⟩ := h₄; exact wpAny_pure (.inl ⟨rfl, go c₄ R₄⟩)
      | brk => exact h₄.elim
      | ret v => exact h₄.elim
  · obtain rfl : i = xs.length := by omega
    rw [show xs.length = (xs.map F).length from (List.length_map ..).symm] at st
    refine wk.done s _ _ st fun h' tk hk ht => ?_
    refine wpAny_pure (.inr ⟨rfl, codeAny_block ?_⟩)
    have m0 : Mv0 wr s c { s with heap := h', toks := tk } c := ⟨⟨h', tk, rfl⟩, fun b o hb e => hk b o hb e, Le.refl _,
      ⟨fun b z e => (hk b z (fun q => by rw [off b q] at e; cases e) (R.f.ins.o b z e)).exact (R.f.ins.nf b z e), R.f.ins.nf, Nat.lt_of_lt_of_le R.f.ins.pos ht, fun t v e => Nat.lt_of_lt_of_le (R.f.ins.lt t v e) ht⟩, fun _ _ e => .inl e⟩
    have f' := R.f.outside0 m0 (fun b hb => own_lt b (up b hb)) hwb
    have w' : ∀ D L, OwnL sb env oc D L s c → D ∉ wr → OwnL sb env oc D L { s with heap := h', toks := tk } c := fun D L w hD => ⟨let ⟨ys, v, e, ok⟩ := w.get; ⟨ys, v, (hk D _ hD e).exact lsv_nf, ok⟩, w.off, w.new, w.out⟩
    have w₁ := w' _ _ R.w₁ (own_lt _ List.mem_cons_self)
    have w₂ := w' _ _ R.w₂ (own_lt _ (List.mem_cons_of_mem _ List.mem_cons_self))
    exact fin _ c ⟨f', w₁, w₂, R.ne, .refl f'.ins fun b hb => by
      rcases List.mem_cons.mp hb with rfl | hb
      · exact ⟨w₁.off, w₁.live⟩
      · rcases List.mem_cons.mp hb with rfl | hb
        · exact ⟨w₂.off, w₂.live⟩
        · exact f'.mv.off b hb⟩
end
end Mine

/-! ### L1 -/
open PySem PySem.W PyProof.Rows PySem.SeqAt
set_option Elab.async false
namespace Mine
set_option maxRecDepth 100000
def HP (env : Env) (H : Heap) (c : Cx) (x : Str) (P : VP) : Prop := env.scope.kind = .function ∧ ∃ v, Held env H x v ∧ P.ok c v
section
variable {W : Wd} {n : Nat} {H₀ H H' : Heap} {sb : Shared} {cb : Cx} {env : Env} {oc : List Addr} {V : Vars} {s : Shared} {c c' : Cx} {x : Str} {px : Pos} {P : VP} {scope : Scope} {cl : List (Str × Addr)} {C : Addr}
theorem HP.on (h : HP env H c x P) (k : HX H H') (l : Le c c') : HP env H' c' x P := let ⟨a, v, b, d⟩ := h; ⟨a, v, b.keep k, P.mono l d⟩
theorem HP.rd (h : HP env H c x P) (hn : (x == ("__classdict__" : Str)) = false := by decide) : Rd W env H c x P := let ⟨a, _, b, d⟩ := h; Rd.held a b d hn
theorem Frm.hp (f : Frm H₀ sb cb env oc V s c) (h : V x = some P) : HP env s.heap c x P := let ⟨_, v, b, d⟩ := f.vars x P h; ⟨f.eo.fn, v, b, d⟩
theorem HP.free {y : Str} {P' : VP} (bd : HP (cEnv scope cl env C) H' c' y P') (h : HP env H c x P) (k : HX H H') (l : Le c c') (hf : (cEnv scope cl env C).kindOf x = some .cell) (hl : (cEnv scope cl env C).cells.lookup x = env.cells.lookup x)
    (hk : (env.kindOf x == some .local) = false) : HP (cEnv scope cl env C) H' c' x P := by
  obtain ⟨_, v, b, d⟩ := h.on k l
  rcases b with ⟨b, _⟩ | ⟨_, a, e, z⟩
  · rw [b] at hk; cases hk
  · exact ⟨bd.1, v, .inr ⟨.inl hf, a, hl.trans e, z⟩, d⟩
theorem asgL (hk : scope.kind = .function) (hx : scope.names.lookup x = some .local) (C : Addr) :
    Asg W (.Name x px) (cEnv scope cl env C) C [] P (fun H c => HP (cEnv scope cl env C) H c x P) := by
  intro A E s c v _ ins ok z
  obtain ⟨⟨m, hm⟩, _⟩ := ok
  have hl : (cEnv scope cl env C).kindOf x = some .local := lookup_relabel_local hx
  refine wpAny_assign_Name (wpAny_storeName_local hl hm (fun h' hn' hs' => ?_) (by show (scope.kind == .class || (scope.kind == .module && _)) = false; rw [hk]; rfl))
  refine ⟨h', s.toks + 1, rfl, Nat.le_succ _, fun b o hb e => .of (hs'.extBut b o (fun q => hb (q ▸ List.mem_cons_self)) e), ⟨⟨_, hn'⟩, fun _ h => nomatch h⟩, ?_⟩
  exact ⟨hk, _, .inl ⟨hl, _, hn', if_pos rfl⟩, z⟩
theorem asgC (hk : scope.kind = .function) (C : Addr) (hx : (cEnv scope cl env C).kindOf x = some .cell) (hc : (cEnv scope cl env C).cells.lookup x = some (C + 1)) :
    Asg W (.Name x px) (cEnv scope cl env C) C [C + 1] P (fun H c => HP (cEnv scope cl env C) H c x P) := by
  intro A E s c v _ ins ok z
  obtain ⟨v₀, h₀⟩ := ok.2 (C + 1) (List.mem_singleton.mpr rfl)
  refine wpAny_assign_Name (wpAny_storeName_cell hk hx hc h₀ fun h' hc' hs' => ?_)
  refine ⟨h', s.toks, rfl, Nat.le_refl _, fun b o hb e => .of (hs'.extBut b o (fun q => hb (q ▸ List.mem_cons_of_mem _ (List.mem_singleton.mpr rfl))) e), ⟨?_, fun a ha => ?_⟩, ?_⟩
  · obtain ⟨m, hm⟩ := ok.1
    exact ⟨m, hm.sameBut hs' (Nat.ne_of_lt (Nat.lt_succ_self _))⟩
  · rw [List.mem_singleton.mp ha]; exact ⟨_, hc'⟩
  · exact ⟨hk, _, .inr ⟨.inl hx, _, hc, hc'⟩, z⟩
end
section
variable {W : Wd} {n : Nat} {env : Env} {H : Heap} {c : Cx} {e e₁ e₂ : Expr} {P P₁ P₂ : VP} {a b : Int} {pos : Pos}
theorem PE.itemI {l : List VP} {k : Int} (p₁ : PE W n env H c e₁ (ListV l)) (p₂ : PE W n env H c e₂ (IntV k)) (h0 : 0 ≤ k ∧ k < 2 ^ 63) (hx : l[k.toNat]? = some P)
    (hs : ∀ o i, subscripted e₂ false o i = operate [o, i] (getItem o i) := by intro _ _; rfl) : PE W n env H c (.Subscript e₁ e₂ pos) P := PE.item p₁ p₂ h0 hx (isI_v _) hs
theorem PE.modI (p₁ : PE W n env H c e₁ (IntV a)) (p₂ : PE W n env H c e₂ (IntV b)) (hb : b ≠ 0) : PE W n env H c (.BinOp e₁ .Mod e₂ pos) (IntV (a.fmod b)) := PE.mod p₁ p₂ hb
theorem PE.fdivI (p₁ : PE W n env H c e₁ (IntV a)) (p₂ : PE W n env H c e₂ (IntV b)) (hb : b ≠ 0 ∧ b.natAbs < 1073741824) : PE W n env H c (.BinOp e₁ .FloorDiv e₂ pos) (IntV (a.fdiv b)) := PE.fdiv p₁ p₂ hb
theorem PE.mulI (p₁ : PE W n env H c e₁ (IntV a)) (p₂ : PE W n env H c e₂ (IntV b)) (hb : IntMulOk a b) : PE W n env H c (.BinOp e₁ .Mult e₂ pos) (IntV (a * b)) := PE.mul p₁ p₂ hb
theorem PE.addI (p₁ : PE W n env H c e₁ (IntV a)) (p₂ : PE W n env H c e₂ (IntV b)) : PE W n env H c (.BinOp e₁ .Add e₂ pos) (IntV (a + b)) := PE.add p₁ p₂
theorem PE.subI (p₁ : PE W n env H c e₁ (IntV a)) (p₂ : PE W n env H c e₂ (IntV b)) : PE W n env H c (.BinOp e₁ .Sub e₂ pos) (IntV (a - b)) := PE.sub p₁ p₂
end
/-- the item of a list at an index within -/
theorem at_getD {α : Type} {l : List α} {k : Int} {d : α} {F : α → VP} (h : k.toNat < l.length) : (l.map F)[k.toNat]? = some (F (l.getD k.toNat d)) := by
  rw [List.getElem?_map, List.getD_eq_getElem?_getD, List.getElem?_eq_getElem h]; rfl
abbrev Line := Int × Int
def LineOk (l : Line) : Prop := (0 ≤ l.1 ∧ l.1 < 5) ∧ (0 ≤ l.2 ∧ l.2 < 5)
abbrev LinesV (l : List Line) : VP := ListV (l.map fun x => IntsV [x.1, x.2])
theorem range_mem {i : Int} {n : Nat} (h : i ∈ rangeL 0 n) : 0 ≤ i ∧ i < n := by
  unfold rangeL at h
  simp only [List.mem_map, List.mem_range] at h
  obtain ⟨a, h, rfl⟩ := h
  omega
theorem boot_range : bootBuiltins "range" = some (.type "range") := by decide +kernel
theorem boot_len : bootBuiltins "len" = some (.builtin "len") := by decide +kernel
structure Lib (H₀ : Heap) (mg mb : Str → Option Value) : Prop where
  G : Gl H₀ mg mb
  no : ∀ x ∈ (["len", "range", "hasattr", "enumerate", "ValueError"] : List Str), mg x = none
  fn : ∀ p ∈ ([(3, "parse257"), (5, "concat"), (6, "contains"), (7, "countOf"), (8, "indexOf"), (10, "_law_lines"), (11, "_law_rings"), (12, "_law_told"), (13, "_law_due"), (14, "_law_stage"), (15, "law")] : List (Nat × Str)), ∃ a pm code doc, mg p.2 = some (.ref a) ∧ DefI H₀ a p.2 p.1 pm code doc
section
variable {W : Wd} {n : Nat} {env : Env} {H₀ H : Heap} {mg mb : Str → Option Value} {x : Str} {Ps : List VP} {P : VP} {c : Cx}
theorem Fn.lib (L : Lib H₀ mg mb) (hx : HX H₀ H) (he : EnvG env x) (i : Nat) (cl : ∀ a pm code doc, DefI H₀ a x i pm code doc → Cl W n H₀ (.ref a) Ps P)
    (hm : (i, x) ∈ ([(3, "parse257"), (5, "concat"), (6, "contains"), (7, "countOf"), (8, "indexOf"), (10, "_law_lines"), (11, "_law_rings"), (12, "_law_told"), (13, "_law_due"), (14, "_law_stage"), (15, "law")] : List (Nat × Str)) := by decide) : Fn W n env H x Ps P := by
  obtain ⟨a, pm, code, doc, e, d⟩ := L.fn _ hm
  exact Fn.glob L.G hx he e d.callee (cl a pm code doc d)
theorem FnR.lib {cls : String} (L : Lib H₀ mg mb) (hx : HX H₀ H) (he : EnvG env x) (i : Nat) (cl : ∀ a pm code doc, DefI H₀ a x i pm code doc → Raises W n H₀ (.ref a) Ps cls)
    (hm : (i, x) ∈ ([(3, "parse257"), (5, "concat"), (6, "contains"), (7, "countOf"), (8, "indexOf"), (10, "_law_lines"), (11, "_law_rings"), (12, "_law_told"), (13, "_law_due"), (14, "_law_stage"), (15, "law")] : List (Nat × Str)) := by decide) : FnR W n env H x Ps cls := by
  obtain ⟨a, pm, code, doc, e, d⟩ := L.fn _ hm
  exact FnR.glob L.G hx he e d.callee (cl a pm code doc d)
theorem fn_len {l : List VP} (L : Lib H₀ mg mb) (hx : HX H₀ H) (he : EnvG env "len") (hsz : l.length ≤ 100000) : Fn W n env H "len" [ListV l] (IntV l.length) := Fn.blt L.G hx he (L.no _ (by decide)) boot_len (.inl ⟨_, rfl⟩) (cl_len hsz)
theorem fn_range {b : Int} (L : Lib H₀ mg mb) (hx : HX H₀ H) (he : EnvG env "range") : Fn W n env H "range" [IntV b] (RangeV 0 b) := Fn.blt L.G hx he (L.no _ (by decide)) boot_range (.inr (.inl ⟨_, rfl⟩)) cl_range1
end
theorem fmod_rng (a : Int) {b : Int} (h : 0 < b) : 0 ≤ a.fmod b ∧ a.fmod b < b := by
  rw [Int.fmod_eq_emod_of_nonneg _ (Int.le_of_lt h)]
  exact ⟨Int.emod_nonneg _ (Int.ne_of_gt h), Int.emod_lt_of_pos _ h⟩
theorem fdiv2 (m : Nat) : (m : Int).fdiv 2 = ((m / 2 : Nat) : Int) := by
  rw [Int.fdiv_eq_ediv_of_nonneg _ (by decide)]; rfl
theorem filt_true {α : Type} (l : List α) : (l.filter fun _ => true) = l := List.filter_eq_self.mpr fun _ _ => rfl
end Mine

/-! ### L2 -/
open PySem PySem.W PyProof.Rows PySem.SeqAt
set_option Elab.async false
namespace Mine
set_option maxRecDepth 100000
structure Way where
  here : Int
  met : List Int
  gone : List Int
def WayV (w : Way) : VP := ListV [IntV w.here, IntsV w.met, IntsV w.gone]
def lineAt (lines : List Line) (k : Int) : Line := lines.getD k.toNat (0, 0)
def other (l : Line) (i : Int) : Int := l.1 + l.2 - i
def okStep (lines : List Line) (w : Way) (k : Int) : Bool := [(lineAt lines k).1, (lineAt lines k).2].contains w.here && !w.met.contains (other (lineAt lines k) w.here)
def stepTo (lines : List Line) (w : Way) (k : Int) : Way := ⟨other (lineAt lines k) w.here, w.met ++ [other (lineAt lines k) w.here], w.gone ++ [k]⟩
def kids (lines : List Line) (new : Nat) (w : Way) : List Way := ((rangeL 0 new).filter (okStep lines w)).map (stepTo lines w)
def cmpl (lines : List Line) (new : Nat) (b : Int) : Nat → Way → List Int
  | 0, w => if w.here = b then w.gone else []
  | f + 1, w => if w.here = b then w.gone else (kids lines new w).reverse.flatMap (cmpl lines new b f)
def nodes (lines : List Line) (new : Nat) (b : Int) : Nat → Way → Nat
  | 0, _ => 1
  | f + 1, w => 1 + if w.here = b then 0 else ((kids lines new w).map (nodes lines new b f)).sum
def way0 (lines : List Line) (new : Nat) : Way := ⟨(lineAt lines new).1, [(lineAt lines new).1], [(new : Int)]⟩
def goal (lines : List Line) (new : Nat) : Int := (lineAt lines new).2
def ringsOf (lines : List Line) (new : Nat) : List Int := cmpl lines new (goal lines new) 4 (way0 lines new)
theorem kids_len (lines : List Line) (new : Nat) (w : Way) : (kids lines new w).length ≤ new := by
  unfold kids
  rw [List.length_map]
  exact Nat.le_trans (List.length_filter_le _ _) (by rw [rangeL_length]; exact Nat.le_refl _)
theorem kids_gone {lines : List Line} {new : Nat} {w x : Way} (h : x ∈ kids lines new w) : x.gone.length = w.gone.length + 1 ∧ x.met.length = w.met.length + 1 := by
  obtain ⟨k, _, rfl⟩ := List.mem_map.mp h
  simp [stepTo]
theorem sum_le {α : Type} {f : α → Nat} {m : Nat} : ∀ {l : List α}, (∀ x ∈ l, f x ≤ m) → (l.map f).sum ≤ l.length * m
  | [], _ => by simp
  | x :: l, h => by
    have h1 := h x List.mem_cons_self
    have h2 := sum_le (l := l) fun y hy => h y (List.mem_cons_of_mem _ hy)
    rw [List.map_cons, List.sum_cons, List.length_cons, Nat.add_mul]; omega
theorem nodes_le {lines : List Line} {new : Nat} (hn : new ≤ 6) (b : Int) : ∀ (f : Nat) (w : Way), nodes lines new b f w ≤ 7 ^ f
  | 0, w => by simp [nodes]
  | f + 1, w => by
    unfold nodes
    have hp : 1 ≤ 7 ^ f := Nat.one_le_pow _ _ (by decide)
    split
    · rw [Nat.pow_succ]; omega
    · have h1 := sum_le (f := nodes lines new b f) (m := 7 ^ f) (l := kids lines new w) fun x _ => nodes_le hn b f x
      have h2 := Nat.mul_le_mul_right (7 ^ f) (Nat.le_trans (kids_len lines new w) hn)
      rw [Nat.pow_succ]; omega
theorem nodes_pos (lines : List Line) (new : Nat) (b : Int) (f : Nat) (w : Way) : 1 ≤ nodes lines new b f w := by
  cases f <;> simp [nodes]
theorem flatMap_cong {α β : Type} {f g : α → List β} : ∀ {l : List α}, (∀ x ∈ l, f x = g x) → l.flatMap f = l.flatMap g
  | [], _ => rfl
  | x :: l, h => by rw [List.flatMap_cons, List.flatMap_cons, h x List.mem_cons_self, flatMap_cong fun y hy => h y (List.mem_cons_of_mem _ hy)]
theorem cmpl_le {lines : List Line} {new : Nat} (hn : new ≤ 6) (b : Int) : ∀ (f : Nat) (w : Way), (cmpl lines new b f w).length ≤ (w.gone.length + f) * 6 ^ f
  | 0, w => by unfold cmpl; split <;> simp
  | f + 1, w => by
    unfold cmpl
    have hp : 1 ≤ 6 ^ f := Nat.one_le_pow _ _ (by decide)
    split
    · have : w.gone.length * 1 ≤ (w.gone.length + (f + 1)) * 6 ^ (f + 1) := Nat.mul_le_mul (by omega) (Nat.one_le_pow _ _ (by decide))
      omega
    · rw [List.length_flatMap]
      have h1 := sum_le (f := fun x => (cmpl lines new b f x).length) (m := (w.gone.length + (f + 1)) * 6 ^ f) (l := (kids lines new w).reverse) fun x hx => by
        have h := cmpl_le (lines := lines) (new := new) hn b f x
        rw [(kids_gone (List.mem_reverse.mp hx)).1] at h
        rw [show w.gone.length + 1 + f = w.gone.length + (f + 1) by omega] at h
        exact h
      rw [List.length_reverse] at h1
      have h2 := Nat.mul_le_mul_right ((w.gone.length + (f + 1)) * 6 ^ f) (Nat.le_trans (kids_len lines new w) hn)
      rw [Nat.pow_succ, Nat.mul_comm (6 ^ f) 6, Nat.mul_left_comm]
      omega
theorem ringsOf_le {lines : List Line} {new : Nat} (hn : new ≤ 6) : (ringsOf lines new).length ≤ 6480 := by
  have h := cmpl_le (lines := lines) (new := new) hn (goal lines new) 4 (way0 lines new)
  exact Nat.le_trans h (by simp [way0])
/-- what is left to do -/
def left (lines : List Line) (new : Nat) (ws : List Way) : List Int := ws.reverse.flatMap fun w => cmpl lines new (goal lines new) (5 - w.met.length) w
def mu (lines : List Line) (new : Nat) (ws : List Way) : Nat := (ws.map fun w => nodes lines new (goal lines new) (5 - w.met.length) w).sum
theorem mu_len (lines : List Line) (new : Nat) : ∀ ws : List Way, ws.length ≤ mu lines new ws
  | [] => by simp [mu]
  | w :: ws => by
    have h := mu_len lines new ws
    have h2 := nodes_pos lines new (goal lines new) (5 - w.met.length) w
    unfold mu at h ⊢
    rw [List.map_cons, List.sum_cons, List.length_cons]; omega
theorem left_snoc (lines : List Line) (new : Nat) (ws : List Way) (w : Way) : left lines new (ws ++ [w]) = cmpl lines new (goal lines new) (5 - w.met.length) w ++ left lines new ws := by
  unfold left; simp
theorem mu_snoc (lines : List Line) (new : Nat) (ws : List Way) (w : Way) : mu lines new (ws ++ [w]) = mu lines new ws + nodes lines new (goal lines new) (5 - w.met.length) w := by
  unfold mu; simp
structure St where
  sh : List Int
  ws : List Way
structure GoodR (lines : List Line) (new : Nat) (b : St) : Prop where
  met : ∀ w ∈ b.ws, w.met.length ≤ 5 ∧ w.gone.length = w.met.length
  eq : b.sh ++ left lines new b.ws = ringsOf lines new
  mu : mu lines new b.ws ≤ 7 ^ 4
theorem step_done {lines : List Line} {new : Nat} {sh : List Int} {ws : List Way} {w : Way} (g : GoodR lines new ⟨sh, ws ++ [w]⟩) (h : w.here = goal lines new) : GoodR lines new ⟨sh ++ w.gone, ws⟩ ∧ mu lines new ws < mu lines new (ws ++ [w]) := by
  have hm := mu_snoc lines new ws w
  have hp := nodes_pos lines new (goal lines new) (5 - w.met.length) w
  have h1 := g.mu
  have h2 := g.eq
  have e1 : cmpl lines new (goal lines new) (5 - w.met.length) w = w.gone := by
    cases (5 - w.met.length) <;> (unfold cmpl; rw [if_pos h])
  simp only at h1 h2
  rw [left_snoc, e1, ← List.append_assoc] at h2
  exact ⟨⟨fun x hx => g.met x (List.mem_append_left _ hx), h2, by show mu lines new ws ≤ 7 ^ 4; omega⟩, by omega⟩
theorem step_stop {lines : List Line} {new : Nat} {sh : List Int} {ws : List Way} {w : Way} (g : GoodR lines new ⟨sh, ws ++ [w]⟩) (h : w.here ≠ goal lines new) (h5 : ¬ w.met.length < 5) : GoodR lines new ⟨sh, ws⟩ ∧ mu lines new ws < mu lines new (ws ++ [w]) := by
  have hm := mu_snoc lines new ws w
  have hp := nodes_pos lines new (goal lines new) (5 - w.met.length) w
  have h1 := g.mu
  have h2 := g.eq
  have hw := (g.met w (List.mem_append_right _ (List.mem_singleton.mpr rfl))).1
  have e0 : 5 - w.met.length = 0 := by omega
  have e1 : cmpl lines new (goal lines new) (5 - w.met.length) w = [] := by
    rw [e0]; unfold cmpl; rw [if_neg h]
  simp only at h1 h2
  rw [left_snoc, e1, List.nil_append] at h2
  exact ⟨⟨fun x hx => g.met x (List.mem_append_left _ hx), h2, by show mu lines new ws ≤ 7 ^ 4; omega⟩, by omega⟩
theorem step_kids {lines : List Line} {new : Nat} {sh : List Int} {ws : List Way} {w : Way} (g : GoodR lines new ⟨sh, ws ++ [w]⟩) (h : w.here ≠ goal lines new) (h5 : w.met.length < 5) : GoodR lines new ⟨sh, ws ++ kids lines new w⟩ ∧ mu lines new (ws ++ kids lines new w) < mu lines new (ws ++ [w]) := by
  have hm := mu_snoc lines new ws w
  have h1 := g.mu
  have h2 := g.eq
  obtain ⟨f, hf⟩ : ∃ f, 5 - w.met.length = f + 1 := ⟨4 - w.met.length, by omega⟩
  have hk : ∀ x ∈ kids lines new w, 5 - x.met.length = f := fun x hx => by rw [(kids_gone hx).2]; omega
  have e1 : cmpl lines new (goal lines new) (5 - w.met.length) w = left lines new (kids lines new w) := by
    rw [hf]; unfold cmpl; rw [if_neg h]
    unfold left
    exact flatMap_cong fun x hx => by rw [hk x (List.mem_reverse.mp hx)]
  have e2 : nodes lines new (goal lines new) (5 - w.met.length) w = 1 + mu lines new (kids lines new w) := by
    rw [hf]; unfold nodes; rw [if_neg h]
    unfold mu
    rw [List.map_congr_left (g := fun w => nodes lines new (goal lines new) (5 - w.met.length) w) fun x hx => by rw [hk x hx]]
  have e3 : mu lines new (ws ++ kids lines new w) = mu lines new ws + mu lines new (kids lines new w) := by unfold mu; simp
  have e4 : left lines new (ws ++ kids lines new w) = left lines new (kids lines new w) ++ left lines new ws := by unfold left; simp
  simp only at h1 h2
  rw [left_snoc, e1] at h2
  refine ⟨⟨fun x hx => ?_, by rw [e4]; exact h2, by show mu lines new (ws ++ kids lines new w) ≤ 7 ^ 4; omega⟩, by omega⟩
  rcases List.mem_append.mp hx with hx | hx
  · exact g.met x (List.mem_append_left _ hx)
  · have hw := (g.met w (List.mem_append_right _ (List.mem_singleton.mpr rfl))).2
    rw [(kids_gone hx).2, (kids_gone hx).1]; omega
end Mine

/-! ### L3 -/
open PySem PySem.W PyProof.Rows PySem.SeqAt
set_option Elab.async false
namespace Mine
set_option maxRecDepth 100000
theorem lineAt_ok {lines : List Line} (hl : ∀ l ∈ lines, LineOk l) (k : Int) : LineOk (lineAt lines k) := by
  unfold lineAt
  rw [List.getD_eq_getElem?_getD]
  cases h : lines[k.toNat]? with
  | none => exact ⟨⟨by decide, by decide⟩, by decide, by decide⟩
  | some l => exact hl l (List.mem_of_getElem? h)
section
variable {W : Wd} {n : Nat} {env : Env} {H : Heap} {c : Cx} {e₁ e₂ : Expr} {pos : Pos}
/-- lines[k], lines[k][0], lines[k][1] -/
theorem PE.line {lines : List Line} {k : Int} (p₁ : PE W n env H c e₁ (LinesV lines)) (p₂ : PE W n env H c e₂ (IntV k)) (h0 : 0 ≤ k ∧ k < lines.length) (hz : lines.length ≤ 1000)
    (hs : ∀ o i, subscripted e₂ false o i = operate [o, i] (getItem o i) := by intro _ _; rfl) : PE W n env H c (.Subscript e₁ e₂ pos) (IntsV [(lineAt lines k).1, (lineAt lines k).2]) :=
  PE.itemI p₁ p₂ ⟨h0.1, by omega⟩ (at_getD (F := fun x : Line => IntsV [x.1, x.2]) (by omega)) hs
theorem PE.fst {a b : Int} {p0 : Pos} {k0 : Nat} (p₁ : PE W n env H c e₁ (IntsV [a, b])) : PE W n env H c (.Subscript e₁ (.Constant (.int 0) k0 p0) pos) (IntV a) := PE.itemI p₁ PE.int (by decide) rfl
theorem PE.snd {a b : Int} {p0 : Pos} {k0 : Nat} (p₁ : PE W n env H c e₁ (IntsV [a, b])) : PE W n env H c (.Subscript e₁ (.Constant (.int 1) k0 p0) pos) (IntV b) := PE.itemI p₁ PE.int (by decide) rfl
end
section
variable {W : Wd} {n : Nat} {H₀ : Heap} {a : Addr} {pm code doc : Value} {mg mb : Str → Option Value}
set_option maxHeartbeats 4000000 in
theorem cl_rings {lines : List Line} {new : Nat} (hn : new < lines.length) (hz : lines.length ≤ 6) (L : Lib H₀ mg mb) (d : DefI H₀ a "_law_rings" 11 pm code doc) :
    Cl W (n + 2) H₀ (.ref a) [LinesV lines, IntV (new : Int)] (IntsV (ringsOf lines new)) := by
  refine Cl.of_def d L.G.nl (names := ["lines", "new"]) (by decide) rfl ?_ ?_ ?_ rfl rfl rfl ?_
  · intro vals hv
    match vals, hv with
    | [x, y], _ => rfl
  · decide
  · decide
  intro Hc Lc A E s c hH r f
  have hn6 : new ≤ 6 := by omega
  have hrl := ringsOf_le (lines := lines) (new := new) hn6
  refine st_own_list f r (x := "shared") .nil (by decide) (.inl rfl) rfl fun s₁ c₁ D₁ g₁ w₁ n₁ => ?_
  have f₁ := f.trans g₁
  have ln : ∀ {e px py pz}, e = Expr.Subscript (.Name "lines" px) (.Name "new" py) pz → PE W (n + 1) _ s₁.heap c₁ e (IntsV [(lineAt lines new).1, (lineAt lines new).2]) := fun h => h ▸ PE.line (PE.name (f₁.rd (P := LinesV lines) rfl)) (PE.name (f₁.rd (P := IntV (new : Int)) rfl)) (by omega) (by omega)
  refine st_own_list f₁ r (x := "ways") (Ps := [WayV (way0 lines new)]) (.one (PE.list (.cons rfl (PE.fst (ln rfl)) (.cons rfl (PE.list (.one (PE.fst (ln rfl))) (by show 1 ≤ 1000; decide)) (.cons rfl (PE.list (.one (PE.name (f₁.rd (P := IntV (new : Int)) rfl))) (by show 1 ≤ 1000; decide)) .nil))) (by show 3 ≤ 1000; decide))) (by show 1 ≤ 1000; decide) (.inl rfl) rfl fun s₂ c₂ D₂ g₂ w₂ n₂ => ?_
  have f₂ := f₁.trans g₂
  have w₁' := w₁.mv g₂.mv w₁.out
  have ne : D₁ ≠ D₂ := fun q => by
    obtain ⟨o, e⟩ := w₁.live
    rw [q, n₂] at e; cases e
  have R : RS Hc s c s₂ c₂ _ _ _ D₁ [] D₂ [WayV (way0 lines new)] s₂ c₂ := ⟨f₂, w₁', w₂, ne, .refl f₂.ins fun b hb => by
    rcases List.mem_cons.mp hb with rfl | hb
    · exact ⟨w₁'.off, w₁'.live⟩
    · rcases List.mem_cons.mp hb with rfl | hb
      · exact ⟨w₂.off, w₂.live⟩
      · exact f₂.mv.off b hb⟩
  refine st_whileX (β := St) (Inv := fun _ => listV [("lines", LinesV lines), ("new", IntV (new : Int)), ("shared", IsV (.ref D₁)), ("ways", IsV (.ref D₂))]) (M₁ := fun b => b.sh.map IntV) (M₂ := fun b => b.ws.map WayV) (μ := fun b => mu lines new b.ws) (t := fun b => !b.ws.isEmpty) (Good := GoodR lines new)
    ⟨[], [way0 lines new]⟩ R ⟨?_, ?_, ?_⟩ (VLe.le ⟨rfl, rfl, rfl, rfl, trivial⟩) ?_ ?_ ?_
  · intro w hw
    rw [List.mem_singleton.mp hw]; exact ⟨by show 1 ≤ 5; decide, rfl⟩
  · show [] ++ left lines new [way0 lines new] = ringsOf lines new
    unfold left ringsOf; simp [way0]
  · have h := nodes_le (lines := lines) hn6 (goal lines new) 4 (way0 lines new)
    show mu lines new [way0 lines new] ≤ 7 ^ 4
    unfold mu
    rw [List.map_cons, List.map_nil, List.sum_cons, List.sum_nil]
    exact h
  · intro b g s c Ex Q R k
    refine rs_test R r (y := "ways") rfl (fun c' f => (PT.cmp (PE.name (f.rd (P := ListV (b.ws.map WayV)) rfl)) PE.nil o_ne0).eq ?_) k
    cases b.ws <;> rfl
  · rintro ⟨sh, ws₀⟩ g ht s c Ex R
    rcases List.eq_nil_or_concat ws₀ with rfl | ⟨ws, w, rfl⟩
    · cases ht
    rw [List.concat_eq_append] at *
    have hml := mu_len lines new (ws ++ [w])
    have hmu := g.mu
    have h7 : 7 ^ 4 = 2401 := rfl
    have hwl : ws.length ≤ 2401 := by
      rw [List.length_append] at hml
      simp only at hmu
      omega
    have e : List.map WayV (St.mk sh (ws ++ [w])).ws = ws.map WayV ++ [ListV [IntV w.here, IntsV w.met, IntsV w.gone]] := by
      show List.map WayV (ws ++ [w]) = _
      rw [List.map_append]; rfl
    rw [e] at R
    refine rs_pop3 R r (w := "ways") rfl (by rw [List.length_map]; omega) (.inl rfl) (.inl rfl) (.inl rfl) rfl rfl rfl fun s₁ c₁ R₁ => ?_
    have R₁ := R₁.to [("lines", LinesV lines), ("new", IntV (new : Int)), ("shared", IsV (.ref D₁)), ("ways", IsV (.ref D₂)), ("here", IntV w.here), ("met", IntsV w.met), ("gone", IntsV w.gone)] ⟨rfl, rfl, rfl, rfl, rfl, rfl, rfl, trivial⟩
    refine st_if (b := (w.here == goal lines new)) R₁.f.base r (PT.cmp (PE.name (R₁.f.rd (P := IntV w.here) rfl)) (PE.snd (PE.line (k := (new : Int)) (PE.name (R₁.f.rd (P := LinesV lines) rfl)) (PE.name (R₁.f.rd (P := IntV (new : Int)) rfl)) (by omega) (by omega))) o_eq) (fun hb s₂ c₂ f₂ => ?_) (fun hb s₂ c₂ f₂ => ?_)
    · have hg := step_done g (by simpa using hb)
      have R₂ := R₁.go f₂
      have hsl : sh.length + w.gone.length ≤ 6480 := by
        have h := congrArg List.length hg.1.eq
        simp only [List.length_append] at h
        omega
      refine rs_extend R₂ r (y := "shared") (l := w.gone.map IntV) rfl (PE.name (R₂.f.rd (P := IntsV w.gone) rfl)) (by show (sh.map IntV).length + (w.gone.map IntV).length ≤ 100000; rw [List.length_map, List.length_map]; omega) rfl rfl rfl fun s₃ c₃ R₃ => st_end (st_end ⟨⟨sh ++ w.gone, ws⟩, c₃, hg.2, hg.1, ?_⟩)
      rw [← List.map_append] at R₃
      exact (R₃.to [("lines", LinesV lines), ("new", IntV (new : Int)), ("shared", IsV (.ref D₁)), ("ways", IsV (.ref D₂))] ⟨rfl, rfl, rfl, rfl, trivial⟩).rebase
    · have hne : w.here ≠ goal lines new := by simpa using hb
      have R₂ := R₁.go f₂
      have hwm := g.met w (List.mem_append_right _ (List.mem_singleton.mpr rfl))
      refine st_if (b := decide ((w.met.length : Int) < 5)) R₂.f.base r (PT.cmp ((PE.call (fn_len (l := w.met.map IntV) L (hH.trans R₂.f.h0) ⟨rfl, rfl, rfl, rfl⟩ (by rw [List.length_map]; omega)) (.one (PE.name (R₂.f.rd rfl)))).eq (by rw [List.length_map])) PE.int o_lt) (fun hb s₃ c₃ f₃ => ?_) (fun hb s₃ c₃ f₃ => ?_)
      · have h5 : w.met.length < 5 := by
          have := of_decide_eq_true hb
          omega
        have hg := step_kids g hne h5
        have R₃ := R₂.go f₃
        have hgl : w.gone.length ≤ 100 := by omega
        refine st_forX (xs := rangeL 0 new) (F := IntV) (bind := fun i V => V.set "k" (IntV i)) (Inv := fun _ => listV [("lines", LinesV lines), ("new", IntV (new : Int)), ("shared", IsV (.ref D₁)), ("ways", IsV (.ref D₂)), ("here", IntV w.here), ("met", IntsV w.met), ("gone", IntsV w.gone)])
          (M₁ := fun _ => sh.map IntV) (M₂ := fun i => ws.map WayV ++ ((((rangeL 0 new).take i).filter (okStep lines w)).map fun k => WayV (stepTo lines w k))) r (by
            have e : ws.map WayV ++ ((((rangeL 0 new).take 0).filter (okStep lines w)).map fun k => WayV (stepTo lines w k)) = ws.map WayV := by simp
            rw [e]; exact R₃) (PE.call (fn_range L (hH.trans R₃.f.h0) ⟨rfl, rfl, rfl, rfl⟩) (.one (P := IntV (new : Int)) (PE.name (R₃.f.rd rfl)))) (iters_range (whole_name _ _) (by omega) (by decide) (by omega)) (fun i hi sb cb V s c v A E Q f ok k => frm_assign f ok (.inl rfl) fun s' f' => k s' c f') (fun _ _ h => h) ?_ ?_
        · intro i k hk s c Ex R
          have hk' := range_mem (List.mem_of_getElem? hk)
          have snoc : ((((rangeL 0 new).take (i + 1)).filter (okStep lines w)).map fun k => WayV (stepTo lines w k)) = ((((rangeL 0 new).take i).filter (okStep lines w)).map fun k => WayV (stepTo lines w k)) ++ (if okStep lines w k then [WayV (stepTo lines w k)] else []) := by
            rw [take_succ_filter _ _ i k hk, List.map_append]
            cases okStep lines w k <;> rfl
          have li : ∀ {e px py pz}, e = Expr.Subscript (.Name "lines" px) (.Name "k" py) pz → PE W (n + 1) _ s.heap c e (IntsV [(lineAt lines k).1, (lineAt lines k).2]) := fun h => h ▸ PE.line (PE.name (R.f.rd (P := LinesV lines) rfl)) (PE.name (R.f.rd (P := IntV k) rfl)) (by omega) (by omega)
          refine st_assign R.f.base r (P := IntV (other (lineAt lines k) w.here)) (PE.subI (PE.addI (PE.fst (li rfl)) (PE.snd (li rfl))) (PE.name (R.f.rd rfl))) (.inl rfl) rfl fun s₁ c₁ f₁ => ?_
          have R₁ := R.go f₁
          refine st_if (b := okStep lines w k) R₁.f.base r (PT.and (PT.val (PE.call (Ps := [IntsV [(lineAt lines k).1, (lineAt lines k).2], IntV w.here]) (Fn.lib L (hH.trans R₁.f.h0) ⟨rfl, rfl, rfl, rfl⟩ 6 fun _ _ _ _ d => cl_contains L.G.nl d) (.two (PE.line (PE.name (R₁.f.rd (P := LinesV lines) rfl)) (PE.name (R₁.f.rd (P := IntV k) rfl)) (by omega) (by omega)) (PE.name (R₁.f.rd rfl)))))
            (fun _ => PT.cmp (PE.name (R₁.f.rd (P := IntV (other (lineAt lines k) w.here)) rfl)) (PE.name (R₁.f.rd (P := IntsV w.met) rfl)) o_notin)) (fun hb s₂ c₂ f₂ => ?_) (fun hb s₂ c₂ f₂ => ?_)
          · have R₂ := R₁.go f₂
            have hfl := List.length_filter_le (okStep lines w) ((rangeL 0 new).take i)
            have htl : ((rangeL 0 new).take i).length ≤ new := by rw [List.length_take, rangeL_length]; omega
            refine rs_append R₂ r (y := "ways") (P := WayV (stepTo lines w k)) rfl (PE.list (.cons rfl (PE.name (R₂.f.rd rfl)) (.cons rfl ((PE.two (PE.name (R₂.f.rd (P := IntsV w.met) rfl)) (PE.list (.one (PE.name (R₂.f.rd (P := IntV (other (lineAt lines k) w.here)) rfl))) (by show 1 ≤ 1000; decide)) (o_addl (by rw [List.length_map]; show w.met.length + 1 ≤ 100000; omega))).eq (by unfold stepTo; rw [IntsV, List.map_append]; rfl))
              (.cons rfl ((PE.two (PE.name (R₂.f.rd (P := IntsV w.gone) rfl)) (PE.list (.one (PE.name (R₂.f.rd (P := IntV k) rfl))) (by show 1 ≤ 1000; decide)) (o_addl (by rw [List.length_map]; show w.gone.length + 1 ≤ 100000; omega))).eq (by unfold stepTo; rw [IntsV, List.map_append]; rfl)) .nil))) (by show 3 ≤ 1000; decide)) (by rw [List.length_append, List.length_map, List.length_map]; omega) rfl rfl rfl fun s₃ c₃ R₃ => st_end (st_end ⟨c₃, ?_⟩)
            rw [snoc, hb, if_pos rfl, ← List.append_assoc]
            exact R₃.to _ ⟨rfl, rfl, rfl, rfl, rfl, rfl, rfl, trivial⟩
          · refine st_end (st_end ⟨c₂, ?_⟩)
            rw [snoc, hb, if_neg (by decide), List.append_nil]
            exact (R₁.go f₂).to _ ⟨rfl, rfl, rfl, rfl, rfl, rfl, rfl, trivial⟩
        · intro s₄ c₄ R₄
          refine st_end (st_end (st_end (st_end ⟨⟨sh, ws ++ kids lines new w⟩, c₄, hg.2, hg.1, ?_⟩)))
          have e : (ws ++ kids lines new w).map WayV = ws.map WayV ++ ((((rangeL 0 new).take (rangeL 0 new).length).filter (okStep lines w)).map fun k => WayV (stepTo lines w k)) := by
            rw [List.take_length, List.map_append]
            unfold kids
            rw [List.map_map]; rfl
          show RS _ _ _ _ _ _ _ _ D₁ (sh.map IntV) D₂ ((ws ++ kids lines new w).map WayV) s₄ c₄
          rw [e]
          exact R₄.to _ ⟨rfl, rfl, rfl, rfl, trivial⟩
      · have h5 : ¬ w.met.length < 5 := by
          have := of_decide_eq_false hb
          omega
        have hg := step_stop g hne h5
        exact st_end (st_end (st_end ⟨⟨sh, ws⟩, c₃, hg.2, hg.1, ((R₂.go f₃).to [("lines", LinesV lines), ("new", IntV (new : Int)), ("shared", IsV (.ref D₁)), ("ways", IsV (.ref D₂))] ⟨rfl, rfl, rfl, rfl, trivial⟩).rebase⟩))
  · rintro ⟨sh, ws⟩ s c g ht R
    have hws : ws = [] := by
      cases ws with
      | nil => rfl
      | cons _ _ => cases ht
    subst hws
    have he : sh = ringsOf lines new := by
      have := g.eq
      simpa [left] using this
    obtain ⟨o, fz⟩ := R.f.freezeL (y := "shared") R.w₁ rfl
    exact st_return fz r (P := IntsV (ringsOf lines new)) (PE.name (fz.rd (by rw [← he]; rfl))) fun v s' c' f' z => ⟨c', f'.nil, z⟩
end
end Mine

/-! ### L4 -/
open PySem PySem.W PyProof.Rows PySem.SeqAt
set_option Elab.async false
namespace Mine
set_option maxRecDepth 100000
def nums (l : List Int) : List Int := ((l.take 6).map fun x => x.fmod 1000000) ++ ([16, 1, 12, 9] : List Int).drop ((l.take 6).map fun x => x.fmod 1000000).length
def lineOf (x : Int) : Line := (x.fmod 5, (x.fmod 5 + 1 + (x.fdiv 5).fmod 4).fmod 5)
def netL (l : List Int) : List Line := (nums l).map lineOf
theorem nums_len (l : List Int) : (nums l).length ≤ 6 := by
  unfold nums
  rw [List.length_append, List.length_drop, List.length_map, List.length_take]
  simp only [List.length_cons, List.length_nil]; omega
section
variable {W : Wd} {n : Nat} {H₀ : Heap} {a : Addr} {pm code doc : Value} {mg mb : Str → Option Value}
set_option maxHeartbeats 2000000 in
theorem cl_lines {l : List Int} (hz : l.length ≤ 1000) (L : Lib H₀ mg mb) (d : DefI H₀ a "_law_lines" 10 pm code doc) :
    Cl W (n + 1) H₀ (.ref a) [ListV (l.map IntW)] (LinesV (netL l)) := by
  refine Cl.of_def d L.G.nl (names := ["script"]) (by decide) rfl ?_ ?_ ?_ rfl rfl rfl ?_
  · intro vals hv
    match vals, hv with
    | [x], _ => rfl
  · decide
  · decide
  intro Hc Lc A E s c hH r f
  have hlt : ((l.take 6).map fun x => x.fmod 1000000).length ≤ 6 := by rw [List.length_map, List.length_take]; omega
  refine st_comp (xs := l.take 6) (F := IntW) (p := fun _ => true) (G := fun x => IntV (x.fmod 1000000)) f r (.of (P₀ := ListV ((l.take 6).map IntW)) ((PE.upto (l := l.map IntW) (k := 6) (P₂ := IntV 6) (PE.name (f.rd rfl)) PE.int (by rw [List.length_map]; omega)).eq (by rw [List.map_take])) (iters_list (whole_name _ _)))
    rfl rfl rfl (by decide) (cells0 fun _ => rfl) (fun a _ C => asgL rfl rfl C) (fun _ _ _ _ _ _ _ _ => .nil) (fun j hj _ C H' c' hx' hl' bd => PE.mod (a := j) (b := 1000000) (PE.name bd.rd) PE.int (by decide)) (by rw [List.length_take]; omega) rfl fun s₁ c₁ f₁ => ?_
  have hnv : ListV (((l.take 6).filter fun _ => true).map fun x => IntV (x.fmod 1000000)) = IntsV ((l.take 6).map fun x => x.fmod 1000000) := by
    rw [filt_true, IntsV, List.map_map]; rfl
  rw [hnv] at f₁
  refine st_assign f₁ r (P := IntsV (nums l)) ?_ (.inl rfl) rfl fun s₂ c₂ f₂ => ?_
  · refine (PE.two (PE.name (f₁.rd (P := IntsV ((l.take 6).map fun x => x.fmod 1000000)) rfl)) (PE.from (l := ([16, 1, 12, 9] : List Int).map IntV) (k := ((l.take 6).map fun x => x.fmod 1000000).length) (P₂ := IntV ((((l.take 6).map fun x => x.fmod 1000000).map IntV).length : Int)) (PE.list (.cons rfl PE.int (.cons rfl PE.int (.cons rfl PE.int (.cons rfl PE.int .nil)))) (by decide)) (PE.call (fn_len L (hH.trans f₁.h0) ⟨rfl, rfl, rfl, rfl⟩ (by rw [List.length_map]; omega)) (.one (PE.name (f₁.rd rfl)))) (by decide) (by rw [List.length_map]; exact isI_v _)) (o_addl (by rw [List.length_map, List.length_drop]; simp only [List.length_map, List.length_cons, List.length_nil]; simp only [List.length_map] at hlt; omega))).eq ?_
    unfold nums
    rw [IntsV, List.map_append, List.map_drop]
  have hn := nums_len l
  have tt : netL l = (nums l).map lineOf := rfl
  refine st_return f₂ r (P := LinesV (netL l)) ((PE.comp (xs := nums l) (F := IntV) (p := fun _ => true) (G := fun x => IntsV [x.fmod 5, (x.fmod 5 + 1 + (x.fdiv 5).fmod 4).fmod 5]) (PE.name (f₂.rd rfl)) (iters_list (whole_name _ _))
    rfl rfl (by decide) (cells0 fun _ => rfl) (fun a _ C => asgL rfl rfl C) (fun _ _ _ _ _ _ _ _ => .nil) (fun j hj _ C H' c' hx' hl' bd => ?_) (by omega)).eq (by rw [filt_true, LinesV, tt, List.map_map]; rfl)) fun v s' c' f' z => ⟨c', f'.nil, z⟩
  exact PE.list (.cons rfl (PE.modI (PE.name bd.rd) PE.int (by decide)) (.cons rfl (PE.modI (PE.addI (PE.addI (PE.modI (PE.name bd.rd) PE.int (by decide)) PE.int) (PE.modI (PE.fdivI (PE.name bd.rd) PE.int (by decide)) PE.int (by decide))) PE.int (by decide)) .nil)) (by show 2 ≤ 1000; decide)
end
end Mine

/-! ### L5 -/
open PySem PySem.W PyProof.Rows PySem.SeqAt
set_option Elab.async false
namespace Mine
set_option maxRecDepth 100000
theorem rangeL_nodup (a : Int) (n : Nat) : (rangeL a n).Nodup := by
  unfold rangeL
  rw [List.nodup_iff_pairwise_ne, List.pairwise_map]
  refine List.Pairwise.imp ?_ (List.nodup_iff_pairwise_ne.mp List.nodup_range)
  intro x y h q
  omega
theorem count_le_one : ∀ {is : List Int} (t : Int), is.Nodup → is.count t ≤ 1
  | [], _, _ => by simp
  | i :: is, t, h => by
    rw [List.nodup_cons] at h
    rw [List.count_cons]
    by_cases q : i = t
    · subst q
      have : is.count i = 0 := List.count_eq_zero.mpr h.1
      simp [this]
    · have hb : (i == t) = false := beq_eq_false_iff_ne.mpr q
      rw [hb]
      have := count_le_one t h.2
      simpa using this
theorem count_sum {is : List Int} (h : is.Nodup) : ∀ ts : List Int, (is.map fun i => ts.count i).sum ≤ ts.length
  | [] => by
    have : (is.map fun i => ([] : List Int).count i).sum = 0 := by
      induction is with
      | nil => rfl
      | cons i is ih => rw [List.map_cons, List.sum_cons, ih (List.nodup_cons.mp h).2]; simp
    omega
  | t :: ts => by
    have ih := count_sum h ts
    have e : ∀ l : List Int, (l.map fun i => (t :: ts).count i).sum = (l.map fun i => ts.count i).sum + l.count t := by
      intro l
      induction l with
      | nil => rfl
      | cons i l ih =>
        rw [List.map_cons, List.sum_cons, ih, List.map_cons, List.sum_cons, List.count_cons, List.count_cons]
        have : (t == i) = (i == t) := by rw [Bool.eq_iff_iff, beq_iff_eq, beq_iff_eq]; exact eq_comm
        rw [this]; omega
    rw [e, List.length_cons]
    have := count_le_one t h
    omega
/-- the marks ahead of a letter -/
def mk (things : List Int) (more : Nat) (i : Int) : Nat := things.count i + more
def ltr (letters : List Nat) (i : Int) : Nat := letters.getD i.toNat 0
def toldT (things : List Int) (more : Nat) (letters : List Nat) (is : List Int) : List Nat := (is.map fun i => List.replicate (mk things more i) 34 ++ [ltr letters i]).flatten
def tails : List (List Nat) := [[34, 32, 34, 105, 115, 34, 32, 105, 116], [34], []]
def tailOf (things : List Int) : List Nat := tails.getD (((things.length : Int) + 1).fmod 3).toNat []
def told (things : List Int) (more : Nat) (letters : List Nat) : List Nat := prs (toldT things more letters (rangeL 0 letters.length) ++ tailOf things)
theorem toldT_len {things : List Int} {more : Nat} {letters : List Nat} {is : List Int} (h : is.Nodup) : (toldT things more letters is).length ≤ things.length + is.length * (more + 1) := by
  have hc := count_sum h things
  have e : (toldT things more letters is).length = (is.map fun i => things.count i).sum + is.length * (more + 1) := by
    unfold toldT
    clear h hc
    induction is with
    | nil => simp
    | cons i is ih =>
      simp only [List.map_cons, List.flatten_cons, List.length_append, List.length_replicate, List.length_cons, List.length_nil, List.sum_cons, ih]
      unfold mk
      rw [Nat.add_mul]; omega
  omega
theorem toldT_snoc {things : List Int} {more : Nat} {letters : List Nat} {l : List Int} {i : Nat} {a : Int} (h : l[i]? = some a) : toldT things more letters (l.take (i + 1)) = toldT things more letters (l.take i) ++ (List.replicate (mk things more a) 34 ++ [ltr letters a]) := by
  unfold toldT
  rw [List.take_add_one, h]; simp
theorem ltr_get {letters : List Nat} {i : Int} (h : i.toNat < letters.length) : letters[i.toNat]? = some (ltr letters i) := by
  unfold ltr
  rw [List.getD_eq_getElem?_getD, List.getElem?_eq_getElem h]; rfl
theorem small_int {i : Int} (h : 0 ≤ i ∧ i < 10) : smallInt i = true := by
  unfold smallInt; simp; omega
section
variable {W : Wd} {n : Nat} {H₀ : Heap} {a : Addr} {pm code doc : Value} {mg mb : Str → Option Value}
theorem fn_lenS {env : Env} {H : Heap} {x : List Nat} (L : Lib H₀ mg mb) (hx : HX H₀ H) (he : EnvG env "len") (hsz : x.length ≤ 100000) : Fn W n env H "len" [StrV (S x)] (IntV x.length) := Fn.blt L.G hx he (L.no _ (by decide)) boot_len (.inl ⟨_, rfl⟩) (cl_lenS hsz)
set_option maxHeartbeats 2000000 in
theorem cl_told {things : List Int} {more : Nat} {letters : List Nat} (hz : things.length ≤ 40000) (hm : more ≤ 1) (hl : letters.length ≤ 6) (L : Lib H₀ mg mb) (d : DefI H₀ a "_law_told" 12 pm code doc) :
    Cl W (n + 2) H₀ (.ref a) [IntsV things, IntV (more : Int), StrV (S letters)] (StrV (S (told things more letters))) := by
  refine Cl.of_def d L.G.nl (names := ["things", "more", "letters"]) (by decide) rfl ?_ ?_ ?_ rfl rfl rfl ?_
  · intro vals hv
    match vals, hv with
    | [x, y, z], _ => rfl
  · decide
  · decide
  intro Hc Lc A E s c hH r f
  refine st_assign f r (P := StrV (S (50 :: 53 :: 55 :: 32 :: 34 :: toldT things more letters []))) PE.str.sw (.inl rfl) rfl fun s₁ c₁ f₁ => ?_
  refine st_for (xs := rangeL 0 letters.length) (F := IntV) (bind := fun i V => V.set "k" (IntV i)) (Inv := fun i => listV [("things", IntsV things), ("more", IntV (more : Int)), ("letters", StrV (S letters)), ("text", StrV (S (50 :: 53 :: 55 :: 32 :: 34 :: toldT things more letters ((rangeL 0 letters.length).take i))))]) (RP := fun _ _ => False)
    f₁ r (PE.call (fn_range L (hH.trans f₁.h0) ⟨rfl, rfl, rfl, rfl⟩) (.one (P := IntV (letters.length : Int)) (PE.call (fn_lenS L (hH.trans f₁.h0) ⟨rfl, rfl, rfl, rfl⟩ (by omega)) (.one (PE.name (f₁.rd rfl)))))) (iters_range (whole_name _ _) (by omega) (by decide) (by omega)) (fun i hi sb cb V s c v A E Q f ok k => frm_assign f ok (.inl rfl) fun s' f' => k s' c f') (VLe.le ⟨rfl, rfl, rfl, rfl, trivial⟩) ?_ (fun _ _ _ _ h => h.elim) ?_
  · intro i k hx s c Ex f le
    have hpt := range_mem (List.mem_of_getElem? hx)
    have hM : mk things more k ≤ things.length + 1 := by
      have := List.count_le_length (a := k) (l := things)
      unfold mk; omega
    have htk : ((rangeL 0 letters.length).take i).length ≤ 6 := by rw [List.length_take, rangeL_length]; omega
    have hT := toldT_len (things := things) (more := more) (letters := letters) (List.Nodup.sublist (List.take_sublist i _) (rangeL_nodup 0 letters.length))
    have hT2 := Nat.mul_le_mul htk (show more + 1 ≤ 2 by omega)
    refine st_assign f r (P := StrV (S (50 :: 53 :: 55 :: 32 :: 34 :: toldT things more letters ((rangeL 0 letters.length).take (i + 1))))) ?_ (.inl rfl) rfl fun s₃ c₃ f₃ => st_end ⟨c₃, f₃.to _ ⟨rfl, rfl, rfl, rfl, trivial⟩⟩
    refine (PE.call (Ps := [StrV (S (50 :: 53 :: 55 :: 32 :: 34 :: toldT things more letters ((rangeL 0 letters.length).take i))), StrV (S (List.replicate (mk things more k) 34 ++ [ltr letters k]))]) (Fn.lib L (hH.trans f.h0) ⟨rfl, rfl, rfl, rfl⟩ 5 fun _ _ _ _ d => cl_concat ?_ L.G (L.no _ (by decide)) d) (.two (PE.name (f.rd rfl)) ?_)).eq (by rw [S_append, toldT_snoc hx]; rfl)
    · rw [S_length, S_length]; simp only [List.length_cons, List.length_append, List.length_replicate, List.length_nil]; omega
    · rw [← S_append]
      refine PE.two (P₁ := StrV (S (List.replicate (mk things more k) 34))) (P₂ := StrT (S [ltr letters k])) (PE.two (P₁ := StrT (S [34])) (P₂ := IntV (mk things more k : Int)) PE.str ((PE.addI (PE.call (Ps := [IntsV things, IntV k]) (Fn.lib L (hH.trans f.h0) ⟨rfl, rfl, rfl, rfl⟩ 7 fun _ _ _ _ d => cl_countOf (small_int (by omega)) L.G.nl d) (.two (PE.name (f.rd rfl)) (PE.name (f.rd rfl)))) (PE.name (f.rd (P := IntV (more : Int)) rfl))).eq (by unfold mk; rw [Int.natCast_add])) (o_muls (c := 34) (k := mk things more k) (by omega)))
        (PE.itemS (P₁ := StrV (S letters)) (x := letters) (k := k) (d := ltr letters k) (PE.name (f.rd rfl)) (PE.name (f.rd (P := IntV k) rfl)) ⟨hpt.1, by omega⟩ (ltr_get (by omega))) (o_adds (a := S (List.replicate (mk things more k) 34)) (b := S [ltr letters k]) ?_)
      rw [sizeLine_eq, S_length, S_length, List.length_replicate]; simp only [List.length_cons, List.length_nil]; omega
  · intro s c f
    have hk : 0 ≤ ((things.length : Int) + 1).fmod 3 ∧ ((things.length : Int) + 1).fmod 3 < 3 := fmod_rng _ (by decide)
    refine st_end (st_assign f r (P := StrV (S (tailOf things))) ?_ (.inl rfl) rfl fun s₁ c₁ f₁ => ?_)
    · refine PE.sw (PE.item (k := ((things.length : Int) + 1).fmod 3) (PE.list (Ps := tails.map fun x => StrT (S x)) (.cons rfl PE.str (.cons rfl PE.str (.cons rfl PE.str .nil))) (by decide)) (PE.modI (PE.addI ((PE.call (fn_len (l := things.map IntV) L (hH.trans f.h0) ⟨rfl, rfl, rfl, rfl⟩ (by rw [List.length_map]; omega)) (.one (PE.name (f.rd rfl)))).eq (by rw [List.length_map])) PE.int) PE.int (by decide)) ⟨hk.1, by omega⟩ (at_getD (F := fun x => StrT (S x)) (by show _ < 3; omega)))
    · have hT := toldT_len (things := things) (more := more) (letters := letters) (rangeL_nodup 0 letters.length)
      rw [rangeL_length] at hT
      have hT2 := Nat.mul_le_mul hl (show more + 1 ≤ 2 by omega)
      have hta : (tailOf things).length ≤ 9 := by
        have h3 : ((things.length : Int) + 1).fmod 3 = 0 ∨ ((things.length : Int) + 1).fmod 3 = 1 ∨ ((things.length : Int) + 1).fmod 3 = 2 := by omega
        unfold tailOf
        rcases h3 with h | h | h <;> rw [h] <;> decide
      refine st_return f₁ r (P := StrV (S (told things more letters))) (PE.call (Fn.lib L (hH.trans f₁.h0) ⟨rfl, rfl, rfl, rfl⟩ 3 fun _ _ _ _ d => cl_parse (x := toldT things more letters (rangeL 0 letters.length) ++ tailOf things) ?_ L.G (L.no _ (by decide)) d) (.one ((PE.call (Ps := [StrV (S (50 :: 53 :: 55 :: 32 :: 34 :: toldT things more letters (rangeL 0 letters.length))), StrV (S (tailOf things))]) (P := StrV (S (50 :: 53 :: 55 :: 32 :: 34 :: toldT things more letters (rangeL 0 letters.length)) ++ S (tailOf things))) (Fn.lib L (hH.trans f₁.h0) ⟨rfl, rfl, rfl, rfl⟩ 5 fun _ _ _ _ d => cl_concat ?_ L.G (L.no _ (by decide)) d) (.two (PE.name (f₁.rd ?_)) (PE.name (f₁.rd rfl)))).eq ?_))) fun v s' c' f' z => ⟨c', f'.nil, z⟩
      · rw [List.length_append]; omega
      · rw [S_length, S_length]; simp only [List.length_cons]; omega
      · rw [List.take_length]; rfl
      · rw [S_append]; rfl
end
end Mine

/-! ### L6 -/
open PySem PySem.W PyProof.Rows PySem.SeqAt
set_option Elab.async false
namespace Mine
set_option maxRecDepth 100000
def piece (things : List Int) (more : Nat) (letters : List Nat) (i : Int) : List Nat := List.replicate (mk things more i / 2) 34 ++ [ltr letters i]
def odds (things : List Int) (more : Nat) (letters : List Nat) : List Int := (rangeL 0 letters.length).map fun i => ((mk things more i : Nat) : Int).fmod 2
def due (things : List Int) (more : Nat) (letters : List Nat) : List Nat :=
  if 1 ∈ odds things more letters then (((rangeL 0 letters.length).take ((odds things more letters).idxOf 1)).map (piece things more letters)).flatten ++ List.replicate (mk things more (((odds things more letters).idxOf 1 : Nat) : Int) / 2) 34
  else ((rangeL 0 letters.length).map (piece things more letters)).flatten
theorem pieces_len {things : List Int} {more : Nat} {letters : List Nat} : ∀ is : List Int, ((is.map (piece things more letters)).flatten).length ≤ (toldT things more letters is).length
  | [] => by simp [toldT]
  | i :: is => by
    have ih := pieces_len (things := things) (more := more) (letters := letters) is
    unfold toldT at ih ⊢
    simp only [List.map_cons, List.flatten_cons, List.length_append, List.length_replicate, List.length_cons, List.length_nil] at ih ⊢
    have : (piece things more letters i).length ≤ mk things more i + 1 := by unfold piece; simp only [List.length_append, List.length_replicate, List.length_cons, List.length_nil]; omega
    omega
theorem count_filt (things : List Int) (i : Int) : (things.filter fun x => x == i).length = things.count i := by
  rw [List.count, List.countP_eq_length_filter]
theorem range_get {n k : Nat} (h : k < n) : (rangeL 0 n)[k]? = some (k : Int) := by
  rw [rangeL_get, if_pos h]; simp
theorem range_map_get {α : Type} {F : Int → α} {n : Nat} {k : Int} (h : 0 ≤ k ∧ k < n) : ((rangeL 0 n).map F)[k.toNat]? = some (F k) := by
  rw [List.getElem?_map, range_get (by omega)]
  have : ((k.toNat : Nat) : Int) = k := by omega
  rw [this]; rfl
section
variable {W : Wd} {n : Nat} {H₀ : Heap} {a : Addr} {pm code doc : Value} {mg mb : Str → Option Value}
set_option maxHeartbeats 4000000 in
theorem cl_due {things : List Int} {more : Nat} {letters : List Nat} (hz : things.length ≤ 40000) (hm : more ≤ 1) (hl : letters.length ≤ 6) (L : Lib H₀ mg mb) (d : DefI H₀ a "_law_due" 13 pm code doc) :
    Cl W (n + 2) H₀ (.ref a) [IntsV things, IntV (more : Int), StrV (S letters)] (StrV (S (due things more letters))) := by
  refine Cl.of_def d L.G.nl (names := ["things", "more", "letters"]) (by decide) rfl ?_ ?_ ?_ rfl rfl rfl ?_
  · intro vals hv
    match vals, hv with
    | [x, y, z], _ => rfl
  · decide
  · decide
  intro Hc Lc A E s c hH r f
  have hrl : (rangeL 0 letters.length).length ≤ 100000 := by rw [rangeL_length]; omega
  have hML : ∀ i, mk things more i ≤ things.length + 1 := fun i => by
    have := List.count_le_length (a := i) (l := things)
    unfold mk; omega
  have hT := toldT_len (things := things) (more := more) (letters := letters) (rangeL_nodup 0 letters.length)
  rw [rangeL_length] at hT
  have hT2 := Nat.mul_le_mul hl (show more + 1 ≤ 2 by omega)
  refine st_assign f r (P := IntsV ((rangeL 0 letters.length).map fun i => (mk things more i : Int))) ?_ (.inr rfl) rfl fun s₂ c₂ f₂ => ?_
  · refine (PE.comp (xs := rangeL 0 letters.length) (F := IntV) (p := fun _ => true) (G := fun i => IntV (mk things more i : Int)) (PE.call (fn_range L (hH.trans f.h0) ⟨rfl, rfl, rfl, rfl⟩) (.one (P := IntV (letters.length : Int)) (PE.call (fn_lenS L (hH.trans f.h0) ⟨rfl, rfl, rfl, rfl⟩ (by omega)) (.one (PE.name (f.rd rfl)))))) (iters_range (whole_name _ _) (by omega) (by decide) (by omega))
        rfl rfl (by decide) (cells1 fun _ => rfl) (fun a _ C => asgC rfl C rfl rfl) (fun _ _ _ _ _ _ _ _ => .nil) ?_ hrl).eq ?_
    · intro j hj _ C H' c' hx' hl' bd
      have th := bd.free (f.hp (x := "things") (P := IntsV things) rfl) hx' hl' rfl rfl rfl
      have mo := bd.free (f.hp (x := "more") (P := IntV (more : Int)) rfl) hx' hl' rfl rfl rfl
      refine (PE.addI (a := ((things.filter fun x => x == j).length : Int)) ((PE.call (fn_len (l := (things.filter fun x => x == j).map IntV) L ((hH.trans f.h0).trans hx') ⟨rfl, rfl, rfl, rfl⟩ ?_) (.one (PE.comp (xs := things) (F := IntV) (p := fun x => x == j) (G := IntV)
        (PE.name th.rd) (iters_list (whole_name _ _)) rfl rfl (by decide) (cells0 fun _ => rfl) (fun a _ C => asgL rfl rfl C) (fun l hm C' H'' c'' hx'' hl'' bd' => ?_) (fun _ _ _ _ _ _ _ _ bd => PE.name bd.rd) (by omega)))).eq ?_) (PE.name mo.rd)).eq ?_
      · rw [List.length_map]; exact Nat.le_trans (List.length_filter_le _ _) (by omega)
      · exact .one (PT.cmp (PE.name bd'.rd) (PE.name (bd'.free bd hx'' hl'' rfl rfl rfl).rd) o_eq)
      · rw [List.length_map]
      · rw [count_filt]; unfold mk; rw [Int.natCast_add]
    · rw [filt_true, IntsV, List.map_map]; rfl
  refine st_comp (xs := rangeL 0 letters.length) (F := IntV) (p := fun _ => true) (G := fun i => StrV (S (piece things more letters i))) f₂ r (.of (PE.call (fn_range L (hH.trans f₂.h0) ⟨rfl, rfl, rfl, rfl⟩) (.one (P := IntV (letters.length : Int)) (PE.call (fn_lenS L (hH.trans f₂.h0) ⟨rfl, rfl, rfl, rfl⟩ (by omega)) (.one (PE.name (f₂.rd rfl)))))) (iters_range (whole_name _ _) (by omega) (by decide) (by omega)))
    rfl rfl rfl (by decide) (cells0 fun _ => rfl) (fun a _ C => asgL rfl rfl C) (fun _ _ _ _ _ _ _ _ => .nil) ?_ hrl rfl fun s₄ c₄ f₄ => ?_
  · intro j hj _ C H' c' hx' hl' bd
    have hj' := range_mem hj
    have hM := hML j
    have mkv := bd.free (f₂.hp (x := "marks") (P := IntsV ((rangeL 0 letters.length).map fun i => (mk things more i : Int))) rfl) hx' hl' rfl rfl rfl
    have lt := bd.free (f₂.hp (x := "letters") (P := StrV (S letters)) rfl) hx' hl' rfl rfl rfl
    unfold piece
    rw [← S_append]
    refine PE.two (P₁ := StrV (S (List.replicate (mk things more j / 2) 34))) (P₂ := StrT (S [ltr letters j])) (PE.two (P₁ := StrT (S [34])) (P₂ := IntV ((mk things more j / 2 : Nat) : Int)) PE.str ((PE.fdivI (PE.itemI (P := IntV (mk things more j : Int)) (PE.name mkv.rd) (PE.name bd.rd) ⟨hj'.1, by omega⟩ ?_) PE.int (by decide)).eq (by rw [fdiv2])) (o_muls (c := 34) (k := mk things more j / 2) (by omega)))
      (PE.itemS (P₁ := StrV (S letters)) (x := letters) (k := j) (d := ltr letters j) (PE.name lt.rd) (PE.name bd.rd) ⟨hj'.1, by omega⟩ (ltr_get (by omega))) (o_adds (a := S (List.replicate (mk things more j / 2) 34)) (b := S [ltr letters j]) ?_)
    · rw [List.map_map]
      exact range_map_get (F := IntV ∘ fun i => (mk things more i : Int)) ⟨hj'.1, hj'.2⟩
    · rw [sizeLine_eq, S_length, S_length, List.length_replicate]; simp only [List.length_cons, List.length_nil]; omega
  rw [filt_true] at f₄
  have hlen : ((rangeL 0 letters.length).map fun i => (mk things more i : Int)).length ≤ 100000 := by rw [List.length_map]; exact hrl
  have olen : (odds things more letters).length = letters.length := by unfold odds; rw [List.length_map, rangeL_length]
  have hodd : ListV ((((rangeL 0 letters.length).map fun i => (mk things more i : Int)).filter fun _ => true).map fun i => IntV (i.fmod 2)) = IntsV (odds things more letters) := by
    rw [filt_true]; unfold odds; rw [IntsV, List.map_map, List.map_map]; rfl
  by_cases hmem : (1 : Int) ∈ odds things more letters
  · have hidx : (odds things more letters).idxOf 1 < letters.length := olen ▸ List.idxOf_lt_length_of_mem hmem
    refine st_try_ok (st_assign f₄ r (P := IntV (((odds things more letters).idxOf 1 : Nat) : Int)) (PE.call (Ps := [IntsV (odds things more letters), IntV 1]) (Fn.lib L (hH.trans f₄.h0) ⟨rfl, rfl, rfl, rfl⟩ 8 fun _ _ _ _ d => cl_indexOf (by decide) hmem L.G (L.no _ (by decide)) d) (.two
      ((PE.comp (xs := (rangeL 0 letters.length).map fun i => (mk things more i : Int)) (F := IntV) (p := fun _ => true) (G := fun i => IntV (i.fmod 2)) (PE.name (f₄.rd rfl)) (iters_list (whole_name _ _))
        rfl rfl (by decide) (cells0 fun _ => rfl) (fun a _ C => asgL rfl rfl C) (fun _ _ _ _ _ _ _ _ => .nil) (fun j hj _ C H' c' hx' hl' bd => PE.modI (PE.name bd.rd) PE.int (by decide)) hlen).eq hodd) PE.int)) (.inl rfl) rfl fun s₅ c₅ f₅ => st_end ?_)
    have hM := hML (((odds things more letters).idxOf 1 : Nat) : Int)
    have hP := pieces_len (things := things) (more := more) (letters := letters) ((rangeL 0 letters.length).take ((odds things more letters).idxOf 1))
    have hTk := toldT_len (things := things) (more := more) (letters := letters) (List.Nodup.sublist (List.take_sublist ((odds things more letters).idxOf 1) _) (rangeL_nodup 0 letters.length))
    have htk : ((rangeL 0 letters.length).take ((odds things more letters).idxOf 1)).length ≤ 6 := by rw [List.length_take, rangeL_length]; omega
    have hTk2 := Nat.mul_le_mul htk (show more + 1 ≤ 2 by omega)
    refine st_return f₅ r (P := StrV (S (due things more letters))) ?_ fun v s' c' f' z => ⟨c', f'.nil, z⟩
    have e1 : due things more letters = (((rangeL 0 letters.length).take ((odds things more letters).idxOf 1)).map (piece things more letters)).flatten ++ List.replicate (mk things more (((odds things more letters).idxOf 1 : Nat) : Int) / 2) 34 := if_pos hmem
    rw [e1, ← S_append]
    generalize (odds things more letters).idxOf 1 = k at *
    refine PE.two (P₁ := StrV (S (((rangeL 0 letters.length).take k).map (piece things more letters)).flatten)) (P₂ := StrV (S (List.replicate (mk things more (k : Int) / 2) 34)))
      (PE.join (xs := ((rangeL 0 letters.length).take k).map (piece things more letters)) ((PE.upto (l := (rangeL 0 letters.length).map fun i => StrV (S (piece things more letters i))) (k := k) (PE.name (f₅.rd rfl)) (PE.name (f₅.rd (P := IntV (k : Int)) rfl)) (by rw [List.length_map]; exact hrl)).eq ?_) (by omega))
      (PE.two (P₁ := StrT (S [34])) (P₂ := IntV ((mk things more (k : Int) / 2 : Nat) : Int)) PE.str ((PE.fdivI (PE.itemI (P := IntV (mk things more (k : Int) : Int)) (PE.name (f₅.rd (P := IntsV ((rangeL 0 letters.length).map fun i => (mk things more i : Int))) rfl)) (PE.name (f₅.rd (P := IntV (k : Int)) rfl)) ⟨Int.natCast_nonneg k, by omega⟩ ?_) PE.int (by decide)).eq (by rw [fdiv2])) (o_muls (c := 34) (k := mk things more (k : Int) / 2) (by omega))) (o_adds ?_)
    · rw [← List.map_take, List.map_map]; rfl
    · rw [List.map_map]
      exact range_map_get (F := IntV ∘ fun i => (mk things more i : Int)) ⟨Int.natCast_nonneg k, by omega⟩
    · rw [sizeLine_eq, S_length, S_length, List.length_replicate]; omega
  · refine st_try_raise f₄ r (Ps := [IntsV (odds things more letters), IntV 1]) (FnR.lib L (hH.trans f₄.h0) ⟨rfl, rfl, rfl, rfl⟩ 8 fun _ _ _ _ d => rs_indexOf (by decide) hmem L.G (L.no _ (by decide)) (L.no _ (by decide)) d) (.two
      ((PE.comp (xs := (rangeL 0 letters.length).map fun i => (mk things more i : Int)) (F := IntV) (p := fun _ => true) (G := fun i => IntV (i.fmod 2)) (PE.name (f₄.rd rfl)) (iters_list (whole_name _ _))
        rfl rfl (by decide) (cells0 fun _ => rfl) (fun a _ C => asgL rfl rfl C) (fun _ _ _ _ _ _ _ _ => .nil) (fun j hj _ C H' c' hx' hl' bd => PE.modI (PE.name bd.rd) PE.int (by decide)) hlen).eq hodd) PE.int) (Bl.of L.G (hH.trans f₄.h0) ⟨rfl, rfl, rfl, rfl⟩ (L.no _ (by decide)) boot_ValueError) rfl ?_
    intro e s' c' f' Ex
    have hP := pieces_len (things := things) (more := more) (letters := letters) (rangeL 0 letters.length)
    have e1 : due things more letters = ((rangeL 0 letters.length).map (piece things more letters)).flatten := if_neg hmem
    refine wpAny_execs_cons (wpAny_Return_some (join_eval (xs := (rangeL 0 letters.length).map (piece things more letters)) f'.ins (by omega) (fun s₀ hh hs ht => ?_) (fun v s'' c'' kk z => ⟨c'', (f'.step kk).nil, e1 ▸ z⟩) rfl rfl))
    have k0 : Kp s' c' s₀ c' := by rw [hs]; exact Kp.toks f'.ins ht
    have rd := f'.rd (W := W) (x := "pieces") (P := ListV ((rangeL 0 letters.length).map fun i => StrV (S (piece things more letters i)))) rfl
    refine wpAny_Name (wpAny_mono (rd _ _ s₀ c' k0.keep (Le.refl _)) (fun v s₁ hq => ?_) fun _ _ x => x)
    obtain ⟨rfl, ok⟩ := hq
    refine ⟨c', .refl k0.ins, ?_⟩
    rw [List.map_map]; exact ok
end
end Mine

/-! ### L7 -/
open PySem PySem.W PyProof.Rows PySem.SeqAt
set_option Elab.async false
namespace Mine
set_option maxRecDepth 100000
def endsOf (lines : List Line) : List Int := lines.flatMap fun l => [l.1, l.2]
def sharedOf (rings : List (List Int)) : List Int := rings.flatMap fun r => r
def oddK (shared : List Int) (k : Int) : Bool := ((shared.count k : Nat) : Int).fmod 2 == 1
def oddOf (lines : List Line) (shared : List Int) : List Int := ((rangeL 0 lines.length).filter (oddK shared)).flatMap fun k => [(lineAt lines k).1, (lineAt lines k).2]
def six6 : List Nat := [65, 66, 67, 68, 69, 70]
def five5 : List Nat := [97, 98, 99, 100, 101]
def evenOf (ends : List Int) : Bool := (ends.filter (oddK ends)).isEmpty
structure StageOk (lines : List Line) (rings : List (List Int)) : Prop where
  ln : 1 ≤ lines.length ∧ lines.length ≤ 6
  sz : (sharedOf rings).length ≤ 40000
  rz : rings.length ≤ 6
  own : told (endsOf lines) 0 five5 = due (endsOf lines) 0 five5
  ties : told (sharedOf rings) 1 (six6.take lines.length) = due (sharedOf rings) 1 (six6.take lines.length)
  third : told (oddOf lines (sharedOf rings)) 0 five5 = due (oddOf lines (sharedOf rings)) 0 five5
  thirdE : (told (oddOf lines (sharedOf rings)) 0 five5).contains 101 = true
  ownE : (told (endsOf lines) 0 five5).contains 101 = evenOf (endsOf lines)
  tiesE : (told (sharedOf rings) 1 (six6.take lines.length)).contains (six6.getD (lines.length - 1) 0) = evenOf (endsOf lines)
section
variable {W : Wd} {n : Nat} {env : Env} {H : Heap} {c : Cx} {e e₁ e₂ : Expr} {P P₁ P₂ : VP} {pos : Pos}
theorem PE.last {x : List Nat} {d : Nat} {k0 : Nat} {p0 p1 : Pos} (p₁ : PE W n env H c e₁ P₁) (hx : x.length ≠ 0 ∧ x[x.length - 1]? = some d) (i₁ : IsS P₁ (S x) := by first | exact isS_t _ | exact isS_v _) : PE W n env H c (.Subscript e₁ (.UnaryOp .USub (.Constant (.int 1) k0 p0) p1) pos) (StrT (S [d])) := by
  intro A E s c₁ r y ll ins
  refine Subscript_ (two_at p₁ (PE.neg (a := 1) PE.int) r y ll ins (R := fun s c => Post s c (StrT (S [d]))) (fun s₂ c₂ v₁ v₂ kk z₁ z₂ => ?_) fun _ _ _ _ k ⟨m', k', z⟩ => ⟨m', k.trans k', z⟩)
  obtain ⟨t, rfl⟩ := i₁ _ _ z₁
  obtain ⟨u, rfl, _⟩ := z₂
  refine tail_any (typeIs_str _ _ _) slot_str_getitem.lookup (getItem_str (c := d) (by decide) ?_ ⟨_, .fresh kk.ins _, StrT.fresh kk.ins _⟩) rfl
  have e1 : seqIndex? (-1) (S x).length = some (x.length - 1) := by
    rw [S_length]; unfold seqIndex?; simp; omega
  rw [e1]
  simpa [S] using hx.2
theorem PE.andB {b₁ b₂ : Bool} (p₁ : PE W n env H c e₁ (BoolV b₁)) (p₂ : b₁ = true → PE W n env H c e₂ (BoolV b₂)) : PE W n env H c (.BoolOp .And [e₁, e₂] pos) (BoolV (b₁ && b₂)) := by
  intro A E s c₁ r y l ins
  refine BoolOp_and (wpAny_mono (p₁ A E s c₁ r y l ins) (fun v s₁ ⟨c₂, k, z⟩ => ?_) fun _ _ x => x)
  cases z
  refine wpAny_truthy_bool ?_
  cases b₁ with
  | false => exact ⟨c₂, k, rfl⟩
  | true =>
    simp only [if_true]
    refine BoolOp_one (wpAny_mono (p₂ rfl A E s₁ c₂ (r.on k.keep) (y.trans k.keep) (l.trans k.le) k.ins) (fun v s₂ ⟨c₃, k', z⟩ => ⟨c₃, k.trans k', ?_⟩) fun _ _ x => x)
    rw [Bool.true_and]; exact z
end
theorem filt_true' {α : Type} (l : List α) : List.filter (fun _ => true) l = l := filt_true l
theorem flat2 (lines : List Line) : (lines.flatMap fun l => [l.1, l.2]).length = 2 * lines.length := by
  induction lines with
  | nil => rfl
  | cons l ls ih => rw [List.flatMap_cons, List.length_append, ih, List.length_cons]; simp only [List.length_cons, List.length_nil]; omega
section
variable {W : Wd} {n : Nat} {H₀ : Heap} {a : Addr} {pm code doc : Value} {mg mb : Str → Option Value}
set_option maxHeartbeats 4000000 in
theorem cl_stage {lines : List Line} {rings : List (List Int)} (X : StageOk lines rings) (L : Lib H₀ mg mb) (d : DefI H₀ a "_law_stage" 14 pm code doc) :
    Cl W (n + 3) H₀ (.ref a) [LinesV lines, ListV (rings.map IntsV)] (BoolV true) := by
  refine Cl.of_def d L.G.nl (names := ["lines", "rings"]) (by decide) rfl ?_ ?_ ?_ rfl rfl rfl ?_
  · intro vals hv
    match vals, hv with
    | [x, y], _ => rfl
  · decide
  · decide
  intro Hc Lc A E s c hH r f
  have hz := X.ln.2
  have hel : (endsOf lines).length = 2 * lines.length := flat2 lines
  have hol : (oddOf lines (sharedOf rings)).length ≤ 12 := by
    have h1 : ∀ l : List Int, (l.flatMap fun k => [(lineAt lines k).1, (lineAt lines k).2]).length = 2 * l.length := by
      intro l
      induction l with
      | nil => rfl
      | cons l ls ih => rw [List.flatMap_cons, List.length_append, ih, List.length_cons]; simp only [List.length_cons, List.length_nil]; omega
    unfold oddOf
    rw [h1]
    have := List.length_filter_le (oddK (sharedOf rings)) (rangeL 0 lines.length)
    rw [rangeL_length] at this
    omega
  refine st_assign f r (P := IntsV (endsOf lines)) ?_ (.inr rfl) rfl fun s₁ c₁ f₁ => ?_
  · refine (PE.comp2 (xs := lines) (F₁ := fun x : Line => IntsV [x.1, x.2]) (p := fun _ => true) (ysf := fun l : Line => [l.1, l.2]) (F₂ := IntV) (G := IntV) (.of (PE.name (f.rd rfl)) (iters_list (whole_name _ _)))
      rfl rfl (by decide) (cells0 fun _ => rfl) (fun a _ C => asgL rfl rfl C) (fun C a _ H H' c c' bd k l => bd.on k l) (fun _ _ _ _ _ _ _ _ => .nil) (fun l hl _ C H' c' hx' hl' bd => .of (PE.name bd.rd) (iters_list (whole_name _ _))) (fun a _ b _ C => asgL rfl rfl C) (fun C a _ b _ H H' c c' bd k l => bd.on k l)
      (fun a _ b _ C H' c' hx' hl' bd => PE.name bd.rd) (by rw [filt_true]; show (endsOf lines).length ≤ 100000; omega)).eq ?_
    rw [filt_true]; rfl
  refine st_assign f₁ r (P := IntsV (sharedOf rings)) ?_ (.inr rfl) rfl fun s₂ c₂ f₂ => ?_
  · refine (PE.comp2 (xs := rings) (F₁ := IntsV) (p := fun _ => true) (ysf := fun r => r) (F₂ := IntV) (G := IntV) (.of (PE.name (f₁.rd rfl)) (iters_list (whole_name _ _)))
      rfl rfl (by decide) (cells0 fun _ => rfl) (fun a _ C => asgL rfl rfl C) (fun C a _ H H' c c' bd k l => bd.on k l) (fun _ _ _ _ _ _ _ _ => .nil) (fun l hl _ C H' c' hx' hl' bd => .of (PE.name bd.rd) (iters_list (whole_name _ _))) (fun a _ b _ C => asgL rfl rfl C) (fun C a _ b _ H H' c c' bd k l => bd.on k l)
      (fun a _ b _ C H' c' hx' hl' bd => PE.name bd.rd) (by rw [filt_true]; show (sharedOf rings).length ≤ 100000; have := X.sz; omega)).eq ?_
    rw [filt_true]; rfl
  refine st_comp2 (xs := rangeL 0 lines.length) (F₁ := IntV) (p := oddK (sharedOf rings)) (ysf := fun k => [(lineAt lines k).1, (lineAt lines k).2]) (F₂ := IntV) (G := IntV) f₂ r
    (.of (PE.call (fn_range L (hH.trans f₂.h0) ⟨rfl, rfl, rfl, rfl⟩) (.one (P := IntV (lines.length : Int)) ((PE.call (fn_len L (hH.trans f₂.h0) ⟨rfl, rfl, rfl, rfl⟩ (by rw [List.length_map]; omega)) (.one (PE.name (f₂.rd rfl)))).eq (by rw [List.length_map])))) (iters_range (whole_name _ _) (by omega) (by decide) (by omega)))
    rfl rfl rfl (by decide) (cells0 fun _ => rfl) (fun a _ C => asgL rfl rfl C) (fun C a _ H H' c c' bd k l => bd.on k l) (fun k hk C H' c' hx' hl' bd => ?_) (fun k hk _ C H' c' hx' hl' bd => ?_) (fun a _ b _ C => asgL rfl rfl C) (fun C a _ b _ H H' c c' bd k l => bd.on k l)
    (fun a _ b _ C H' c' hx' hl' bd => PE.name bd.rd) (by show (oddOf lines (sharedOf rings)).length ≤ 100000; omega) rfl fun s₃ c₃ f₃ => ?_
  · have hk' := range_mem hk
    have sh := bd.free (f₂.hp (x := "shared") (P := IntsV (sharedOf rings)) rfl) hx' hl' rfl rfl rfl
    exact .one (PT.cmp (PE.modI (PE.call (Ps := [IntsV (sharedOf rings), IntV k]) (Fn.lib L ((hH.trans f₂.h0).trans hx') ⟨rfl, rfl, rfl, rfl⟩ 7 fun _ _ _ _ d => cl_countOf (small_int (by omega)) L.G.nl d) (.two (PE.name sh.rd) (PE.name bd.rd))) PE.int (by decide)) PE.int o_eq)
  · have hk' := range_mem hk
    have li := bd.free (f₂.hp (x := "lines") (P := LinesV lines) rfl) hx' hl' rfl rfl rfl
    exact .of (PE.line (PE.name li.rd) (PE.name bd.rd) (by omega) (by omega)) (iters_list (whole_name _ _))
  have hsx : (six6.take lines.length).length = lines.length := by rw [List.length_take]; show min lines.length 6 = _; omega
  refine st_assign f₃ r (P := StrV (S (six6.take lines.length))) (PE.uptoS (P₁ := StrT (S six6)) (x := six6) (k := lines.length) (P₂ := IntV (lines.length : Int)) PE.str ((PE.call (fn_len L (hH.trans f₃.h0) ⟨rfl, rfl, rfl, rfl⟩ (by rw [List.length_map]; omega)) (.one (PE.name (f₃.rd (P := LinesV lines) rfl)))).eq (by rw [List.length_map])) (by show lines.length ≤ 6; omega) (by decide)) (.inl rfl) rfl fun s₄ c₄ f₄ => ?_
  have f₄ : Frm Hc s c _ _ (listV [("lines", LinesV lines), ("ends", IntsV (endsOf lines)), ("shared", IntsV (sharedOf rings)), ("odd", IntsV (oddOf lines (sharedOf rings))), ("names", StrV (S (six6.take lines.length)))]) s₄ c₄ := f₄.to _ ⟨rfl, rfl, rfl, rfl, rfl, trivial⟩
  refine st_assign f₄ r (P := StrV (S (told (endsOf lines) 0 five5))) (PE.call (Ps := [IntsV (endsOf lines), IntV ((0 : Nat) : Int), StrV (S five5)]) (Fn.lib L (hH.trans f₄.h0) ⟨rfl, rfl, rfl, rfl⟩ 12 fun _ _ _ _ d => cl_told (by omega) (by omega) (by decide) L d) (.cons rfl (PE.name (f₄.rd rfl)) (.cons rfl PE.int (.cons rfl PE.str.sw .nil)))) (.inl rfl) rfl fun s₅ c₅ f₅ => ?_
  refine st_assign f₅ r (P := StrV (S (told (sharedOf rings) 1 (six6.take lines.length)))) (PE.call (Ps := [IntsV (sharedOf rings), IntV ((1 : Nat) : Int), StrV (S (six6.take lines.length))]) (Fn.lib L (hH.trans f₅.h0) ⟨rfl, rfl, rfl, rfl⟩ 12 fun _ _ _ _ d => cl_told X.sz (by omega) (by omega) L d) (.cons rfl (PE.name (f₅.rd rfl)) (.cons rfl PE.int (.cons rfl (PE.name (f₅.rd rfl)) .nil)))) (.inl rfl) rfl fun s₆ c₆ f₆ => ?_
  refine st_assign f₆ r (P := StrV (S (told (oddOf lines (sharedOf rings)) 0 five5))) (PE.call (Ps := [IntsV (oddOf lines (sharedOf rings)), IntV ((0 : Nat) : Int), StrV (S five5)]) (Fn.lib L (hH.trans f₆.h0) ⟨rfl, rfl, rfl, rfl⟩ 12 fun _ _ _ _ d => cl_told (by omega) (by omega) (by decide) L d) (.cons rfl (PE.name (f₆.rd rfl)) (.cons rfl PE.int (.cons rfl PE.str.sw .nil)))) (.inl rfl) rfl fun s₇ c₇ f₇ => ?_
  have f₇ : Frm Hc s c _ _ (listV [("lines", LinesV lines), ("ends", IntsV (endsOf lines)), ("shared", IntsV (sharedOf rings)), ("odd", IntsV (oddOf lines (sharedOf rings))), ("names", StrV (S (six6.take lines.length))), ("own", StrV (S (told (endsOf lines) 0 five5))), ("ties", StrV (S (told (sharedOf rings) 1 (six6.take lines.length)))), ("third", StrV (S (told (oddOf lines (sharedOf rings)) 0 five5)))]) s₇ c₇ := f₇.to _ ⟨rfl, rfl, rfl, rfl, rfl, rfl, rfl, rfl, trivial⟩
  refine st_if (b := false) f₇ r ((PT.or (b₁ := false) (b₂ := false) ((PT.cmp (PE.name (f₇.rd (P := StrV (S (told (endsOf lines) 0 five5))) rfl)) (PE.call (Ps := [IntsV (endsOf lines), IntV ((0 : Nat) : Int), StrV (S five5)]) (P := StrV (S (due (endsOf lines) 0 five5))) (Fn.lib L (hH.trans f₇.h0) ⟨rfl, rfl, rfl, rfl⟩ 13 fun _ _ _ _ d => cl_due (by omega) (by omega) (by decide) L d) (.cons rfl (PE.name (f₇.rd rfl)) (.cons rfl PE.int (.cons rfl PE.str.sw .nil)))) o_nes).eq (by rw [X.own]; exact bne_self_eq_false _))
    (fun _ => (PT.cmp (PE.name (f₇.rd (P := StrV (S (told (sharedOf rings) 1 (six6.take lines.length)))) rfl)) (PE.call (Ps := [IntsV (sharedOf rings), IntV ((1 : Nat) : Int), StrV (S (six6.take lines.length))]) (P := StrV (S (due (sharedOf rings) 1 (six6.take lines.length)))) (Fn.lib L (hH.trans f₇.h0) ⟨rfl, rfl, rfl, rfl⟩ 13 fun _ _ _ _ d => cl_due X.sz (by omega) (by omega) L d) (.cons rfl (PE.name (f₇.rd rfl)) (.cons rfl PE.int (.cons rfl (PE.name (f₇.rd rfl)) .nil)))) o_nes).eq (by rw [X.ties]; exact bne_self_eq_false _))).eq rfl) (fun h => by cases h) fun _ s₈ c₈ f₈ => st_end ?_
  refine st_if (b := false) f₈ r ((PT.or (b₁ := false) (b₂ := false) ((PT.cmp (PE.name (f₈.rd (P := StrV (S (told (oddOf lines (sharedOf rings)) 0 five5))) rfl)) (PE.call (Ps := [IntsV (oddOf lines (sharedOf rings)), IntV ((0 : Nat) : Int), StrV (S five5)]) (P := StrV (S (due (oddOf lines (sharedOf rings)) 0 five5))) (Fn.lib L (hH.trans f₈.h0) ⟨rfl, rfl, rfl, rfl⟩ 13 fun _ _ _ _ d => cl_due (by omega) (by omega) (by decide) L d) (.cons rfl (PE.name (f₈.rd rfl)) (.cons rfl PE.int (.cons rfl PE.str.sw .nil)))) o_nes).eq (by rw [X.third]; exact bne_self_eq_false _))
    (fun _ => (PT.not (PT.val (PE.call (Ps := [StrV (S (told (oddOf lines (sharedOf rings)) 0 five5)), StrT (S [101])]) (Fn.lib L (hH.trans f₈.h0) ⟨rfl, rfl, rfl, rfl⟩ 6 fun _ _ _ _ d => cl_containsS L.G.nl d) (.two (PE.name (f₈.rd rfl)) PE.str)))).eq (by rw [X.thirdE]; rfl))).eq rfl) (fun h => by cases h) fun _ s₉ c₉ f₉ => st_end ?_
  have hel2 : (endsOf lines).length ≤ 100000 := by omega
  refine st_assign f₉ r (P := BoolV (evenOf (endsOf lines))) ?_ (.inl rfl) rfl fun s₁₀ c₁₀ f₁₀ => ?_
  · refine (PE.cmp (PE.comp (xs := endsOf lines) (F := IntV) (p := oddK (endsOf lines)) (G := IntV) (PE.name (f₉.rd rfl)) (iters_list (whole_name _ _)) rfl rfl (by decide) (cells1 fun _ => rfl) (fun a _ C => asgC rfl C rfl rfl) (fun q hq C H' c' hx' hl' bd => ?_) (fun _ _ _ _ _ _ _ _ bd => PE.name bd.rd) hel2) PE.nil o_eq0).eq ?_
    · have en := bd.free (f₉.hp (x := "ends") (P := IntsV (endsOf lines)) rfl) hx' hl' rfl rfl rfl
      refine .one ((PT.cmp (PE.modI ((PE.call (fn_len (l := ((endsOf lines).filter fun x => x == q).map IntV) L ((hH.trans f₉.h0).trans hx') ⟨rfl, rfl, rfl, rfl⟩ (by rw [List.length_map]; exact Nat.le_trans (List.length_filter_le _ _) hel2)) (.one (PE.comp (xs := endsOf lines) (F := IntV) (p := fun x => x == q) (G := IntV)
        (PE.name en.rd) (iters_list (whole_name _ _)) rfl rfl (by decide) (cells0 fun _ => rfl) (fun a _ C => asgL rfl rfl C) (fun l hm C' H'' c'' hx'' hl'' bd' => .one (PT.cmp (PE.name bd'.rd) (PE.name (bd'.free bd hx'' hl'' rfl rfl rfl).rd) o_eq)) (fun _ _ _ _ _ _ _ _ bd => PE.name bd.rd) hel2))).eq (P' := IntV (((endsOf lines).count q : Nat) : Int)) (by rw [List.length_map, count_filt])) PE.int (by decide)) PE.int o_eq).eq rfl)
    · unfold evenOf
      cases h : (endsOf lines).filter (oddK (endsOf lines)) <;> rfl
  have hgd : (six6.take lines.length)[(six6.take lines.length).length - 1]? = some (six6.getD (lines.length - 1) 0) := by
    rw [hsx]
    have h1 := X.ln.1
    have h6 : lines.length = 1 ∨ lines.length = 2 ∨ lines.length = 3 ∨ lines.length = 4 ∨ lines.length = 5 ∨ lines.length = 6 := by omega
    rcases h6 with h | h | h | h | h | h <;> rw [h] <;> rfl
  refine st_return f₁₀ r (P := BoolV true) ((PE.andB (b₁ := true) (b₂ := true) ((PE.cmp (PE.call (Ps := [StrV (S (told (endsOf lines) 0 five5)), StrT (S [101])]) (Fn.lib L (hH.trans f₁₀.h0) ⟨rfl, rfl, rfl, rfl⟩ 6 fun _ _ _ _ d => cl_containsS L.G.nl d) (.two (PE.name (f₁₀.rd rfl)) PE.str)) (PE.name (f₁₀.rd (P := BoolV (evenOf (endsOf lines))) rfl)) o_eqb).eq (by rw [X.ownE, beq_self_eq_true]))
    (fun _ => (PE.cmp (PE.call (Ps := [StrV (S (told (sharedOf rings) 1 (six6.take lines.length))), StrT (S [six6.getD (lines.length - 1) 0])]) (Fn.lib L (hH.trans f₁₀.h0) ⟨rfl, rfl, rfl, rfl⟩ 6 fun _ _ _ _ d => cl_containsS L.G.nl d) (.two (PE.name (f₁₀.rd rfl)) (PE.last (x := six6.take lines.length) (PE.name (f₁₀.rd (P := StrV (S (six6.take lines.length))) rfl)) ⟨by rw [hsx]; have := X.ln.1; omega, hgd⟩))) (PE.name (f₁₀.rd (P := BoolV (evenOf (endsOf lines))) rfl)) o_eqb).eq (by rw [X.tiesE, beq_self_eq_true]))).eq rfl) fun v s' c' f' z => ⟨c', f'.nil, z⟩
end
end Mine

/-! ### L8 -/
open PySem PySem.W PyProof.Rows PySem.SeqAt
set_option Elab.async false
namespace Mine
set_option maxRecDepth 100000
def ringsAll (lines : List Line) : List (List Int) := (rangeL 0 lines.length).map fun i => ringsOf lines i.toNat
structure PlainOk (lines : List Line) : Prop where
  sz : lines.length ≤ 6
  st : ∀ k : Nat, 1 ≤ k → k ≤ lines.length → StageOk (lines.take k) ((ringsAll lines).take k)
section
variable {W : Wd} {n : Nat} {H₀ : Heap} {a : Addr} {pm code doc : Value} {mg mb : Str → Option Value}
theorem range1_mem {i : Int} {n : Nat} (h : i ∈ rangeL 1 n) : ∃ k : Nat, i = (k : Int) ∧ 1 ≤ k ∧ k ≤ n := by
  unfold rangeL at h
  simp only [List.mem_map, List.mem_range] at h
  obtain ⟨a, h, rfl⟩ := h
  exact ⟨a + 1, by omega, by omega, by omega⟩
theorem filt_false {α : Type} (l : List α) : (l.filter fun _ => false) = [] := List.filter_eq_nil_iff.mpr fun _ _ h => nomatch h
set_option maxHeartbeats 4000000 in
theorem cl_law {l : List Int} (hz : l.length ≤ 1000) (X : PlainOk (netL l)) (L : Lib H₀ mg mb) (d : DefI H₀ a "law" 15 pm code doc) :
    Cl W (n + 4) H₀ (.ref a) [ListV (l.map IntW)] (BoolV true) := by
  refine Cl.of_def d L.G.nl (names := ["script"]) (by decide) rfl ?_ ?_ ?_ rfl rfl rfl ?_
  · intro vals hv
    match vals, hv with
    | [x], _ => rfl
  · decide
  · decide
  intro Hc Lc A E s c hH r f
  generalize hlines : netL l = lines at X
  have hz6 := X.sz
  refine st_assign f r (P := LinesV lines) (PE.call (Ps := [ListV (l.map IntW)]) (Fn.lib L (hH.trans f.h0) ⟨rfl, rfl, rfl, rfl⟩ 10 fun _ _ _ _ d => hlines ▸ cl_lines hz L d) (.one (PE.name (f.rd rfl)))) (.inr rfl) rfl fun s₁ c₁ f₁ => ?_
  refine st_assign f₁ r (P := ListV ((ringsAll lines).map IntsV)) ?_ (.inr rfl) rfl fun s₂ c₂ f₂ => ?_
  · refine (PE.comp (xs := rangeL 0 lines.length) (F := IntV) (p := fun _ => true) (G := fun i => IntsV (ringsOf lines i.toNat)) (PE.call (fn_range L (hH.trans f₁.h0) ⟨rfl, rfl, rfl, rfl⟩) (.one (P := IntV (lines.length : Int)) ((PE.call (fn_len L (hH.trans f₁.h0) ⟨rfl, rfl, rfl, rfl⟩ (by rw [List.length_map]; omega)) (.one (PE.name (f₁.rd rfl)))).eq (by rw [List.length_map])))) (iters_range (whole_name _ _) (by omega) (by decide) (by omega))
      rfl rfl (by decide) (cells0 fun _ => rfl) (fun a _ C => asgL rfl rfl C) (fun _ _ _ _ _ _ _ _ => .nil) (fun j hj _ C H' c' hx' hl' bd => ?_) (by rw [rangeL_length]; omega)).eq (by rw [filt_true]; unfold ringsAll; rw [List.map_map]; rfl)
    have hj' := range_mem hj
    have e : j = ((j.toNat : Nat) : Int) := by omega
    have li := bd.free (f₁.hp (x := "lines") (P := LinesV lines) rfl) hx' hl' rfl rfl rfl
    exact PE.call (Ps := [LinesV lines, IntV ((j.toNat : Nat) : Int)]) (Fn.lib L ((hH.trans f₁.h0).trans hx') ⟨rfl, rfl, rfl, rfl⟩ 11 fun _ _ _ _ d => cl_rings (by omega) hz6 L d) (.two (PE.name li.rd) ((PE.name bd.rd).eq (congrArg IntV e)))
  have hrl : (ringsAll lines).length ≤ 6 := by unfold ringsAll; rw [List.length_map, rangeL_length]; exact hz6
  refine st_return f₂ r (P := BoolV true) ((PE.cmp (PE.comp (xs := rangeL 1 lines.length) (F := IntV) (p := fun _ => false) (G := IntV) (P₀ := RangeV 1 ((lines.length : Int) + 1))
    (PE.call (Ps := [IntV 1, IntV ((lines.length : Int) + 1)]) (Fn.blt L.G (hH.trans f₂.h0) ⟨rfl, rfl, rfl, rfl⟩ (L.no _ (by decide)) boot_range (.inr (.inl ⟨_, rfl⟩)) cl_range2) (.two PE.int (PE.addI ((PE.call (fn_len L (hH.trans f₂.h0) ⟨rfl, rfl, rfl, rfl⟩ (by rw [List.length_map]; omega)) (.one (PE.name (f₂.rd (P := LinesV lines) rfl)))).eq (by rw [List.length_map])) PE.int))) (iters_range (whole_name _ _) (by omega) (by decide) (by omega))
    rfl rfl (by decide) (cells0 fun _ => rfl) (fun a _ C => asgL rfl rfl C) (fun j hj C H' c' hx' hl' bd => ?_) (fun _ _ h => by cases h) (by rw [rangeL_length]; omega)) PE.nil o_eq0).eq (by rw [filt_false]; rfl)) fun v s' c' f' z => ⟨c', f'.nil, z⟩
  obtain ⟨k, rfl, h1, h2⟩ := range1_mem hj
  have li := bd.free (f₂.hp (x := "lines") (P := LinesV lines) rfl) hx' hl' rfl rfl rfl
  have ri := bd.free (f₂.hp (x := "rings") (P := ListV ((ringsAll lines).map IntsV)) rfl) hx' hl' rfl rfl rfl
  refine .one ((PT.not (PT.val (PE.call (Ps := [LinesV (lines.take k), ListV (((ringsAll lines).take k).map IntsV)]) (Fn.lib L ((hH.trans f₂.h0).trans hx') ⟨rfl, rfl, rfl, rfl⟩ 14 fun _ _ _ _ d => cl_stage (X.st k h1 h2) L d) (.two ((PE.upto (k := k) (PE.name li.rd) (PE.name (bd.rd (P := IntV (k : Int)))) (by rw [List.length_map]; omega)).eq (by rw [LinesV, List.map_take])) ((PE.upto (k := k) (PE.name ri.rd) (PE.name (bd.rd (P := IntV (k : Int)))) (by rw [List.length_map]; omega)).eq (by rw [List.map_take])))))).eq rfl)
end
end Mine

/-! ### N1 -/
open PySem PySem.W PyProof.Rows PySem.SeqAt
set_option Elab.async false
namespace Mine
set_option maxRecDepth 100000
theorem prs_even : ∀ (k : Nat) (r : List Nat), prs (List.replicate (2 * k) 34 ++ r) = List.replicate k 34 ++ prs r
  | 0, r => rfl
  | k + 1, r => by
    have e : List.replicate (2 * (k + 1)) 34 = 34 :: 34 :: List.replicate (2 * k) 34 := rfl
    rw [e, List.cons_append, List.cons_append]
    show prs (34 :: 34 :: (List.replicate (2 * k) 34 ++ r)) = _
    rw [prs, if_pos rfl, if_pos rfl, prs_even k r]; rfl
theorem prs_odd {c : Nat} (h : c ≠ 34) (r : List Nat) : prs (34 :: c :: r) = [] := by
  rw [prs, if_pos rfl, if_neg h]
def toldR (M : Int → Nat) (lt : Int → Nat) : List Int → List Nat
  | [] => []
  | i :: is => if M i % 2 = 0 then List.replicate (M i / 2) 34 ++ lt i :: toldR M lt is else List.replicate (M i / 2) 34
theorem prs_told (M lt : Int → Nat) (hl : ∀ i, lt i ≠ 34) (t : List Nat) (ht : prs t = []) : ∀ is : List Int, prs ((is.map fun i => List.replicate (M i) 34 ++ [lt i]).flatten ++ t) = toldR M lt is
  | [] => ht
  | i :: is => by
    have ih := prs_told M lt hl t ht is
    rw [List.map_cons, List.flatten_cons, List.append_assoc, List.append_assoc, toldR]
    rcases Nat.mod_two_eq_zero_or_one (M i) with h | h
    · rw [if_pos h]
      have e : List.replicate (M i) 34 = List.replicate (2 * (M i / 2)) 34 := by congr 1; omega
      rw [e, prs_even, List.cons_append, List.nil_append, prs_other (hl i), ih]
    · rw [if_neg (by omega)]
      have e : List.replicate (M i) 34 = List.replicate (2 * (M i / 2)) 34 ++ [34] := by
        rw [← List.replicate_succ']; congr 1; omega
      rw [e, List.append_assoc, prs_even, List.cons_append, List.cons_append, List.nil_append, List.nil_append, prs_odd (hl i), List.append_nil]
theorem prs_tail (things : List Int) : prs (tailOf things) = [] := by
  have hk := fmod_rng ((things.length : Int) + 1) (b := 3) (by decide)
  have h3 : ((things.length : Int) + 1).fmod 3 = 0 ∨ ((things.length : Int) + 1).fmod 3 = 1 ∨ ((things.length : Int) + 1).fmod 3 = 2 := by omega
  unfold tailOf
  rcases h3 with h | h | h <;> rw [h] <;> decide
theorem told_eq {letters : List Nat} (hl : ∀ d ∈ letters, d ≠ 34) (things : List Int) (more : Nat) : told things more letters = toldR (mk things more) (ltr letters) (rangeL 0 letters.length) := by
  refine prs_told _ _ (fun i => ?_) _ (prs_tail things) _
  unfold ltr
  rw [List.getD_eq_getElem?_getD]
  cases h : letters[i.toNat]? with
  | none => decide
  | some d => exact hl d (List.mem_of_getElem? h)
theorem par_fmod (m : Nat) : ((m : Nat) : Int).fmod 2 = ((m % 2 : Nat) : Int) := by
  rw [Int.fmod_eq_emod_of_nonneg _ (by decide)]; rfl
theorem due_gen (M lt : Int → Nat) : ∀ is : List Int, toldR M lt is = if 1 ∈ is.map (fun i => ((M i : Nat) : Int).fmod 2) then
    ((is.take ((is.map fun i => ((M i : Nat) : Int).fmod 2).idxOf 1)).map fun i => List.replicate (M i / 2) 34 ++ [lt i]).flatten ++ List.replicate (M (is.getD ((is.map fun i => ((M i : Nat) : Int).fmod 2).idxOf 1) 0) / 2) 34
    else (is.map fun i => List.replicate (M i / 2) 34 ++ [lt i]).flatten
  | [] => by simp [toldR]
  | i :: is => by
    have ih := due_gen M lt is
    rw [toldR, List.map_cons, par_fmod]
    rcases Nat.mod_two_eq_zero_or_one (M i) with h | h
    · rw [if_pos h, h, ih, List.idxOf_cons]
      have e0 : (((0 : Nat) : Int) == 1) = false := by decide
      rw [e0, cond_false, List.take_succ_cons, List.getD_cons_succ]
      by_cases q : (1 : Int) ∈ is.map fun i => ((M i : Nat) : Int).fmod 2
      · rw [if_pos q, if_pos (List.mem_cons_of_mem _ q)]
        simp [List.append_assoc]
      · rw [if_neg q, if_neg (fun z => (List.mem_cons.mp z).elim (fun z => by cases z) q)]
        simp [List.append_assoc]
    · have hm : (1 : Int) ∈ ((1 : Nat) : Int) :: is.map fun i => ((M i : Nat) : Int).fmod 2 := List.mem_cons_self
      rw [if_neg (by omega), h, if_pos hm, List.idxOf_cons]
      have e0 : (((1 : Nat) : Int) == 1) = true := by decide
      rw [e0, cond_true]
      simp
theorem due_eq (things : List Int) (more : Nat) (letters : List Nat) : due things more letters = toldR (mk things more) (ltr letters) (rangeL 0 letters.length) := by
  rw [due_gen]
  unfold due odds
  by_cases q : (1 : Int) ∈ (rangeL 0 letters.length).map fun i => ((mk things more i : Nat) : Int).fmod 2
  · rw [if_pos q, if_pos q]
    have hi := List.idxOf_lt_length_of_mem q
    rw [List.length_map, rangeL_length] at hi
    rw [List.getD_eq_getElem?_getD, range_get hi]; rfl
  · rw [if_neg q, if_neg q]; rfl
theorem told_due {letters : List Nat} (hl : ∀ d ∈ letters, d ≠ 34) (things : List Int) (more : Nat) : told things more letters = due things more letters := by rw [told_eq hl, due_eq]
theorem cont_R (M lt : Int → Nat) (z : Int) (hd : lt z ≠ 34) : ∀ is : List Int, (∀ i ∈ is, lt i ≠ lt z) → (toldR M lt (is ++ [z])).contains (lt z) = (is ++ [z]).all fun i => M i % 2 == 0
  | [], _ => by
    rw [List.nil_append, toldR, Bool.eq_iff_iff]
    rcases Nat.mod_two_eq_zero_or_one (M z) with h | h <;> simp [h, toldR, List.mem_replicate, hd]
  | i :: is, h => by
    have ih := cont_R M lt z hd is fun j hj => h j (List.mem_cons_of_mem _ hj)
    have hi := h i List.mem_cons_self
    rw [List.cons_append, toldR, List.all_cons, ← ih, Bool.eq_iff_iff]
    rcases Nat.mod_two_eq_zero_or_one (M i) with h | h <;> simp [h, List.mem_replicate, hd, Ne.symm hi]
end Mine

/-! ### N2 -/
open PySem PySem.W PyProof.Rows PySem.SeqAt
set_option Elab.async false
namespace Mine
set_option maxRecDepth 100000
def xsum {α : Type} (l : List α) (f : α → Bool) : Bool := l.foldr (fun a r => f a ^^ r) false
section
variable {α β : Type} {f g : α → Bool}
theorem xsum_cons (a : α) (l : List α) : xsum (a :: l) f = (f a ^^ xsum l f) := rfl
theorem xsum_append : ∀ a b : List α, xsum (a ++ b) f = (xsum a f ^^ xsum b f)
  | [], b => by simp [xsum]
  | x :: a, b => by rw [List.cons_append, xsum_cons, xsum_cons, xsum_append a b, Bool.xor_assoc]
theorem xsum_map (h : β → α) : ∀ l : List β, xsum (l.map h) f = xsum l fun b => f (h b)
  | [] => rfl
  | x :: l => by rw [List.map_cons, xsum_cons, xsum_cons, xsum_map h l]
theorem xsum_flatMap (h : β → List α) : ∀ l : List β, xsum (l.flatMap h) f = xsum l fun b => xsum (h b) f
  | [] => rfl
  | x :: l => by rw [List.flatMap_cons, xsum_append, xsum_cons, xsum_flatMap h l]
theorem xsum_xor : ∀ l : List α, xsum l (fun a => f a ^^ g a) = (xsum l f ^^ xsum l g)
  | [] => rfl
  | x :: l => by
    rw [xsum_cons, xsum_cons, xsum_cons, xsum_xor l]
    cases f x <;> cases g x <;> cases xsum l f <;> cases xsum l g <;> rfl
theorem xsum_and (c : Bool) : ∀ l : List α, xsum l (fun a => c && f a) = (c && xsum l f)
  | [] => by cases c <;> rfl
  | x :: l => by
    rw [xsum_cons, xsum_cons, xsum_and c l]
    cases c <;> rfl
theorem xsum_false : ∀ l : List α, xsum l (fun _ => false) = false
  | [] => rfl
  | x :: l => by rw [xsum_cons, xsum_false l]; rfl
theorem xsum_congr : ∀ {l : List α}, (∀ a ∈ l, f a = g a) → xsum l f = xsum l g
  | [], _ => rfl
  | x :: l, h => by rw [xsum_cons, xsum_cons, h x List.mem_cons_self, xsum_congr fun a ha => h a (List.mem_cons_of_mem _ ha)]
theorem xsum_swap (h : α → β → Bool) (m : List β) : ∀ l : List α, xsum l (fun a => xsum m fun b => h a b) = xsum m fun b => xsum l fun a => h a b
  | [] => (xsum_false m).symm
  | x :: l => by
    rw [xsum_cons, xsum_swap h m l, ← xsum_xor]; rfl
theorem xsum_filter (p : α → Bool) : ∀ l : List α, xsum (l.filter p) f = xsum l fun a => p a && f a
  | [] => rfl
  | x :: l => by
    rw [List.filter_cons, xsum_cons]
    cases p x
    · rw [if_neg (by decide), xsum_filter p l]; simp
    · rw [if_pos rfl, xsum_cons, xsum_filter p l]; rfl
theorem xsum_reverse : ∀ l : List α, xsum l.reverse f = xsum l f
  | [] => rfl
  | x :: l => by
    rw [List.reverse_cons, xsum_append, xsum_reverse l, xsum_cons, xsum_cons]
    cases f x <;> cases xsum l f <;> rfl
end
theorem odd_succ (n : Nat) : ((n + 1) % 2 == 1) = !(n % 2 == 1) := by
  rcases Nat.mod_two_eq_zero_or_one n with h | h
  · have : (n + 1) % 2 = 1 := by omega
    rw [h, this]; rfl
  · have : (n + 1) % 2 = 0 := by omega
    rw [h, this]; rfl
theorem odd_count (j : Int) : ∀ l : List Int, (l.count j % 2 == 1) = xsum l fun k => k == j
  | [] => rfl
  | x :: l => by
    rw [xsum_cons, List.count_cons, ← odd_count j l]
    cases x == j
    · simp
    · rw [if_pos rfl, odd_succ]; simp
theorem xsum_single {f : Int → Bool} {o : Int} : ∀ {l : List Int}, l.Nodup → xsum l (fun a => (a == o) && f a) = (l.contains o && f o)
  | [], _ => rfl
  | x :: l, h => by
    rw [List.nodup_cons] at h
    rw [xsum_cons, xsum_single h.2, List.contains_cons]
    by_cases q : x = o
    · subst q
      have : l.contains x = false := by simpa using h.1
      rw [this]; simp
    · have e1 : (x == o) = false := beq_eq_false_iff_ne.mpr q
      have e2 : (o == x) = false := beq_eq_false_iff_ne.mpr (Ne.symm q)
      rw [e1, e2]; simp
/-! ## The search, by parity -/
def okHM (lines : List Line) (h : Int) (m : List Int) (k : Int) : Bool := [(lineAt lines k).1, (lineAt lines k).2].contains h && !m.contains (other (lineAt lines k) h)
def NB (lines : List Line) (new : Nat) (b : Int) : Nat → Int → List Int → Bool
  | 0, h, _ => h == b
  | f + 1, h, m => if h = b then true else xsum (rangeL 0 new) fun k => okHM lines h m k && NB lines new b f (other (lineAt lines k) h) (m ++ [other (lineAt lines k) h])
def EB (lines : List Line) (new : Nat) (b : Int) (j : Int) : Nat → Int → List Int → Bool
  | 0, _, _ => false
  | f + 1, h, m => if h = b then false else xsum (rangeL 0 new) fun k => okHM lines h m k && (((k == j) && NB lines new b f (other (lineAt lines k) h) (m ++ [other (lineAt lines k) h])) ^^ EB lines new b j f (other (lineAt lines k) h) (m ++ [other (lineAt lines k) h]))
theorem count_cmpl (lines : List Line) (new : Nat) (b j : Int) : ∀ (f : Nat) (w : Way), xsum (cmpl lines new b f w) (fun k => k == j) = ((xsum w.gone (fun k => k == j) && NB lines new b f w.here w.met) ^^ EB lines new b j f w.here w.met)
  | 0, w => by
    unfold cmpl NB EB
    by_cases q : w.here = b
    · rw [if_pos q, beq_iff_eq.mpr q]; simp
    · rw [if_neg q, beq_eq_false_iff_ne.mpr q]; simp [xsum]
  | f + 1, w => by
    unfold cmpl NB EB
    by_cases q : w.here = b
    · rw [if_pos q, if_pos q, if_pos q]; simp
    · rw [if_neg q, if_neg q, if_neg q, xsum_flatMap, xsum_reverse]
      unfold kids
      rw [xsum_map, xsum_filter, ← xsum_and, ← xsum_xor]
      refine xsum_congr fun k _ => ?_
      rw [count_cmpl lines new b j f]
      show (okHM lines w.here w.met k && _) = _
      have e : xsum (stepTo lines w k).gone (fun x => x == j) = (xsum w.gone (fun x => x == j) ^^ (k == j)) := by
        show xsum (w.gone ++ [k]) _ = _
        rw [xsum_append, xsum_cons]; simp [xsum]
      rw [e]
      show (okHM lines w.here w.met k && (((xsum w.gone (fun x => x == j) ^^ (k == j)) && NB lines new b f (other (lineAt lines k) w.here) (w.met ++ [other (lineAt lines k) w.here])) ^^ EB lines new b j f (other (lineAt lines k) w.here) (w.met ++ [other (lineAt lines k) w.here]))) = _
      cases okHM lines w.here w.met k <;> cases xsum w.gone (fun x => x == j) <;> cases (k == j) <;> simp
theorem EB_none (lines : List Line) (new : Nat) (b : Int) {j : Int} (hj : ∀ k ∈ rangeL 0 new, k ≠ j) : ∀ (f : Nat) (h : Int) (m : List Int), EB lines new b j f h m = false
  | 0, _, _ => rfl
  | f + 1, h, m => by
    unfold EB
    split
    · rfl
    · rw [← xsum_false (rangeL 0 new)]
      refine xsum_congr fun k hk => ?_
      rw [EB_none lines new b hj f, beq_eq_false_iff_ne.mpr (hj k hk)]; simp
def V5 : List Int := [0, 1, 2, 3, 4]
def ed (u v : Int) : Nat := if u < v then 5 * u.toNat + v.toNat else 5 * v.toNat + u.toNat
def edl (l : Line) : Nat := ed l.1 l.2
def LineGood (l : Line) : Prop := l.1 ∈ V5 ∧ l.2 ∈ V5 ∧ l.1 ≠ l.2
theorem ed_check : ∀ a ∈ V5, ∀ b ∈ V5, a ≠ b → ∀ h ∈ V5, ∀ v ∈ V5, (ed a b == ed h v) = ([a, b].contains h && (v == a + b - h)) := by decide +kernel
theorem other_in : ∀ a ∈ V5, ∀ b ∈ V5, ∀ h ∈ V5, [a, b].contains h = true → V5.contains (a + b - h) = true := by decide +kernel
theorem V5_nodup : V5.Nodup := by decide
theorem one_line {l : Line} (hl : LineGood l) {h : Int} (hh : h ∈ V5) (q g : Int → Bool) :
    xsum V5 (fun v => q v && ((edl l == ed h v) && g v)) = (([l.1, l.2].contains h && q (other l h)) && g (other l h)) := by
  have e : xsum V5 (fun v => q v && ((edl l == ed h v) && g v)) = xsum V5 fun v => (v == other l h) && ([l.1, l.2].contains h && (q v && g v)) := by
    refine xsum_congr fun v hv => ?_
    rw [show (edl l == ed h v) = ([l.1, l.2].contains h && (v == other l h)) from ed_check l.1 hl.1 l.2 hl.2.1 hl.2.2 h hh v hv]
    cases q v <;> cases [l.1, l.2].contains h <;> cases (v == other l h) <;> simp
  rw [e, xsum_single V5_nodup]
  cases hc : [l.1, l.2].contains h
  · simp
  · rw [show V5.contains (other l h) = true from other_in l.1 hl.1 l.2 hl.2.1 h hh hc]
    cases q (other l h) <;> cases g (other l h) <;> rfl
def xp (lines : List Line) (new : Nat) (e : Nat) : Bool := xsum (rangeL 0 new) fun k => edl (lineAt lines k) == e
theorem conv {lines : List Line} {new : Nat} (hg : ∀ k ∈ rangeL 0 new, LineGood (lineAt lines k)) {h : Int} (hh : h ∈ V5) (m : List Int) (g : Int → Bool) :
    xsum (rangeL 0 new) (fun k => okHM lines h m k && g (other (lineAt lines k) h)) = xsum V5 fun v => !m.contains v && (xp lines new (ed h v) && g v) := by
  have e : ∀ k ∈ rangeL 0 new, (okHM lines h m k && g (other (lineAt lines k) h)) = xsum V5 fun v => !m.contains v && ((edl (lineAt lines k) == ed h v) && g v) := fun k hk => (one_line (hg k hk) hh (fun v => !m.contains v) g).symm
  rw [xsum_congr e, xsum_swap]
  refine xsum_congr fun v _ => ?_
  rw [xsum_and]
  congr 1
  unfold xp
  have e2 : ∀ c : Bool, xsum (rangeL 0 new) (fun k => (edl (lineAt lines k) == ed h v) && c) = (xsum (rangeL 0 new) (fun k => edl (lineAt lines k) == ed h v) && c) := fun c => by
    rw [Bool.and_comm, ← xsum_and]
    exact xsum_congr fun k _ => Bool.and_comm _ _
  exact e2 _
end Mine

/-! ### N3 -/
open PySem PySem.W PyProof.Rows PySem.SeqAt
set_option Elab.async false
namespace Mine
set_option maxRecDepth 100000
def ev (x : Nat → Bool) (ms : List (List Nat)) : Bool := xsum ms fun m => m.all x
theorem ev_append (x : Nat → Bool) (a b : List (List Nat)) : ev x (a ++ b) = (ev x a ^^ ev x b) := xsum_append a b
theorem ev_consM (x : Nat → Bool) (e : Nat) (ms : List (List Nat)) : ev x (ms.map fun m => e :: m) = (x e && ev x ms) := by
  unfold ev
  rw [xsum_map, ← xsum_and]; rfl
theorem ev_flat {α : Type} (x : Nat → Bool) (g : α → List (List Nat)) (l : List α) : ev x (l.flatMap g) = xsum l fun a => ev x (g a) := xsum_flatMap g l
def Cm (b : Int) : Nat → Int → List Int → List (List Nat)
  | 0, h, _ => if h = b then [[]] else []
  | f + 1, h, m => if h = b then [[]] else V5.flatMap fun v => if m.contains v then [] else (Cm b f v (m ++ [v])).map fun y => ed h v :: y
def Em (t : Nat) (b : Int) : Nat → Int → List Int → List (List Nat)
  | 0, _, _ => []
  | f + 1, h, m => if h = b then [] else V5.flatMap fun v => if m.contains v then [] else ((Em t b f v (m ++ [v])).map fun y => ed h v :: y) ++ (if ed h v == t then Cm b f v (m ++ [v]) else [])
theorem NB_ev {lines : List Line} {new : Nat} (hg : ∀ k ∈ rangeL 0 new, LineGood (lineAt lines k)) (b : Int) : ∀ (f : Nat) (h : Int) (m : List Int), h ∈ V5 → NB lines new b f h m = ev (xp lines new) (Cm b f h m)
  | 0, h, m, _ => by
    unfold NB Cm
    by_cases q : h = b
    · rw [if_pos q, beq_iff_eq.mpr q]; rfl
    · rw [if_neg q, beq_eq_false_iff_ne.mpr q]; rfl
  | f + 1, h, m, hh => by
    unfold NB Cm
    by_cases q : h = b
    · rw [if_pos q, if_pos q]; rfl
    · rw [if_neg q, if_neg q, ev_flat]
      refine (conv hg hh m (fun v => NB lines new b f v (m ++ [v]))).trans (xsum_congr fun v hv => ?_)
      rw [NB_ev hg b f v _ hv]
      cases m.contains v
      · rw [if_neg (by decide), ev_consM]; rfl
      · rw [if_pos rfl]; rfl
theorem EB_ev {lines : List Line} {new : Nat} (hg : ∀ k ∈ rangeL 0 new, LineGood (lineAt lines k)) (b : Int) {j : Int} (hj : j ∈ rangeL 0 new) : ∀ (f : Nat) (h : Int) (m : List Int), h ∈ V5 → EB lines new b j f h m = ev (xp lines new) (Em (edl (lineAt lines j)) b f h m)
  | 0, h, m, _ => rfl
  | f + 1, h, m, hh => by
    unfold EB Em
    by_cases q : h = b
    · rw [if_pos q, if_pos q]; rfl
    · rw [if_neg q, if_neg q, ev_flat]
      have e1 : xsum (rangeL 0 new) (fun k => okHM lines h m k && (((k == j) && NB lines new b f (other (lineAt lines k) h) (m ++ [other (lineAt lines k) h])) ^^ EB lines new b j f (other (lineAt lines k) h) (m ++ [other (lineAt lines k) h])))
          = (xsum (rangeL 0 new) (fun k => (k == j) && (okHM lines h m k && NB lines new b f (other (lineAt lines k) h) (m ++ [other (lineAt lines k) h]))) ^^ xsum (rangeL 0 new) (fun k => okHM lines h m k && EB lines new b j f (other (lineAt lines k) h) (m ++ [other (lineAt lines k) h]))) := by
        rw [← xsum_xor]
        refine xsum_congr fun k _ => ?_
        cases okHM lines h m k <;> cases (k == j) <;> simp
      have hc : (rangeL 0 new).contains j = true := List.contains_iff_mem.mpr hj
      have e2 := one_line (hg j hj) hh (fun v => !m.contains v) (fun v => NB lines new b f v (m ++ [v]))
      have e3 := conv hg hh m (fun v => EB lines new b j f v (m ++ [v]))
      rw [e1, xsum_single (rangeL_nodup 0 new), hc, Bool.true_and]
      refine (congr (congrArg Bool.xor e2.symm) e3).trans ?_
      rw [← xsum_xor]
      refine xsum_congr fun v hv => ?_
      rw [EB_ev hg b hj f v _ hv, NB_ev hg b f v _ hv]
      have e4 : (ed h v == edl (lineAt lines j)) = (edl (lineAt lines j) == ed h v) := by rw [Bool.eq_iff_iff, beq_iff_eq, beq_iff_eq]; exact eq_comm
      cases m.contains v
      · rw [if_neg (by decide), ev_append, ev_consM, e4]
        cases (edl (lineAt lines j) == ed h v)
        · rw [if_neg (by decide)]; simp [ev, xsum]
        · rw [if_pos rfl]; simp; exact Bool.xor_comm _ _
      · rw [if_pos rfl]; rfl
/-! ## One line more -/
def flp (s : Nat) (x : Nat → Bool) : Nat → Bool := fun e => (s == e) ^^ x e
def der (s : Nat) (ms : List (List Nat)) : List (List Nat) := (ms.filter fun m => m.contains s).map fun m => m.filter fun e => e != s
theorem all_split (s : Nat) (y : Nat → Bool) : ∀ m : List Nat, m.all y = ((!m.contains s || y s) && (m.filter fun e => e != s).all y)
  | [] => rfl
  | e :: m => by
    have ih := all_split s y m
    rw [List.all_cons, List.filter_cons, List.contains_cons]
    by_cases q : e = s
    · subst q
      have e1 : (e != e) = false := by simp
      rw [e1, if_neg (by decide), ih]
      simp
      cases y e <;> simp
    · have e1 : (e != s) = true := by simpa using q
      have e2 : (s == e) = false := beq_eq_false_iff_ne.mpr (Ne.symm q)
      rw [e1, if_pos rfl, List.all_cons, ih, e2]
      simp only [Bool.false_or]
      cases y e <;> simp
theorem all_not (s : Nat) (x : Nat → Bool) (m : List Nat) : (m.filter fun e => e != s).all (flp s x) = (m.filter fun e => e != s).all x := by
  rw [Bool.eq_iff_iff, List.all_eq_true, List.all_eq_true]
  have key : ∀ e ∈ m.filter (fun e => e != s), flp s x e = x e := fun e he => by
    have h := (List.mem_filter.mp he).2
    have h' : (s == e) = false := beq_eq_false_iff_ne.mpr (fun q => by rw [q] at h; simp at h)
    unfold flp; rw [h']; simp
  constructor
  · intro h e he; rw [← key e he]; exact h e he
  · intro h e he; rw [key e he]; exact h e he
theorem ev_flp (s : Nat) (x : Nat → Bool) (ms : List (List Nat)) : ev (flp s x) ms = (ev x ms ^^ ev x (der s ms)) := by
  unfold ev der
  rw [xsum_map, xsum_filter, ← xsum_xor]
  refine xsum_congr fun m _ => ?_
  rw [all_split s (flp s x) m, all_split s x m, all_not]
  have : flp s x s = !x s := by unfold flp; simp
  rw [this]
  cases m.contains s <;> cases x s <;> simp
theorem ev_der_flp (s : Nat) (x : Nat → Bool) (ms : List (List Nat)) : ev (flp s x) (der s ms) = ev x (der s ms) := by
  unfold ev der
  rw [xsum_map, xsum_map]
  exact xsum_congr fun m _ => all_not s x m
/-- a line's rings, by parity, as a polynomial -/
def Gp (a b : Int) : List (List Nat) := Cm b 4 a [a] ++ der (ed a b) (Cm b 4 a [a])
theorem Gp_new (a b : Int) (x : Nat → Bool) : ev (flp (ed a b) x) (Gp a b) = ev x (Cm b 4 a [a]) := by
  unfold Gp
  rw [ev_append, ev_flp, ev_der_flp]
  cases ev x (Cm b 4 a [a]) <;> cases ev x (der (ed a b) (Cm b 4 a [a])) <;> rfl
/-! ## Two polynomials alike -/
def insN (a : Nat) : List Nat → List Nat
  | [] => [a]
  | b :: l => if a ≤ b then a :: b :: l else b :: insN a l
def sortN (l : List Nat) : List Nat := l.foldr insN []
theorem all_insN (x : Nat → Bool) (a : Nat) : ∀ l : List Nat, (insN a l).all x = (x a && l.all x)
  | [] => rfl
  | b :: l => by
    unfold insN
    split
    · rfl
    · rw [List.all_cons, all_insN x a l, List.all_cons]
      cases x a <;> cases x b <;> rfl
theorem all_sortN (x : Nat → Bool) : ∀ l : List Nat, (sortN l).all x = l.all x
  | [] => rfl
  | a :: l => by
    show (insN a (sortN l)).all x = _
    rw [all_insN, all_sortN x l]; rfl
def key (m : List Nat) : Nat := m.foldl (fun a e => 32 * a + e) 1
def insM (a : List Nat) : List (List Nat) → List (List Nat)
  | [] => [a]
  | b :: l => if key a ≤ key b then a :: b :: l else b :: insM a l
theorem ev_insM (x : Nat → Bool) (a : List Nat) : ∀ l : List (List Nat), ev x (insM a l) = (a.all x ^^ ev x l)
  | [] => rfl
  | b :: l => by
    unfold insM
    split
    · rfl
    · show (b.all x ^^ ev x (insM a l)) = (a.all x ^^ (b.all x ^^ ev x l))
      rw [ev_insM x a l]
      cases a.all x <;> cases b.all x <;> simp
def norm (ms : List (List Nat)) : List (List Nat) := ms.foldr (fun m r => insM (sortN m) r) []
theorem ev_norm (x : Nat → Bool) : ∀ ms : List (List Nat), ev x (norm ms) = ev x ms
  | [] => rfl
  | m :: ms => by
    show ev x (insM (sortN m) (norm ms)) = _
    rw [ev_insM, ev_norm x ms, all_sortN]; rfl
def chkA (a : Int) : Bool := V5.all fun b => (a == b) || V5.all fun p => V5.all fun q => (p == q) || (norm (der (ed a b) (Gp p q)) == norm (Em (ed p q) b 4 a [a]))
theorem chk0 : chkA 0 = true := by decide +kernel
theorem chk1 : chkA 1 = true := by decide +kernel
theorem chk2 : chkA 2 = true := by decide +kernel
theorem chk3 : chkA 3 = true := by decide +kernel
theorem chk4 : chkA 4 = true := by decide +kernel
theorem chk_all {a b p q : Int} (ha : a ∈ V5) (hb : b ∈ V5) (hp : p ∈ V5) (hq : q ∈ V5) (hab : a ≠ b) (hpq : p ≠ q) (x : Nat → Bool) : ev x (der (ed a b) (Gp p q)) = ev x (Em (ed p q) b 4 a [a]) := by
  have h : chkA a = true := by
    have h5 : a = 0 ∨ a = 1 ∨ a = 2 ∨ a = 3 ∨ a = 4 := by simpa [V5] using ha
    rcases h5 with rfl | rfl | rfl | rfl | rfl
    · exact chk0
    · exact chk1
    · exact chk2
    · exact chk3
    · exact chk4
  have h2 := List.all_eq_true.mp h b hb
  rw [beq_eq_false_iff_ne.mpr hab, Bool.false_or] at h2
  have h3 := List.all_eq_true.mp (List.all_eq_true.mp h2 p hp) q hq
  rw [beq_eq_false_iff_ne.mpr hpq, Bool.false_or] at h3
  rw [← ev_norm, beq_iff_eq.mp h3, ev_norm]
/-! ## All points even -/
def mkX (a b c d e f : Bool) : Nat → Bool := fun n => match n with
  | 7 => a | 8 => b | 9 => c | 13 => d | 14 => e | 19 => f
  | 1 => a ^^ (b ^^ c) | 2 => a ^^ (d ^^ e) | 3 => b ^^ (d ^^ f) | 4 => c ^^ (e ^^ f)
  | _ => false
def E10 : List Nat := [1, 2, 3, 4, 7, 8, 9, 13, 14, 19]
theorem Gp_in : ∀ p ∈ V5, ∀ q ∈ V5, p ≠ q → ∀ m ∈ Gp p q, ∀ e ∈ m, e ∈ E10 := by decide +kernel
theorem toida : ∀ p ∈ V5, ∀ q ∈ V5, p ≠ q → ∀ a b c d e f : Bool, ev (mkX a b c d e f) (Gp p q) = true := by decide +kernel
theorem all_congr {x y : Nat → Bool} : ∀ {m : List Nat}, (∀ e ∈ m, x e = y e) → m.all x = m.all y
  | [], _ => rfl
  | e :: m, h => by rw [List.all_cons, List.all_cons, h e List.mem_cons_self, all_congr fun e' he => h e' (List.mem_cons_of_mem _ he)]
def degP (x : Nat → Bool) (v : Int) : Bool := xsum V5 fun u => !(u == v) && x (ed v u)
theorem even_all {x : Nat → Bool} (h : ∀ v ∈ V5, degP x v = false) {p q : Int} (hp : p ∈ V5) (hq : q ∈ V5) (hpq : p ≠ q) : ev x (Gp p q) = true := by
  have h1 : (x 1 ^^ (x 7 ^^ (x 8 ^^ x 9))) = false := by have := h 1 (by decide); simpa [degP, xsum, V5, ed] using this
  have h2 : (x 2 ^^ (x 7 ^^ (x 13 ^^ x 14))) = false := by have := h 2 (by decide); simpa [degP, xsum, V5, ed] using this
  have h3 : (x 3 ^^ (x 8 ^^ (x 13 ^^ x 19))) = false := by have := h 3 (by decide); simpa [degP, xsum, V5, ed] using this
  have h4 : (x 4 ^^ (x 9 ^^ (x 14 ^^ x 19))) = false := by have := h 4 (by decide); simpa [degP, xsum, V5, ed] using this
  have b2 : ∀ a b : Bool, (a ^^ b) = false → a = b := by decide
  have key : ∀ e ∈ E10, x e = mkX (x 7) (x 8) (x 9) (x 13) (x 14) (x 19) e := by
    intro e he
    have h10 : e = 1 ∨ e = 2 ∨ e = 3 ∨ e = 4 ∨ e = 7 ∨ e = 8 ∨ e = 9 ∨ e = 13 ∨ e = 14 ∨ e = 19 := by simpa [E10] using he
    rcases h10 with rfl | rfl | rfl | rfl | rfl | rfl | rfl | rfl | rfl | rfl
    · exact b2 _ _ h1
    · exact b2 _ _ h2
    · exact b2 _ _ h3
    · exact b2 _ _ h4
    all_goals rfl
  rw [← toida p hp q hq hpq (x 7) (x 8) (x 9) (x 13) (x 14) (x 19)]
  unfold ev
  exact xsum_congr fun m hm => all_congr fun e he => key e (Gp_in p hp q hq hpq m hm e he)
end Mine

/-! ### N4 -/
open PySem PySem.W PyProof.Rows PySem.SeqAt
set_option Elab.async false
namespace Mine
set_option maxRecDepth 100000
theorem rangeL_succ (m : Nat) : rangeL 0 (m + 1) = rangeL 0 m ++ [(m : Int)] := by
  unfold rangeL
  rw [List.range_succ, List.map_append]; simp
theorem rangeL_take {m n : Nat} (h : m ≤ n) : (rangeL 0 n).take m = rangeL 0 m := by
  unfold rangeL
  rw [← List.map_take]
  congr 1
  apply List.ext_getElem?
  intro i
  rw [List.getElem?_take]
  by_cases hi : i < m
  · rw [if_pos hi, List.getElem?_range (by omega), List.getElem?_range hi]
  · rw [if_neg hi, List.getElem?_eq_none (by simpa using hi)]
theorem mem_range {k : Int} {m : Nat} : k ∈ rangeL 0 m ↔ 0 ≤ k ∧ k < m := by
  constructor
  · exact range_mem
  · intro h
    unfold rangeL
    exact List.mem_map.mpr ⟨k.toNat, List.mem_range.mpr (by omega), by omega⟩
def inc (v : Int) (l : Line) : Bool := (l.1 == v) ^^ (l.2 == v)
theorem inc_step {l : Line} {h : Int} (hc : [l.1, l.2].contains h = true) (v : Int) : inc v l = ((v == h) ^^ (v == other l h)) := by
  have h' : h = l.1 ∨ h = l.2 := by simpa using hc
  unfold inc other
  have e : ∀ a b : Int, (a == b) = (b == a) := fun a b => by rw [Bool.eq_iff_iff, beq_iff_eq, beq_iff_eq]; exact eq_comm
  rcases h' with rfl | rfl
  · rw [show l.1 + l.2 - l.1 = l.2 by omega, e v l.1, e v l.2]
  · rw [show l.1 + l.2 - l.2 = l.1 by omega, e v l.1, e v l.2, Bool.xor_comm]
/-- a ring has an even number of line ends at each point -/
theorem ring_even_gen (lines : List Line) (new : Nat) (b v : Int) : ∀ (f : Nat) (w : Way), xsum w.gone (fun k => inc v (lineAt lines k)) = ((v == w.here) ^^ (v == b)) → xsum (cmpl lines new b f w) (fun k => inc v (lineAt lines k)) = false
  | 0, w, h => by
    unfold cmpl
    by_cases q : w.here = b
    · rw [if_pos q, h, q]; simp
    · rw [if_neg q]; rfl
  | f + 1, w, h => by
    unfold cmpl
    by_cases q : w.here = b
    · rw [if_pos q, h, q]; simp
    · rw [if_neg q, xsum_flatMap, xsum_reverse, ← xsum_false (kids lines new w)]
      refine xsum_congr fun x hx => ?_
      obtain ⟨k, hk, rfl⟩ := List.mem_map.mp hx
      refine ring_even_gen lines new b v f _ ?_
      have hok : okStep lines w k = true := (List.mem_filter.mp hk).2
      unfold okStep at hok
      rw [Bool.and_eq_true] at hok
      show xsum (w.gone ++ [k]) _ = ((v == other (lineAt lines k) w.here) ^^ (v == b))
      rw [xsum_append, h, xsum_cons, inc_step hok.1]
      simp only [xsum, List.foldr_nil, Bool.xor_false]
      cases (v == w.here) <;> cases (v == b) <;> cases (v == other (lineAt lines k) w.here) <;> rfl
theorem ring_even (lines : List Line) (new : Nat) (v : Int) : xsum (ringsOf lines new) (fun k => inc v (lineAt lines k)) = false := by
  refine ring_even_gen lines new _ v 4 _ ?_
  show xsum [(new : Int)] _ = ((v == (lineAt lines new).1) ^^ (v == (lineAt lines new).2))
  have e : ∀ a b : Int, (a == b) = (b == a) := fun a b => by rw [Bool.eq_iff_iff, beq_iff_eq, beq_iff_eq]; exact eq_comm
  rw [xsum_cons, e v, e v]
  simp [xsum, inc]
theorem mem_cmpl (lines : List Line) (new : Nat) (b : Int) {k : Int} : ∀ (f : Nat) (w : Way), k ∈ cmpl lines new b f w → k ∈ w.gone ∨ k ∈ rangeL 0 new
  | 0, w, h => by
    unfold cmpl at h
    split at h
    · exact .inl h
    · cases h
  | f + 1, w, h => by
    unfold cmpl at h
    split at h
    · exact .inl h
    · obtain ⟨x, hx, hk⟩ := List.mem_flatMap.mp h
      obtain ⟨j, hj, rfl⟩ := List.mem_map.mp (List.mem_reverse.mp hx)
      rcases mem_cmpl lines new b f _ hk with h | h
      · rcases List.mem_append.mp h with h | h
        · exact .inl h
        · rw [List.mem_singleton.mp h]; exact .inr (List.mem_filter.mp hj).1
      · exact .inr h
theorem mem_ring {lines : List Line} {new : Nat} {k : Int} (h : k ∈ ringsOf lines new) : 0 ≤ k ∧ k < (new : Int) + 1 := by
  rcases mem_cmpl lines new _ 4 _ h with h | h
  · have : k = (new : Int) := List.mem_singleton.mp h
    omega
  · have := range_mem h; omega
def shA (lines : List Line) (m : Nat) : List Int := (rangeL 0 m).flatMap fun i => ringsOf lines i.toNat
theorem shA_succ (lines : List Line) (m : Nat) : shA lines (m + 1) = shA lines m ++ ringsOf lines m := by
  unfold shA
  rw [rangeL_succ, List.flatMap_append]; simp
theorem shA_mem {lines : List Line} {m : Nat} {k : Int} (h : k ∈ shA lines m) : k ∈ rangeL 0 m := by
  obtain ⟨i, hi, hk⟩ := List.mem_flatMap.mp h
  have h1 := range_mem hi
  have h2 := mem_ring hk
  exact mem_range.mpr ⟨h2.1, by omega⟩
theorem shA_eq {lines : List Line} {m : Nat} (h : m ≤ lines.length) : sharedOf ((ringsAll lines).take m) = shA lines m := by
  unfold sharedOf ringsAll shA
  rw [← List.map_take, rangeL_take h, List.flatMap_map]
theorem shA_len {lines : List Line} {m : Nat} (h : m ≤ 6) : (shA lines m).length ≤ 40000 := by
  unfold shA
  rw [List.length_flatMap]
  have h1 := sum_le (f := fun i : Int => (ringsOf lines i.toNat).length) (m := 6480) (l := rangeL 0 m) fun i hi => ringsOf_le (by have := range_mem hi; omega)
  rw [rangeL_length] at h1
  have h2 := Nat.mul_le_mul_right 6480 h
  omega
theorem xp_succ (lines : List Line) (m : Nat) : xp lines (m + 1) = flp (edl (lineAt lines m)) (xp lines m) := by
  funext e
  unfold xp flp
  rw [rangeL_succ, xsum_append, xsum_cons]
  simp [xsum]
  exact Bool.xor_comm _ _
theorem cnt_ring (lines : List Line) (new : Nat) (j : Int) : xsum (ringsOf lines new) (fun k => k == j) = ((((new : Int) == j) && NB lines new (goal lines new) 4 (lineAt lines new).1 [(lineAt lines new).1]) ^^ EB lines new (goal lines new) j 4 (lineAt lines new).1 [(lineAt lines new).1]) := by
  unfold ringsOf
  rw [count_cmpl]
  have e : xsum (way0 lines new).gone (fun k => k == j) = ((new : Int) == j) := by
    show xsum [(new : Int)] _ = _
    rw [xsum_cons]; simp [xsum]
  rw [e]; rfl
section
variable {lines : List Line} (hg : ∀ k : Int, 0 ≤ k → k < lines.length → LineGood (lineAt lines k))
include hg
theorem T_eq : ∀ m : Nat, m ≤ lines.length → ∀ j ∈ rangeL 0 m, xsum (shA lines m) (fun k => k == j) = ev (xp lines m) (Gp (lineAt lines j).1 (lineAt lines j).2)
  | 0, _, j, hj => nomatch hj
  | m + 1, hm, j, hj => by
    have hgm : ∀ k ∈ rangeL 0 m, LineGood (lineAt lines k) := fun k hk => by
      have := range_mem hk
      exact hg k this.1 (by omega)
    have hl : LineGood (lineAt lines (m : Int)) := hg m (by omega) (by omega)
    rw [shA_succ, xsum_append, cnt_ring, xp_succ]
    rw [rangeL_succ, List.mem_append] at hj
    rcases hj with hj | hj
    · have hj' := range_mem hj
      have hlj := hgm j hj
      have e0 : ((m : Int) == j) = false := beq_eq_false_iff_ne.mpr (by omega)
      rw [T_eq m (by omega) j hj, e0, Bool.false_and, Bool.false_xor, EB_ev hgm _ hj 4 _ _ hl.1, ev_flp]
      have h := chk_all hl.1 hl.2.1 hlj.1 hlj.2.1 hl.2.2 hlj.2.2 (xp lines m)
      exact congrArg (Bool.xor _) h.symm
    · have e : j = (m : Int) := List.mem_singleton.mp hj
      subst e
      have h1 : xsum (shA lines m) (fun k => k == (m : Int)) = false := by
        rw [← xsum_false (shA lines m)]
        refine xsum_congr fun k hk => beq_eq_false_iff_ne.mpr ?_
        have := range_mem (shA_mem hk)
        omega
      have h2 : EB lines m (goal lines m) (m : Int) 4 (lineAt lines m).1 [(lineAt lines m).1] = false := EB_none _ _ _ (fun k hk => by have := range_mem hk; omega) _ _ _
      rw [h1, h2, beq_self_eq_true, Bool.true_and, Bool.false_xor, Bool.xor_false, NB_ev hgm _ 4 _ _ hl.1]
      exact (Gp_new (lineAt lines m).1 (lineAt lines m).2 (xp lines m)).symm
end
theorem sh_even (lines : List Line) (m : Nat) (v : Int) : xsum (shA lines m) (fun k => inc v (lineAt lines k)) = false := by
  unfold shA
  rw [xsum_flatMap, ← xsum_false (rangeL 0 m)]
  exact xsum_congr fun i _ => ring_even lines i.toNat v
theorem double_count {sh : List Int} {m : Nat} (h : ∀ k ∈ sh, k ∈ rangeL 0 m) (g : Int → Bool) : xsum (rangeL 0 m) (fun k => xsum sh (fun s => s == k) && g k) = xsum sh g := by
  have e1 : ∀ k ∈ rangeL 0 m, (xsum sh (fun s => s == k) && g k) = xsum sh fun s => (k == s) && g k := fun k _ => by
    rw [Bool.and_comm, ← xsum_and]
    refine xsum_congr fun s _ => ?_
    have : (s == k) = (k == s) := by rw [Bool.eq_iff_iff, beq_iff_eq, beq_iff_eq]; exact eq_comm
    rw [this, Bool.and_comm]
  rw [xsum_congr e1, xsum_swap]
  refine xsum_congr fun s hs => ?_
  rw [xsum_single (rangeL_nodup 0 m), List.contains_iff_mem.mpr (h s hs), Bool.true_and]
theorem odd_sum (lines : List Line) (m : Nat) (v : Int) : xsum (rangeL 0 m) (fun k => xsum (shA lines m) (fun s => s == k) && inc v (lineAt lines k)) = false := by
  rw [double_count (fun k hk => shA_mem hk), sh_even]
theorem oddK_eq (sh : List Int) (k : Int) : oddK sh k = xsum sh fun s => s == k := by
  unfold oddK
  rw [← odd_count, par_fmod]
  rcases Nat.mod_two_eq_zero_or_one (sh.count k) with h | h <;> rw [h] <;> rfl
theorem two_inc (v : Int) (l : Line) : xsum [l.1, l.2] (fun s => s == v) = inc v l := by
  rw [xsum_cons, xsum_cons]; simp [xsum, inc]
def dg (lines : List Line) (m : Nat) (v : Int) : Bool := xsum (rangeL 0 m) fun k => inc v (lineAt lines k)
theorem take_lines {lines : List Line} {m : Nat} (h : m ≤ lines.length) : lines.take m = (rangeL 0 m).map (lineAt lines) := by
  apply List.ext_getElem?
  intro i
  rw [List.getElem?_take, List.getElem?_map, rangeL_get]
  by_cases hi : i < m
  · rw [if_pos hi, if_pos hi, List.getElem?_eq_getElem (by omega)]
    show _ = some (lineAt lines (0 + (i : Int)))
    unfold lineAt
    rw [show (0 + (i : Int)).toNat = i by omega, List.getD_eq_getElem?_getD, List.getElem?_eq_getElem (by omega)]; rfl
  · rw [if_neg hi, if_neg hi]; rfl
theorem lineAt_take {lines : List Line} {m : Nat} {k : Int} (hk : k ∈ rangeL 0 m) : lineAt (lines.take m) k = lineAt lines k := by
  have h := range_mem hk
  unfold lineAt
  rw [List.getD_eq_getElem?_getD, List.getElem?_take, if_pos (by omega), ← List.getD_eq_getElem?_getD]
theorem ends_odd {lines : List Line} {m : Nat} (h : m ≤ lines.length) (v : Int) : xsum (endsOf (lines.take m)) (fun s => s == v) = dg lines m v := by
  unfold endsOf dg
  rw [xsum_flatMap, take_lines h, xsum_map]
  exact xsum_congr fun k _ => two_inc v _
theorem odds_even {lines : List Line} {m : Nat} (h : m ≤ lines.length) (v : Int) : xsum (oddOf (lines.take m) (shA lines m)) (fun s => s == v) = false := by
  unfold oddOf
  have hl : (lines.take m).length = m := by rw [List.length_take]; omega
  rw [xsum_flatMap, xsum_filter, hl, ← odd_sum lines m v]
  refine xsum_congr fun k hk => ?_
  rw [oddK_eq, two_inc v, lineAt_take hk]
theorem inc_check : ∀ a ∈ V5, ∀ b ∈ V5, a ≠ b → ∀ v ∈ V5, (([a, b].contains v && !((a + b - v) == v)) && true) = ((a == v) ^^ (b == v)) := by decide +kernel
theorem dg_deg {lines : List Line} {m : Nat} (hg : ∀ k ∈ rangeL 0 m, LineGood (lineAt lines k)) {v : Int} (hv : v ∈ V5) : degP (xp lines m) v = dg lines m v := by
  unfold degP dg xp
  have e1 : ∀ u ∈ V5, (!(u == v) && xsum (rangeL 0 m) (fun k => edl (lineAt lines k) == ed v u)) = xsum (rangeL 0 m) fun k => !(u == v) && ((edl (lineAt lines k) == ed v u) && true) := fun u _ => by
    rw [← xsum_and]
    exact xsum_congr fun k _ => by rw [Bool.and_true]
  rw [xsum_congr e1, xsum_swap]
  refine xsum_congr fun k hk => ?_
  have hl := hg k hk
  rw [one_line hl hv (fun u => !(u == v)) (fun _ => true)]
  exact inc_check _ hl.1 _ hl.2.1 hl.2.2 v hv
end Mine

/-! ### N5 -/
open PySem PySem.W PyProof.Rows PySem.SeqAt
set_option Elab.async false
namespace Mine
set_option maxRecDepth 100000
theorem even0 (things : List Int) (i : Int) : (mk things 0 i % 2 == 0) = !xsum things fun s => s == i := by
  rw [← odd_count]
  unfold mk
  rw [Nat.add_zero]
  rcases Nat.mod_two_eq_zero_or_one (things.count i) with h | h <;> rw [h] <;> rfl
theorem even1 (things : List Int) (i : Int) : (mk things 1 i % 2 == 0) = xsum things fun s => s == i := by
  rw [← odd_count]
  unfold mk
  rcases Nat.mod_two_eq_zero_or_one (things.count i) with h | h
  · rw [show (things.count i + 1) % 2 = 1 by omega, h]; rfl
  · rw [show (things.count i + 1) % 2 = 0 by omega, h]; rfl
theorem cont5 (things : List Int) : (told things 0 five5).contains 101 = V5.all fun v => !xsum things fun s => s == v := by
  rw [told_eq (by decide)]
  have h := cont_R (mk things 0) (ltr five5) 4 (by decide) [0, 1, 2, 3] (by decide)
  refine Eq.trans h ?_
  show List.all V5 _ = _
  rw [Bool.eq_iff_iff, List.all_eq_true, List.all_eq_true]
  exact ⟨fun q v hv => by rw [← even0]; exact q v hv, fun q v hv => by rw [even0]; exact q v hv⟩
theorem six_ne : ∀ d ∈ six6, d ≠ 34 := by decide
theorem cont6 (things : List Int) {m : Nat} (h1 : 1 ≤ m) (h6 : m ≤ 6) : (told things 1 (six6.take m)).contains (six6.getD (m - 1) 0) = (rangeL 0 m).all fun k => xsum things fun s => s == k := by
  rw [told_eq fun d hd => six_ne d (List.mem_of_mem_take hd)]
  have e : (told things 1 (six6.take m)) = told things 1 (six6.take m) := rfl
  have key : ∀ (is : List Int) (z : Int), ltr (six6.take m) z = six6.getD (m - 1) 0 → ltr (six6.take m) z ≠ 34 → (∀ i ∈ is, ltr (six6.take m) i ≠ ltr (six6.take m) z) →
      (toldR (mk things 1) (ltr (six6.take m)) (is ++ [z])).contains (six6.getD (m - 1) 0) = (is ++ [z]).all fun k => xsum things fun s => s == k := by
    intro is z e1 e2 e3
    rw [← e1, cont_R _ _ z e2 is e3, Bool.eq_iff_iff, List.all_eq_true, List.all_eq_true]
    exact ⟨fun q v hv => by rw [← even1]; exact q v hv, fun q v hv => by rw [even1]; exact q v hv⟩
  have h : m = 1 ∨ m = 2 ∨ m = 3 ∨ m = 4 ∨ m = 5 ∨ m = 6 := by omega
  rcases h with rfl | rfl | rfl | rfl | rfl | rfl
  · exact key [] 0 (by decide) (by decide) (by decide)
  · exact key [0] 1 (by decide) (by decide) (by decide)
  · exact key [0, 1] 2 (by decide) (by decide) (by decide)
  · exact key [0, 1, 2] 3 (by decide) (by decide) (by decide)
  · exact key [0, 1, 2, 3] 4 (by decide) (by decide) (by decide)
  · exact key [0, 1, 2, 3, 4] 5 (by decide) (by decide) (by decide)
section
variable {lines : List Line} {m : Nat}
theorem evenOf_eq (hg : ∀ k ∈ rangeL 0 m, LineGood (lineAt lines k)) (h : m ≤ lines.length) : evenOf (endsOf (lines.take m)) = V5.all fun v => !dg lines m v := by
  unfold evenOf
  rw [Bool.eq_iff_iff, List.isEmpty_iff, List.filter_eq_nil_iff, List.all_eq_true]
  constructor
  · intro q v _
    rw [← ends_odd h]
    cases c : xsum (endsOf (lines.take m)) fun s => s == v
    · rfl
    · have hm : v ∈ endsOf (lines.take m) := by
        refine Classical.byContradiction fun hn => ?_
        have : xsum (endsOf (lines.take m)) (fun s => s == v) = false := by
          rw [← xsum_false (endsOf (lines.take m))]
          exact xsum_congr fun s hs => beq_eq_false_iff_ne.mpr fun q => hn (q ▸ hs)
        rw [this] at c; cases c
      exact absurd (by rw [oddK_eq]; exact c) (q v hm)
  · intro q v hv hk
    rw [oddK_eq, ends_odd h] at hk
    have hv5 : v ∈ V5 := by
      unfold endsOf at hv
      rw [take_lines h] at hv
      obtain ⟨l, hl, hv⟩ := List.mem_flatMap.mp hv
      obtain ⟨k, hk, rfl⟩ := List.mem_map.mp hl
      have hgk := hg k hk
      rcases List.mem_cons.mp hv with rfl | hv
      · exact hgk.1
      · rw [List.mem_singleton.mp hv]; exact hgk.2.1
    have := q v hv5
    rw [hk] at this; cases this
theorem stage_ok (hg : ∀ k : Int, 0 ≤ k → k < lines.length → LineGood (lineAt lines k)) (h6 : lines.length ≤ 6) (h1 : 1 ≤ m) (h : m ≤ lines.length) : StageOk (lines.take m) ((ringsAll lines).take m) := by
  have hgm : ∀ k ∈ rangeL 0 m, LineGood (lineAt lines k) := fun k hk => by
    have := range_mem hk
    exact hg k this.1 (by omega)
  have hl : (lines.take m).length = m := by rw [List.length_take]; omega
  have hev := evenOf_eq hgm h
  refine ⟨by rw [hl]; omega, by rw [shA_eq h]; exact shA_len (by omega), by rw [List.length_take]; omega, told_due (by decide) _ _, told_due (fun d hd => six_ne d (List.mem_of_mem_take hd)) _ _, told_due (by decide) _ _, ?_, ?_, ?_⟩
  · rw [cont5, shA_eq h, List.all_eq_true]
    intro v _
    rw [odds_even h]; rfl
  · rw [cont5, hev, Bool.eq_iff_iff, List.all_eq_true, List.all_eq_true]
    exact ⟨fun q v hv => by rw [← ends_odd h]; exact q v hv, fun q v hv => by rw [ends_odd h]; exact q v hv⟩
  · rw [hl, cont6 _ h1 (by omega), shA_eq h, hev, Bool.eq_iff_iff, List.all_eq_true, List.all_eq_true]
    constructor
    · intro q v _
      have := odd_sum lines m v
      rw [xsum_congr (g := fun k => inc v (lineAt lines k)) (fun k hk => by rw [q k hk]; rfl)] at this
      show (!dg lines m v) = true
      unfold dg
      rw [this]; rfl
    · intro q j hj
      rw [T_eq hg m h j hj]
      have hlj := hgm j hj
      refine even_all (fun v hv => ?_) hlj.1 hlj.2.1 hlj.2.2
      rw [dg_deg hgm hv]
      have := q v hv
      cases hd : dg lines m v
      · rfl
      · rw [hd] at this; cases this
end
theorem lineOf_good (x : Int) : LineGood (lineOf x) := by
  have h1 := fmod_rng x (b := 5) (by decide)
  have h2 := fmod_rng (x.fdiv 5) (b := 4) (by decide)
  have h3 := fmod_rng (x.fmod 5 + 1 + (x.fdiv 5).fmod 4) (b := 5) (by decide)
  have h4 : (x.fmod 5 + 1 + (x.fdiv 5).fmod 4).fmod 5 = (x.fmod 5 + 1 + (x.fdiv 5).fmod 4) % 5 := Int.fmod_eq_emod_of_nonneg _ (by decide)
  have m5 : ∀ i : Int, 0 ≤ i → i < 5 → i ∈ V5 := fun i a b => by
    have : i = 0 ∨ i = 1 ∨ i = 2 ∨ i = 3 ∨ i = 4 := by omega
    simpa [V5] using this
  refine ⟨m5 _ h1.1 h1.2, m5 _ h3.1 h3.2, ?_⟩
  show x.fmod 5 ≠ (x.fmod 5 + 1 + (x.fdiv 5).fmod 4).fmod 5
  rw [h4]
  omega
theorem plain_ok (l : List Int) : PlainOk (netL l) := by
  have h6 : (netL l).length ≤ 6 := by unfold netL; rw [List.length_map]; exact nums_len l
  refine ⟨h6, fun k h1 h2 => stage_ok (fun j j0 j1 => ?_) h6 h1 h2⟩
  unfold lineAt
  rw [List.getD_eq_getElem?_getD, List.getElem?_eq_getElem (by omega)]
  have hm : (netL l)[j.toNat]'(by omega) ∈ netL l := List.getElem_mem _
  obtain ⟨x, _, hx⟩ := List.mem_map.mp hm
  show LineGood ((netL l)[j.toNat]'(by omega))
  rw [← hx]
  exact lineOf_good x
end Mine

/-! ### Q2 -/
open PySem PySem.W PyProof.Rows PySem.SeqAt
set_option Elab.async false
namespace Mine
set_option maxRecDepth 100000
def libFns : List (Nat × Str) := [(3, "parse257"), (5, "concat"), (6, "contains"), (7, "countOf"), (8, "indexOf"), (10, "_law_lines"), (11, "_law_rings"), (12, "_law_told"), (13, "_law_due"), (14, "_law_stage"), (15, "law")]
def libNo : List Str := ["len", "range", "hasattr", "enumerate", "ValueError"]
def posAt (i : Nat) : Pos := match stAt i with | .FunctionDef _ _ _ _ _ _ _ _ _ p => p | _ => default
theorem lib_of {p : Program} {loose : List Str} {mean : ExcName → Option Value} {mg mb : Str → Option Value} {h : Heap} (T : Top p loose mean mg mb h) (hb : NoneBooked h)
    (hr : recsOf p = libFns.map fun x => ⟨x.2, paramsAt x.1, bodyAt x.1, scopeAt x.1, posAt x.1⟩)
    (hn : ∀ x ∈ libNo, x ∉ startupNames ∧ x ∉ loose ∧ x ∉ (recsOf p).map (·.name) ∧ x ∉ (litsOf p).map (·.1) ∧ x ∉ (clssOf p loose).map (·.name)) : Lib h mg mb where
  G := ⟨T.g, T.b, T.nolimit, T.builtins, hb⟩
  no := fun x hx => let ⟨a, b, c, d, e⟩ := hn x hx; T.free x a b c d e
  fn := fun x hx => by
    obtain ⟨a, o, pm, code, doc, e1, e2, e3, e4⟩ := T.fn ⟨x.2, paramsAt x.1, bodyAt x.1, scopeAt x.1, posAt x.1⟩ (by rw [hr]; exact List.mem_map.mpr ⟨x, hx, rfl⟩)
    exact ⟨a, pm, code, doc, e1, ⟨⟨o, e2, e3⟩, e4⟩⟩
def bookedB (K : Frag) : Bool := match K.lookup cStatics with
  | some o => (match o.data with | .dict es _ => (nsFind es sharingNotToldKey).isNone | _ => false)
  | none => false
theorem booked_of {K : Frag} {h : Heap} (KX : K.In h) (hb : bookedB K = true) (hm : ∃ mc, h.Ns cStatics mc) : NoneBooked h := by
  obtain ⟨mc, o, es, ep, e, d, sk, f⟩ := hm
  refine ⟨mc, ⟨o, es, ep, e, d, sk, f⟩, ?_⟩
  rw [← f]
  unfold bookedB at hb
  cases q : K.lookup cStatics with
  | none => rw [q] at hb; cases hb
  | some o' =>
    have e' := KX cStatics o' q
    rw [e] at e'
    cases e'
    rw [q] at hb
    simp only [d] at hb
    exact Option.isNone_iff_eq_none.mp hb
theorem ints_ok {c : Cx} : ∀ {vs : List Value} {ns : List Int}, IntsAre vs ns → AllOk c (ns.map IntW) vs
  | _, _, .nil => .nil
  | _, _, .cons n t r => .cons ⟨t, rfl⟩ (ints_ok r)
def c₀ (a : Addr) (o : Obj) : Cx := ⟨fun b => if b = a then some o else none, fun _ => none⟩
/-- the law's call, from the head's facts -/
theorem law_call {W : Wd} {mg mb : Str → Option Value} {s : Shared} {a fa : Addr} {vs : List Value} {ns : List Int} {E : Value → Shared → Prop} {Q : Value → Shared → Prop} (L : Lib s.heap mg mb) (hm : mg "law" = some (.ref fa)) (hl : s.heap.IsList a vs.toArray) (hi : IntsAre vs ns) (hz : ns.length ≤ 1000)
    (hsz : s.heap.objs.size = topN + 1) (ha : a = topN) (htk : 0 < s.toks)
    (hQ : ∀ s' : Shared, (∀ b o, s.heap.get? b = some o → s'.heap.get? b = some o) → (∃ h tk, s' = { s with heap := h, toks := tk }) → Q (.bool true) s') :
    wpAny W.M callerA (call (.ref fa) [.ref a]) Q E s := by
  obtain ⟨fa', pm, code, doc, e, d⟩ := L.fn (15, "law") (by decide)
  have hfa : fa = fa' := by
    have e' : some (Value.ref fa) = some (.ref fa') := hm.symm.trans e
    cases e'; rfl
  subst hfa
  obtain ⟨o, ho, hcls, nn, hdat⟩ := hl
  have ins : InS (c₀ a o) s := by
    refine ⟨fun b x eb => ?_, fun b x eb => ?_, htk, fun t v eb => nomatch eb⟩
    · have eb' : (if b = a then some o else none) = some x := eb
      by_cases q : b = a
      · rw [if_pos q] at eb'; cases eb'; rw [q]; exact ho
      · rw [if_neg q] at eb'; cases eb'
    · have eb' : (if b = a then some o else none) = some x := eb
      by_cases q : b = a
      · rw [if_pos q] at eb'; cases eb'
        intro es ep hd; rw [hdat] at hd; cases hd
      · rw [if_neg q] at eb'; cases eb'
  have r : Room 4 callerA s.heap := ⟨rfl, by decide, by decide, ⟨[], rfl, fun _ h => nomatch h⟩, ⟨o, by rw [← ha]; exact ho⟩⟩
  have ok : AllOk (c₀ a o) [ListV (ns.map IntW)] [.ref a] := .cons ⟨a, vs, rfl, ⟨o, if_pos rfl, hcls, nn, hdat⟩, ints_ok hi⟩ .nil
  refine wpAny_mono (cl_law (n := 0) hz (plain_ok ns) L d callerA E s (c₀ a o) [.ref a] r (HX.refl _) ins ok) (fun v s' hp => ?_) fun _ _ x => x
  obtain ⟨c', k, hv⟩ := hp
  have hv' : v = .bool true := hv
  subst hv'
  exact hQ s' (fun b o' eb => (k.keep b o' eb).top (by have := Heap.lt_size eb; rw [hsz] at this; exact Nat.le_of_lt_succ this)) k.same
end Mine

/-! ### Z2 -/
open PySem PySem.W PySem.W.X PySem.W.ZRun PyProof.Rows
set_option Elab.async false
set_option maxRecDepth 100000 in
set_option maxHeartbeats 0 in
theorem PySem.Challenge.cw_pk0023_02_holds : PySem.Challenge.rw_pk0023_02.Holds := by
  w_on; o_law; z_head
  (case hw => w_witness2)
  k_fill
  intro w s₀ s₁ mg mb G y fa o pm cd doc dV kV ho hd hcd hD hmg hg args vals as L hpre hlay hrd hwl hlo
  z_open y L KX ZH ZN ZT
  refine Ground.open G ?_
  intro T B D TE TW
  wrow_args hpre hlay hrd hwl hlo
  obtain ⟨hat, hsz⟩ := script_at L
  have htk := script_toks L ZT
  rw [ZN] at hat hsz
  have hb : NoneBooked s₁.heap := Mine.booked_of KX (by kernel_rfl) (T.nodigits.elim fun mc h => ⟨mc, h.1⟩)
  have lib : Mine.Lib s₁.heap mg mb := Mine.lib_of T hb (by kernel_rfl) (by decide +kernel)
  rename_i hL _ _ _ hI _ hlen _
  refine Mine.law_call (W := ⟨_, w⟩) lib hmg hL hI (by omega) (by rw [hsz]; rfl) hat (Nat.lt_of_lt_of_le (by decide) htk) ?_
  intro s' hk hsame
  refine GoodW.toG ⟨.inl ⟨.bool true, .bool true, [], rfl, raisesW_false ?_, .bool true, ?_, unshared_nil⟩, hk, ?_, ?_⟩
  · wrow_none_raised
  · kc_post
  · obtain ⟨h, tk, rfl⟩ := hsame; rfl
  · obtain ⟨h, tk, rfl⟩ := hsame; exact hg
