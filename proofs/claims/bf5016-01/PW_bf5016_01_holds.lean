import PyProof.Rows.All
import Wide.All
import OpenK.AllK
import Wide.FinOn
import Lean
import PySem.Challenge.RW_bf5016_01
section
open PySem PySem.W PySem.Spec PyProof.Rows
set_option Elab.async false
set_option linter.unusedVariables false
set_option maxHeartbeats 4000000
set_option maxRecDepth 20000
namespace Mine
section

/-- things of the lexer, by what they are -/
inductive Ext where
  | tok (names : List Str)
  | plain (letter : Str)
  | mat (letter : Str)
  | pm (pos : Int) (txt : Str)
  | lexer (T : List (Str × List (Str × List Str × PyData)))
  | gen (a : Addr)

/-- values as a reader sees them -/
inductive AV where
  | none
  | bool (b : Bool)
  | int (i : Int)
  | str (s : Str)
  | tup (l : List AV)
  | lst (l : List AV)
  | dS (ks : List Str) (vs : List AV)
  | dTS (ks : List (List Str)) (vs : List AV)
  | dTI (ks : List (List Int)) (vs : List AV)
  | rng (a b c : Int)
  | ext (x : Ext)

abbrev Sub (h h' : Heap) : Prop := ∀ b o, h.get? b = some o → h'.get? b = some o
theorem Sub.refl (h : Heap) : Sub h h := fun _ _ e => e
theorem Sub.trans {a b c : Heap} (x : Sub a b) (y : Sub b c) : Sub a c := fun d o e => y d o (x d o e)

def ListAt (h : Heap) (a : Addr) (vs : List Value) : Prop := ∃ n, h.get? a = some { cls := .type "list", dict := none, data := .seq vs.toArray n, slots := #[] }
def TupAt (h : Heap) (a : Addr) (vs : List Value) : Prop := ∃ n, h.get? a = some { cls := .type "tuple", dict := none, data := .seq vs.toArray n, slots := #[] }
theorem ListAt.mono {h h' : Heap} {a vs} (k : Sub h h') (x : ListAt h a vs) : ListAt h' a vs := let ⟨n, e⟩ := x; ⟨n, k _ _ e⟩
theorem TupAt.mono {h h' : Heap} {a vs} (k : Sub h h') (x : TupAt h a vs) : TupAt h' a vs := let ⟨n, e⟩ := x; ⟨n, k _ _ e⟩
theorem ListAt.isList {h : Heap} {a vs} (x : ListAt h a vs) : h.IsList a vs.toArray := let ⟨n, e⟩ := x; ⟨_, e, rfl, n, rfl⟩
theorem TupAt.isTuple {h : Heap} {a vs} (x : TupAt h a vs) : h.IsTuple a vs.toArray := let ⟨n, e⟩ := x; ⟨_, e, rfl, n, rfl⟩
theorem TupAt.isTup {h : Heap} {a vs} (x : TupAt h a vs) : IsTup h a vs.toArray := let ⟨n, e⟩ := x; ⟨_, e, rfl, n, rfl⟩

/-- the world and the things of the text that never change -/
structure Cx where
  prog : Program
  w : World
  RX : Heap → Ext → Value → Prop
  mono : ∀ {h h' x v}, Sub h h' → RX h x v → RX h' x v
  isRef : ∀ {h x v}, RX h x v → ∃ a, v = .ref a
  gen : ∀ {h a v}, RX h (.gen a) v ↔ v = .ref a
  /-- the heap at the law's call, and its names -/
  h₀ : Heap
  mg : Str → Option Value
  mb : Str → Option Value
  hmg : h₀.Ns mainGlobals mg
  hmb : h₀.Ns builtinsNs mb
  nolim : h₀.NoLimit

variable (C : Cx)
abbrev sK := PySem.strKind C.prog C.w
abbrev iK := PySem.intKind C.prog C.w
abbrev tSK := PySem.tupleKind (sK C)
abbrev tIK := PySem.tupleKind (iK C)
end
section
variable (C : Cx)

theorem dictOf_mono {K : Type} [DecidableEq K] {prog : Program} {w : World} {knd : KeyKind prog w K} {h h' : Heap} {a : Addr} {kvs : List (K × Value)} (k : Sub h h') (x : h.DictOf knd a kvs) : h'.DictOf knd a kvs :=
  let ⟨o, es, ep, e, r⟩ := x; ⟨o, es, ep, k _ _ e, r⟩
theorem tupleKey_mono {K : Type} [DecidableEq K] {prog : Program} {w : World} {knd : KeyKind prog w K} {h h' : Heap} {ks : List K} {a : Addr} (k : Sub h h') (x : IsTupleKey knd h ks a) : IsTupleKey knd h' ks a :=
  let ⟨o, its, n, e, r⟩ := x; ⟨o, its, n, k _ _ e, r⟩
theorem dictOfH_mono {K : Type} [DecidableEq K] {prog : Program} {w : World} {knd : KeyKind prog w K} {h h' : Heap} {a : Addr} {xs : List (List K × Addr × Value)} (k : Sub h h') (x : h.DictOfH (tupleKind knd) a xs) : h'.DictOfH (tupleKind knd) a xs :=
  let ⟨o, es, ep, e, h1, h2, h3, h4, h5⟩ := x; ⟨o, es, ep, k _ _ e, h1, h2, h3, fun y hy => tupleKey_mono k (h4 y hy), h5⟩

mutual
inductive Rep (H : Heap) : AV → Value → Prop
  | none : Rep H .none .none
  | bool (b) : Rep H (.bool b) (.bool b)
  | int (i t) : Rep H (.int i) (.int i t)
  | str (x t) : Rep H (.str x) (.str x t)
  | tup {a l vs} : TupAt H a vs → RepL H l vs → Rep H (.tup l) (.ref a)
  | lst {a l vs} : ListAt H a vs → RepL H l vs → Rep H (.lst l) (.ref a)
  | dS {a ks l vs} : (a == sysModules) = false → ks.length = vs.length → H.DictOf (sK C) a (ks.zip vs) → RepL H l vs → Rep H (.dS ks l) (.ref a)
  | dTS {a ks l} {ps : List (Addr × Value)} : (a == sysModules) = false → ks.length = ps.length → H.DictOfH (tSK C) a (ks.zip ps) → RepL H l (ps.map (·.2)) → Rep H (.dTS ks l) (.ref a)
  | dTI {a ks l} {ps : List (Addr × Value)} : (a == sysModules) = false → ks.length = ps.length → H.DictOfH (tIK C) a (ks.zip ps) → RepL H l (ps.map (·.2)) → Rep H (.dTI ks l) (.ref a)
  | rng {a b c r t u v} : IsRange H r a b c t u v → Rep H (.rng a b c) (.ref r)
  | ext {x v} : C.RX H x v → Rep H (.ext x) v
inductive RepL (H : Heap) : List AV → List Value → Prop
  | nil : RepL H [] []
  | cons {a l v vs} : Rep H a v → RepL H l vs → RepL H (a :: l) (v :: vs)
end

variable {C}
mutual
theorem Rep.mono {h h' : Heap} (k : Sub h h') : ∀ {a v}, Rep C h a v → Rep C h' a v
  | _, _, .none => .none
  | _, _, .bool b => .bool b
  | _, _, .int i t => .int i t
  | _, _, .str x t => .str x t
  | _, _, .tup t r => .tup (t.mono k) (r.mono k)
  | _, _, .lst t r => .lst (t.mono k) (r.mono k)
  | _, _, .dS y e d r => .dS y e (dictOf_mono k d) (r.mono k)
  | _, _, .dTS y e d r => .dTS y e (dictOfH_mono k d) (r.mono k)
  | _, _, .dTI y e d r => .dTI y e (dictOfH_mono k d) (r.mono k)
  | _, _, .rng r => .rng (k _ _ r)
  | _, _, .ext x => .ext (C.mono k x)
theorem RepL.mono {h h' : Heap} (k : Sub h h') : ∀ {l vs}, RepL C h l vs → RepL C h' l vs
  | _, _, .nil => .nil
  | _, _, .cons r rs => .cons (r.mono k) (rs.mono k)
end

theorem RepL.length {h : Heap} {l : List AV} {vs : List Value} (r : RepL C h l vs) : l.length = vs.length := by
  induction l generalizing vs with
  | nil => cases r; rfl
  | cons a l ih => cases r with | cons _ r => simp [ih r]
theorem RepL.get {h : Heap} {l : List AV} {vs : List Value} (r : RepL C h l vs) {i : Nat} {a : AV} (e : l[i]? = some a) : ∃ v, vs[i]? = some v ∧ Rep C h a v := by
  induction l generalizing vs i with
  | nil => simp at e
  | cons b l ih =>
    cases r with
    | cons r1 r2 =>
      cases i with
      | zero => simp at e; subst e; exact ⟨_, rfl, r1⟩
      | succ i => simp at e; simpa using ih r2 e
theorem RepL.append {h : Heap} {l m : List AV} {vs ws : List Value} (r : RepL C h l vs) (q : RepL C h m ws) : RepL C h (l ++ m) (vs ++ ws) := by
  induction l generalizing vs with
  | nil => cases r; exact q
  | cons b l ih => cases r with | cons r1 r2 => exact .cons r1 (ih r2)
theorem RepL.drop {h : Heap} {l : List AV} {vs : List Value} (r : RepL C h l vs) (n : Nat) : RepL C h (l.drop n) (vs.drop n) := by
  induction n generalizing l vs with
  | zero => simpa using r
  | succ n ih => cases r with
    | nil => simpa using RepL.nil
    | cons r1 r2 => simpa using ih r2
theorem RepL.take {h : Heap} {l : List AV} {vs : List Value} (r : RepL C h l vs) (n : Nat) : RepL C h (l.take n) (vs.take n) := by
  induction n generalizing l vs with
  | zero => simpa using RepL.nil
  | succ n ih => cases r with
    | nil => simpa using RepL.nil
    | cons r1 r2 => simpa using RepL.cons r1 (ih r2)
theorem RepL.snoc {h : Heap} {l : List AV} {vs : List Value} {a v} (r : RepL C h l vs) (q : Rep C h a v) : RepL C h (l ++ [a]) (vs ++ [v]) := r.append (.cons q .nil)

/-! ## as plain data -/
mutual
def toPy : AV → Option PyData
  | .none => some .none
  | .bool b => some (.bool b)
  | .int i => some (.int i)
  | .str s => some (.str s)
  | .tup l => (toPyL l).map .tuple
  | .lst l => (toPyL l).map .list
  | _ => Option.none
def toPyL : List AV → Option (List PyData)
  | [] => some []
  | a :: l => match toPy a, toPyL l with
    | some d, some ds => some (d :: ds)
    | _, _ => Option.none
end
mutual
theorem Rep.reads {h : Heap} : ∀ {a v d}, Rep C h a v → toPy a = some d → ∃ as, Reads h v d as
  | _, _, _, .none, e => by simp only [toPy, Option.some.injEq] at e; subst e; exact ⟨_, .none⟩
  | _, _, _, .bool b, e => by simp only [toPy, Option.some.injEq] at e; subst e; exact ⟨_, .bool b⟩
  | _, _, _, .int i t, e => by simp only [toPy, Option.some.injEq] at e; subst e; exact ⟨_, .int i t⟩
  | _, _, _, .str x t, e => by simp only [toPy, Option.some.injEq] at e; subst e; exact ⟨_, .str x t⟩
  | .tup l, _, d, .tup t r, e => by
    simp only [toPy] at e
    cases q : toPyL l with
    | none => rw [q] at e; cases e
    | some ds =>
      rw [q] at e; cases e
      obtain ⟨n, ht⟩ := t
      obtain ⟨as, ra⟩ := r.reads q
      exact ⟨_, .tuple ht rfl rfl (by simpa using ra)⟩
  | .lst l, _, d, .lst t r, e => by
    simp only [toPy] at e
    cases q : toPyL l with
    | none => rw [q] at e; cases e
    | some ds =>
      rw [q] at e; cases e
      obtain ⟨n, ht⟩ := t
      obtain ⟨as, ra⟩ := r.reads q
      exact ⟨_, .list ht rfl rfl (by simpa using ra)⟩
  | _, _, _, .dS _ _ _ _, e => by simp [toPy] at e
  | _, _, _, .dTS _ _ _ _, e => by simp [toPy] at e
  | _, _, _, .dTI _ _ _ _, e => by simp [toPy] at e
  | _, _, _, .rng _, e => by simp [toPy] at e
  | _, _, _, .ext _, e => by simp [toPy] at e
theorem RepL.reads {h : Heap} : ∀ {l vs ds}, RepL C h l vs → toPyL l = some ds → ∃ as, ReadsAll h vs ds as
  | _, _, _, .nil, e => by simp only [toPyL, Option.some.injEq] at e; subst e; exact ⟨_, .nil⟩
  | a :: l, _, _, .cons r rs, e => by
    simp only [toPyL] at e
    cases q : toPy a with
    | none => rw [q] at e; cases e
    | some d =>
      cases q2 : toPyL l with
      | none => rw [q, q2] at e; cases e
      | some ds =>
        rw [q, q2] at e; cases e
        obtain ⟨as, x⟩ := r.reads q
        obtain ⟨bs, y⟩ := rs.reads q2
        exact ⟨_, .cons x y⟩
end

/-! ## what an expression may do to the state: old things stay -/
structure Grow (s s' : Shared) : Prop where
  keep : Sub s.heap s'.heap
  gens : ∀ (i : Nat) (g : GenState), s.gens[i]? = some g → s'.gens[i]? = some g
  bare : AllBare s.gens → AllBare s'.gens
  os : s'.os = s.os
theorem Grow.refl (s : Shared) : Grow s s := ⟨Sub.refl _, fun _ _ e => e, id, rfl⟩
theorem Grow.trans {a b c : Shared} (x : Grow a b) (y : Grow b c) : Grow a c :=
  ⟨x.keep.trans y.keep, fun i g e => y.gens i g (x.gens i g e), fun q => y.bare (x.bare q), y.os.trans x.os⟩
theorem Grow.toks {s : Shared} (n : Nat) : Grow s { s with toks := n } := ⟨Sub.refl _, fun _ _ e => e, id, rfl⟩
theorem Grow.push {s : Shared} (o : Obj) : Grow s { s with heap := s.heap.push o } :=
  ⟨fun _ _ e => Heap.get?_push_of_some _ e, fun _ _ e => e, id, rfl⟩
theorem Grow.heap {s : Shared} {h' : Heap} {n : Nat} (k : Sub s.heap h') : Grow s { s with heap := h', toks := n } :=
  ⟨k, fun _ _ e => e, id, rfl⟩

/-- the tree ends, old things kept, with P -/
def Ev {α : Type} (C : Cx) (A : Around) (t : Sem α) (s : Shared) (P : α → Shared → Prop) : Prop :=
  ∀ (Q : α → Shared → Prop) (E : Value → Shared → Prop), (∀ v s', Grow s s' → P v s' → Q v s') → wpAny (model C.prog C.w) A t Q E s
theorem Ev.pure {α : Type} {A : Around} {a : α} {s : Shared} {P : α → Shared → Prop} (h : P a s) : Ev C A (Pure.pure a : Sem α) s P :=
  fun _ _ k => wpAny_pure (k _ _ (.refl s) h)
theorem Ev.bind {α β : Type} {A : Around} {t : Sem α} {f : α → Sem β} {s : Shared} {P : α → Shared → Prop} {R : β → Shared → Prop}
    (h : Ev C A t s P) (k : ∀ v s', Grow s s' → P v s' → Ev C A (f v) s' (fun b s'' => R b s'')) : Ev C A (t >>= f) s R :=
  fun Q E q => wpAny_bind (h _ _ fun v s' g p => k v s' g p _ _ fun b s'' g' r => q b s'' (g.trans g') r)
theorem Ev.mono {α : Type} {A : Around} {t : Sem α} {s : Shared} {P R : α → Shared → Prop} (h : Ev C A t s P) (k : ∀ v s', Grow s s' → P v s' → R v s') : Ev C A t s R :=
  fun Q E q => h _ _ fun v s' g p => q v s' g (k v s' g p)
theorem Ev.wp {α : Type} {A : Around} {t : Sem α} {s : Shared} {P : α → Shared → Prop} {Q : α → Shared → Prop} {E : Value → Shared → Prop} (h : Ev C A t s P)
    (k : ∀ v s', Grow s s' → P v s' → Q v s') : wpAny (model C.prog C.w) A t Q E s := h _ _ k
end
section
variable {C : Cx}

abbrev hid (h : Heap) (M : List Addr) : Heap := PySem.W.hideAll h M
theorem hid_sub (h : Heap) (M : List Addr) : Sub (hid h M) h := fun _ _ e => of_hideAll M e
theorem hid_not {h : Heap} {M : List Addr} {b : Addr} {o : Obj} (e : (hid h M).get? b = some o) : b ∉ M := fun q => by
  have z : (hid h M).get? b = none := hideAll_none M q
  rw [z] at e; cases e
theorem hid_get {h : Heap} {M : List Addr} {b : Addr} {o : Obj} (e : h.get? b = some o) (n : b ∉ M) : (hid h M).get? b = some o := hideAll_get M e n
theorem hid_mono {h h' : Heap} {M M' : List Addr} (k : ∀ b o, b ∉ M → h.get? b = some o → h'.get? b = some o) (m : ∀ b, b ∈ M' → b ∈ M) : Sub (hid h M) (hid h' M') :=
  fun b o e => hid_get (k b o (hid_not e) (hid_sub h M b o e)) fun q => hid_not e (m b q)
theorem hid_grow {h h' : Heap} {M : List Addr} (k : Sub h h') : Sub (hid h M) (hid h' M) := hid_mono (fun b o _ => k b o) fun _ q => q

/-! ## frames -/
inductive Loc where
  | loc
  | cel (c : Addr)
structure Fi where
  env : Env
  vs : List (Str × Loc)
  /-- what lies in the slot behind the names -/
  an : Option Addr := none
  own : Bool := true
structure Fi.Ok (fi : Fi) : Prop where
  fn : fi.env.scope.kind = .function
  glob : fi.env.globals = mainGlobals
  blt : fi.env.builtins = builtinsNs
  loc : ∀ (i : Nat) x, fi.vs[i]? = some (x, .loc) → fi.env.kindOf x = some .local
  cel : ∀ (i : Nat) x c, fi.vs[i]? = some (x, .cel c) → fi.env.kindOf x = some .cell ∧ fi.env.cells.lookup x = some c
  nd : (fi.vs.map (·.1)).Nodup
  dbg : ∀ p ∈ fi.vs, (p.1 == ("__debug__" : Str)) = false

inductive Slot where
  | un
  | fz (a : AV)
  | ol (l : List AV)
  | oS (ks : List Str) (l : List AV)
  | oTS (ks : List (List Str)) (l : List AV)
  | oTI (ks : List (List Int)) (l : List AV)
  | o2 (ll : List (List AV))

inductive Inner (C : Cx) (h H : Heap) : List (List AV) → List Addr → Prop
  | nil : Inner C h H [] []
  | cons {b l vs ll bs} : ListAt h b vs → RepL C H l vs → Inner C h H ll bs → Inner C h H (l :: ll) (b :: bs)

inductive SlotOk (C : Cx) (h H : Heap) : Slot → Option Value → List Addr → Prop
  | un {cv} : SlotOk C h H .un cv []
  | fz {a v} : Rep C H a v → SlotOk C h H (.fz a) (some v) []
  | ol {l a vs} : ListAt h a vs → RepL C H l vs → SlotOk C h H (.ol l) (some (.ref a)) [a]
  | oS {ks l a vs} : (a == sysModules) = false → ks.length = vs.length → h.DictOf (sK C) a (ks.zip vs) → RepL C H l vs → SlotOk C h H (.oS ks l) (some (.ref a)) [a]
  | oTS {ks l a} {ps : List (Addr × Value)} : (a == sysModules) = false → ks.length = ps.length → h.DictOfH (tSK C) a (ks.zip ps) → (∀ x ∈ ks.zip ps, IsTupleKey (sK C) H x.1 x.2.1) → RepL C H l (ps.map (·.2)) →
      SlotOk C h H (.oTS ks l) (some (.ref a)) [a]
  | oTI {ks l a} {ps : List (Addr × Value)} : (a == sysModules) = false → ks.length = ps.length → h.DictOfH (tIK C) a (ks.zip ps) → (∀ x ∈ ks.zip ps, IsTupleKey (iK C) H x.1 x.2.1) → RepL C H l (ps.map (·.2)) →
      SlotOk C h H (.oTI ks l) (some (.ref a)) [a]
  | o2 {ll a bs} : ListAt h a (bs.map .ref) → Inner C h H ll bs → SlotOk C h H (.o2 ll) (some (.ref a)) (a :: bs)

theorem Inner.mono {h h' H H' : Heap} (k : Sub H H') {ll bs} (x : Inner C h H ll bs) (q : ∀ b ∈ bs, ∀ o, h.get? b = some o → h'.get? b = some o) : Inner C h' H' ll bs := by
  induction x with
  | nil => exact .nil
  | cons l r _ ih =>
    obtain ⟨n, e⟩ := l
    exact .cons ⟨n, q _ (.head _) _ e⟩ (r.mono k) (ih fun b hb => q b (.tail _ hb))

/-- the slots that a change does not touch stay -/
theorem SlotOk.mono {h h' H H' : Heap} (k : Sub H H') {sl cv as} (x : SlotOk C h H sl cv as) (q : ∀ b ∈ as, ∀ o, h.get? b = some o → h'.get? b = some o) (sub : Sub H h') : SlotOk C h' H' sl cv as := by
  cases x with
  | un => exact .un
  | fz r => exact .fz (r.mono k)
  | ol l r => obtain ⟨n, e⟩ := l; exact .ol ⟨n, q _ (.head _) _ e⟩ (r.mono k)
  | oS y0 z d r =>
    obtain ⟨o, es, ep, e, t⟩ := d
    exact .oS y0 z ⟨o, es, ep, q _ (.head _) _ e, t⟩ (r.mono k)
  | oTS y0 z d y r =>
    obtain ⟨o, es, ep, e, h1, h2, h3, h4, h5⟩ := d
    exact .oTS y0 z ⟨o, es, ep, q _ (.head _) _ e, h1, h2, h3, fun x hx => tupleKey_mono sub (y x hx), h5⟩ (fun x hx => tupleKey_mono k (y x hx)) (r.mono k)
  | oTI y0 z d y r =>
    obtain ⟨o, es, ep, e, h1, h2, h3, h4, h5⟩ := d
    exact .oTI y0 z ⟨o, es, ep, q _ (.head _) _ e, h1, h2, h3, fun x hx => tupleKey_mono sub (y x hx), h5⟩ (fun x hx => tupleKey_mono k (y x hx)) (r.mono k)
  | o2 l r =>
    obtain ⟨n, e⟩ := l
    exact .o2 ⟨n, q _ (.head _) _ e⟩ (r.mono k fun b hb => q b (.tail _ hb))

theorem SlotOk.has {h H : Heap} {sl cv as} (x : SlotOk C h H sl cv as) : ∀ a ∈ as, ∃ o, h.get? a = some o := by
  cases x with
  | un => intro a h; cases h
  | fz r => intro a h; cases h
  | ol l r => intro a h; obtain ⟨n, e⟩ := l; cases h with | head => exact ⟨_, e⟩ | tail _ h => cases h
  | oS y0 z d r => intro a h; obtain ⟨o, es, ep, e, t⟩ := d; cases h with | head => exact ⟨_, e⟩ | tail _ h => cases h
  | oTS y0 z d y r => intro a h; obtain ⟨o, es, ep, e, t⟩ := d; cases h with | head => exact ⟨_, e⟩ | tail _ h => cases h
  | oTI y0 z d y r => intro a h; obtain ⟨o, es, ep, e, t⟩ := d; cases h with | head => exact ⟨_, e⟩ | tail _ h => cases h
  | o2 l r =>
    intro a h
    cases h with
    | head => obtain ⟨n, e⟩ := l; exact ⟨_, e⟩
    | tail _ h =>
      clear l
      induction r with
      | nil => cases h
      | cons l _ _ ih =>
        cases h with
        | head => obtain ⟨n, e⟩ := l; exact ⟨_, e⟩
        | tail _ h => exact ih h

/-- facts of the heap that hold for good -/
abbrev Base := Addr → Obj → Prop
/-- the state of a frame: hb is what stands around it, Mo what the frames around it may change -/
structure Rel (C : Cx) (hb : Base) (Mo : List Addr) (fi : Fi) (M : List Addr) (m : Str → Option Value) (cv : Nat → Option Value) (ad : Nat → List Addr) (ℓ : List Slot) (s : Shared) : Prop where
  base : ∀ b o, hb b o → s.heap.get? b = some o
  len : fi.vs.length ≤ ℓ.length
  anon : ∀ a, fi.an = some a → cv fi.vs.length = some (.ref a)
  ns : s.heap.Ns fi.env.locals m
  loc : ∀ (i : Nat) x, fi.vs[i]? = some (x, .loc) → cv i = m x
  cel : ∀ (i : Nat) x c, fi.vs[i]? = some (x, .cel c) → s.heap.IsCell c (cv i)
  slot : ∀ (i : Nat) sl, ℓ[i]? = some sl → SlotOk C s.heap (hid s.heap M) sl (cv i) (ad i)
  mL : fi.env.locals ∈ M ∧ fi.env.locals ∉ Mo
  mC : ∀ (i : Nat) x c, fi.vs[i]? = some (x, .cel c) → c ∈ M ∧ c ≠ fi.env.locals ∧ ∀ (j : Nat) y, fi.vs[j]? = some (y, .cel c) → j = i
  mA : ∀ (i : Nat), i < ℓ.length → (ad i).Nodup ∧ ∀ a ∈ ad i, a ∈ M ∧ a ∉ Mo ∧ a ≠ fi.env.locals ∧ (∀ (j : Nat) y, fi.vs[j]? ≠ some (y, .cel a)) ∧ ∀ j, j < ℓ.length → j ≠ i → a ∉ ad j
  mO : ∀ a ∈ Mo, a ∈ M
  new : ∀ a ∈ M, a ∈ Mo ∨ ∀ o, ¬ hb a o
  has : ∀ a ∈ M, ∃ o, s.heap.get? a = some o
  base0 : Sub C.h₀ s.heap
  new0 : ∀ a ∈ M, C.h₀.get? a = none

theorem Rel.grow {hb Mo fi M m cv ad ℓ} {s s' : Shared} (R : Rel C hb Mo fi M m cv ad ℓ s) (g : Grow s s') : Rel C hb Mo fi M m cv ad ℓ s' where
  base := fun b o e => g.keep b o (R.base b o e)
  len := R.len
  anon := R.anon
  ns := R.ns.keeps g.keep
  loc := R.loc
  cel := fun i x c e => (R.cel i x c e).keeps g.keep
  slot := fun i sl e => (R.slot i sl e).mono (hid_grow g.keep) (fun b _ o q => g.keep b o q) ((hid_sub _ _).trans g.keep)
  mL := R.mL
  mC := R.mC
  mA := R.mA
  mO := R.mO
  new := R.new
  has := fun a h => let ⟨o, e⟩ := R.has a h; ⟨o, g.keep _ _ e⟩
  base0 := R.base0.trans g.keep
  new0 := R.new0

theorem Rel.lt {hb Mo fi M m cv ad ℓ} {s : Shared} (R : Rel C hb Mo fi M m cv ad ℓ s) : ∀ a ∈ M, a < s.heap.objs.size := fun a h => let ⟨_, e⟩ := R.has a h; Heap.lt_size e
theorem Rel.glob {hb Mo fi M m cv ad ℓ} {s : Shared} (R : Rel C hb Mo fi M m cv ad ℓ s) : Sub C.h₀ (hid s.heap M) := fun b o e =>
  hid_get (R.base0 b o e) fun q => by rw [R.new0 b q] at e; cases e

/-- the load of a name -/
theorem Rel.load {hb Mo fi M m cv ad ℓ} {s : Shared} {A : Around} (F : fi.Ok) (R : Rel C hb Mo fi M m cv ad ℓ s) {i : Nat} {x : Str} {lo : Loc} {v : Value} {Q : Value → Shared → Prop} {E : Value → Shared → Prop}
    (e : fi.vs[i]? = some (x, lo)) (hv : cv i = some v) (h : Q v s) : wpAny (model C.prog C.w) A (loadName fi.env x) Q E s := by
  cases lo with
  | loc => exact wpAny_loadName_local F.fn (F.loc i x e) R.ns ((R.loc i x e).symm.trans hv) h
  | cel c => exact wpAny_loadName_cell F.fn (F.cel i x c e).1 (F.cel i x c e).2 (hv ▸ R.cel i x c e) h
theorem Rel.var {hb Mo fi M m cv ad ℓ} {s : Shared} {A : Around} (F : fi.Ok) (R : Rel C hb Mo fi M m cv ad ℓ s) {i : Nat} {x : Str} {lo : Loc} {pos : Pos} {v : Value} {Q : Value → Shared → Prop} {E : Value → Shared → Prop}
    (e : fi.vs[i]? = some (x, lo)) (hv : cv i = some v) (h : Q v s) : wpAny (model C.prog C.w) A (eval (.Name x pos) fi.env) Q E s :=
  wpAny_Name (R.load F e hv h) (F.dbg _ (List.mem_of_getElem? e))
end
section
variable {C : Cx}

section
variable {hb : Base} {Mo : List Addr} {fi : Fi} {M : List Addr} {m : Str → Option Value} {cv : Nat → Option Value} {ad : Nat → List Addr} {ℓ : List Slot} {s : Shared}

theorem sub_change {h h' : Heap} {hb : Heap} {a : Addr} (b : Sub hb h) (n : hb.get? a = none) (hs : Heap.SameBut a h h') : Sub hb h' := fun c o e => by
  by_cases q : c = a
  · subst q; rw [n] at e; cases e
  · exact (hs.2 c q).trans (b c o e)
theorem base_change {h h' : Heap} {hb : Base} {a : Addr} (b : ∀ b o, hb b o → h.get? b = some o) (n : ∀ o, ¬ hb a o) (hs : Heap.SameBut a h h') : ∀ b o, hb b o → h'.get? b = some o := fun c o e => by
  by_cases q : c = a
  · subst q; exact absurd e (n o)
  · exact (hs.2 c q).trans (b c o e)
theorem Rel.notBase (R : Rel C hb Mo fi M m cv ad ℓ s) {a : Addr} (h : a ∈ M) (n : a ∉ Mo) : ∀ o, ¬ hb a o := (R.new a h).resolve_left n
theorem hid_change {h h' : Heap} {M : List Addr} {a : Addr} (i : a ∈ M) (hs : Heap.SameBut a h h') : Sub (hid h M) (hid h' M) :=
  hid_mono (fun b _ nb e => (hs.2 b fun q => nb (q ▸ i)).trans e) fun _ q => q

/-- a fresh address joins those that may change -/
theorem Rel.fresh (R : Rel C hb Mo fi M m cv ad ℓ s) {s' : Shared} (g : Grow s s') {a : Addr} (n : s.heap.get? a = none) (l : ∃ o, s'.heap.get? a = some o) : Rel C hb Mo fi (a :: M) m cv ad ℓ s' where
  base := fun b o e => g.keep b o (R.base b o e)
  len := R.len
  anon := R.anon
  ns := R.ns.keeps g.keep
  loc := R.loc
  cel := fun i x c e => (R.cel i x c e).keeps g.keep
  slot := fun i sl e => by
    have k : Sub (hid s.heap M) (hid s'.heap (a :: M)) := fun b o q => hid_get (g.keep _ _ (hid_sub _ _ _ _ q)) fun z => by
      rcases List.mem_cons.mp z with rfl | z
      · rw [hid_sub _ _ _ _ q] at n; cases n
      · exact hid_not q z
    exact (R.slot i sl e).mono k (fun b _ o q => g.keep b o q) ((hid_sub _ _).trans g.keep)
  mL := ⟨.tail _ R.mL.1, R.mL.2⟩
  mC := fun i x c e => ⟨.tail _ (R.mC i x c e).1, (R.mC i x c e).2⟩
  mA := fun i hi => ⟨(R.mA i hi).1, fun b hb => ⟨.tail _ ((R.mA i hi).2 b hb).1, ((R.mA i hi).2 b hb).2⟩⟩
  mO := fun b h => .tail _ (R.mO b h)
  new := fun b h => by
    rcases List.mem_cons.mp h with rfl | h
    · exact .inr fun o q => by rw [R.base b o q] at n; cases n
    · exact R.new b h
  has := fun b h => by
    rcases List.mem_cons.mp h with rfl | h
    · exact l
    · obtain ⟨o, e⟩ := R.has b h; exact ⟨o, g.keep _ _ e⟩
  base0 := R.base0.trans g.keep
  new0 := fun b h => by
    rcases List.mem_cons.mp h with rfl | h
    · cases q : C.h₀.get? b with
      | none => rfl
      | some o => rw [R.base0 b o q] at n; cases n
    · exact R.new0 b h

/-- what is known behind a store of a slot -/
theorem Rel.put (R : Rel C hb Mo fi M m cv ad ℓ s) {i : Nat} {x : Str} {lo : Loc} {v : Value} {sl : Slot} {as : List Addr} {h' : Heap} {tk : Nat} {m' : Str → Option Value} {a : Addr}
    (e : fi.vs[i]? = some (x, lo)) (ha : a ∈ M) (hna : a ∉ Mo) (hs : Heap.SameBut a s.heap h') (hat : ∃ o, h'.get? a = some o)
    (hns : h'.Ns fi.env.locals m') (hloc : ∀ (j : Nat) y, fi.vs[j]? = some (y, .loc) → (if j = i then some v else cv j) = m' y)
    (hcel : ∀ (j : Nat) y c, fi.vs[j]? = some (y, .cel c) → h'.IsCell c (if j = i then some v else cv j))
    (hun : ∀ j, j < ℓ.length → a ∉ ad j)
    (hsl : SlotOk C s.heap (hid s.heap M) sl (some v) as) (hnd : as.Nodup)
    (has : ∀ b ∈ as, b ∈ M ∧ b ∉ Mo ∧ b ≠ a ∧ b ≠ fi.env.locals ∧ (∀ (j : Nat) y, fi.vs[j]? ≠ some (y, .cel b)) ∧ ∀ j, j < ℓ.length → j ≠ i → b ∉ ad j) :
    Rel C hb Mo fi M m' (fun j => if j = i then some v else cv j) (fun j => if j = i then as else ad j) (ℓ.set i sl) { s with heap := h', toks := tk } where
  base := base_change R.base (R.notBase ha hna) hs
  len := by rw [List.length_set]; exact R.len
  anon := fun b hb => by
    rw [if_neg (Nat.ne_of_gt (List.getElem?_eq_some_iff.mp e).1)]; exact R.anon b hb
  ns := hns
  loc := hloc
  cel := hcel
  slot := fun j sl' ej => by
    have k := hid_change ha hs
    have sub : Sub (hid s.heap M) h' := fun b o q => (hs.2 b fun z => hid_not q (z ▸ ha)).trans (hid_sub _ _ _ _ q)
    have hj : j < ℓ.length := by
      have := (List.getElem?_eq_some_iff.mp ej).1
      rwa [List.length_set] at this
    by_cases q : j = i
    · subst q
      rw [List.getElem?_set_self hj] at ej
      cases ej
      simp only [if_true]
      exact hsl.mono k (fun b hb o z => (hs.2 b (has b hb).2.2.1).trans z) sub
    · rw [List.getElem?_set_ne (Ne.symm q)] at ej
      simp only [if_neg q]
      exact (R.slot j sl' ej).mono k (fun b hb o z => (hs.2 b fun w => hun j hj (w ▸ hb)).trans z) sub
  mL := R.mL
  mC := R.mC
  mA := fun j hj => by
    rw [List.length_set] at hj
    by_cases q : j = i
    · subst q
      simp only [if_true]
      refine ⟨hnd, fun b hb => ⟨(has b hb).1, (has b hb).2.1, (has b hb).2.2.2.1, (has b hb).2.2.2.2.1, fun k hk hne => ?_⟩⟩
      rw [List.length_set] at hk
      rw [if_neg hne]
      exact (has b hb).2.2.2.2.2 k hk hne
    · simp only [if_neg q]
      refine ⟨(R.mA j hj).1, fun b hb => ?_⟩
      have z := (R.mA j hj).2 b hb
      refine ⟨z.1, z.2.1, z.2.2.1, z.2.2.2.1, fun k hk hne => ?_⟩
      rw [List.length_set] at hk
      by_cases w : k = i
      · subst w
        rw [if_pos rfl]
        intro hm
        exact (has b hm).2.2.2.2.2 j hj q hb
      · rw [if_neg w]; exact z.2.2.2.2 k hk hne
  mO := R.mO
  new := R.new
  has := fun b h => by
    by_cases q : b = a
    · subst q; exact hat
    · obtain ⟨o, e⟩ := R.has b h; exact ⟨o, (hs.2 b q).trans e⟩
  base0 := sub_change R.base0 (R.new0 _ ha) hs
  new0 := R.new0

/-- the store of a name -/
theorem Rel.store {A : Around} (F : fi.Ok) (R : Rel C hb Mo fi M m cv ad ℓ s) {i : Nat} {x : Str} {lo : Loc} {v : Value} {sl : Slot} {as : List Addr} {Q : Unit → Shared → Prop} {E : Value → Shared → Prop}
    (e : fi.vs[i]? = some (x, lo)) (hw : ∀ c, lo = .cel c → c ∉ Mo)
    (hsl : SlotOk C s.heap (hid s.heap M) sl (some v) as) (hnd : as.Nodup)
    (has : ∀ b ∈ as, b ∈ M ∧ b ∉ Mo ∧ b ≠ fi.env.locals ∧ (∀ (j : Nat) y, fi.vs[j]? ≠ some (y, .cel b)) ∧ ∀ j, j < ℓ.length → j ≠ i → b ∉ ad j)
    (h : ∀ s' m', s'.gens = s.gens → s'.os = s.os → Rel C hb Mo fi M m' (fun j => if j = i then some v else cv j) (fun j => if j = i then as else ad j) (ℓ.set i sl) s' → Q () s') :
    wpAny (model C.prog C.w) A (storeName fi.env x v) Q E s := by
  have nd : ∀ (j : Nat) (lo' : Loc), fi.vs[j]? = some (x, lo') → j = i := fun j lo' ej => by
    have h1 : (fi.vs.map (·.1))[j]? = some x := by rw [List.getElem?_map, ej]; rfl
    have h2 : (fi.vs.map (·.1))[i]? = some x := by rw [List.getElem?_map, e]; rfl
    exact (List.getElem?_inj (List.getElem?_eq_some_iff.mp h1).1 F.nd).mp (h1.trans h2.symm)
  cases lo with
  | loc =>
    refine wpAny_storeName_local (F.loc i x e) R.ns (fun h' hn hs => ?_) (by
      show (fi.env.scope.kind == .class || (fi.env.scope.kind == .module && fi.env.locals != fi.env.globals)) = false
      rw [F.fn]; rfl)
    refine h _ _ rfl rfl (R.put e R.mL.1 R.mL.2 hs (let ⟨o, _, _, e, _⟩ := hn; ⟨o, e⟩) hn (fun j y ej => ?_) (fun j y c ej => ?_) (fun j hj => ?_) hsl hnd fun b hb => ?_)
    · by_cases q : j = i
      · subst q; rw [e] at ej; cases ej; simp
      · have : y ≠ x := fun z => q (nd j _ (z ▸ ej))
        simp only [if_neg q, if_neg this]
        exact R.loc j y ej
    · have q : j ≠ i := fun z => by subst z; rw [e] at ej; cases ej
      rw [if_neg q]
      exact (R.cel j y c ej).sameBut hs (R.mC j y c ej).2.1
    · exact fun z => ((R.mA j hj).2 _ z).2.2.1 rfl
    · have z := has b hb
      exact ⟨z.1, z.2.1, z.2.2.1, z.2.2.1, z.2.2.2⟩
  | cel c =>
    refine wpAny_storeName_cell F.fn (F.cel i x c e).1 (F.cel i x c e).2 (R.cel i x c e) fun h' hc hs => ?_
    have z := R.mC i x c e
    refine h _ _ rfl rfl (R.put (tk := s.toks) e z.1 (hw c rfl) hs (let ⟨o, e, _⟩ := hc; ⟨o, e⟩) (R.ns.sameBut hs z.2.1.symm) (fun j y ej => ?_) (fun j y d ej => ?_) (fun j hj => ?_) hsl hnd fun b hb => ?_)
    · have q : j ≠ i := fun z => by subst z; rw [e] at ej; cases ej
      rw [if_neg q]; exact R.loc j y ej
    · by_cases q : j = i
      · subst q; rw [e] at ej; cases ej; rw [if_pos rfl]; exact hc
      · rw [if_neg q]
        have : d ≠ c := fun w => q (z.2.2 j y (w ▸ ej))
        exact (R.cel j y d ej).sameBut hs this
    · exact fun w => ((R.mA j hj).2 _ w).2.2.2.1 i x e
    · have w := has b hb
      exact ⟨w.1, w.2.1, fun q => w.2.2.2.1 i x (q ▸ e), w.2.2.1, w.2.2.2⟩

/-- an owned thing is handed on -/
theorem Rel.freeze (R : Rel C hb Mo fi M m cv ad ℓ s) {i : Nat} {a : Addr} {sl : Slot} (hi : i < ℓ.length) (ha : ad i = [a])
    (hsl : SlotOk C s.heap (hid s.heap (M.filter (fun b => decide (b ≠ a)))) sl (cv i) []) :
    Rel C hb Mo fi (M.filter (fun b => decide (b ≠ a))) m cv (fun j => if j = i then [] else ad j) (ℓ.set i sl) s := by
  have za := (R.mA i hi).2 a (by rw [ha]; exact .head _)
  have mem : ∀ b, b ∈ M → b ≠ a → b ∈ M.filter (fun b => decide (b ≠ a)) := fun b h n => List.mem_filter.mpr ⟨h, by simpa using n⟩
  have k : Sub (hid s.heap M) (hid s.heap (M.filter (fun b => decide (b ≠ a)))) := hid_mono (fun _ _ _ e => e) fun b q => (List.mem_filter.mp q).1
  exact {
    base := R.base
    len := by rw [List.length_set]; exact R.len
    anon := R.anon
    ns := R.ns
    loc := R.loc
    cel := R.cel
    slot := fun j sl' ej => by
      have hj : j < ℓ.length := by
        have := (List.getElem?_eq_some_iff.mp ej).1
        rwa [List.length_set] at this
      by_cases q : j = i
      · subst q
        rw [List.getElem?_set_self hj] at ej
        cases ej
        simp only [if_true]
        exact hsl
      · rw [List.getElem?_set_ne (Ne.symm q)] at ej
        simp only [if_neg q]
        exact (R.slot j sl' ej).mono k (fun b _ o z => z) (hid_sub _ _)
    mL := ⟨mem _ R.mL.1 (Ne.symm za.2.2.1), R.mL.2⟩
    mC := fun j x c e => ⟨mem _ (R.mC j x c e).1 fun q => za.2.2.2.1 j x (q ▸ e), (R.mC j x c e).2⟩
    mA := fun j hj => by
      rw [List.length_set] at hj
      by_cases q : j = i
      · subst q; simp
      · simp only [if_neg q]
        refine ⟨(R.mA j hj).1, fun b hb => ?_⟩
        have z := (R.mA j hj).2 b hb
        refine ⟨mem _ z.1 fun w => z.2.2.2.2 i hi (Ne.symm q) (by rw [ha, w]; exact .head _), z.2.1, z.2.2.1, z.2.2.2.1, fun k hk hne => ?_⟩
        rw [List.length_set] at hk
        by_cases w : k = i
        · subst w; simp
        · rw [if_neg w]; exact z.2.2.2.2 k hk hne
    mO := fun b h => mem _ (R.mO b h) fun q => za.2.1 (q ▸ h)
    new := fun b h => R.new b (List.mem_filter.mp h).1
    has := fun b h => R.has b (List.mem_filter.mp h).1
    base0 := R.base0
    new0 := fun b h => R.new0 b (List.mem_filter.mp h).1 }

/-- an owned thing is turned in its place -/
theorem Rel.turn (R : Rel C hb Mo fi M m cv ad ℓ s) {i : Nat} {a : Addr} {sl : Slot} {h' : Heap} {tk : Nat} (hi : i < ℓ.length) (ha : a ∈ ad i) (hs : Heap.SameBut a s.heap h')
    (hsl : SlotOk C h' (hid h' M) sl (cv i) (ad i)) :
    Rel C hb Mo fi M m cv ad (ℓ.set i sl) { s with heap := h', toks := tk } := by
  have za := (R.mA i hi).2 a ha
  have k := hid_change za.1 hs
  have sub : Sub (hid s.heap M) h' := fun b o q => (hs.2 b fun z => hid_not q (z ▸ za.1)).trans (hid_sub _ _ _ _ q)
  exact {
    base := base_change R.base (R.notBase za.1 za.2.1) hs
    len := by rw [List.length_set]; exact R.len
    anon := R.anon
    ns := R.ns.sameBut hs (Ne.symm za.2.2.1)
    loc := R.loc
    cel := fun j x c e => (R.cel j x c e).sameBut hs fun q => za.2.2.2.1 j x (q ▸ e)
    slot := fun j sl' ej => by
      have hj : j < ℓ.length := by
        have := (List.getElem?_eq_some_iff.mp ej).1
        rwa [List.length_set] at this
      by_cases q : j = i
      · subst q
        rw [List.getElem?_set_self hj] at ej
        cases ej
        exact hsl
      · rw [List.getElem?_set_ne (Ne.symm q)] at ej
        exact (R.slot j sl' ej).mono k (fun b hb o z => (hs.2 b fun w => za.2.2.2.2 j hj q (w ▸ hb)).trans z) sub
    mL := R.mL
    mC := R.mC
    mA := fun j hj => by
      rw [List.length_set] at hj
      refine ⟨(R.mA j hj).1, fun b hb => ?_⟩
      have z := (R.mA j hj).2 b hb
      exact ⟨z.1, z.2.1, z.2.2.1, z.2.2.2.1, fun k hk hne => z.2.2.2.2 k (by rwa [List.length_set] at hk) hne⟩
    mO := R.mO
    new := R.new
    has := fun b h => by
      by_cases q : b = a
      · subst q; exact hsl.has _ ha
      · obtain ⟨o, e⟩ := R.has b h; exact ⟨o, (hs.2 b q).trans e⟩
    base0 := sub_change R.base0 (R.new0 _ za.1) hs
    new0 := R.new0 }

/-- a fresh thing joins what stands around -/
theorem Rel.around (R : Rel C hb Mo fi M m cv ad ℓ s) {s' : Shared} (g : Grow s s') {a : Addr} {o : Obj} (n : s.heap.get? a = none) (e : s'.heap.get? a = some o) :
    Rel C (fun b x => hb b x ∨ (b = a ∧ x = o)) (a :: Mo) fi (a :: M) m cv ad ℓ s' := by
  have R' := R.fresh g n ⟨o, e⟩
  have old : ∀ b, (∃ x, s.heap.get? b = some x) → b ≠ a := fun b ⟨x, q⟩ z => by rw [z, n] at q; cases q
  exact {
    base := fun b x h => h.elim (R'.base b x) fun ⟨q, z⟩ => by subst q; subst z; exact e
    len := R'.len
    anon := R'.anon
    ns := R'.ns
    loc := R'.loc
    cel := R'.cel
    slot := R'.slot
    mL := ⟨R'.mL.1, fun q => by
      rcases List.mem_cons.mp q with q | q
      · exact old _ (R.has _ R.mL.1) q
      · exact R.mL.2 q⟩
    mC := R'.mC
    mA := fun i hi => ⟨(R'.mA i hi).1, fun b hb' => by
      have z := (R'.mA i hi).2 b hb'
      refine ⟨z.1, fun q => ?_, z.2.2⟩
      rcases List.mem_cons.mp q with q | q
      · exact old _ (R.has _ ((R.mA i hi).2 b hb').1) q
      · exact z.2.1 q⟩
    mO := fun b h => by
      rcases List.mem_cons.mp h with rfl | h
      · exact .head _
      · exact .tail _ (R.mO b h)
    new := fun b h => by
      rcases List.mem_cons.mp h with rfl | h
      · exact .inl (.head _)
      · rcases R.new b h with q | q
        · exact .inl (.tail _ q)
        · exact .inr fun x z => z.elim (q x) fun ⟨y, _⟩ => old _ (R.has _ h) y
    has := R'.has
    base0 := R'.base0
    new0 := R'.new0 }

/-- a thing that stands around changes -/
theorem Rel.renew {a : Addr} {o o' : Obj} (R : Rel C (fun b x => hb b x ∨ (b = a ∧ x = o)) (a :: Mo) fi M m cv ad ℓ s) {h' : Heap} {tk : Nat} (hn : ∀ x, ¬ hb a x) (hc : ∀ (i : Nat) x c, fi.vs[i]? = some (x, .cel c) → c ≠ a)
    (k : ∀ b x, b ≠ a → s.heap.get? b = some x → h'.get? b = some x) (e : h'.get? a = some o') :
    Rel C (fun b x => hb b x ∨ (b = a ∧ x = o')) (a :: Mo) fi M m cv ad ℓ { s with heap := h', toks := tk } := by
  have ia : a ∈ M := R.mO _ (.head _)
  have kk : Sub (hid s.heap M) (hid h' M) := hid_mono (fun b x nb q => k b x (fun z => nb (z ▸ ia)) q) fun _ q => q
  have sub : Sub (hid s.heap M) h' := fun b x q => k b x (fun z => hid_not q (z ▸ ia)) (hid_sub _ _ _ _ q)
  have lo : fi.env.locals ≠ a := fun z => R.mL.2 (z ▸ .head _)
  exact {
    base := fun b x h => h.elim (fun q => k b x (fun z => hn x (z ▸ q)) (R.base b x (.inl q))) fun ⟨q, z⟩ => by subst q; subst z; exact e
    len := R.len
    anon := R.anon
    ns := by
      obtain ⟨o1, es, ep, ho, r⟩ := R.ns
      exact ⟨o1, es, ep, k _ _ lo ho, r⟩
    loc := R.loc
    cel := fun i x c q => by
      obtain ⟨o1, ho, r⟩ := R.cel i x c q
      exact ⟨o1, k _ _ (hc i x c q) ho, r⟩
    slot := fun i sl q => by
      have hi : i < ℓ.length := (List.getElem?_eq_some_iff.mp q).1
      exact (R.slot i sl q).mono kk (fun b hb' x w => k b x (fun z => ((R.mA i hi).2 b hb').2.1 (z ▸ .head _)) w) sub
    mL := R.mL
    mC := R.mC
    mA := R.mA
    mO := R.mO
    new := fun b h => by
      rcases R.new b h with q | q
      · exact .inl q
      · exact .inr fun x z => q x (z.elim .inl fun ⟨y, _⟩ => absurd (.inr ⟨y, rfl⟩) (q o))
    has := fun b h => by
      by_cases z : b = a
      · subst z; exact ⟨_, e⟩
      · obtain ⟨x, q⟩ := R.has b h; exact ⟨x, k _ _ z q⟩
    base0 := fun b x q => k b x (fun z => by rw [R.new0 b (z ▸ ia)] at q; cases q) (R.base0 b x q)
    new0 := R.new0 }

/-- back to what stood around before -/
theorem Rel.back {hb' : Base} {Mo' : List Addr} (R : Rel C hb' Mo' fi M m cv ad ℓ s) (hbs : ∀ b o, hb b o → hb' b o) (hMo : ∀ b ∈ Mo, b ∈ Mo') (hd : ∀ b ∈ Mo', b ∈ Mo ∨ ∀ o, ¬ hb b o) : Rel C hb Mo fi M m cv ad ℓ s where
  base := fun b o h => R.base b o (hbs b o h)
  len := R.len
  anon := R.anon
  ns := R.ns
  loc := R.loc
  cel := R.cel
  slot := R.slot
  mL := ⟨R.mL.1, fun q => R.mL.2 (hMo _ q)⟩
  mC := R.mC
  mA := fun i hi => ⟨(R.mA i hi).1, fun b h => ⟨((R.mA i hi).2 b h).1, fun q => ((R.mA i hi).2 b h).2.1 (hMo _ q), ((R.mA i hi).2 b h).2.2⟩⟩
  mO := fun b h => R.mO b (hMo _ h)
  new := fun b h => by
    rcases R.new b h with q | q
    · exact hd b q
    · exact .inr fun o z => q o (hbs b o z)
  has := R.has
  base0 := R.base0
  new0 := R.new0

/-- a thing that stood around is let go -/
theorem Rel.drop {a : Addr} {o : Obj} (R : Rel C (fun b x => hb b x ∨ (b = a ∧ x = o)) (a :: Mo) fi M m cv ad ℓ s) {h' : Heap} {tk : Nat} (hn : ∀ x, ¬ hb a x) (hMo : a ∉ Mo) (hc : ∀ (i : Nat) x c, fi.vs[i]? = some (x, .cel c) → c ≠ a)
    (k : ∀ b x, b ≠ a → s.heap.get? b = some x → h'.get? b = some x) :
    Rel C hb Mo fi (M.filter (fun b => decide (b ≠ a))) m cv ad ℓ { s with heap := h', toks := tk } := by
  have ia : a ∈ M := R.mO _ (.head _)
  have mem : ∀ b, b ∈ M → b ≠ a → b ∈ M.filter (fun b => decide (b ≠ a)) := fun b h n => List.mem_filter.mpr ⟨h, by simpa using n⟩
  have kk : Sub (hid s.heap M) (hid h' (M.filter (fun b => decide (b ≠ a)))) := hid_mono (fun b x nb q => k b x (fun z => nb (z ▸ ia)) q) fun _ q => (List.mem_filter.mp q).1
  have sub : Sub (hid s.heap M) h' := fun b x q => k b x (fun z => hid_not q (z ▸ ia)) (hid_sub _ _ _ _ q)
  have lo : fi.env.locals ≠ a := fun z => R.mL.2 (z ▸ .head _)
  have ne : ∀ i, i < ℓ.length → ∀ b ∈ ad i, b ≠ a := fun i hi b hb' z => ((R.mA i hi).2 b hb').2.1 (z ▸ .head _)
  exact {
    base := fun b x h => k b x (fun z => hn x (z ▸ h)) (R.base b x (.inl h))
    len := R.len
    anon := R.anon
    ns := by
      obtain ⟨o1, es, ep, ho, r⟩ := R.ns
      exact ⟨o1, es, ep, k _ _ lo ho, r⟩
    loc := R.loc
    cel := fun i x c q => by
      obtain ⟨o1, ho, r⟩ := R.cel i x c q
      exact ⟨o1, k _ _ (hc i x c q) ho, r⟩
    slot := fun i sl q => by
      have hi : i < ℓ.length := (List.getElem?_eq_some_iff.mp q).1
      exact (R.slot i sl q).mono kk (fun b hb' x w => k b x (ne i hi b hb') w) sub
    mL := ⟨mem _ R.mL.1 lo, fun q => R.mL.2 (.tail _ q)⟩
    mC := fun i x c q => ⟨mem _ (R.mC i x c q).1 (hc i x c q), (R.mC i x c q).2⟩
    mA := fun i hi => ⟨(R.mA i hi).1, fun b hb' => ⟨mem _ ((R.mA i hi).2 b hb').1 (ne i hi b hb'), fun q => ((R.mA i hi).2 b hb').2.1 (.tail _ q), ((R.mA i hi).2 b hb').2.2⟩⟩
    mO := fun b h => mem _ (R.mO b (.tail _ h)) fun z => hMo (z ▸ h)
    new := fun b h => by
      obtain ⟨h1, h2⟩ := List.mem_filter.mp h
      have h2 : b ≠ a := by simpa using h2
      rcases R.new b h1 with q | q
      · exact .inl ((List.mem_cons.mp q).resolve_left h2)
      · exact .inr fun x z => q x (.inl z)
    has := fun b h => by
      obtain ⟨h1, h2⟩ := List.mem_filter.mp h
      have h2 : b ≠ a := by simpa using h2
      obtain ⟨x, q⟩ := R.has b h1; exact ⟨x, k _ _ h2 q⟩
    base0 := fun b x q => k b x (fun z => by rw [R.new0 b (z ▸ ia)] at q; cases q) (R.base0 b x q)
    new0 := fun b h => R.new0 b (List.mem_filter.mp h).1 }
end
end
section
variable {C : Cx}

/-- room for n more calls -/
structure AOk (n : Nat) (A : Around) : Prop where
  handled : A.handled = none
  depth : A.depth + n ≤ 890
  units : A.units + 8 * n + 100 ≤ 9000
theorem AOk.room {n : Nat} {A : Around} (a : AOk n A) : A.depth < recursionLimit := by have := a.depth; show _ < 1000; omega
theorem AOk.u {n : Nat} {A : Around} (a : AOk n A) : A.units < cLine := by have := a.units; show _ < 9900; omega
theorem AOk.u64 {n : Nat} {A : Around} (a : AOk n A) : A.units + 64 < cLine := by have := a.units; show _ < 9900; omega
theorem AOk.u1 {n : Nat} {A : Around} (a : AOk n A) : A.in1.units < cLine := by have := a.units; show A.units + 1 < 9900; omega

/-! ## what the operations give -/
def sz : Nat := 1048576
theorem sz_le {n : Nat} (h : n ≤ sz) : n ≤ sizeLine := by show n ≤ 2 ^ 24; unfold sz at h; omega
def pickL {α : Type} (l : List α) (lo hi : Option Int) : List α := (sliceRange (sliceBounds lo hi none l.length).1 (sliceBounds lo hi none l.length).2.1 (sliceBounds lo hi none l.length).2.2).filterMap (l[·]?)

def opBin : Operator → AV → AV → Option AV
  | .Add, .int a, .int b => some (.int (a + b))
  | .Add, .str a, .str b => if a.length + b.length ≤ sz then some (.str (a ++ b)) else none
  | .Add, .lst a, .lst b => if a.length + b.length ≤ sz then some (.lst (a ++ b)) else none
  | .Sub, .int a, .int b => some (.int (a - b))
  | .Mult, .int a, .int b => if b.natAbs < 4294967296 || a.natAbs < 4294967296 then some (.int (a * b)) else none
  | .Mult, .lst a, .int b => if 0 ≤ b && decide (a.length * b.toNat ≤ sz) && decide (b.toNat ≤ sz) then some (.lst (List.replicate b.toNat a).flatten) else none
  | .Mult, .str a, .int b => if 0 ≤ b && decide (a.length * b.toNat ≤ sz) && decide (b.toNat ≤ sz) then some (.str ⟨(List.replicate b.toNat a.cps.toList).flatten.toArray⟩) else none
  | .Mod, .int a, .int b => if b ≠ 0 then some (.int (a.fmod b)) else none
  | .FloorDiv, .int a, .int b => if b ≠ 0 && decide (b.natAbs < 1073741824) then some (.int (a.fdiv b)) else none
  | _, _, _ => none

theorem intBits64 {a : Int} (h : a.natAbs < 4294967296) : Builtin.Int.intBits a ≤ 64 := PySem.intBits_le_64 (by omega) (by omega)

theorem rep_push {H : Heap} {o : Obj} : Sub H (H.push o) := fun _ _ e => Heap.get?_push_of_some _ e
theorem hid_push {h : Heap} {M : List Addr} {o : Obj} : Sub (hid h M) (hid (h.push o) M) := hid_grow rep_push
theorem hid_at {h : Heap} {M : List Addr} {o : Obj} (hM : ∀ a ∈ M, a < h.objs.size) (hf : o.isFreed = false) : (hid (h.push o) M).get? h.objs.size = some o :=
  hid_get (Heap.get?_push_size _ hf) fun q => Nat.lt_irrefl _ (hM _ q)
theorem rep_list {h : Heap} {M : List Addr} {l : List AV} {vs : List Value} (hM : ∀ a ∈ M, a < h.objs.size) (r : RepL C (hid h M) l vs) :
    Rep C (hid (h.push { cls := .type "list", data := .seq vs.toArray }) M) (.lst l) (.ref h.objs.size) := .lst ⟨0, hid_at hM rfl⟩ (r.mono hid_push)
theorem rep_tup {h : Heap} {M : List Addr} {l : List AV} {vs : List Value} (hM : ∀ a ∈ M, a < h.objs.size) (r : RepL C (hid h M) l vs) :
    Rep C (hid (h.push { cls := .type "tuple", data := .seq vs.toArray }) M) (.tup l) (.ref h.objs.size) := .tup ⟨0, hid_at hM rfl⟩ (r.mono hid_push)

theorem RepL.replicate {h : Heap} {l : List AV} {vs : List Value} (r : RepL C h l vs) (n : Nat) : RepL C h (List.replicate n l).flatten (List.replicate n vs).flatten := by
  induction n with
  | zero => exact .nil
  | succ n ih => rw [List.replicate_succ, List.replicate_succ, List.flatten_cons, List.flatten_cons]; exact r.append ih
theorem foldl_arrays {α : Type} (n : Nat) (l : List α) : List.foldl (fun x1 x2 => x1 ++ x2) (#[] : Array α) (List.replicate n l.toArray) = (List.replicate n l).flatten.toArray := by
  have : ∀ (k : Nat) (acc : List α), List.foldl (fun x1 x2 => x1 ++ x2) acc.toArray (List.replicate k l.toArray) = (acc ++ (List.replicate k l).flatten).toArray := by
    intro k
    induction k with
    | zero => intro acc; simp
    | succ k ih => intro acc; rw [List.replicate_succ, List.foldl_cons, List.replicate_succ, List.flatten_cons, List.append_toArray, ih, List.append_assoc]
  simpa using this n []

section
variable {A : Around} {s : Shared} {M : List Addr} {n : Nat}

theorem bin_ok (_ak : AOk n A) (hM : ∀ a ∈ M, a < s.heap.objs.size) {op : Operator} {x y r : AV} {vx vy : Value} (h : opBin op x y = some r)
    (rx : Rep C (hid s.heap M) x vx) (ry : Rep C (hid s.heap M) y vy) : Ev C A (binaryOp op vx vy) s (fun v s' => Rep C (hid s'.heap M) r v) := by
  intro Q E q
  unfold opBin at h
  split at h
  · rename_i a b
    cases h; cases rx; cases ry
    exact P.add_int (q _ _ (.toks _) (.int _ _))
  · rename_i a b
    split at h
    · rename_i hz
      cases h
      cases rx with
      | str _ t =>
      cases ry with
      | str _ u =>
      refine P.add_str ?_
      by_cases z1 : a.length == 0
      · rw [if_pos z1]
        refine q _ _ (.refl _) ?_
        have : a ++ b = b := by
          have : a = Str.mk #[] := by
            cases a; simp only [beq_iff_eq, Str.length] at z1; simp at z1 ⊢; exact Array.eq_empty_of_size_eq_zero (by simpa using z1)
          subst this; exact Str.empty_append b
        rw [this]; exact .str _ _
      · rw [if_neg z1]
        by_cases z2 : b.length == 0
        · rw [if_pos z2]
          refine q _ _ (.refl _) ?_
          have : a ++ b = a := by
            have : b = Str.mk #[] := by
              cases b; simp only [beq_iff_eq, Str.length] at z2; simp at z2 ⊢; exact Array.eq_empty_of_size_eq_zero (by simpa using z2)
            subst this; exact Str.append_empty a
          rw [this]; exact .str _ _
        · rw [if_neg z2]
          exact ⟨sz_le (by rw [Str.length_append]; exact hz), q _ _ (.toks _) (.str _ _)⟩
    · cases h
  · rename_i a b
    split at h
    · rename_i hz
      cases h
      cases rx with
      | lst l1 r1 =>
      cases ry with
      | lst l2 r2 =>
      obtain ⟨n1, e1⟩ := l1.mono (hid_sub _ _)
      obtain ⟨n2, e2⟩ := l2.mono (hid_sub _ _)
      rename_i vs _ ws
      have e : vs.toArray ++ ws.toArray = (vs ++ ws).toArray := by simp
      have hl : vs.length + ws.length ≤ sizeLine := by rw [← r1.length, ← r2.length]; exact sz_le hz
      refine concat_meets ⟨_, e1, rfl⟩ ⟨_, e2, rfl⟩ noFill_list_add seq_list_add PySem.F.slot_list_add PySem.F.entry_list_add (PySem.F.args_list_add_2 _ _) (list_addW _ _ vs.toArray ws.toArray n1 n2 none none #[] #[] (by simpa using hl)) ⟨e1, e2, ?_⟩
      rw [e]
      exact q _ _ (.push _) (rep_list hM (r1.append r2))
    · cases h
  · rename_i a b
    cases h; cases rx; cases ry
    exact P.sub_int (q _ _ (.toks _) (.int _ _))
  · rename_i a b
    split at h
    · rename_i hz
      cases h; cases rx; cases ry
      refine P.mul_int (q _ _ (.toks _) (.int _ _)) ?_
      rcases Bool.or_eq_true_iff.mp hz with z | z
      · exact IntMulOk.of_right (intBits64 (of_decide_eq_true z))
      · exact IntMulOk.of_left (intBits64 (of_decide_eq_true z))
    · cases h
  · rename_i a b
    split at h
    · rename_i hz
      cases h
      cases rx with
      | @lst la _ vs l1 r1 =>
      cases ry with
      | int _ u =>
      simp only [Bool.and_eq_true, decide_eq_true_eq] at hz
      obtain ⟨n1, e1⟩ := l1.mono (hid_sub _ _)
      have hl := r1.length
      have hl : a.length = vs.length := hl
      have hb : b < 2 ^ 63 := by have := hz.2; unfold sz at this; omega
      have hs : vs.toArray.size * b.toNat ≤ 2 ^ 24 := by rw [List.size_toArray, ← hl]; have := hz.1.2; unfold sz at this; omega
      refine wpAny_binaryOp_repeat_ref (T := "list") (U := "int") (by decide) ⟨_, e1, rfl⟩ (fun s' => typeIs_int s' b u) noFill_list_mul PySem.F.fills_int_mul PySem.F.slot_int_rmul repeat_list PySem.F.slot_int_index.lookup
        (call_meets PySem.F.slot_int_rmul (typeIs_int s b u) PySem.F.entry_int_rmul (PySem.F.args_int_rmul_2 _ _) (int___rmul___int_list b u la vs.toArray n1)
          ⟨e1, rfl, ⟨_, e1, rfl⟩, call_meets PySem.F.slot_list_mul ⟨_, e1, rfl⟩ PySem.F.entry_list_mul (PySem.F.args_list_mul_2 _ _)
            (AutoListH.list___mul___list_int_3 la vs.toArray n1 b u (by simp [Builtin.List.listFitsIndex]; omega) (by omega) (by simp [Builtin.List.listTooLong, sizeLine]; omega)) ⟨e1, ?_⟩⟩)
      have ev : List.foldl (fun x1 x2 => x1 ++ x2) #[] (List.replicate (if vs.toArray.isEmpty = true then 0 else b.toNat) vs.toArray) = (List.replicate b.toNat vs).flatten.toArray := by
        by_cases z : vs = []
        · subst z
          have z0 : ∀ k : Nat, (List.replicate k ([] : List Value)).flatten = [] := fun k => by simp
          simp [z0]
        · have : vs.toArray.isEmpty = false := by simpa using z
          rw [this]
          exact foldl_arrays _ _
      rw [ev]
      exact q _ _ (.push _) (rep_list hM (r1.replicate _))
    · cases h
  · rename_i a b
    split at h
    · rename_i hz
      cases h
      cases rx with
      | str _ t =>
      cases ry with
      | int _ u =>
      simp only [Bool.and_eq_true, decide_eq_true_eq] at hz
      have hb : b < 2 ^ 63 := by have := hz.2; unfold sz at this; omega
      have hlen : a.length * b.toNat ≤ 1048576 := hz.1.2
      refine P.mul_str (by rw [decide_eq_false (by omega), decide_eq_false (by omega)]; rfl) (fun h1 h2 => ?_) (fun h1 h2 => ?_) ?_
      · have : (a.length : Int) * b ≤ 1048576 := by
          have e : ((b.toNat : Nat) : Int) = b := Int.toNat_of_nonneg hz.1.1
          have z := Int.ofNat_le.mpr hlen
          rw [Int.natCast_mul, e] at z
          exact z
        intro hgt
        have h3 : (2 ^ 63 - 1 : Int) / b ≥ a.length := by
          refine (Int.le_ediv_iff_mul_le (by omega)).mpr ?_
          omega
        omega
      · show decide (a.length * b.toNat > sizeLine) = false
        exact decide_eq_false (Nat.not_lt.mpr (sz_le hlen))
      · by_cases h1 : b < 1
        · rw [if_pos h1]
          refine ⟨by decide, q _ _ (.toks _) ?_⟩
          have : b.toNat = 0 := by omega
          rw [this]; exact .str _ _
        · rw [if_neg h1]
          by_cases h2 : (b == 1 || a.length == 0) = true
          · rw [if_pos h2]
            refine q _ _ (.refl _) ?_
            have : (⟨(List.replicate b.toNat a.cps.toList).flatten.toArray⟩ : Str) = a := by
              rcases Bool.or_eq_true_iff.mp h2 with z | z
              · have : b.toNat = 1 := by have := beq_iff_eq.mp z; omega
                rw [this]; simp
              · have : a.cps = #[] := Array.eq_empty_of_size_eq_zero (beq_iff_eq.mp z)
                have z0 : ∀ k : Nat, (List.replicate k ([] : List Nat)).flatten = [] := fun k => by simp
                cases a; simp only at this; subst this; simp [z0]
            rw [this]; exact .str _ _
          · rw [if_neg h2]
            have ev : List.foldl (fun x1 x2 => x1 ++ x2) #[] (List.replicate b.toNat a.cps) = (List.replicate b.toNat a.cps.toList).flatten.toArray := by
              have := foldl_arrays b.toNat a.cps.toList
              simpa using this
            refine ⟨?_, ?_⟩
            · show Array.size _ ≤ _
              rw [ev]
              refine sz_le ?_
              simp only [List.size_toArray, List.length_flatten, List.map_replicate, List.sum_replicate_nat, Array.length_toList]
              rw [Nat.mul_comm]; exact hlen
            · rw [ev]; exact q _ _ (.toks _) (.str _ _)
    · cases h
  · rename_i a b
    split at h
    · rename_i hz
      cases h; cases rx; cases ry
      exact PyProof.Rows.mod_int' hz (q _ _ (.toks _) (.int _ _))
    · cases h
  · rename_i a b
    split at h
    · rename_i hz
      cases h; cases rx; cases ry
      simp only [Bool.and_eq_true, decide_eq_true_eq] at hz
      exact PyProof.Rows.floordiv_int hz.1 (q _ _ (.toks _) (.int _ _)) (.inl (PyProof.noPylong_small hz.2))
    · cases h
  · cases h
end
end
section
variable {C : Cx}

def AV.isNone : AV → Bool
  | .none => true
  | _ => false
def asInt : AV → Option Int
  | .int i => some i
  | _ => none
def asStr : AV → Option Str
  | .str i => some i
  | _ => none
def keyInts : List AV → Option (List Int)
  | [] => some []
  | a :: l => match asInt a, keyInts l with
    | some i, some k => some (i :: k)
    | _, _ => none
def keyStrs : List AV → Option (List Str)
  | [] => some []
  | a :: l => match asStr a, keyStrs l with
    | some i, some k => some (i :: k)
    | _, _ => none
theorem asInt_eq {a : AV} {i : Int} (e : asInt a = some i) : a = .int i := by cases a <;> first | (cases e; rfl) | cases e
theorem asStr_eq {a : AV} {i : Str} (e : asStr a = some i) : a = .str i := by cases a <;> first | (cases e; rfl) | cases e
def findK {K : Type} [DecidableEq K] (k : K) : List K → List AV → Option AV
  | x :: ks, v :: vs => if x = k then some v else findK k ks vs
  | _, _ => none
def deepEq (a b : AV) : Option Bool := match toPy a, toPy b with
  | some x, some y => if PySem.SeqAt.shaped x && PySem.SeqAt.shaped y then some (PyData.eqv x y) else none
  | _, _ => none
def strAmong (x : Str) : List AV → Option Bool
  | [] => some false
  | .str y :: l => if y = x then some true else strAmong x l
  | _ :: _ => none

def eqB (a b : AV) : Option Bool := match asInt a, asInt b with
  | some i, some j => some (i == j)
  | _, _ => match asStr a, asStr b with
    | some x, some y => some (x == y)
    | _, _ => deepEq a b
def cmpI (f : Int → Int → Bool) (a b : AV) : Option AV := match asInt a, asInt b with
  | some i, some j => some (.bool (f i j))
  | _, _ => none
def asTup : AV → Option (List AV)
  | .tup l => some l
  | _ => none
def inB (a b : AV) : Option Bool := match b with
  | .dTI ks vs => ((asTup a).bind keyInts).map fun k => (findK k ks vs).isSome
  | _ => none
def opCmp (op : CmpOp) (a b : AV) : Option AV := match op with
  | .Is => if b.isNone then some (.bool a.isNone) else none
  | .IsNot => if b.isNone then some (.bool !a.isNone) else none
  | .Lt => cmpI (fun i j => decide (i < j)) a b
  | .LtE => cmpI (fun i j => decide (i ≤ j)) a b
  | .Gt => cmpI (fun i j => decide (i > j)) a b
  | .GtE => cmpI (fun i j => decide (i ≥ j)) a b
  | .Eq => (eqB a b).map .bool
  | .NotEq => (eqB a b).map fun x => .bool !x
  | .In => (inB a b).map .bool
  | .NotIn => (inB a b).map fun x => .bool !x

theorem asTup_eq {a : AV} {l : List AV} (e : asTup a = some l) : a = .tup l := by cases a <;> first | (cases e; rfl) | cases e
theorem AV.of_isNone {a : AV} (e : a.isNone = true) : a = .none := by cases a <;> first | rfl | cases e
theorem Rep.isNone {H : Heap} {a : AV} {v : Value} (r : Rep C H a v) : (v == .none) = a.isNone := by
  cases r <;> first | rfl | (rename_i x; obtain ⟨b, rfl⟩ := C.isRef x; rfl)

theorem keyInts_are {H : Heap} {l : List AV} : ∀ {vs : List Value} {k : List Int}, RepL C H l vs → keyInts l = some k → ItemsAre (iK C) k vs := by
  induction l with
  | nil => intro vs k r e; cases r; cases e; exact .nil
  | cons a l ih =>
    intro vs k r e
    cases r with
    | cons r rs =>
    unfold keyInts at e
    split at e
    · rename_i i k' e1 e2
      cases e
      rw [asInt_eq e1] at r
      cases r
      exact .cons (beq_self_eq_true i) (ih rs e2)
    · cases e
theorem keyStrs_are {H : Heap} {l : List AV} : ∀ {vs : List Value} {k : List Str}, RepL C H l vs → keyStrs l = some k → ItemsAre (sK C) k vs := by
  induction l with
  | nil => intro vs k r e; cases r; cases e; exact .nil
  | cons a l ih =>
    intro vs k r e
    cases r with
    | cons r rs =>
    unfold keyStrs at e
    split at e
    · rename_i i k' e1 e2
      cases e
      rw [asStr_eq e1] at r
      cases r
      exact .cons (beq_self_eq_true i) (ih rs e2)
    · cases e
theorem tupKey {K : Type} [DecidableEq K] {knd : KeyKind C.prog C.w K} {h : Heap} {a : Addr} {vs : List Value} {k : List K} (t : TupAt h a vs) (i : ItemsAre knd k vs) : IsTupleKey knd h k a := by
  obtain ⟨n, e⟩ := t
  exact ⟨_, _, n, e, rfl, rfl, by simpa using i⟩

/-- a dict's find and the model's -/
theorem findK_at {K : Type} [DecidableEq K] {H : Heap} {k : K} : ∀ {ks : List K} {l : List AV} {ps : List (Addr × Value)}, ks.length = ps.length → RepL C H l (ps.map (·.2)) →
    (∀ a, findK k ks l = some a → ∃ p, atKey (ks.zip ps) k = some p ∧ Rep C H a p.2) ∧ (findK k ks l = none → atKey (ks.zip ps) k = none)
  | [], _, [], _, _ => ⟨fun _ e => (nomatch e), fun _ => rfl⟩
  | x :: ks, [], p :: ps, _, r => by cases r
  | x :: ks, a :: l, p :: ps, e, .cons r rs => by
    have ih := findK_at (k := k) (Nat.succ.inj e) rs
    have z : atKey ((x :: ks).zip (p :: ps)) k = if x = k then some p else atKey (ks.zip ps) k := by
      simp only [atKey, List.zip_cons_cons, List.find?_cons]
      by_cases q : x = k <;> simp [q]
    constructor
    · intro b q
      simp only [findK] at q
      rw [z]
      by_cases c : x = k
      · rw [if_pos c] at q ⊢; cases q; exact ⟨_, rfl, r⟩
      · rw [if_neg c] at q ⊢; exact ih.1 b q
    · intro q
      simp only [findK] at q
      rw [z]
      by_cases c : x = k
      · rw [if_pos c] at q; cases q
      · rw [if_neg c] at q ⊢; exact ih.2 q
theorem findK_valueAt {K : Type} [DecidableEq K] {H : Heap} {k : K} : ∀ {ks : List K} {l : List AV} {vs : List Value}, ks.length = vs.length → RepL C H l vs →
    (∀ a, findK k ks l = some a → ∃ v, valueAt (ks.zip vs) k = some v ∧ Rep C H a v) ∧ (findK k ks l = none → valueAt (ks.zip vs) k = none)
  | [], _, [], _, _ => ⟨fun _ e => (nomatch e), fun _ => rfl⟩
  | x :: ks, [], p :: ps, _, r => by cases r
  | x :: ks, a :: l, p :: ps, e, .cons r rs => by
    have ih := findK_valueAt (k := k) (Nat.succ.inj e) rs
    have z : valueAt ((x :: ks).zip (p :: ps)) k = if x = k then some p else valueAt (ks.zip ps) k := by
      simp only [valueAt, List.zip_cons_cons, List.find?_cons]
      by_cases q : x = k <;> simp [q]
    constructor
    · intro b q
      simp only [findK] at q
      rw [z]
      by_cases c : x = k
      · rw [if_pos c] at q ⊢; cases q; exact ⟨_, rfl, r⟩
      · rw [if_neg c] at q ⊢; exact ih.1 b q
    · intro q
      simp only [findK] at q
      rw [z]
      by_cases c : x = k
      · rw [if_pos c] at q; cases q
      · rw [if_neg c] at q ⊢; exact ih.2 q

theorem strBeq (a b : Str) : (a.cps.toList == b.cps.toList) = (a == b) := PySem.SeqAt.str_beq a b

section
variable {A : Around} {s : Shared} {M : List Addr} {n : Nat}
theorem cmp_deep (ak : AOk n A) {x y : AV} {vx vy : Value} {b : Bool} (h : deepEq x y = some b) (rx : Rep C (hid s.heap M) x vx) (ry : Rep C (hid s.heap M) y vy) :
    Ev C A (compareOp .Eq vx vy) s (fun v s' => v = .bool b) ∧ Ev C A (compareOp .NotEq vx vy) s (fun v s' => v = .bool !b) := by
  unfold deepEq at h
  split at h
  · rename_i dx dy ex ey
    split at h
    · rename_i z
      cases h
      obtain ⟨z1, z2⟩ := Bool.and_eq_true_iff.mp z
      obtain ⟨as, ra⟩ := (rx.mono (hid_sub _ _)).reads ex
      obtain ⟨bs, rb⟩ := (ry.mono (hid_sub _ _)).reads ey
      exact ⟨fun Q E q => PySem.SeqAt.compareEq_shaped ra rb z1 z2 ak.u64 (q _ _ (.refl _) rfl), fun Q E q => PySem.SeqAt.compareNe_shaped ra rb z1 z2 ak.u64 (q _ _ (.refl _) rfl)⟩
    · cases h
  · cases h

theorem eq_ok (ak : AOk n A) {x y : AV} {vx vy : Value} {b : Bool} (h : eqB x y = some b) (rx : Rep C (hid s.heap M) x vx) (ry : Rep C (hid s.heap M) y vy) :
    Ev C A (compareOp .Eq vx vy) s (fun v s' => v = .bool b) ∧ Ev C A (compareOp .NotEq vx vy) s (fun v s' => v = .bool !b) := by
  unfold eqB at h
  split at h
  · rename_i e1 e2
    cases h
    rw [asInt_eq e1] at rx; rw [asInt_eq e2] at ry
    cases rx; cases ry
    exact ⟨fun Q E q => P.eq_int (q _ _ (.refl _) rfl), fun Q E q => P.ne_int (q _ _ (.refl _) rfl)⟩
  · split at h
    · rename_i e1 e2
      cases h
      rw [asStr_eq e1] at rx; rw [asStr_eq e2] at ry
      cases rx; cases ry
      exact ⟨fun Q E q => P.eq_str (q _ _ (.refl _) (by rw [strBeq])), fun Q E q => P.ne_str (q _ _ (.refl _) (by rw [bne, strBeq]))⟩
    · exact cmp_deep ak h rx ry
theorem in_ok (ak : AOk n A) {x y : AV} {vx vy : Value} {b : Bool} (h : inB x y = some b) (rx : Rep C (hid s.heap M) x vx) (ry : Rep C (hid s.heap M) y vy) :
    Ev C A (compareOp .In vx vy) s (fun v s' => v = .bool b) ∧ Ev C A (compareOp .NotIn vx vy) s (fun v s' => v = .bool !b) := by
  unfold inB at h
  split at h
  · rename_i ks vs
    cases e0 : asTup x with
    | none => rw [e0] at h; cases h
    | some l =>
    rw [asTup_eq e0] at rx
    cases e : keyInts l with
    | none => rw [e0] at h; simp only [Option.bind_some, e] at h; cases h
    | some k =>
      rw [e0] at h
      simp only [Option.bind_some, e] at h
      cases h
      cases rx with
      | tup t rl =>
      cases ry with
      | @dTI _ _ _ ps sm le d rv =>
      have key := tupKey (t.mono (hid_sub _ _)) (keyInts_are rl e)
      have z : (atKey (ks.zip ps) k).isSome = (findK k ks vs).isSome := by
        cases z : findK k ks vs with
        | none => rw [(findK_at le rv).2 z]; rfl
        | some a => obtain ⟨p, e1, _⟩ := (findK_at le rv).1 a z; rw [e1]; rfl
      exact ⟨fun Q E q => wpAny_in_heap (knd := tIK C) ak.u1 key sm (dictOfH_mono (hid_sub _ _) d) (q _ _ (.toks _) (by rw [z])),
        fun Q E q => PyProof.Rows.wpAny_notIn_heap (knd := tIK C) ak.u1 key sm (dictOfH_mono (hid_sub _ _) d) (q _ _ (.toks _) (by rw [z]))⟩
  · cases h
theorem cmpI_ok {f : Int → Int → Bool} {op : CmpOp} {x y r : AV} {vx vy : Value} (h : cmpI f x y = some r) (rx : Rep C (hid s.heap M) x vx) (ry : Rep C (hid s.heap M) y vy)
    (k : ∀ (a b : Int) (t u : Tok) (Q : Value → Shared → Prop) (E : Value → Shared → Prop), Q (.bool (f a b)) s → wpAny (model C.prog C.w) A (compareOp op (.int a t) (.int b u)) Q E s) :
    Ev C A (compareOp op vx vy) s (fun v s' => ∃ b, r = .bool b ∧ v = .bool b) := by
  unfold cmpI at h
  split at h
  · rename_i e1 e2
    cases h
    rw [asInt_eq e1] at rx; rw [asInt_eq e2] at ry
    cases rx; cases ry
    exact fun Q E q => k _ _ _ _ _ _ (q _ _ (.refl _) ⟨_, rfl, rfl⟩)
  · cases h

theorem cmp_ok (ak : AOk n A) {op : CmpOp} {x y r : AV} {vx vy : Value} (h : opCmp op x y = some r)
    (rx : Rep C (hid s.heap M) x vx) (ry : Rep C (hid s.heap M) y vy) : Ev C A (compareOp op vx vy) s (fun v s' => ∃ b, r = .bool b ∧ v = .bool b) := by
  have two {o : Option Bool} {f : Bool → Bool} (e : o.map (fun b => AV.bool (f b)) = some r) : ∃ b, o = some b ∧ r = .bool (f b) := by
    cases o with
    | none => cases e
    | some b => cases e; exact ⟨b, rfl, rfl⟩
  have isn (e : (if y.isNone then some (AV.bool x.isNone) else none) = some r) : vy = .none ∧ r = .bool (vx == .none) := by
    split at e
    · rename_i z
      cases e
      rw [AV.of_isNone z] at ry
      cases ry
      exact ⟨rfl, by rw [rx.isNone]⟩
    · cases e
  unfold opCmp at h
  cases op with
  | Is =>
    obtain ⟨rfl, rfl⟩ := isn h
    exact fun Q E q => PyProof.Rows.is_none_gen (q _ _ (.refl _) ⟨_, rfl, rfl⟩)
  | IsNot =>
    have : vy = .none ∧ r = .bool (!(vx == .none)) := by
      simp only at h
      split at h
      · rename_i z
        cases h
        rw [AV.of_isNone z] at ry
        cases ry
        exact ⟨rfl, by rw [rx.isNone]⟩
      · cases h
    obtain ⟨rfl, rfl⟩ := this
    exact fun Q E q => PyProof.Rows.isnot_none_gen (q _ _ (.refl _) ⟨_, rfl, rfl⟩)
  | Lt => exact cmpI_ok h rx ry fun _ _ _ _ _ _ q => P.lt_int q
  | LtE => exact cmpI_ok h rx ry fun _ _ _ _ _ _ q => P.le_int q
  | Gt => exact cmpI_ok h rx ry fun _ _ _ _ _ _ q => P.gt_int q
  | GtE => exact cmpI_ok h rx ry fun _ _ _ _ _ _ q => P.ge_int q
  | Eq => obtain ⟨b, e, rfl⟩ := two (f := id) h; exact (eq_ok ak e rx ry).1.mono fun _ _ _ z => ⟨_, rfl, z⟩
  | NotEq => obtain ⟨b, e, rfl⟩ := two (f := not) h; exact (eq_ok ak e rx ry).2.mono fun _ _ _ z => ⟨_, rfl, z⟩
  | In => obtain ⟨b, e, rfl⟩ := two (f := id) h; exact (in_ok ak e rx ry).1.mono fun _ _ _ z => ⟨_, rfl, z⟩
  | NotIn => obtain ⟨b, e, rfl⟩ := two (f := not) h; exact (in_ok ak e rx ry).2.mono fun _ _ _ z => ⟨_, rfl, z⟩
end
end
section
variable {C : Cx}

section
variable {H : Heap} {v : Value}
theorem Rep.int_ {i : Int} (r : Rep C H (.int i) v) : ∃ t, v = .int i t := by cases r; exact ⟨_, rfl⟩
theorem Rep.str_ {x : Str} (r : Rep C H (.str x) v) : ∃ t, v = .str x t := by cases r; exact ⟨_, rfl⟩
theorem Rep.bool_ {b : Bool} (r : Rep C H (.bool b) v) : v = .bool b := by cases r; rfl
theorem Rep.none_ (r : Rep C H .none v) : v = .none := by cases r; rfl
theorem Rep.tup_ {l : List AV} (r : Rep C H (.tup l) v) : ∃ a vs, v = .ref a ∧ TupAt H a vs ∧ RepL C H l vs := by cases r with | tup t r => exact ⟨_, _, rfl, t, r⟩
theorem Rep.lst_ {l : List AV} (r : Rep C H (.lst l) v) : ∃ a vs, v = .ref a ∧ ListAt H a vs ∧ RepL C H l vs := by cases r with | lst t r => exact ⟨_, _, rfl, t, r⟩
theorem Rep.dS_ {ks : List Str} {l : List AV} (r : Rep C H (.dS ks l) v) : ∃ a vs, v = .ref a ∧ (a == sysModules) = false ∧ ks.length = vs.length ∧ H.DictOf (sK C) a (ks.zip vs) ∧ RepL C H l vs := by
  cases r with | dS a b c d => exact ⟨_, _, rfl, a, b, c, d⟩
theorem Rep.dTS_ {ks : List (List Str)} {l : List AV} (r : Rep C H (.dTS ks l) v) : ∃ a, ∃ ps : List (Addr × Value), v = .ref a ∧ (a == sysModules) = false ∧ ks.length = ps.length ∧ H.DictOfH (tSK C) a (ks.zip ps) ∧ RepL C H l (ps.map (·.2)) := by
  cases r with | dTS a b c d => exact ⟨_, _, rfl, a, b, c, d⟩
theorem Rep.dTI_ {ks : List (List Int)} {l : List AV} (r : Rep C H (.dTI ks l) v) : ∃ a, ∃ ps : List (Addr × Value), v = .ref a ∧ (a == sysModules) = false ∧ ks.length = ps.length ∧ H.DictOfH (tIK C) a (ks.zip ps) ∧ RepL C H l (ps.map (·.2)) := by
  cases r with | dTI a b c d => exact ⟨_, _, rfl, a, b, c, d⟩
theorem Rep.rng_ {a b c : Int} (r : Rep C H (.rng a b c) v) : ∃ x t u w, v = .ref x ∧ IsRange H x a b c t u w := by cases r with | rng r => exact ⟨_, _, _, _, rfl, r⟩
theorem Rep.ext_ {x : Ext} (r : Rep C H (.ext x) v) : C.RX H x v := by cases r; assumption
end

/-- a place in a sequence, as Python counts -/
def at? {α : Type} (l : List α) (i : Int) : Option α := if 0 ≤ i then l[i.toNat]? else if -(l.length : Int) ≤ i then l[(i + l.length).toNat]? else none

def opIdx (a b : AV) : Option AV := match a with
  | .lst l => match asInt b with
    | some i => if decide (l.length ≤ sz) then at? l i else none
    | none => none
  | .tup l => match asInt b with
    | some i => if decide (l.length ≤ sz) then at? l i else none
    | none => none
  | .str x => match asInt b with
    | some i => if decide (x.length ≤ sz) then (at? x.cps.toList i).map fun c => .str ⟨#[c]⟩ else none
    | none => none
  | .dS ks vs => match asStr b with
    | some k => findK k ks vs
    | none => none
  | .dTS ks vs => match (asTup b).bind keyStrs with
    | some k => findK k ks vs
    | none => none
  | .dTI ks vs => match (asTup b).bind keyInts with
    | some k => findK k ks vs
    | none => none
  | _ => none

theorem at_some {α : Type} {l : List α} {i : Int} {x : α} (h : at? l i = some x) : ∃ j, seqIndex? i l.length = some j ∧ l[j]? = some x := by
  unfold at? at h
  unfold seqIndex?
  split at h
  · rename_i z
    have := (List.getElem?_eq_some_iff.mp h).1
    refine ⟨i.toNat, ?_, h⟩
    simp only [if_neg (Int.not_lt.mpr z)]
    rw [if_pos]
    simp only [Bool.and_eq_true, decide_eq_true_eq]
    omega
  · rename_i z
    split at h
    · rename_i z2
      have := (List.getElem?_eq_some_iff.mp h).1
      refine ⟨(i + l.length).toNat, ?_, h⟩
      simp only [if_pos (Int.not_le.mp z)]
      rw [if_pos]
      simp only [Bool.and_eq_true, decide_eq_true_eq]
      omega
    · cases h

/-- a subscript's operation, with what stands around it -/
theorem sub_tail {A : Around} {s : Shared} {value slice : Expr} {o i : Value} {T id : String} {P : Value → Shared → Prop} (hT : s.TypeIs o T)
    (hl : typeLookup (.type T) "__getitem__" = pure (some (.builtin id))) (hg : Ev C A (getItem o i) s P)
    (hs : ∃ ops, subscripted slice false o i = operate ops (getItem o i)) : Ev C A (subscriptTail value slice o i) s P := by
  intro Q E q
  obtain ⟨ops, hs⟩ := hs
  exact PyProof.Rows.tail_any hT hl (hg _ _ q) hs

section
variable {A : Around} {s : Shared} {M : List Addr} {n : Nat}

theorem idx_tail (ak : AOk n A) {x y r : AV} {vx vy : Value} {value slice : Expr} (h : opIdx x y = some r)
    (rx : Rep C (hid s.heap M) x vx) (ry : Rep C (hid s.heap M) y vy) (hns : ∀ a b c p, slice ≠ .Slice a b c p) :
    Ev C A (subscriptTail value slice vx vy) s (fun v s' => Rep C (hid s'.heap M) r v) := by
  have hsub : ∀ i : Value, ∃ ops, subscripted slice false vx i = operate ops (getItem vx i) := fun i => by
    cases slice <;> first | exact ⟨_, rfl⟩ | exact absurd rfl (hns _ _ _ _)
  have isl := @Rep.mono C _ _ (hid_sub s.heap M)
  unfold opIdx at h
  split at h
  · rename_i l
    split at h
    · rename_i i ei
      rw [asInt_eq ei] at ry
      obtain ⟨t, rfl⟩ := ry.int_
      split at h
      · rename_i z
        have z : l.length ≤ 1048576 := of_decide_eq_true z
        obtain ⟨a, vs, rfl, la, rl⟩ := rx.lst_
        have il := (la.mono (hid_sub _ _)).isList
        have len := rl.length
        refine sub_tail il.typeIs slot_list_getitem.lookup (fun Q E q => ?_) (hsub _)
        unfold at? at h
        split at h
        · rename_i h0
          obtain ⟨v, e, rv⟩ := rl.get h
          have := (List.getElem?_eq_some_iff.mp h).1
          exact wpAny_getItem_list il h0 (by omega) (by simpa using e) (q _ _ (.refl _) rv)
        · rename_i h0
          split at h
          · rename_i h1
            obtain ⟨v, e, rv⟩ := rl.get h
            refine wpAny_getItem_list_neg il (by omega) (by rw [List.size_toArray, ← len]; exact h1) (by omega) ?_ (q _ _ (.refl _) rv)
            rw [List.size_toArray, ← len]; simpa using e
          · cases h
      · cases h
    · cases h
  · rename_i l
    split at h
    · rename_i i ei
      rw [asInt_eq ei] at ry
      obtain ⟨t, rfl⟩ := ry.int_
      split at h
      · rename_i z
        have z : l.length ≤ 1048576 := of_decide_eq_true z
        obtain ⟨a, vs, rfl, la, rl⟩ := rx.tup_
        have il := (la.mono (hid_sub _ _)).isTup
        have len := rl.length
        obtain ⟨j, hj, ej⟩ := at_some h
        obtain ⟨v, e, rv⟩ := rl.get ej
        have bnd : -(2 ^ 63 : Int) ≤ i ∧ i < 2 ^ 63 := by
          unfold at? at h
          split at h
          · have := (List.getElem?_eq_some_iff.mp h).1; omega
          · split at h
            · omega
            · cases h
        refine sub_tail il.typeIs slot_tuple_getitem.lookup (fun Q E q => ?_) (hsub _)
        exact getItem_tuple il bnd.1 bnd.2 (by rw [List.size_toArray, ← len]; exact hj) (by simpa using e) (q _ _ (.refl _) rv)
      · cases h
    · cases h
  · rename_i x
    split at h
    · rename_i i ei
      rw [asInt_eq ei] at ry
      obtain ⟨t, rfl⟩ := ry.int_
      split at h
      · rename_i z
        have z : x.length ≤ 1048576 := of_decide_eq_true z
        obtain ⟨u, rfl⟩ := rx.str_
        cases e : at? x.cps.toList i with
        | none => rw [e] at h; cases h
        | some c =>
          rw [e] at h; cases h
          obtain ⟨j, hj, ej⟩ := at_some e
          have bnd : (decide (i < -(2 ^ 63 : Int)) || decide (i ≥ 2 ^ 63)) = false := by
            have z2 : x.cps.toList.length ≤ 1048576 := by simpa [Str.length] using z
            unfold at? at e
            split at e
            · have := (List.getElem?_eq_some_iff.mp e).1
              rw [decide_eq_false (by omega), decide_eq_false (by omega)]; rfl
            · split at e
              · rw [decide_eq_false (by omega), decide_eq_false (by omega)]; rfl
              · cases e
          refine sub_tail (typeIs_str s x u) PySem.F.slot_str_getitem.lookup (fun Q E q => ?_) (hsub _)
          refine P.getItem_str bnd ?_ (q _ _ (.toks _) (.str _ _))
          have hj' : seqIndex? i x.length = some j := by simpa [Str.length] using hj
          rw [hj']
          simpa using ej
      · cases h
    · cases h
  · rename_i ks vs
    split at h
    · rename_i k ek
      rw [asStr_eq ek] at ry
      obtain ⟨t, rfl⟩ := ry.str_
      obtain ⟨a, ws, rfl, sm, le, d, rl⟩ := rx.dS_
      obtain ⟨v, e, rv⟩ := (findK_valueAt le rl).1 _ h
      have dm := (dictOf_mono (hid_sub _ _) d).mapOf
      refine sub_tail dm.typeIs slot_dict_getitem.lookup (fun Q E q => ?_) (hsub _)
      exact wpAny_getItem_of (beq_self_eq_true k) dm e (q _ _ (.toks _) rv)
    · cases h
  · rename_i ks vs
    split at h
    · rename_i k ek
      cases e0 : asTup y with
      | none => rw [e0] at ek; cases ek
      | some l =>
      rw [e0] at ek
      rw [asTup_eq e0] at ry
      obtain ⟨b, us, rfl, tb, rb⟩ := ry.tup_
      obtain ⟨a, ps, rfl, sm, le, d, rl⟩ := rx.dTS_
      obtain ⟨p, e, rv⟩ := (findK_at le rl).1 _ h
      have key := tupKey (tb.mono (hid_sub _ _)) (keyStrs_are rb ek)
      have dm := dictOfH_mono (hid_sub _ _) d
      refine sub_tail dm.typeIs slot_dict_getitem.lookup (fun Q E q => ?_) (hsub _)
      exact wpAny_getItem_heap (knd := tSK C) ak.u1 key dm e (q _ _ (.toks _) rv)
    · cases h
  · rename_i ks vs
    split at h
    · rename_i k ek
      cases e0 : asTup y with
      | none => rw [e0] at ek; cases ek
      | some l =>
      rw [e0] at ek
      rw [asTup_eq e0] at ry
      obtain ⟨b, us, rfl, tb, rb⟩ := ry.tup_
      obtain ⟨a, ps, rfl, sm, le, d, rl⟩ := rx.dTI_
      obtain ⟨p, e, rv⟩ := (findK_at le rl).1 _ h
      have key := tupKey (tb.mono (hid_sub _ _)) (keyInts_are rb ek)
      have dm := dictOfH_mono (hid_sub _ _) d
      refine sub_tail dm.typeIs slot_dict_getitem.lookup (fun Q E q => ?_) (hsub _)
      exact wpAny_getItem_heap (knd := tIK C) ak.u1 key dm e (q _ _ (.toks _) rv)
    · cases h
  · cases h
end
end
section
variable {C : Cx}

/-- a bound of a slice as a place -/
def clipN (v : Option Int) (d n : Nat) : Nat := match v with
  | none => d
  | some i => (max 0 (min (if i < 0 then i + n else i) n)).toNat
theorem clipN_le {v : Option Int} {d n : Nat} (h : d ≤ n) : clipN v d n ≤ n := by
  unfold clipN
  split
  · exact h
  · omega
theorem clip_eq (v : Option Int) (d n : Nat) : (match v with | none => (d : Int) | some i => max 0 (min (if i < 0 then i + n else i) n)) = (clipN v d n : Int) := by
  cases v with
  | none => rfl
  | some i => show max 0 _ = (((max 0 _ : Int).toNat : Nat) : Int); omega
theorem filter_range {α : Type} (l : List α) : ∀ (c a : Nat), a + c ≤ l.length → ((List.range c).map fun k => a + k).filterMap (l[·]?) = (l.drop a).take c
  | 0, a, _ => by simp
  | c + 1, a, h => by
    have ih := filter_range l c a (by omega)
    rw [List.range_succ, List.map_append, List.filterMap_append, ih]
    have e : l[a + c]? = some l[a + c] := List.getElem?_eq_getElem (by omega)
    have : (l.drop a).take (c + 1) = (l.drop a).take c ++ [l[a + c]] := by
      rw [List.take_add_one]
      congr 1
      rw [List.getElem?_drop, e]; rfl
    rw [this]
    simp [e]
theorem pickL_eq {α : Type} (l : List α) (lo hi : Option Int) : pickL l lo hi = (l.drop (clipN lo 0 l.length)).take (clipN hi l.length l.length - clipN lo 0 l.length) := by
  have hb : clipN hi l.length l.length ≤ l.length := clipN_le (Nat.le_refl _)
  have e1 : (sliceBounds lo hi none l.length).1 = (clipN lo 0 l.length : Int) := clip_eq lo 0 l.length
  have e2 : (sliceBounds lo hi none l.length).2.1 = (clipN hi l.length l.length : Int) := clip_eq hi l.length l.length
  have e3 : (sliceBounds lo hi none l.length).2.2 = 1 := rfl
  unfold pickL
  rw [e1, e2, e3]
  unfold sliceRange
  have e4 : (if (1 : Int) > 0 then (if (clipN lo 0 l.length : Int) < (clipN hi l.length l.length : Int) then ((clipN hi l.length l.length : Int) - (clipN lo 0 l.length : Int) + 1 - 1) / 1 else 0)
      else (if (clipN lo 0 l.length : Int) > (clipN hi l.length l.length : Int) then ((clipN lo 0 l.length : Int) - (clipN hi l.length l.length : Int) - 1 - 1) / (-1) else 0)).toNat = clipN hi l.length l.length - clipN lo 0 l.length := by
    rw [if_pos (by omega)]
    split <;> omega
  simp only [e4]
  have e5 : ((List.range (clipN hi l.length l.length - clipN lo 0 l.length)).map fun (k : Nat) => ((clipN lo 0 l.length : Int) + 1 * (k : Int)).toNat) =
      (List.range (clipN hi l.length l.length - clipN lo 0 l.length)).map fun k => clipN lo 0 l.length + k := by
    refine List.map_congr_left fun k _ => ?_
    omega
  rw [e5]
  have h0 : clipN lo 0 l.length ≤ l.length := clipN_le (Nat.zero_le _)
  exact filter_range l _ _ (by omega)
theorem RepL.pick {h : Heap} {l : List AV} {vs : List Value} (r : RepL C h l vs) (lo hi : Option Int) : RepL C h (pickL l lo hi) (pickL vs lo hi) := by
  rw [pickL_eq, pickL_eq, ← r.length]
  exact (r.drop _).take _

def opSlc (a : AV) (lo hi : Option Int) : Option AV := match a with
  | .lst l => if decide (l.length ≤ sz) then some (.lst (pickL l lo hi)) else none
  | .str x => if decide (x.length ≤ sz) then some (.str ⟨(pickL x.cps.toList lo hi).toArray⟩) else none
  | _ => none

section
variable {A : Around} {s : Shared} {M : List Addr} {n : Nat}
theorem slc_tail {x r : AV} {vx vl vu : Value} {lo hi : Option Int} {value : Expr} {el eu : Option Expr} {p : Pos} {i : Addr} (hM : ∀ a ∈ M, a < s.heap.objs.size) (h : opSlc x lo hi = some r)
    (rx : Rep C (hid s.heap M) x vx) (hl : IsPart vl lo) (hu : IsPart vu hi) (hi' : s.heap.get? i = some { cls := .type "slice", data := .fields #[vl, vu, .none] }) :
    Ev C A (subscriptTail value (.Slice el eu none p) vx (.ref i)) s (fun v s' => Rep C (hid s'.heap M) r v) := by
  unfold opSlc at h
  split at h
  · rename_i l
    split at h
    · rename_i z
      have z : l.length ≤ sz := of_decide_eq_true z
      cases h
      obtain ⟨a, vs, rfl, la, rl⟩ := rx.lst_
      have il := (la.mono (hid_sub _ _)).isList
      refine sub_tail il.typeIs slot_list_getitem.lookup (fun Q E q => ?_) ⟨_, rfl⟩
      refine wpAny_getItem_list_slice il (⟨_, hi', rfl, rfl⟩ : s.heap.IsSliceOf i vl vu .none) hl hu .none (by simp) ?_ (by rw [List.size_toArray, ← rl.length]; exact sz_le z)
      have e : slicePick vs.toArray lo hi none = (pickL vs lo hi).toArray := by
        unfold slicePick pickL
        rw [List.size_toArray]
        congr 1
        refine congrArg (fun f => List.filterMap f _) (funext fun k => ?_)
        simp
      rw [e]
      exact q _ _ (.push _) (rep_list hM (rl.pick lo hi))
    · cases h
  · rename_i x
    split at h
    · rename_i z
      have z : x.length ≤ sz := of_decide_eq_true z
      cases h
      obtain ⟨t, rfl⟩ := rx.str_
      refine sub_tail (typeIs_str s x t) PySem.F.slot_str_getitem.lookup (fun Q E q => ?_) ⟨_, rfl⟩
      have pv : ∀ {v : Value} {o : Option Int}, IsPart v o → ∃ o' : Option (Int × Tok), v = partValue o' ∧ o'.map (·.1) = o := fun {v o} y => by
        cases y with
        | none => exact ⟨none, rfl, rfl⟩
        | int i t => exact ⟨some (i, t), rfl, rfl⟩
      obtain ⟨l', el', fl⟩ := pv hl
      obtain ⟨u', eu', fu⟩ := pv hu
      refine wpAny_getItem_str_slice (l := l') (u := u') (st := none) ⟨_, hi', rfl, by rw [el', eu']; rfl⟩ rfl ?_
      have e : slicePicked x l' u' none = (sliceRange (sliceBounds lo hi none x.cps.toList.length).1 (sliceBounds lo hi none x.cps.toList.length).2.1 (sliceBounds lo hi none x.cps.toList.length).2.2) := by
        unfold slicePicked
        rw [fl, fu, Array.length_toList]
        rfl
      have e2 : ((slicePicked x l' u' none).filterMap (x.cps[·]?)) = pickL x.cps.toList lo hi := by
        rw [e]
        unfold pickL
        refine congrArg (fun f => List.filterMap f _) (funext fun k => ?_)
        simp
      unfold sliceMade
      split
      · rename_i zz
        refine q _ _ (.refl _) ?_
        have len : (slicePicked x l' u' none).length = x.length := by
          have := (Bool.and_eq_true_iff.mp zz).2
          exact beq_iff_eq.mp this
        have : (pickL x.cps.toList lo hi) = x.cps.toList := by
          rw [pickL_eq]
          have hb : clipN hi x.cps.toList.length x.cps.toList.length ≤ x.cps.toList.length := clipN_le (Nat.le_refl _)
          have l2 : (slicePicked x l' u' none).length = clipN hi x.cps.toList.length x.cps.toList.length - clipN lo 0 x.cps.toList.length := by
            rw [e]
            have e1 : (sliceBounds lo hi none x.cps.toList.length).1 = (clipN lo 0 x.cps.toList.length : Int) := clip_eq lo 0 _
            have e2 : (sliceBounds lo hi none x.cps.toList.length).2.1 = (clipN hi x.cps.toList.length x.cps.toList.length : Int) := clip_eq hi _ _
            have e3 : (sliceBounds lo hi none x.cps.toList.length).2.2 = 1 := rfl
            rw [e1, e2, e3]
            unfold sliceRange
            rw [List.length_map, List.length_range, if_pos (by omega)]
            split <;> omega
          have l3 : x.cps.toList.length = x.length := Array.length_toList
          rw [l2] at len
          have z0 : clipN lo 0 x.cps.toList.length = 0 := by
            rcases Nat.eq_zero_or_pos x.length with w | w
            · have := clipN_le (v := lo) (d := 0) (n := x.cps.toList.length) (Nat.zero_le _); omega
            · omega
          rw [z0, List.drop_zero]
          exact List.take_of_length_le (by omega)
        rw [this]
        cases x
        exact .str _ _
      · refine ⟨?_, ?_⟩
        · show Array.size _ ≤ _
          rw [List.size_toArray, e2, pickL_eq]
          refine Nat.le_trans (List.length_take_le _ _) ?_
          have hb : clipN hi x.cps.toList.length x.cps.toList.length ≤ x.cps.toList.length := clipN_le (Nat.le_refl _)
          have l3 : x.cps.toList.length = x.length := Array.length_toList
          exact sz_le (by omega)
        · rw [e2]; exact q _ _ (.toks _) (.str _ _)
    · cases h
  · cases h

/-! ## truth -/
def truth (a : AV) : Option Bool := match a with
  | .bool b => some b
  | .none => some false
  | .int i => some (i != 0)
  | .str x => if decide (x.length ≤ sz) then some (x.length != 0) else none
  | .lst l => if decide (l.length ≤ sz) then some (!l.isEmpty) else none
  | .tup l => if decide (l.length ≤ sz) then some (!l.isEmpty) else none
  | _ => none
theorem isEmpty_rep {H : Heap} {l : List AV} {vs : List Value} (r : RepL C H l vs) : vs.toArray.isEmpty = l.isEmpty := by
  cases r <;> rfl
theorem truth_ok {x : AV} {b : Bool} {vx : Value} (h : truth x = some b) (rx : Rep C (hid s.heap M) x vx) : Ev C A (truthy vx) s (fun c s' => c = b) := by
  intro Q E q
  unfold truth at h
  split at h
  · cases h; rw [rx.bool_]; exact wpAny_truthy_bool (q _ _ (.refl _) rfl)
  · cases h; rw [rx.none_]; exact PyProof.Rows.truthy_none (q _ _ (.refl _) rfl)
  · cases h; obtain ⟨t, rfl⟩ := rx.int_; exact P.truthy_int (q _ _ (.refl _) rfl)
  · split at h
    · rename_i z
      have z : _ ≤ 1048576 := of_decide_eq_true z
      cases h; obtain ⟨t, rfl⟩ := rx.str_
      rename_i x _
      refine P.truthy_str (by omega) (q _ _ (.toks _) ?_)
      show ((x.length : Int) != 0) = (x.length != 0)
      rw [Bool.eq_iff_iff]; simp
    · cases h
  · rename_i l
    split at h
    · rename_i z
      have z : l.length ≤ 1048576 := of_decide_eq_true z
      cases h; obtain ⟨a, vs, rfl, la, rl⟩ := rx.lst_
      exact wpAny_truthy_list (la.mono (hid_sub _ _)).isList (by rw [List.size_toArray, ← rl.length]; omega) (q _ _ (.toks _) (by rw [isEmpty_rep rl]))
    · cases h
  · rename_i l
    split at h
    · rename_i z
      have z : l.length ≤ 1048576 := of_decide_eq_true z
      cases h; obtain ⟨a, vs, rfl, la, rl⟩ := rx.tup_
      exact PyProof.Rows.truthy_tuple (la.mono (hid_sub _ _)).isTup (by rw [List.size_toArray, ← rl.length]; omega) (q _ _ (.toks _) (by rw [isEmpty_rep rl]))
    · cases h
  · cases h
end
end
section
variable {C : Cx}

def tame (T : String) : Bool := !["enumerate", "zip", "dict_itemiterator", "dict_reverseitemiterator", "odict_iterator", "itertools.zip_longest", "itertools.pairwise"].contains T
def Tame (h : Heap) (I : Addr) : Prop := ∃ o T, h.get? I = some o ∧ o.cls = .type T ∧ tame T = true
theorem letGo_tame {A : Around} {target : Expr} {I : Addr} {v : Value} {s : Shared} {Q : Unit → Shared → Prop} {E : Value → Shared → Prop} (t : Tame s.heap I) (h : Q () s) :
    wpAny (model C.prog C.w) A (letOwnedTupleGo target (.ref I) v) Q E s := by
  obtain ⟨o, T, e, ec, et⟩ := t
  have ec : o.cls = Value.type T := ec
  unfold letOwnedTupleGo
  unfold tame at et
  have et : (["enumerate", "zip", "dict_itemiterator", "dict_reverseitemiterator", "odict_iterator", "itertools.zip_longest", "itertools.pairwise"].contains T) = false := by simpa using et
  have main : ∀ t : Sem Unit, True := fun _ => trivial
  split
  · split
    · rename_i r a e1
      cases e1
      refine wpAny_bind (wpAny_load e ?_)
      rw [ec]
      split
      · rename_i n vs e2 e3
        cases e2
        rw [et]
        exact wpAny_pure h
      · exact wpAny_pure h
    · exact wpAny_pure h
  · split
    · rename_i r a e1
      cases e1
      refine wpAny_bind (wpAny_load e ?_)
      rw [ec]
      split
      · rename_i n vs e2 e3
        cases e2
        rw [et]
        exact wpAny_pure h
      · exact wpAny_pure h
    · exact wpAny_pure h
  · exact wpAny_pure h

/-- an iterator that has yet to give l -/
structure ItS (C : Cx) (H : Heap) (I : Addr) (l : List AV) (h : Heap) (fp : List Addr) (n i : Nat) (P : Nat → Value → Prop) (St : Nat → Heap → Prop) : Prop where
  walk : ∀ A : Around, A.handled = none → Walks C.prog C.w A I fp [I] n P St
  st : St i h
  len : i + l.length = n
  fp : ∀ b ∈ fp, b = I ∨ ∃ o, H.get? b = some o
  val : ∀ j v, P (i + j) v → j < l.length → ∃ a, l[j]? = some a ∧ Rep C H a v
  tame : ∀ j h', St j h' → Tame h' I
def It (C : Cx) (H : Heap) (I : Addr) (l : List AV) (h : Heap) : Prop := ∃ fp n i P St, ItS C H I l h fp n i P St

theorem It.tame {H h : Heap} {I : Addr} {l : List AV} (t : It C H I l h) : Tame h I := let ⟨_, _, _, _, _, x⟩ := t; x.tame _ _ x.st
theorem It.frame {H H' h h' : Heap} {I : Addr} {l : List AV} (t : It C H I l h) (k : Sub H H') (e : ∀ o, h.get? I = some o → h'.get? I = some o) (d : Sub H h) (d' : Sub H h') : It C H' I l h' := by
  obtain ⟨fp, n, i, P, St, x⟩ := t
  refine ⟨fp, n, i, P, St, x.walk, (x.walk {} rfl).frame _ _ _ x.st fun b hb o q => ?_, x.len, fun b hb => ?_, fun j v hp hj => ?_, x.tame⟩
  · rcases x.fp b hb with rfl | ⟨o', q'⟩
    · exact e o q
    · rw [d _ _ q'] at q; cases q; exact d' _ _ q'
  · rcases x.fp b hb with rfl | ⟨o', q'⟩
    · exact .inl rfl
    · exact .inr ⟨o', k _ _ q'⟩
  · obtain ⟨a, e1, r⟩ := x.val j v hp hj
    exact ⟨a, e1, r.mono k⟩

theorem It.next {A : Around} {H : Heap} {I : Addr} {a : AV} {l : List AV} {s : Shared} {Q : Option Value → Shared → Prop} {E : Value → Shared → Prop} (hh : A.handled = none) (t : It C H I (a :: l) s.heap)
    (hQ : ∀ v h' tk, Rep C H a v → It C H I l h' → (∀ b o, b ≠ I → s.heap.get? b = some o → h'.get? b = some o) → Q (some v) { s with heap := h', toks := tk }) :
    wpAny (model C.prog C.w) A (pyNext (.ref I)) Q E s := by
  obtain ⟨fp, n, i, P, St, x⟩ := t
  have len := x.len
  simp only [List.length_cons] at len
  refine (x.walk A hh).item i s Q E (by omega) x.st fun v h' tk hP hst hk => ?_
  obtain ⟨a', e, r⟩ := x.val 0 v (by simpa using hP) (by simp)
  simp at e
  subst e
  refine hQ v h' tk r ⟨fp, n, i + 1, P, St, x.walk, hst, by omega, x.fp, fun j w hp hj => ?_, x.tame⟩ fun b o nb e => hk b o (by simpa using nb) e
  have := x.val (j + 1) w (by rw [show i + (j + 1) = i + 1 + j by omega]; exact hp) (by simpa using hj)
  simpa using this
theorem It.done {A : Around} {H : Heap} {I : Addr} {s : Shared} {Q : Option Value → Shared → Prop} {E : Value → Shared → Prop} (hh : A.handled = none) (t : It C H I [] s.heap)
    (hQ : ∀ h' tk, (∀ b o, b ≠ I → s.heap.get? b = some o → h'.get? b = some o) → Q none { s with heap := h', toks := tk }) :
    wpAny (model C.prog C.w) A (pyNext (.ref I)) Q E s := by
  obtain ⟨fp, n, i, P, St, x⟩ := t
  have len : i = n := by have := x.len; simpa using this
  subst len
  exact (x.walk A hh).done s Q E x.st fun h' tk hk => hQ h' tk fun b o nb e => hk b o (by simpa using nb) e

def items (a : AV) : Option (List AV) := match a with
  | .lst l => some l
  | .tup l => some l
  | .str x => some (x.cps.toList.map fun c => .str ⟨#[c]⟩)
  | .rng a b c => if Builtin.Range.small a b c && decide (0 ≤ Builtin.Range.rangeSize a b c) then some ((List.range (Builtin.Range.rangeSize a b c).toNat).map fun (k : Nat) => AV.int (a + (k : Int) * c)) else none
  | _ => none

theorem get_new {h : Heap} : h.get? h.objs.size = none := by
  cases e : h.get? h.objs.size with
  | none => rfl
  | some o => exact absurd (Heap.lt_size e) (Nat.lt_irrefl _)
theorem hid_fresh {h : Heap} {M : List Addr} {o : Obj} : Sub (hid h M) (hid (h.push o) (h.objs.size :: M)) := fun b x e => hid_get (Heap.get?_push_of_some _ (hid_sub _ _ _ _ e)) fun q => by
  rcases List.mem_cons.mp q with rfl | q
  · have := hid_sub _ _ _ _ e; rw [get_new] at this; cases this
  · exact hid_not e q

section
variable {A : Around} {s : Shared} {M : List Addr}
theorem iter_ok {x : AV} {l : List AV} {v : Value} {Q : Value → Shared → Prop} {E : Value → Shared → Prop} (h : items x = some l) (rx : Rep C (hid s.heap M) x v)
    (hQ : ∀ I s', Grow s s' → s.heap.get? I = none → It C (hid s'.heap (I :: M)) I l s'.heap → Q (.ref I) s') : wpAny (model C.prog C.w) A (pyIter v) Q E s := by
  unfold items at h
  split at h
  · cases h
    obtain ⟨a, vs, rfl, la, rl⟩ := rx.lst_
    have il := (la.mono (hid_sub _ _)).isList
    have ne : a ≠ s.heap.objs.size := fun q => by obtain ⟨n, e⟩ := la.mono (hid_sub _ _); rw [q, get_new] at e; cases e
    refine wpAny_pyIter_list il (hQ _ _ (.push _) get_new ⟨_, _, 0, _, _, fun A hA => Walks.list hA s.heap.objs.size a ne vs.toArray, ⟨⟨_, Heap.get?_push_size _ rfl, rfl, rfl⟩, ?_⟩, ?_, fun b hb => ?_, fun j w hp hj => ?_, fun j h' st => ?_⟩)
    · exact ((la.mono (hid_sub _ _)).mono fun b o e => Heap.get?_push_of_some _ e).isList
    · simp [rl.length]
    · simp at hb
      rcases hb with rfl | rfl
      · exact .inl rfl
      · obtain ⟨n, e⟩ := la; exact .inr ⟨_, hid_fresh _ _ e⟩
    · obtain ⟨a', e⟩ : ∃ a', l[j]? = some a' := ⟨_, List.getElem?_eq_getElem hj⟩
      obtain ⟨v', e1, r⟩ := rl.get e
      simp at hp
      rw [e1] at hp; cases hp
      exact ⟨_, e, r.mono hid_fresh⟩
    · obtain ⟨⟨o, e, c, _⟩, _⟩ := st; exact ⟨o, _, e, c, by decide⟩
  · cases h
    obtain ⟨a, vs, rfl, la, rl⟩ := rx.tup_
    have il := (la.mono (hid_sub _ _)).isTuple
    have ne : a ≠ s.heap.objs.size := fun q => by obtain ⟨n, e⟩ := la.mono (hid_sub _ _); rw [q, get_new] at e; cases e
    refine wpAny_pyIter_tuple il (hQ _ _ (.push _) get_new ⟨_, _, 0, _, _, fun A hA => Walks.tuple hA s.heap.objs.size a ne vs.toArray, ⟨⟨_, Heap.get?_push_size _ rfl, rfl, rfl⟩, ?_⟩, ?_, fun b hb => ?_, fun j w hp hj => ?_, fun j h' st => ?_⟩)
    · exact ((la.mono (hid_sub _ _)).mono fun b o e => Heap.get?_push_of_some _ e).isTuple
    · simp [rl.length]
    · simp at hb
      rcases hb with rfl | rfl
      · exact .inl rfl
      · obtain ⟨n, e⟩ := la; exact .inr ⟨_, hid_fresh _ _ e⟩
    · obtain ⟨a', e⟩ : ∃ a', l[j]? = some a' := ⟨_, List.getElem?_eq_getElem hj⟩
      obtain ⟨v', e1, r⟩ := rl.get e
      simp at hp
      rw [e1] at hp; cases hp
      exact ⟨_, e, r.mono hid_fresh⟩
    · obtain ⟨⟨o, e, c, _⟩, _⟩ := st; exact ⟨o, _, e, c, by decide⟩
  · rename_i x
    cases h
    obtain ⟨t, rfl⟩ := rx.str_
    have val : ∀ (H : Heap) j w, SignAt x (0 + j) w → j < (x.cps.toList.map fun c => AV.str ⟨#[c]⟩).length → ∃ a, (x.cps.toList.map fun c => AV.str ⟨#[c]⟩)[j]? = some a ∧ Rep C H a w := by
      intro H j w hp hj
      obtain ⟨c, u, e, rfl⟩ := hp
      simp at e
      refine ⟨.str ⟨#[c]⟩, ?_, .str _ _⟩
      simp [e]
    cases ha : x.cps.all (· < 128)
    · refine wpAny_pyIter_wide ha (hQ _ _ (.push _) get_new ⟨_, _, 0, _, _, fun A hA => Walks.strWide hA s.heap.objs.size x t, ⟨_, Heap.get?_push_size _ rfl, rfl, rfl⟩, ?_, fun b hb => .inl (by simpa using hb), val _, fun j h' st => ?_⟩)
      · simp
      · obtain ⟨o, e, c, _⟩ := st; exact ⟨o, _, e, c, by decide⟩
    · refine wpAny_pyIter_ascii ha (hQ _ _ (.push _) get_new ⟨_, _, 0, _, _, fun A hA => Walks.strAscii hA s.heap.objs.size x t, ⟨_, Heap.get?_push_size _ rfl, rfl, rfl⟩, ?_, fun b hb => .inl (by simpa using hb), val _, fun j h' st => ?_⟩)
      · simp
      · obtain ⟨o, e, c, _⟩ := st; exact ⟨o, _, e, c, by decide⟩
  · rename_i a b c
    split at h
    · rename_i z
      simp only [Bool.and_eq_true, decide_eq_true_eq] at z
      cases h
      obtain ⟨r, t, u, w, rfl, ir⟩ := rx.rng_
      refine wpAny_pyIter_range (hid_sub _ _ _ _ ir) z.1 (hQ _ _ (.push _) get_new ⟨_, _, 0, _, _, fun A hA => Walks.range hA s.heap.objs.size a c (Builtin.Range.rangeSize a b c).toNat, ?_, ?_, fun b hb => .inl (by simpa using hb), fun j w hp hj => ?_, fun j h' st => ?_⟩)
      · have e1 : a + ((0 : Nat) : Int) * c = a := by simp
        have e2 : (((Builtin.Range.rangeSize a b c).toNat : Nat) : Int) - ((0 : Nat) : Int) = Builtin.Range.rangeSize a b c := by have := Int.toNat_of_nonneg z.2; omega
        rw [e1, e2]
        exact Heap.get?_push_size _ rfl
      · simp
      · obtain ⟨t, rfl⟩ := hp
        simp at hj
        refine ⟨.int (a + (j : Int) * c), by simp [hj], ?_⟩
        rw [Nat.zero_add]
        exact .int _ _
      · exact ⟨_, _, st, rfl, by decide⟩
    · cases h
  · cases h
end
end
section
variable {C : Cx}

/-! ## what an expression is worth at the slots -/
def EJ (C : Cx) (n : Nat) (fi : Fi) (ℓ : List Slot) (e : Expr) (a : AV) : Prop :=
  ∀ (A : Around) (hb : Base) (Mo M : List Addr) (m : Str → Option Value) (cv : Nat → Option Value) (ad : Nat → List Addr) (s : Shared), AOk n A → Rel C hb Mo fi M m cv ad ℓ s →
    Ev C A (eval e fi.env) s (fun v s' => Rep C (hid s'.heap M) a v)
def BJ (C : Cx) (n : Nat) (fi : Fi) (ℓ : List Slot) (e : Expr) (b : Bool) : Prop :=
  ∀ (A : Around) (hb : Base) (Mo M : List Addr) (m : Str → Option Value) (cv : Nat → Option Value) (ad : Nat → List Addr) (s : Shared), AOk n A → Rel C hb Mo fi M m cv ad ℓ s →
    Ev C A (isTrue e fi.env (eval e fi.env)) s (fun c s' => c = b)
def LJ (C : Cx) (n : Nat) (fi : Fi) (ℓ : List Slot) (es : List Expr) (l : List AV) : Prop :=
  ∀ (A : Around) (hb : Base) (Mo M : List Addr) (m : Str → Option Value) (cv : Nat → Option Value) (ad : Nat → List Addr) (s : Shared) (pos : Pos), AOk n A → Rel C hb Mo fi M m cv ad ℓ s →
    Ev C A (spliced (backTo pos (starEach es fi.env))) s (fun vs s' => RepL C (hid s'.heap M) l vs)

section
variable {n : Nat} {fi : Fi} {ℓ : List Slot} {pos : Pos} {k : Nat}

theorem EJ.var (F : fi.Ok) {i : Nat} {x : Str} {lo : Loc} {a : AV} (e : fi.vs[i]? = some (x, lo)) (h : ℓ[i]? = some (.fz a)) : EJ C n fi ℓ (.Name x pos) a := by
  intro A hb Mo M m cv ad s ak R Q E q
  have z := R.slot i _ h
  generalize ez : cv i = w at z
  generalize ad i = ds at z
  cases z with
  | fz r => exact R.var F e ez (q _ _ (.refl _) r)

theorem EJ.int (i : Int) : EJ C n fi ℓ (.Constant (.int i) k pos) (.int i) := fun A hb Mo M m cv ad s ak R Q E q => wpAny_Constant_int (q _ _ (.toks _) (.int _ _))
theorem EJ.str (x : Str) : EJ C n fi ℓ (.Constant (.str x) k pos) (.str x) := fun A hb Mo M m cv ad s ak R Q E q => wpAny_Constant_str (q _ _ (.toks _) (.str _ _))
theorem EJ.none : EJ C n fi ℓ (.Constant .none k pos) .none := fun A hb Mo M m cv ad s ak R Q E q => wpAny_Constant_none (q _ _ (.refl _) .none)
theorem EJ.bool (b : Bool) : EJ C n fi ℓ (.Constant (.bool b) k pos) (.bool b) := fun A hb Mo M m cv ad s ak R Q E q => wpAny_Constant_bool (q _ _ (.refl _) (.bool b))

/-- a name of the text or of the builtins, with its value -/
def Cx.glb (C : Cx) (x : Str) (v : Value) : Prop := C.mg x = some v ∨ (C.mg x = .none ∧ C.mb x = some v)
theorem glb_at (F : fi.Ok) {A : Around} {hb Mo M m cv ad} {s : Shared} (R : Rel C hb Mo fi M m cv ad ℓ s) {x : Str} {v : Value} {Q : Value → Shared → Prop} {E : Value → Shared → Prop} (g : C.glb x v)
    (hx : fi.env.kindOf x = some .globalImplicit) (hd : (x == ("__debug__" : Str)) = false) (h : Q v s) : wpAny (model C.prog C.w) A (eval (.Name x pos) fi.env) Q E s := by
  refine Calls.Name_function_global F.fn hx ?_ hd
  have k := R.base0
  rcases g with g | ⟨g1, g2⟩
  · exact Calls.loadGlobal_global (mg := C.mg) (by rw [F.glob]; exact C.hmg.keeps k) g h
  · exact Calls.loadGlobal_builtin (mg := C.mg) (mb := C.mb) (by rw [F.glob]; exact C.hmg.keeps k) g1 (by rw [F.blt]; exact C.hmb.keeps k) g2 h
theorem EJ.glb (F : fi.Ok) {x : Str} {v : Value} {a : AV} (g : C.glb x v) (r : Rep C C.h₀ a v) (hx : fi.env.kindOf x = some .globalImplicit := by rfl) (hd : (x == ("__debug__" : Str)) = false := by decide) :
    EJ C n fi ℓ (.Name x pos) a := fun A hb Mo M m cv ad s ak R Q E q => glb_at F R g hx hd (q _ _ (.refl _) (r.mono R.glob))

theorem EJ.bin {l r : Expr} {op : Operator} {x y z : AV} (hl : EJ C n fi ℓ l x) (hr : EJ C n fi ℓ r y) (h : opBin op x y = some z) : EJ C n fi ℓ (.BinOp l op r pos) z :=
  fun A hb Mo M m cv ad s ak R Q E q => wpAny_BinOp (hl A hb Mo M m cv ad s ak R _ _ fun v s' g rx => hr A hb Mo M m cv ad s' ak (R.grow g) _ _ fun v' s'' g' ry =>
    bin_ok ak ((R.grow g).grow g').lt h (rx.mono (hid_grow g'.keep)) ry _ _ fun v'' s3 g'' rz => q _ _ (g.trans (g'.trans g'')) rz)
theorem EJ.neg {e : Expr} {i : Int} (he : EJ C n fi ℓ e (.int i)) : EJ C n fi ℓ (.UnaryOp .USub e pos) (.int (-i)) :=
  fun A hb Mo M m cv ad s ak R Q E q => wpAny_UnaryOp (he A hb Mo M m cv ad s ak R _ _ fun v s' g rx => by
    obtain ⟨t, rfl⟩ := rx.int_
    exact P.neg_int (q _ _ (g.trans (.toks _)) (.int _ _)))
theorem EJ.cmp {l r : Expr} {op : CmpOp} {x y z : AV} (hl : EJ C n fi ℓ l x) (hr : EJ C n fi ℓ r y) (h : opCmp op x y = some z) (hm : behindInMarks op r = false := by with_unfolding_all rfl) :
    EJ C n fi ℓ (.Compare l [op] [r] pos) z :=
  fun A hb Mo M m cv ad s ak R Q E q => wpAny_Compare1 (hl A hb Mo M m cv ad s ak R _ _ fun v s' g rx => hr A hb Mo M m cv ad s' ak (R.grow g) _ _ fun v' s'' g' ry =>
    cmp_ok ak h (rx.mono (hid_grow g'.keep)) ry _ _ fun v'' s3 g'' rz => q _ _ (g.trans (g'.trans g'')) (by obtain ⟨b, rfl, rfl⟩ := rz; exact .bool b)) hm
theorem EJ.ife {c a b : Expr} {t : Bool} {x : AV} (hc : BJ C n fi ℓ c t) (ha : t = true → EJ C n fi ℓ a x) (hb : t = false → EJ C n fi ℓ b x) : EJ C n fi ℓ (.IfExp c a b pos) x :=
  fun A hb' Mo M m cv ad s ak R Q E q => wpAny_IfExp (hc A hb' Mo M m cv ad s ak R _ _ fun v s' g rx => by
    subst rx
    cases v
    · exact hb rfl A hb' Mo M m cv ad s' ak (R.grow g) _ _ fun v' s'' g' r => q _ _ (g.trans g') r
    · exact ha rfl A hb' Mo M m cv ad s' ak (R.grow g) _ _ fun v' s'' g' r => q _ _ (g.trans g') r)
theorem EJ.idx {a b : Expr} {x y z : AV} (ha : EJ C n fi ℓ a x) (hb : EJ C n fi ℓ b y) (h : opIdx x y = some z) (hns : ∀ u v w p, b ≠ .Slice u v w p := by intro _ _ _ _ h; cases h) : EJ C n fi ℓ (.Subscript a b pos) z :=
  fun A hb' Mo M m cv ad s ak R Q E q => Subscript_ (ha A hb' Mo M m cv ad s ak R _ _ fun v s' g rx => hb A hb' Mo M m cv ad s' ak (R.grow g) _ _ fun v' s'' g' ry =>
    idx_tail ak h (rx.mono (hid_grow g'.keep)) ry hns _ _ fun v'' s3 g'' rz => q _ _ (g.trans (g'.trans g'')) rz)

inductive PJ (C : Cx) (n : Nat) (fi : Fi) (ℓ : List Slot) : Option Expr → Option Int → Prop
  | none : PJ C n fi ℓ Option.none Option.none
  | some {e : Expr} {i : Int} : EJ C n fi ℓ e (.int i) → PJ C n fi ℓ (Option.some e) (Option.some i)
theorem PJ.part {e : Option Expr} {o : Option Int} (h : PJ C n fi ℓ e o) {A : Around} {hb Mo M m cv ad} {s : Shared} (ak : AOk n A) (R : Rel C hb Mo fi M m cv ad ℓ s) : Ev C A (evalPart e fi.env) s (fun v s' => IsPart v o) := by
  cases h with
  | none => intro Q E q; rw [evalPart_none]; exact wpAny_pure (q _ _ (.refl _) .none)
  | some he => intro Q E q; rw [evalPart_some]; exact he A hb Mo M m cv ad s ak R _ _ fun v s' g rx => by obtain ⟨t, rfl⟩ := rx.int_; exact q _ _ g (.int _ _)

theorem EJ.slc {a : Expr} {lo hi : Option Expr} {x z : AV} {l u : Option Int} {p : Pos} (ha : EJ C n fi ℓ a x) (hl : PJ C n fi ℓ lo l) (hu : PJ C n fi ℓ hi u) (h : opSlc x l u = some z) :
    EJ C n fi ℓ (.Subscript a (.Slice lo hi Option.none p) pos) z :=
  fun A hb' Mo M m cv ad s ak R Q E q => Subscript_ (ha A hb' Mo M m cv ad s ak R _ _ fun v s' g rx => wpAny_Slice (hl.part ak (R.grow g) _ _ fun vl s1 g1 pl => hu.part ak ((R.grow g).grow g1) _ _ fun vu s2 g2 pu => by
    rw [evalPart_none]
    refine wpAny_pure ?_
    have g3 : Grow s2 { s2 with heap := s2.heap.push { cls := .type "slice", data := .fields #[vl, vu, .none] } } := .push _
    have R3 := (((R.grow g).grow g1).grow g2).grow g3
    exact slc_tail R3.lt h (rx.mono (hid_grow (g1.keep.trans (g2.keep.trans g3.keep)))) pl pu (Heap.get?_push_size _ rfl) _ _ fun v'' s4 g4 rz => q _ _ (g.trans (g1.trans (g2.trans (g3.trans g4)))) rz))

theorem LJ.nil : LJ C n fi ℓ [] [] := fun A hb Mo M m cv ad s pos ak R Q E q => args_nil (q _ _ (.refl _) .nil)
theorem LJ.cons {e : Expr} {es : List Expr} {a : AV} {l : List AV} (he : EJ C n fi ℓ e a) (hs : LJ C n fi ℓ es l) (hq : ∀ env, starEach (e :: es) env = (false, eval e env) :: starEach es env := by intro _; rfl) : LJ C n fi ℓ (e :: es) (a :: l) :=
  fun A hb Mo M m cv ad s pos ak R Q E q => args_cons (he A hb Mo M m cv ad s ak R _ _ fun v s' g rx => hs A hb Mo M m cv ad s' pos ak (R.grow g) _ _ fun vs s'' g' ry =>
    q _ _ (g.trans g') (.cons (rx.mono (hid_grow g'.keep)) ry)) (hq _)
theorem EJ.tup {es : List Expr} {l : List AV} (h : LJ C n fi ℓ es l) (hz : l.length ≤ sz := by decide) : EJ C n fi ℓ (.Tuple es k pos) (.tup l) :=
  fun A hb Mo M m cv ad s ak R Q E q => wpAny_Tuple_spliced (h A hb Mo M m cv ad s pos ak R _ _ fun vs s' g rl => ⟨by rw [← rl.length]; exact sz_le hz, q _ _ (g.trans (.push _)) (rep_tup (R.grow g).lt rl)⟩)
theorem EJ.lst {es : List Expr} {l : List AV} (h : LJ C n fi ℓ es l) (hz : l.length ≤ sz := by decide) : EJ C n fi ℓ (.List es pos) (.lst l) :=
  fun A hb Mo M m cv ad s ak R Q E q => wpAny_List_spliced (h A hb Mo M m cv ad s pos ak R _ _ fun vs s' g rl => ⟨by rw [← rl.length]; exact sz_le hz, q _ _ (g.trans (.push _)) (rep_list (R.grow g).lt rl)⟩)

/-! ## conditions -/
theorem BJ.val {e : Expr} {a : AV} {b : Bool} (h : EJ C n fi ℓ e a) (t : truth a = some b) (he : ∀ env whole, isTrue e env whole = (do let v ← whole; standAt e.pos; holding [v] (truthy v)) := by intro _ _; rfl) : BJ C n fi ℓ e b :=
  fun A hb Mo M m cv ad s ak R Q E q => isTrue_plain (h A hb Mo M m cv ad s ak R _ _ fun v s' g rx => truth_ok t rx _ _ fun c s'' g' e => q _ _ (g.trans g') e) (he _ _)
theorem BJ.not {e : Expr} {b : Bool} (h : BJ C n fi ℓ e b) : BJ C n fi ℓ (.UnaryOp .Not e pos) (!b) :=
  fun A hb Mo M m cv ad s ak R Q E q => isTrue_not (h A hb Mo M m cv ad s ak R _ _ fun v s' g e => q _ _ g (by rw [e]))
theorem BJ.cmp {l r : Expr} {op : CmpOp} {x y : AV} {b : Bool} (hl : EJ C n fi ℓ l x) (hr : EJ C n fi ℓ r y) (h : opCmp op x y = some (.bool b)) (hm : behindInMarks op r = false := by with_unfolding_all rfl) :
    BJ C n fi ℓ (.Compare l [op] [r] pos) b :=
  fun A hb Mo M m cv ad s ak R Q E q => wpAny_isTrue_Compare1 (hl A hb Mo M m cv ad s ak R _ _ fun v s' g rx => hr A hb Mo M m cv ad s' ak (R.grow g) _ _ fun v' s'' g' ry =>
    cmp_ok ak h (rx.mono (hid_grow g'.keep)) ry _ _ fun v'' s3 g'' rz => by
      obtain ⟨b', e, rfl⟩ := rz
      cases e
      exact wpAny_truthy_bool (q _ _ (g.trans (g'.trans g'')) rfl)) hm
theorem BJ.and_nil : BJ C n fi ℓ (.BoolOp .And [] pos) true := fun A hb Mo M m cv ad s ak R Q E q => isTrue_and_nil (q _ _ (.refl _) rfl)
theorem BJ.or_nil : BJ C n fi ℓ (.BoolOp .Or [] pos) false := fun A hb Mo M m cv ad s ak R Q E q => isTrue_or_nil (q _ _ (.refl _) rfl)
theorem BJ.and {e : Expr} {es : List Expr} {b c : Bool} (h : BJ C n fi ℓ e b) (hs : b = true → BJ C n fi ℓ (.BoolOp .And es pos) c) : BJ C n fi ℓ (.BoolOp .And (e :: es) pos) (b && c) :=
  fun A hb Mo M m cv ad s ak R Q E q => isTrue_and (h A hb Mo M m cv ad s ak R _ _ fun v s' g e => by
    subst e
    cases v
    · exact q _ _ g rfl
    · exact hs rfl A hb Mo M m cv ad s' ak (R.grow g) _ _ fun v' s'' g' e => q _ _ (g.trans g') e)
theorem BJ.or {e : Expr} {es : List Expr} {b c : Bool} (h : BJ C n fi ℓ e b) (hs : b = false → BJ C n fi ℓ (.BoolOp .Or es pos) c) : BJ C n fi ℓ (.BoolOp .Or (e :: es) pos) (b || c) :=
  fun A hb Mo M m cv ad s ak R Q E q => isTrue_or (h A hb Mo M m cv ad s ak R _ _ fun v s' g e => by
    subst e
    cases v
    · exact hs rfl A hb Mo M m cv ad s' ak (R.grow g) _ _ fun v' s'' g' e => q _ _ (g.trans g') e
    · exact q _ _ g rfl)
/-- a < b < c -/
theorem BJ.chain {l r r' : Expr} {op op' : CmpOp} {x y z : AV} {b c : Bool} (hl : EJ C n fi ℓ l x) (hr : EJ C n fi ℓ r y) (h : opCmp op x y = some (.bool b)) (hr' : EJ C n fi ℓ r' z) (h' : opCmp op' y z = some (.bool c))
    (hm : lastMarks [op, op'] [r, r'] = false := by with_unfolding_all rfl) :
    BJ C n fi ℓ (.Compare l [op, op'] [r, r'] pos) (b && c) :=
  fun A hb Mo M m cv ad s ak R Q E q => isTrue_chain (hl A hb Mo M m cv ad s ak R _ _ fun v s' g rx => test_link (hr A hb Mo M m cv ad s' ak (R.grow g) _ _ fun v' s'' g' ry =>
    cmp_ok ak h (rx.mono (hid_grow g'.keep)) ry _ _ fun v'' s3 g'' rz => by
      obtain ⟨b', e, rfl⟩ := rz
      cases e
      refine wpAny_truthy_bool ?_
      cases b
      · exact q _ _ (g.trans (g'.trans g'')) rfl
      · refine test_last (hr' A hb Mo M m cv ad s3 ak (((R.grow g).grow g').grow g'') _ _ fun v3 s4 g3 rz => cmp_ok ak h' (ry.mono (hid_grow (g''.keep.trans g3.keep))) rz _ _ fun v4 s5 g4 r4 => ?_)
        obtain ⟨b', e, rfl⟩ := r4
        cases e
        exact wpAny_truthy_bool (q _ _ (g.trans (g'.trans (g''.trans (g3.trans g4)))) rfl))) hm
end
end
section
variable {C : Cx}

inductive Out where
  | nxt (ℓ : List Slot)
  | brk (ℓ : List Slot)
  | cnt (ℓ : List Slot)
  | ret (a : AV)

structure Mv (s s' : Shared) : Prop where
  gens : ∀ (i : Nat) (g : GenState), s.gens[i]? = some g → s'.gens[i]? = some g
  bare : AllBare s.gens → AllBare s'.gens
  os : s'.os = s.os
theorem Mv.refl (s : Shared) : Mv s s := ⟨fun _ _ e => e, id, rfl⟩
theorem Mv.trans {a b c : Shared} (x : Mv a b) (y : Mv b c) : Mv a c := ⟨fun i g e => y.gens i g (x.gens i g e), fun q => y.bare (x.bare q), y.os.trans x.os⟩
theorem Grow.mv {s s' : Shared} (g : Grow s s') : Mv s s' := ⟨g.gens, g.bare, g.os⟩
theorem Mv.same {s s' : Shared} (e : s'.gens = s.gens) (o : s'.os = s.os) : Mv s s' := ⟨fun _ _ h => e ▸ h, fun h => e ▸ h, o⟩

def Here (C : Cx) (hb : Base) (Mo : List Addr) (fi : Fi) (ℓ : List Slot) (s : Shared) : Prop := ∃ M m cv ad, Rel C hb Mo fi M m cv ad ℓ s
structure Gone (C : Cx) (hb : Base) (Mo : List Addr) (a : AV) (v : Value) (s : Shared) : Prop where
  base : ∀ b o, hb b o → s.heap.get? b = some o
  base0 : Sub C.h₀ s.heap
  has : ∀ a ∈ Mo, ∃ o, s.heap.get? a = some o
  new0 : ∀ a ∈ Mo, C.h₀.get? a = none
  val : Rep C (hid s.heap Mo) a v
def After (C : Cx) (hb : Base) (Mo : List Addr) (fi : Fi) (s : Shared) : Out → Flow → Shared → Prop
  | .nxt ℓ, .next, s' => Mv s s' ∧ Here C hb Mo fi ℓ s'
  | .brk ℓ, .brk, s' => Mv s s' ∧ Here C hb Mo fi ℓ s'
  | .cnt ℓ, .cont, s' => Mv s s' ∧ Here C hb Mo fi ℓ s'
  | .ret a, .ret v, s' => Mv s s' ∧ Gone C hb Mo a v s'
  | _, _, _ => False
theorem After.from {hb Mo fi s s1 o f s'} (g : Mv s s1) (h : After C hb Mo fi s1 o f s') : After C hb Mo fi s o f s' := by
  cases o <;> cases f <;> first | exact h.elim | exact ⟨g.trans h.1, h.2⟩

def Own (fi : Fi) (Mo : List Addr) : Prop := fi.own = true → ∀ (i : Nat) x c, fi.vs[i]? = some (x, .cel c) → c ∉ Mo

def SW (C : Cx) (n : Nat) (fi : Fi) (st : List Stmt) (ℓ : List Slot) (F : Out → Prop) : Prop :=
  ∀ (A : Around) (hb : Base) (Mo M : List Addr) (m : Str → Option Value) (cv : Nat → Option Value) (ad : Nat → List Addr) (s : Shared), AOk n A → Own fi Mo → Rel C hb Mo fi M m cv ad ℓ s →
    ∀ (Q : Flow → Shared → Prop) (E : Value → Shared → Prop), (∀ o f s', F o → After C hb Mo fi s o f s' → Q f s') → wpAny (model C.prog C.w) A (execs st fi.env) Q E s
def S1 (C : Cx) (n : Nat) (fi : Fi) (st : Stmt) (ℓ : List Slot) (F : Out → Prop) : Prop :=
  ∀ (A : Around) (hb : Base) (Mo M : List Addr) (m : Str → Option Value) (cv : Nat → Option Value) (ad : Nat → List Addr) (s : Shared), AOk n A → Own fi Mo → Rel C hb Mo fi M m cv ad ℓ s →
    ∀ (Q : Flow → Shared → Prop) (E : Value → Shared → Prop), (∀ o f s', F o → After C hb Mo fi s o f s' → Q f s') → wpAny (model C.prog C.w) A (exec st fi.env) Q E s

def andThen (C : Cx) (n : Nat) (fi : Fi) (rest : List Stmt) (F : Out → Prop) : Out → Prop
  | .nxt ℓ => SW C n fi rest ℓ F
  | o => F o

section
variable {n : Nat} {fi : Fi} {ℓ : List Slot} {pos pos' : Pos} {k : Nat} {F : Out → Prop}

theorem SW.nil (h : F (.nxt ℓ)) : SW C n fi [] ℓ F := fun A hb Mo M m cv ad s ak ow R Q E q => wpAny_execs_nil (q _ _ _ h ⟨.refl _, _, _, _, _, R⟩)
theorem SW.cons {st : Stmt} {rest : List Stmt} (h : S1 C n fi st ℓ (andThen C n fi rest F)) : SW C n fi (st :: rest) ℓ F := fun A hb Mo M m cv ad s ak ow R Q E q =>
  wpAny_execs_cons (h A hb Mo M m cv ad s ak ow R _ _ fun o f s' ho af => by
    cases o with
    | nxt ℓ' =>
      cases f with
      | next =>
        obtain ⟨g, M', m', cv', ad', R'⟩ := af
        exact ho A hb Mo M' m' cv' ad' s' ak ow R' Q E fun o f s'' ho' af' => q o f s'' ho' (af'.from g)
      | brk => exact af.elim
      | cont => exact af.elim
      | ret v => exact af.elim
    | brk ℓ' => cases f <;> first | exact af.elim | exact q _ _ _ ho af
    | cnt ℓ' => cases f <;> first | exact af.elim | exact q _ _ _ ho af
    | ret a => cases f <;> first | exact af.elim | exact q _ _ _ ho af)
theorem SW.mono {st : List Stmt} {G : Out → Prop} (h : SW C n fi st ℓ F) (k : ∀ o, F o → G o) : SW C n fi st ℓ G := fun A hb Mo M m cv ad s ak ow R Q E q => h A hb Mo M m cv ad s ak ow R Q E fun o f s' ho af => q o f s' (k o ho) af
theorem S1.mono {st : Stmt} {G : Out → Prop} (h : S1 C n fi st ℓ F) (k : ∀ o, F o → G o) : S1 C n fi st ℓ G := fun A hb Mo M m cv ad s ak ow R Q E q => h A hb Mo M m cv ad s ak ow R Q E fun o f s' ho af => q o f s' (k o ho) af

theorem S1.ret {e : Expr} {a : AV} (he : EJ C n fi ℓ e a) (h : F (.ret a)) : S1 C n fi (.Return (some e) pos) ℓ F := fun A hb Mo M m cv ad s ak ow R Q E q =>
  wpAny_Return_some (he A hb Mo M m cv ad s ak R _ _ fun v s' g rx => q _ _ _ h ⟨g.mv, fun b o e => g.keep _ _ (R.base b o e), R.base0.trans g.keep, fun a ha => (R.grow g).has a (R.mO a ha), fun a ha => R.new0 a (R.mO a ha),
    rx.mono (hid_mono (fun _ _ _ e => e) R.mO)⟩)
theorem S1.brk (h : F (.brk ℓ)) : S1 C n fi (.Break pos) ℓ F := fun A hb Mo M m cv ad s ak ow R Q E q => wpAny_Break (q _ _ _ h ⟨.refl _, _, _, _, _, R⟩)
theorem S1.cnt (h : F (.cnt ℓ)) : S1 C n fi (.Continue pos) ℓ F := fun A hb Mo M m cv ad s ak ow R Q E q => wpAny_Continue (q _ _ _ h ⟨.refl _, _, _, _, _, R⟩)
theorem S1.pass (h : F (.nxt ℓ)) : S1 C n fi (.Pass pos) ℓ F := fun A hb Mo M m cv ad s ak ow R Q E q => wpAny_Pass (q _ _ _ h ⟨.refl _, _, _, _, _, R⟩)

theorem S1.ifs {c : Expr} {body orelse : List Stmt} {b : Bool} (hc : BJ C n fi ℓ c b) (ht : b = true → SW C n fi body ℓ F) (hf : b = false → SW C n fi orelse ℓ F) : S1 C n fi (.If c body orelse pos) ℓ F :=
  fun A hb Mo M m cv ad s ak ow R Q E q => wpAny_If (hc A hb Mo M m cv ad s ak R _ _ fun v s' g e => by
    subst e
    cases v
    · exact hf rfl A hb Mo M m cv ad s' ak ow (R.grow g) _ _ fun o f s'' ho af => q o f s'' ho (af.from g.mv)
    · exact ht rfl A hb Mo M m cv ad s' ak ow (R.grow g) _ _ fun o f s'' ho af => q o f s'' ho (af.from g.mv))

/-- a store of a value that stands for good -/
theorem store_fz (F' : fi.Ok) {A : Around} {hb Mo M m cv ad} {s : Shared} (R : Rel C hb Mo fi M m cv ad ℓ s) (ow : Own fi Mo) {i : Nat} {x : Str} {lo : Loc} (hlo : lo = .loc ∨ fi.own = true) {a : AV} {v : Value} {Q : Unit → Shared → Prop} {E : Value → Shared → Prop}
    (e : fi.vs[i]? = some (x, lo)) (rx : Rep C (hid s.heap M) a v) (q : ∀ s', Mv s s' → Here C hb Mo fi (ℓ.set i (.fz a)) s' → Q () s') : wpAny (model C.prog C.w) A (storeName fi.env x v) Q E s :=
  R.store F' e (fun c hc => hlo.elim (fun z => by rw [hc] at z; cases z) fun z => ow z i x c (hc ▸ e)) (.fz rx) .nil (fun b hb => nomatch hb) fun s' m' eg eo R' => q s' (.same eg eo) ⟨_, _, _, _, R'⟩

theorem S1.assign (F' : fi.Ok) {i : Nat} {x : Str} {lo : Loc} {e : Expr} {a : AV} (hi : fi.vs[i]? = some (x, lo)) (he : EJ C n fi ℓ e a) (h : F (.nxt (ℓ.set i (.fz a))))
    (hlo : lo = .loc ∨ fi.own = true := by first | exact .inl rfl | exact .inr rfl) (hs : swapsWith e (some (.Name x pos')) pos.line fi.env = pure false := by rfl) : S1 C n fi (.Assign [.Name x pos'] e pos) ℓ F := fun A hb Mo M m cv ad s ak ow R Q E q =>
  wpAny_Assign_Name (he A hb Mo M m cv ad s ak R _ _ fun v s' g rx => store_fz F' (R.grow g) ow hlo hi rx fun s'' g' hh => q _ _ _ h ⟨g.mv.trans g', hh⟩) hs

/-- an operation on a name in its place, on values that stand for good -/
theorem S1.aug (F' : fi.Ok) {i : Nat} {x : Str} {lo : Loc} {op : Operator} {e : Expr} {a b r : AV} (hi : fi.vs[i]? = some (x, lo)) (hv : ℓ[i]? = some (.fz a)) (he : EJ C n fi ℓ e b)
    (ho : ∀ (A : Around) (M : List Addr) (s : Shared) va vb, AOk n A → (∀ a ∈ M, a < s.heap.objs.size) → Rep C (hid s.heap M) a va → Rep C (hid s.heap M) b vb → Ev C A (inplaceOp op va vb) s (fun v s' => Rep C (hid s'.heap M) r v))
    (h : F (.nxt (ℓ.set i (.fz r)))) (hlo : lo = .loc ∨ fi.own = true := by first | exact .inl rfl | exact .inr rfl) : S1 C n fi (.AugAssign (.Name x pos') op e pos) ℓ F := fun A hb Mo M m cv ad s ak ow R Q E q => by
  have z := R.slot i _ hv
  generalize ez : cv i = w at z
  generalize ad i = ds at z
  cases z with
  | @fz _ va ra =>
    exact wpAny_AugAssign_Name (R.load F' hi ez (he A hb Mo M m cv ad s ak R _ _ fun vb s' g rb => ho A M s' va vb ak (R.grow g).lt (ra.mono (hid_grow g.keep)) rb _ _ fun v s'' g' rx =>
      store_fz F' ((R.grow g).grow g') ow hlo hi rx fun s3 g3 hh => q _ _ _ h ⟨g.mv.trans (g'.mv.trans g3), hh⟩))

/-! ## owned things -/
/-- an expression that makes a new list -/
def NJ (C : Cx) (n : Nat) (fi : Fi) (ℓ : List Slot) (e : Expr) (l : List AV) : Prop :=
  ∀ (A : Around) (hb : Base) (Mo M : List Addr) (m : Str → Option Value) (cv : Nat → Option Value) (ad : Nat → List Addr) (s : Shared), AOk n A → Rel C hb Mo fi M m cv ad ℓ s →
    Ev C A (eval e fi.env) s (fun v s' => ∃ a vs, v = .ref a ∧ s.heap.get? a = none ∧ ListAt s'.heap a vs ∧ RepL C (hid s'.heap (a :: M)) l vs)
theorem Sub.none {h h' : Heap} (k : Sub h h') {a : Addr} (e : h'.get? a = none) : h.get? a = none := by
  cases q : h.get? a with
  | none => rfl
  | some o => rw [k _ _ q] at e; cases e
theorem NJ.lst {es : List Expr} {l : List AV} (h : LJ C n fi ℓ es l) (hz : l.length ≤ sz := by decide) : NJ C n fi ℓ (.List es pos) l :=
  fun A hb Mo M m cv ad s ak R Q E q => wpAny_List_spliced (h A hb Mo M m cv ad s pos ak R _ _ fun vs s' g rl => ⟨by rw [← rl.length]; exact sz_le hz, q _ _ (g.trans (.push _)) ⟨_, vs, rfl, Sub.none g.keep get_new, ⟨0, Heap.get?_push_size _ rfl⟩, rl.mono hid_fresh⟩⟩)
theorem fresh_own {hb Mo M m cv ad} {s s' : Shared} (R : Rel C hb Mo fi M m cv ad ℓ s) (g : Grow s s') {a : Addr} (n : s.heap.get? a = none) :
    a ∉ Mo ∧ a ≠ fi.env.locals ∧ (∀ (j : Nat) y, fi.vs[j]? ≠ some (y, .cel a)) ∧ ∀ j, j < ℓ.length → a ∉ ad j := by
  have ne : ∀ b, b ∈ M → b ≠ a := fun b h z => by obtain ⟨o, e⟩ := R.has b h; rw [z, n] at e; cases e
  exact ⟨fun h => ne _ (R.mO _ h) rfl, fun h => ne _ R.mL.1 h.symm, fun j y h => ne _ (R.mC j y a h).1 rfl, fun j hj h => ne _ ((R.mA j hj).2 a h).1 rfl⟩
theorem hid_cons {h : Heap} {M : List Addr} {a : Addr} {s : Heap} (k : Sub s h) (n : s.get? a = Option.none) : Sub (hid s M) (hid h (a :: M)) := fun b x e => hid_get (k _ _ (hid_sub _ _ _ _ e)) fun q => by
  rcases List.mem_cons.mp q with rfl | q
  · rw [hid_sub _ _ _ _ e] at n; cases n
  · exact hid_not e q

theorem S1.own (F' : fi.Ok) {i : Nat} {x : Str} {lo : Loc} {e : Expr} {l : List AV} (hi : fi.vs[i]? = some (x, lo)) (he : NJ C n fi ℓ e l) (h : F (.nxt (ℓ.set i (.ol l))))
    (hlo : lo = .loc ∨ fi.own = true := by first | exact .inl rfl | exact .inr rfl) (hs : swapsWith e (some (.Name x pos')) pos.line fi.env = pure false := by rfl) : S1 C n fi (.Assign [.Name x pos'] e pos) ℓ F := fun A hb Mo M m cv ad s ak ow R Q E q =>
  wpAny_Assign_Name (he A hb Mo M m cv ad s ak R _ _ fun v s' g rx => by
    obtain ⟨a, vs, rfl, hn, la, rl⟩ := rx
    obtain ⟨o1, o2, o3, o4⟩ := fresh_own R g hn
    obtain ⟨n0, ea⟩ := id la
    exact (R.fresh g hn ⟨_, ea⟩).store F' hi (fun c hc => hlo.elim (fun z => by rw [hc] at z; cases z) fun z => ow z i x c (hc ▸ hi)) (.ol la rl) (by simp) (fun b hb => by
      rw [List.mem_singleton] at hb
      subst hb
      exact ⟨.head _, o1, o2, o3, fun j hj _ => o4 j hj⟩) fun s'' m' eg eo R' => q _ _ _ h ⟨g.mv.trans (.same eg eo), _, _, _, _, R'⟩) hs

/-- an owned list is handed on: it stands for good -/
theorem SW.freeze {st : List Stmt} {i : Nat} {l : List AV} (hv : ℓ[i]? = some (.ol l)) (h : SW C n fi st (ℓ.set i (.fz (.lst l))) F) : SW C n fi st ℓ F := fun A hb Mo M m cv ad s ak ow R Q E q => by
  have z := R.slot i _ hv
  have hi := (List.getElem?_eq_some_iff.mp hv).1
  generalize ez : cv i = w at z
  generalize ed : ad i = ds at z
  cases z with
  | @ol _ a vs la rl =>
    have ia := ((R.mA i hi).2 a (by rw [ed]; exact .head _)).1
    refine h A hb Mo _ m cv _ s ak ow (R.freeze hi ed ?_) Q E q
    rw [ez]
    obtain ⟨n0, e⟩ := la
    exact .fz (.lst ⟨n0, hid_get e fun q => by simpa using (List.mem_filter.mp q).2⟩ (rl.mono (hid_mono (fun _ _ _ e => e) fun b q => (List.mem_filter.mp q).1)))

theorem append_at {A : Around} {s : Shared} {l : Addr} {vs : List Value} {x : Value} {Q : Value → Shared → Prop} {E : Value → Shared → Prop}
    (hl : ListAt s.heap l vs) (hz : vs.length ≤ sizeLine) (hQ : ∀ h', ListAt h' l (vs ++ [x]) → Heap.SameBut l s.heap h' → Q .none { s with heap := h' }) :
    wpAny (model C.prog C.w) A (call (.builtin "list.append") [.ref l, x]) Q E s := by
  obtain ⟨n, ho⟩ := id hl
  refine wpAny_call_entry slot_list_append hl.isList.typeIs entry_list_append ?_ (args_list_append _ _)
  show wpAny _ _ (updateSeq l (·.push x) >>= fun _ => ret .none) _ _ s
  refine wpAny_bind ?_
  refine wpAny_updateSeq ho rfl (wpAny_pure ⟨.none, rfl, hQ _ ?_ (Heap.SameBut.update ..)⟩)
  have e := Heap.get?_update_self (Obj.mapSeq (·.push x)) ho rfl
  simp only [Obj.mapSeq, List.push_toArray] at e
  exact ⟨_, e⟩
/-- x.append(e) -/
theorem S1.append (F' : fi.Ok) {i : Nat} {x : Str} {lo : Loc} {e : Expr} {l : List AV} {a : AV} {p1 p2 p3 : Pos} (hi : fi.vs[i]? = some (x, lo)) (hv : ℓ[i]? = some (.ol l)) (he : EJ C n fi ℓ e a) (h : F (.nxt (ℓ.set i (.ol (l ++ [a])))))
    (hz : l.length ≤ sz) (hline : (p2.endLine == p3.line) = true := by rfl) (hstar : ∀ env, starEach [e] env = [(false, eval e env)] := by intro _; rfl)
    (hbase : ∀ env, attributeBase (.Name x p1) "append" env (eval (.Name x p1) env) = eval (.Name x p1) env := by intro _; rfl) (hint : ∀ env, env.scope.kind = .function → interactive env = false := by intro env h; unfold interactive; rw [h]; rfl) :
    S1 C n fi (.Expr (.Call (.Attribute (.Name x p1) "append" p2) [e] [] p3) pos) ℓ F := fun A hb Mo M m cv ad s ak ow R Q E q => by
  have z := R.slot i _ hv
  have hi' := (List.getElem?_eq_some_iff.mp hv).1
  generalize ez : cv i = w at z
  generalize ed : ad i = ds at z
  cases z with
  | @ol _ b vs la rl =>
    refine wpAny_Expr ?_ (hint _ F'.fn) rfl
    refine wpAny_Call_append (hbase _) (by rw [hstar]; rfl) hline (by rw [hstar]; rfl) (R.var F' hi ez ⟨b, vs.toArray, rfl, let ⟨n0, e0⟩ := la; ⟨_, n0, e0, rfl, rfl, rfl⟩, ?_⟩)
    refine he A hb Mo M m cv ad s ak R _ _ fun y s' g ry => ?_
    have R' := R.grow g
    have z' := R'.slot i _ hv
    rw [ez, ed] at z'
    cases z' with
    | @ol _ _ vs' la' rl' =>
    obtain ⟨n0, e0⟩ := la'
    refine append_at ⟨n0, e0⟩ (by rw [← rl'.length]; exact sz_le hz) fun h' hp hs => ?_
    have ia : b ∈ ad i := by rw [ed]; exact .head _
    refine q _ _ _ h ⟨g.mv.trans (.same rfl rfl), M, m, cv, ad, ?_⟩
    refine R'.turn (tk := s'.toks) hi' ia hs ?_
    rw [ez, ed]
    have k := hid_change ((R.mA i hi').2 b ia).1 hs
    exact .ol hp ((rl'.snoc ry).mono k)
end
end
section
variable {C : Cx}

section
variable {hb : Base} {Mo : List Addr} {fi : Fi} {M : List Addr} {m : Str → Option Value} {cv : Nat → Option Value} {ad : Nat → List Addr} {ℓ : List Slot} {s : Shared}
/-- what stands for good joins the base -/
theorem Rel.firm (R : Rel C hb Mo fi M m cv ad ℓ s) : Rel C (fun b x => hb b x ∨ (hid s.heap M).get? b = some x) Mo fi M m cv ad ℓ s :=
  { R with
    base := fun b x h => h.elim (R.base b x) (hid_sub _ _ b x)
    new := fun b h => (R.new b h).elim .inl fun q => .inr fun x z => z.elim (q x) fun y => hid_not y h }
theorem Rel.loose {H : Heap} (R : Rel C (fun b x => hb b x ∨ H.get? b = some x) Mo fi M m cv ad ℓ s) : Rel C hb Mo fi M m cv ad ℓ s :=
  R.back (fun _ _ h => .inl h) (fun _ h => h) fun b h => .inl h
theorem Rel.kept {H : Heap} (R : Rel C hb Mo fi M m cv ad ℓ s) (k : ∀ b x, H.get? b = some x → hb b x) (n : ∀ b ∈ Mo, H.get? b = none) : Sub H (hid s.heap M) := fun b x e =>
  hid_get (R.base b x (k b x e)) fun q => by
    rcases R.new b q with z | z
    · rw [n b z] at e; cases e
    · exact z x (k b x e)
theorem hid_none {h : Heap} {M : List Addr} {b : Addr} (q : b ∈ M) : (hid h M).get? b = none := hideAll_none M q
end

/-- the binding of a target -/
def TJ (C : Cx) (n : Nat) (fi : Fi) (tg : Expr) (a : AV) (ℓ ℓ' : List Slot) : Prop :=
  ∀ (A : Around) (hb : Base) (Mo M : List Addr) (m : Str → Option Value) (cv : Nat → Option Value) (ad : Nat → List Addr) (s : Shared) (v : Value), AOk n A → Own fi Mo → Rel C hb Mo fi M m cv ad ℓ s → Rep C (hid s.heap M) a v →
    ∀ (Q : Unit → Shared → Prop) (E : Value → Shared → Prop), (∀ s', Mv s s' → Here C hb Mo fi ℓ' s' → Q () s') → wpAny (model C.prog C.w) A (assign tg fi.env v) Q E s
def TL (C : Cx) (n : Nat) (fi : Fi) (tgs : List Expr) (l : List AV) (ℓ ℓ' : List Slot) : Prop :=
  ∀ (A : Around) (hb : Base) (Mo M : List Addr) (m : Str → Option Value) (cv : Nat → Option Value) (ad : Nat → List Addr) (s : Shared) (vs : List Value), AOk n A → Own fi Mo → Rel C hb Mo fi M m cv ad ℓ s → RepL C (hid s.heap M) l vs →
    ∀ (Q : Unit → Shared → Prop) (E : Value → Shared → Prop), (∀ s', Mv s s' → Here C hb Mo fi ℓ' s' → Q () s') → wpAny (model C.prog C.w) A (assignInOrder ((assignEach tgs fi.env).map (·.2)) vs) Q E s

section
variable {n : Nat} {fi : Fi} {ℓ ℓ' ℓ'' : List Slot} {pos pos' : Pos} {k : Nat} {F : Out → Prop}

theorem TJ.name (F' : fi.Ok) {i : Nat} {x : Str} {lo : Loc} {a : AV} (hi : fi.vs[i]? = some (x, lo)) (hlo : lo = .loc ∨ fi.own = true := by first | exact .inl rfl | exact .inr rfl) : TJ C n fi (.Name x pos) a ℓ (ℓ.set i (.fz a)) :=
  fun A hb Mo M m cv ad s v ak ow R rx Q E q => wpAny_assign_Name (store_fz F' R ow hlo hi rx q)
theorem TL.nil : TL C n fi [] [] ℓ ℓ := fun A hb Mo M m cv ad s vs ak ow R rx Q E q => wpAny_pure (q _ (.refl _) ⟨_, _, _, _, R⟩)
theorem TL.cons {t : Expr} {ts : List Expr} {a : AV} {l : List AV} (h : TJ C n fi t a ℓ ℓ') (hs : TL C n fi ts l ℓ' ℓ'') (hq : ∀ env, assignEach (t :: ts) env = (false, assign t env) :: assignEach ts env := by intro _; rfl) :
    TL C n fi (t :: ts) (a :: l) ℓ ℓ'' := fun A hb Mo M m cv ad s vs ak ow R rx Q E q => by
  cases rx with
  | @cons _ _ v vs rv rs =>
  rw [hq]
  refine assignInOrder_cons (h A _ Mo M m cv ad s v ak ow R.firm rv _ _ fun s' g hh => ?_)
  obtain ⟨M', m', cv', ad', R'⟩ := hh
  have kk : Sub (hid s.heap M) (hid s'.heap M') := R'.kept (fun b x e => .inr e) fun b hb => hid_none (R.mO b hb)
  exact hs A hb Mo M' m' cv' ad' s' vs ak ow R'.loose (rs.mono kk) _ _ fun s'' g' hh' => q s'' (g.trans g') hh'
theorem TJ.tup {ts : List Expr} {l : List AV} (h : TL C n fi ts l ℓ ℓ') (hn : ∀ env, (assignEach ts env).length = l.length := by intro _; rfl) (hstar : ∀ env, (assignEach ts env).findIdx? (·.1) = Option.none := by intro _; rfl) :
    TJ C n fi (.Tuple ts k pos) (.tup l) ℓ ℓ' := fun A hb Mo M m cv ad s v ak ow R rx Q E q => by
  obtain ⟨a, vs, rfl, ta, rl⟩ := rx.tup_
  refine assign_Tuple_tuple ak.handled (ta.mono (hid_sub _ _)).isTup (by rw [hn, List.size_toArray, rl.length]) (hstar _) fun h' he => ?_
  have g : Grow s { s with heap := h' } := .heap (n := s.toks) fun b o e => he b o (fun z => by rw [z, get_new] at e; cases e) e
  exact h A hb Mo M m cv ad _ vs ak ow (R.grow g) (rl.mono (hid_grow g.keep)) _ _ fun s' g' hh => q s' (g.mv.trans g') hh

/-- kind, one, two = e -/
theorem S1.unpack {ts : List Expr} {e : Expr} {a : AV} (he : EJ C n fi ℓ e a) (ht : TJ C n fi (.Tuple ts k pos') a ℓ ℓ') (h : F (.nxt ℓ'))
    (hs : swapsWithSole [.Tuple ts k pos'] e pos.line fi.env = pure false := by rfl) (hw : swappedStores [.Tuple ts k pos'] e fi.env = pure Option.none := by rfl) : S1 C n fi (.Assign [.Tuple ts k pos'] e pos) ℓ F :=
  fun A hb Mo M m cv ad s ak ow R Q E q => Assign_Tuple (he A hb Mo M m cv ad s ak R _ _ fun v s' g rx => ht A hb Mo M m cv ad s' v ak ow (R.grow g) rx _ _ fun s'' g' hh => q _ _ _ h ⟨g.mv.trans g', hh⟩) hs hw

def loopOut (P : List Slot → Prop) (F : Out → Prop) : Out → Prop
  | .nxt ℓ => P ℓ
  | .cnt ℓ => P ℓ
  | .brk ℓ => F (.nxt ℓ)
  | .ret a => F (.ret a)

theorem Gone.back {hb hb' : Base} {Mo Mo' : List Addr} {a : AV} {v : Value} {s : Shared} (g : Gone C hb' Mo' a v s) (hbs : ∀ b o, hb b o → hb' b o) (hMo : ∀ b ∈ Mo, b ∈ Mo') : Gone C hb Mo a v s where
  base := fun b o h => g.base b o (hbs b o h)
  base0 := g.base0
  has := fun b h => g.has b (hMo b h)
  new0 := fun b h => g.new0 b (hMo b h)
  val := g.val.mono (hid_mono (fun _ _ _ e => e) hMo)

theorem S1.for_ (F' : fi.Ok) {tg iter : Expr} {body : List Stmt} {a : AV} {l : List AV} (he : EJ C n fi ℓ iter a) (hl : items a = some l) (P : List AV → List Slot → Prop) (h0 : P l ℓ)
    (step : ∀ x rest ℓ, P (x :: rest) ℓ → ∃ ℓ', TJ C n fi tg x ℓ ℓ' ∧ SW C n fi body ℓ' (loopOut (P rest) F)) (fin : ∀ ℓ, P [] ℓ → F (.nxt ℓ))
    (hs : ∀ env x, foldedSetIterable iter env x = pure x := by intro _ _; rfl) : S1 C n fi (.For tg iter body [] pos) ℓ F := fun A hb Mo M m cv ad s ak ow R Q E q => by
  refine wpAny_For (he A hb Mo M m cv ad s ak R _ _ fun v s1 g1 rx => iter_ok hl rx fun I s2 g2 hI it => ?_) (hs fi.env)
  have R1 := R.grow g1
  obtain ⟨o0, T0, e0, _, _⟩ := it.tame
  have hInew := fun x => (show ¬ hb I x from fun z => by rw [R1.base I x z] at hI; cases hI)
  have hIMo : I ∉ Mo := fun z => by obtain ⟨o, e⟩ := R1.has I (R1.mO I z); rw [hI] at e; cases e
  have hIc : ∀ (i : Nat) x c, fi.vs[i]? = some (x, .cel c) → c ≠ I := fun i x c e z => by obtain ⟨o, e⟩ := R1.has c (R1.mC i x c e).1; rw [z, hI] at e; cases e
  have ow' : Own fi (I :: Mo) := fun w i x c e z => by
    rcases List.mem_cons.mp z with z | z
    · exact hIc i x c e z
    · exact ow w i x c e z
  generalize hH : hid s2.heap (I :: M) = H0 at it
  have H0Mo : ∀ b ∈ I :: Mo, H0.get? b = Option.none := fun b hb' => hH ▸ hid_none (by
    rcases List.mem_cons.mp hb' with rfl | z
    · exact .head _
    · exact .tail _ (R.mO b z))
  have R2 := (R1.around g2 hI e0).firm
  rw [hH] at R2
  have H0I : ∀ x, ¬ (hb I x ∨ H0.get? I = some x) := fun x z => z.elim (hInew x) fun y => by rw [H0Mo I (.head _)] at y; cases y
  have shuf : ∀ {o : Obj} {M' m' cv' ad' ℓ' s'}, Rel C (fun b x => (hb b x ∨ (b = I ∧ x = o)) ∨ H0.get? b = some x) (I :: Mo) fi M' m' cv' ad' ℓ' s' → Rel C (fun b x => (hb b x ∨ H0.get? b = some x) ∨ (b = I ∧ x = o)) (I :: Mo) fi M' m' cv' ad' ℓ' s' :=
    fun R => R.back (fun b x z => z.elim (fun y => y.elim (fun w => .inl (.inl w)) .inr) fun y => .inl (.inr y)) (fun _ h => h) fun b h => .inl h
  refine codeAny_forLoop_any (fun k s' => ∃ rest ℓ' M' m' cv' ad' o, k = rest.length ∧ Mv s s' ∧ P rest ℓ' ∧ Rel C (fun b x => (hb b x ∨ H0.get? b = some x) ∨ (b = I ∧ x = o)) (I :: Mo) fi M' m' cv' ad' ℓ' s' ∧ It C H0 I rest s'.heap)
    (fun k s' hk => ?_) l.length ⟨l, ℓ, _, m, cv, ad, o0, rfl, g1.mv.trans g2.mv, h0, shuf R2, it⟩
  obtain ⟨rest, ℓ', M', m', cv', ad', o, rfl, g', hP, R', it'⟩ := hk
  have sub' : Sub H0 (hid s'.heap M') := R'.kept (fun b x e => .inl (.inr e)) H0Mo
  cases rest with
  | nil =>
    refine it'.done ak.handled fun h' tk hk => wpAny_execs_nil ?_
    have R3 := (R'.drop (tk := tk) H0I hIMo hIc hk).loose
    exact q _ _ _ (fin _ hP) ⟨g'.trans (.same rfl rfl), _, _, _, _, R3⟩
  | cons x rest =>
    refine it'.next ak.handled fun v h' tk rv it3 hk => ?_
    obtain ⟨o3, T3, e3, _, _⟩ := it3.tame
    have R3 := R'.renew (tk := tk) H0I hIc hk e3
    refine letGo_tame it3.tame ?_
    obtain ⟨ℓ4, ht, hw⟩ := step x rest ℓ' hP
    have sub3 : Sub H0 (hid h' M') := R3.kept (fun b x e => .inl (.inr e)) H0Mo
    refine ht A _ (I :: Mo) M' m' cv' ad' _ v ak ow' R3 (rv.mono sub3) _ _ fun s4 g4 hh4 => ?_
    obtain ⟨M4, m4, cv4, ad4, R4⟩ := hh4
    refine hw A _ (I :: Mo) M4 m4 cv4 ad4 s4 ak ow' R4 _ _ fun oo f s5 ho af => ?_
    have gg : Mv s { s' with heap := h', toks := tk } := g'.trans (.same rfl rfl)
    have itat : ∀ {s5 : Shared} {M5 m5 cv5 ad5 ℓ5}, Rel C (fun b x => (hb b x ∨ H0.get? b = some x) ∨ (b = I ∧ x = o3)) (I :: Mo) fi M5 m5 cv5 ad5 ℓ5 s5 → It C H0 I rest s5.heap := fun R5 =>
      it3.frame (fun _ _ e => e) (fun o e => by rw [e3] at e; cases e; exact R5.base I o3 (.inr ⟨rfl, rfl⟩)) (sub3.trans (hid_sub _ _)) (fun b x e => R5.base b x (.inl (.inr e)))
    cases oo with
    | nxt ℓ5 =>
      cases f <;> first | exact af.elim | skip
      obtain ⟨g5, M5, m5, cv5, ad5, R5⟩ := af
      exact ⟨_, Nat.lt_succ_self _, rest, ℓ5, M5, m5, cv5, ad5, o3, rfl, gg.trans (g4.trans g5), ho, R5, itat R5⟩
    | cnt ℓ5 =>
      cases f <;> first | exact af.elim | skip
      obtain ⟨g5, M5, m5, cv5, ad5, R5⟩ := af
      exact ⟨_, Nat.lt_succ_self _, rest, ℓ5, M5, m5, cv5, ad5, o3, rfl, gg.trans (g4.trans g5), ho, R5, itat R5⟩
    | brk ℓ5 =>
      cases f <;> first | exact af.elim | skip
      obtain ⟨g5, M5, m5, cv5, ad5, R5⟩ := af
      refine q _ _ _ ho ⟨gg.trans (g4.trans g5), M5, m5, cv5, ad5, R5.back (fun b x z => .inl (.inl z)) (fun b h => .tail _ h) fun b h => ?_⟩
      rcases List.mem_cons.mp h with rfl | z
      · exact .inr hInew
      · exact .inl z
    | ret a =>
      cases f <;> first | exact af.elim | skip
      exact q _ _ _ ho ⟨gg.trans (g4.trans af.1), af.2.back (fun b x z => .inl (.inl z)) fun b h => .tail _ h⟩

theorem S1.while_ {c : Expr} {body : List Stmt} (P : Nat → List Slot → Prop) (k : Nat) (h0 : P k ℓ)
    (step : ∀ k ℓ, P k ℓ → ∃ b, BJ C n fi ℓ c b ∧ (b = true → SW C n fi body ℓ (loopOut (fun ℓ' => ∃ k', k' < k ∧ P k' ℓ') F)) ∧ (b = false → F (.nxt ℓ))) : S1 C n fi (.While c body [] pos) ℓ F := fun A hb Mo M m cv ad s ak ow R Q E q => by
  refine wpAny_While (codeAny_whileLoop (fun k s' => ∃ ℓ', Mv s s' ∧ P k ℓ' ∧ Here C hb Mo fi ℓ' s') (fun k s' hk => ?_) k ⟨ℓ, .refl _, h0, _, _, _, _, R⟩)
  obtain ⟨ℓ', g', hP, M', m', cv', ad', R'⟩ := hk
  obtain ⟨b, hc, ht, hf⟩ := step k ℓ' hP
  refine hc A hb Mo M' m' cv' ad' s' ak R' _ _ fun v s2 g2 e => ?_
  subst e
  cases v
  · exact wpAny_execs_nil (q _ _ _ (hf rfl) ⟨g'.trans g2.mv, _, _, _, _, R'.grow g2⟩)
  · refine ht rfl A hb Mo M' m' cv' ad' s2 ak ow (R'.grow g2) _ _ fun oo f s5 ho af => ?_
    cases oo with
    | nxt ℓ5 =>
      cases f <;> first | exact af.elim | skip
      obtain ⟨k', lt, hp⟩ := ho
      exact ⟨k', lt, ℓ5, g'.trans (g2.mv.trans af.1), hp, af.2⟩
    | cnt ℓ5 =>
      cases f <;> first | exact af.elim | skip
      obtain ⟨k', lt, hp⟩ := ho
      exact ⟨k', lt, ℓ5, g'.trans (g2.mv.trans af.1), hp, af.2⟩
    | brk ℓ5 =>
      cases f <;> first | exact af.elim | skip
      exact q _ _ _ ho ⟨g'.trans (g2.mv.trans af.1), af.2⟩
    | ret a =>
      cases f <;> first | exact af.elim | skip
      exact q _ _ _ ho ⟨g'.trans (g2.mv.trans af.1), af.2⟩
end
end
section
variable {C : Cx}

/-- a call that changes nothing that stood before -/
def CallJ (C : Cx) (n : Nat) (f : Value) (as : List AV) (r : AV) : Prop :=
  ∀ (A : Around) (M : List Addr) (s : Shared) (vs : List Value), AOk n A → Sub C.h₀ (hid s.heap M) → (∀ a ∈ M, ∃ o, s.heap.get? a = some o) → (∀ a ∈ M, C.h₀.get? a = none) → RepL C (hid s.heap M) as vs →
    Ev C A (call f vs) s (fun v s' => Rep C (hid s'.heap M) r v)
theorem AOk.less {n k : Nat} {A : Around} (a : AOk n A) (h : k ≤ n) : AOk k A := ⟨a.handled, by have := a.depth; omega, by have := a.units; omega⟩
theorem AOk.deep {n : Nat} {A : Around} {env : Env} (a : AOk (n + 1) A) : AOk n (A.deeper env) := ⟨a.handled, by have := a.depth; show A.depth + 1 + n ≤ 890; omega, by have := a.units; show A.units + 3 + 8 * n + 100 ≤ 9000; omega⟩
theorem CallJ.less {n k : Nat} {f : Value} {as : List AV} {r : AV} (h : CallJ C k f as r) (le : k ≤ n) : CallJ C n f as r := fun A M s vs ak => h A M s vs (ak.less le)

section
variable {n : Nat} {fi : Fi} {ℓ : List Slot} {pos p : Pos} {k : Nat}

/-- the arguments of a call, plain and at least one -/
theorem args_ok {e : Expr} {es : List Expr} {as : List AV} {A : Around} {hb Mo M m cv ad} {s : Shared} {f : Value} (ha : LJ C n fi ℓ (e :: es) as) (ak : AOk n A) (R : Rel C hb Mo fi M m cv ad ℓ s)
    (hq : ∀ env, starEach (e :: es) env = (false, eval e env) :: starEach es env) : Ev C A (evalArgs f true (backTo pos (starEach (e :: es) fi.env)) []) s (fun a s' => a.kw = [] ∧ RepL C (hid s'.heap M) as a.pos) := by
  intro Q E q
  have h := ha A hb Mo M m cv ad s pos ak R
  rw [hq] at h ⊢
  exact Calls.evalArgs_plain (h _ _ fun vs s' g r => q ⟨vs, []⟩ s' g ⟨rfl, r⟩)

theorem call_at {f : Value} {as : List AV} {r : AV} {A : Around} {hb Mo M m cv ad} {s : Shared} (h : CallJ C n f as r) (ak : AOk n A) (R : Rel C hb Mo fi M m cv ad ℓ s) {a : Args} (ha : a.kw = [] ∧ RepL C (hid s.heap M) as a.pos) :
    Ev C A (call f ([] ++ a.pos) a.kw) s (fun v s' => Rep C (hid s'.heap M) r v) := by
  rw [ha.1, List.nil_append]
  exact h A M s a.pos ak R.glob R.has R.new0 ha.2
theorem EJ.callF (F : fi.Ok) {x : Str} {a : Addr} {o : Obj} {fd : FuncData} {e : Expr} {es : List Expr} {as : List AV} {r : AV} (g : C.glb x (.ref a)) (ho : C.h₀.get? a = some o) (hd : o.data = .func fd) (ha : LJ C n fi ℓ (e :: es) as) (h : CallJ C n (.ref a) as r)
    (hx : fi.env.kindOf x = some .globalImplicit := by rfl) (hdbg : (x == ("__debug__" : Str)) = false := by decide) (hq : ∀ env, starEach (e :: es) env = (false, eval e env) :: starEach es env := by intro _; rfl) :
    EJ C n fi ℓ (.Call (.Name x p) (e :: es) [] pos) r := fun A hb Mo M m cv ad s ak R Q E q =>
  Call_ (glb_at F R g hx hdbg (Calls.callWith_function (args_ok ha ak R hq _ _ fun a s' g' ra => ⟨⟨(R.grow g').base0 _ _ ho, hd⟩, call_at h ak (R.grow g') ra _ _ fun v s'' g'' rv => q _ _ (g'.trans g'') rv⟩)))
theorem EJ.callB (F : fi.Ok) {x : Str} {id : String} {e : Expr} {es : List Expr} {as : List AV} {r : AV} (g : C.glb x (.builtin id)) (ha : LJ C n fi ℓ (e :: es) as) (h : CallJ C n (.builtin id) as r)
    (hx : fi.env.kindOf x = some .globalImplicit := by rfl) (hdbg : (x == ("__debug__" : Str)) = false := by decide) (hq : ∀ env, starEach (e :: es) env = (false, eval e env) :: starEach es env := by intro _; rfl)
    (hp : ∀ env pos, (backTo pos (starEach (e :: es) env)).any (·.1) = false := by intro _ _; rfl) :
    EJ C n fi ℓ (.Call (.Name x p) (e :: es) [] pos) r := fun A hb Mo M m cv ad s ak R Q E q =>
  Call_ (glb_at F R g hx hdbg (Calls.callWith_builtin (hp _ _) (args_ok ha ak R hq _ _ fun a s' g' ra => call_at h ak (R.grow g') ra _ _ fun v s'' g'' rv => q _ _ (g'.trans g'') rv)))
theorem EJ.callT (F : fi.Ok) {x : Str} {T : String} {e : Expr} {es : List Expr} {as : List AV} {r : AV} (g : C.glb x (.type T)) (ha : LJ C n fi ℓ (e :: es) as) (h : CallJ C n (.type T) as r)
    (hx : fi.env.kindOf x = some .globalImplicit := by rfl) (hdbg : (x == ("__debug__" : Str)) = false := by decide) (hq : ∀ env, starEach (e :: es) env = (false, eval e env) :: starEach es env := by intro _; rfl)
    (hp : ∀ env pos, (backTo pos (starEach (e :: es) env)).any (·.1) = false := by intro _ _; rfl) :
    EJ C n fi ℓ (.Call (.Name x p) (e :: es) [] pos) r := fun A hb Mo M m cv ad s ak R Q E q =>
  Call_ (glb_at F R g hx hdbg (PyProof.Rows.callWith_type (hp _ _) (args_ok ha ak R hq _ _ fun a s' g' ra => call_at h ak (R.grow g') ra _ _ fun v s'' g'' rv => q _ _ (g'.trans g'') rv)))
end

/-! ## the frame of a function of the text -/
def locOf (names : List (Str × NameKind)) (cl : List (Str × Addr)) (x : Str) : Loc := match names.lookup x with
  | some .cell => .cel ((cl.lookup x).getD 0)
  | _ => .loc
def fiOf (fd : FuncData) (L a : Addr) (xs : List Str) : Fi := { env := callEnvC fd L a, vs := xs.map fun x => (x, locOf fd.scope.names (cellsFrom (L + 1) fd.scope.names []) x) }

theorem cells_mem : ∀ (names : List (Str × NameKind)) (k : Nat) (acc : List (Str × Addr)) (x : Str), (names.lookup x = some .cell ∨ (acc.lookup x).isSome = true) → ((cellsFrom k names acc).lookup x).isSome = true
  | [], k, acc, x, h => by
    rcases h with h | h
    · cases h
    · exact h
  | (y, kd) :: r, k, acc, x, h => by
    unfold cellsFrom
    rw [List.lookup_cons] at h
    split
    · rename_i hk
      refine cells_mem r _ _ x ?_
      rw [List.lookup_cons]
      by_cases e : x = y
      · subst e; right; simp
      · have : (x == y) = false := by simpa using e
        rw [this] at h ⊢; exact h
    · rename_i hk
      refine cells_mem r _ _ x ?_
      by_cases e : x = y
      · subst e
        have e2 : (x == x) = true := by simp
        rw [e2] at h
        rcases h with h | h
        · simp only [Option.some.injEq] at h; subst h; exact absurd rfl hk
        · exact .inr h
      · have : (x == y) = false := by simpa using e
        rw [this] at h; exact h

theorem bindL_not {kd : Str → Option NameKind} : ∀ {bs : List (Str × Value)} {m : Str → Option Value} {x : Str}, x ∉ bs.map (·.1) → bindL kd bs m x = m x
  | [], _, _, _ => rfl
  | (y, v) :: r, m, x, h => by
    simp only [List.map_cons, List.mem_cons, not_or] at h
    unfold bindL
    rw [bindL_not h.2]
    split
    · exact if_neg h.1
    · rfl
theorem bindC_not {kd : Str → Option NameKind} : ∀ {bs : List (Str × Value)} {m : Str → Option Value} {x : Str}, x ∉ bs.map (·.1) → bindC kd bs m x = m x
  | [], _, _, _ => rfl
  | (y, v) :: r, m, x, h => by
    simp only [List.map_cons, List.mem_cons, not_or] at h
    unfold bindC
    rw [bindC_not h.2]
    split
    · rfl
    · exact if_neg h.1
theorem bind_at {kd : Str → Option NameKind} : ∀ {bs : List (Str × Value)} {m m' : Str → Option Value} {x : Str} {v : Value} {i : Nat}, (bs.map (·.1)).Nodup → bs[i]? = some (x, v) →
    (if kd x = some .local then bindL kd bs m x else bindC kd bs m' x) = some v
  | [], _, _, _, _, _, _, h => by simp at h
  | (y, w) :: r, m, m', x, v, 0, nd, h => by
    simp only [List.getElem?_cons_zero, Option.some.injEq, Prod.mk.injEq] at h
    obtain ⟨rfl, rfl⟩ := h
    have h1 : y ∉ r.map (·.1) := (List.nodup_cons.mp nd).1
    unfold bindL bindC
    by_cases q : kd y = some .local
    · simp only [if_pos q]; rw [bindL_not h1, if_pos rfl]
    · simp only [if_neg q]; rw [bindC_not h1, if_pos rfl]
  | (y, w) :: r, m, m', x, v, i + 1, nd, h => by
    simp only [List.getElem?_cons_succ] at h
    unfold bindL bindC
    exact bind_at (List.nodup_cons.mp nd).2 h

def unfz : Out → Option AV
  | .ret a => some a
  | .nxt _ => some .none
  | _ => none

/-- the frame of a function of the text, as its body begins -/
theorem frame_rel {a : Addr} {fd : FuncData} {ps xs : List Str} {as : List AV} {vs : List Value} {s s₁ : Shared} {M : List Addr} {L : Addr}
    (hgl : fd.globals = mainGlobals) (hbl : fd.builtins = builtinsNs) (hk : fd.scope.kind = .function) (len : as.length = ps.length)
    (nd : (ps ++ xs).Nodup) (hkind : ∀ x ∈ ps ++ xs, fd.scope.names.lookup x = some .local ∨ fd.scope.names.lookup x = some .cell) (hdbg : ∀ x ∈ ps ++ xs, (x == ("__debug__" : Str)) = false)
    (h0 : Sub C.h₀ (hid s.heap M)) (hM : ∀ a ∈ M, ∃ o, s.heap.get? a = some o) (hM0 : ∀ a ∈ M, C.h₀.get? a = none) (rl : RepL C (hid s.heap M) as vs) (hL : s.heap.objs.size = L)
    (I : InCallC s (callEnvC fd L a).locals (bindL (callEnvC fd L a).kindOf (ps.zip vs) fun _ => none) (callEnvC fd L a).cells (bindC (callEnvC fd L a).kindOf (ps.zip vs) fun _ => none) s₁) :
    (fiOf fd L a (ps ++ xs)).Ok ∧ Own (fiOf fd L a (ps ++ xs)) M ∧ Grow s s₁ ∧ s₁.gens = s.gens ∧
      ∃ M' m cv, Rel C (fun b x => s.heap.get? b = some x) M (fiOf fd L a (ps ++ xs)) M' m cv (fun _ => []) (as.map .fz ++ xs.map fun _ => .un) s₁ ∧ ∀ x, x ∉ ps → m x = none := by
  have lv : vs.length = ps.length := by rw [← rl.length, len]
  have k0 : Sub C.h₀ s.heap := h0.trans (hid_sub _ _)
  have hkd : ∀ x, (callEnvC fd L a).kindOf x = fd.scope.names.lookup x := fun _ => rfl
  have nm : ∀ (j : Nat) x lo, (fiOf fd L a (ps ++ xs)).vs[j]? = some (x, lo) → (ps ++ xs)[j]? = some x ∧ lo = locOf fd.scope.names (cellsFrom (L + 1) fd.scope.names []) x := fun j x lo e => by
    simp only [fiOf, List.getElem?_map, Option.map_eq_some_iff, Prod.mk.injEq] at e
    obtain ⟨y, e1, rfl, e2⟩ := e
    exact ⟨e1, e2.symm⟩
  have isloc : ∀ x ∈ ps ++ xs, locOf fd.scope.names (cellsFrom (L + 1) fd.scope.names []) x = .loc → fd.scope.names.lookup x = some .local := fun x hx e => by
    rcases hkind x hx with z | z
    · exact z
    · unfold locOf at e; rw [z] at e; cases e
  have iscel : ∀ x c, locOf fd.scope.names (cellsFrom (L + 1) fd.scope.names []) x = .cel c → fd.scope.names.lookup x = some .cell ∧ (cellsFrom (L + 1) fd.scope.names []).lookup x = some c := fun x c e => by
    unfold locOf at e
    split at e
    · rename_i z
      obtain ⟨d, hd⟩ := Option.isSome_iff_exists.mp (cells_mem fd.scope.names (L + 1) [] x (.inl z))
      rw [hd] at e
      cases e
      exact ⟨z, hd⟩
    · cases e
  have F : (fiOf fd L a (ps ++ xs)).Ok := {
    fn := hk
    glob := hgl
    blt := hbl
    loc := fun j x e => by obtain ⟨e1, e2⟩ := nm j x _ e; exact isloc x (List.mem_of_getElem? e1) e2.symm
    cel := fun j x c e => by obtain ⟨e1, e2⟩ := nm j x _ e; exact iscel x c e2.symm
    nd := by
      show ((List.map _ (ps ++ xs)).map _).Nodup
      rw [List.map_map]
      have : ((fun x : Str × Loc => x.1) ∘ fun x : Str => (x, locOf fd.scope.names (cellsFrom (L + 1) fd.scope.names []) x)) = id := rfl
      rw [this, List.map_id]
      exact nd
    dbg := fun p hp => by
      obtain ⟨j, e⟩ := List.getElem?_of_mem hp
      obtain ⟨e1, _⟩ := nm j p.1 p.2 e
      exact hdbg _ (List.mem_of_getElem? e1) }
  have Ic := I.cell
  have Ins := I.toInCall.ns
  have keep := I.toInCall.keep
  have fresh : ∀ b, L ≤ b → s.heap.get? b = none := fun b hb => by
    cases e : s.heap.get? b with
    | none => rfl
    | some o => exact absurd (hL ▸ Heap.lt_size e : b < L) (Nat.not_lt.mpr hb)
  obtain ⟨h1, tk, e1⟩ := I.toInCall.same
  have g : Grow s s₁ := by rw [e1]; exact .heap (n := tk) (by rw [e1] at keep; exact keep)
  have cmem : ∀ c, c ∈ (cellsFrom (L + 1) fd.scope.names []).map (·.2) → L < c := fun c hc => by
    obtain ⟨p, hp, rfl⟩ := List.mem_map.mp hc
    exact I.above p.1 p.2 hp
  -- the addresses that may change
  let M' : List Addr := L :: (((cellsFrom (L + 1) fd.scope.names []).filter fun p => ((cellsFrom (L + 1) fd.scope.names []).lookup p.1 == some p.2)).map (·.2) ++ M)
  have memM' : ∀ b, b ∈ M' → b = L ∨ (∃ y, (cellsFrom (L + 1) fd.scope.names []).lookup y = some b) ∨ b ∈ M := fun b hb => by
    rcases List.mem_cons.mp hb with e | hb
    · exact .inl e
    · rcases List.mem_append.mp hb with hb | hb
      · obtain ⟨p, hp, rfl⟩ := List.mem_map.mp hb
        obtain ⟨_, h2⟩ := List.mem_filter.mp hp
        exact .inr (.inl ⟨p.1, by simpa using h2⟩)
      · exact .inr (.inr hb)
  have cell_in : ∀ x c, (cellsFrom (L + 1) fd.scope.names []).lookup x = some c → c ∈ M' := fun x c e => by
    refine .tail _ (List.mem_append_left _ (List.mem_map.mpr ⟨(x, c), List.mem_filter.mpr ⟨mem_of_lookup e, ?_⟩, rfl⟩))
    simp [e]
  have newM : ∀ b ∈ M', b ∈ M ∨ s.heap.get? b = none := fun b hb => by
    rcases memM' b hb with rfl | ⟨y, hy⟩ | hb
    · exact .inr (fresh _ (Nat.le_refl _))
    · exact .inr (fresh _ (Nat.le_of_lt (cmem b (List.mem_map.mpr ⟨(y, b), mem_of_lookup hy, rfl⟩))))
    · exact .inl hb
  have subM : Sub (hid s.heap M) (hid s₁.heap M') := fun b o e => hid_get (keep _ _ (hid_sub _ _ _ _ e)) fun q => by
    rcases newM b q with z | z
    · exact hid_not e z
    · rw [hid_sub _ _ _ _ e] at z; cases z
  let cv : Nat → Option Value := fun j => match (ps ++ xs)[j]? with
    | some x => if fd.scope.names.lookup x = some .local then bindL (callEnvC fd L a).kindOf (ps.zip vs) (fun _ => none) x else bindC (callEnvC fd L a).kindOf (ps.zip vs) (fun _ => none) x
    | none => none
  have cvat : ∀ j x, (ps ++ xs)[j]? = some x → cv j = if fd.scope.names.lookup x = some .local then bindL (callEnvC fd L a).kindOf (ps.zip vs) (fun _ => none) x else bindC (callEnvC fd L a).kindOf (ps.zip vs) (fun _ => none) x :=
    fun j x e => by show (match (ps ++ xs)[j]? with | some x => _ | none => none) = _; rw [e]
  have R : Rel C (fun b x => s.heap.get? b = some x) M (fiOf fd L a (ps ++ xs)) M' _ cv (fun _ => []) (as.map .fz ++ xs.map fun _ => .un) s₁ := {
    base := keep
    len := by simp [fiOf, len]
    anon := fun b hb => nomatch hb
    ns := Ins
    loc := fun j x e => by
      obtain ⟨e1, e2⟩ := nm j x _ e
      rw [cvat j x e1, if_pos (isloc x (List.mem_of_getElem? e1) e2.symm)]
    cel := fun j x c e => by
      obtain ⟨e1, e2⟩ := nm j x _ e
      obtain ⟨z1, z2⟩ := iscel x c e2.symm
      rw [cvat j x e1, if_neg (by rw [z1]; decide)]
      exact Ic x c z2
    slot := fun j sl e => by
      by_cases hj : j < as.length
      · rw [List.getElem?_append_left (by simpa using hj)] at e
        simp only [List.getElem?_map, Option.map_eq_some_iff] at e
        obtain ⟨av, e1, rfl⟩ := e
        obtain ⟨v, e2, rv⟩ := rl.get e1
        have hjp : j < ps.length := by omega
        have e3 : (ps ++ xs)[j]? = some ps[j] := by rw [List.getElem?_append_left hjp]; exact List.getElem?_eq_getElem hjp
        have e4 : (ps.zip vs)[j]? = some (ps[j], v) := by rw [List.getElem?_zip_eq_some]; exact ⟨List.getElem?_eq_getElem hjp, e2⟩
        have e5 : cv j = some v := by
          rw [cvat j _ e3]
          refine bind_at (kd := fun x => fd.scope.names.lookup x) ?_ e4
          rw [List.map_fst_zip (by omega)]
          exact (List.nodup_append.mp nd).1
        rw [e5]
        exact .fz (rv.mono subM)
      · rw [List.getElem?_append_right (by simpa using hj)] at e
        simp only [List.getElem?_map, Option.map_eq_some_iff] at e
        obtain ⟨_, _, rfl⟩ := e
        exact .un
    mL := ⟨.head _, fun q => by obtain ⟨o, e⟩ := hM _ q; have e : s.heap.get? L = some o := e; rw [fresh _ (Nat.le_refl _)] at e; cases e⟩
    mC := fun j x c e => by
      obtain ⟨e1, e2⟩ := nm j x _ e
      obtain ⟨z1, z2⟩ := iscel x c e2.symm
      refine ⟨cell_in x c z2, Nat.ne_of_gt (cmem c (List.mem_map.mpr ⟨(x, c), mem_of_lookup z2, rfl⟩)), fun i y ey => ?_⟩
      obtain ⟨f1, f2⟩ := nm i y _ ey
      obtain ⟨_, w2⟩ := iscel y c f2.symm
      have : x = y := name_of_addr I.apart (mem_of_lookup z2) (mem_of_lookup w2)
      subst this
      exact (List.getElem?_inj (List.getElem?_eq_some_iff.mp f1).1 nd).mp (f1.trans e1.symm)
    mA := fun j _ => ⟨.nil, fun b hb => nomatch hb⟩
    mO := fun b hb => .tail _ (List.mem_append_right _ hb)
    new := fun b hb => (newM b hb).imp id fun z o e => by rw [z] at e; cases e
    has := fun b hb => by
      rcases memM' b hb with rfl | ⟨y, hy⟩ | hb
      · obtain ⟨o, _, _, e, _⟩ := Ins; exact ⟨o, e⟩
      · obtain ⟨o, e, _⟩ := Ic y b hy; exact ⟨o, e⟩
      · obtain ⟨o, e⟩ := hM b hb; exact ⟨o, keep _ _ e⟩
    base0 := k0.trans keep
    new0 := fun b hb => by
      rcases newM b hb with z | z
      · exact hM0 b z
      · exact Sub.none k0 z }
  have ow : Own (fiOf fd L a (ps ++ xs)) M := fun _ j x c e q => by
    obtain ⟨e1, e2⟩ := nm j x _ e
    obtain ⟨z1, z2⟩ := iscel x c e2.symm
    obtain ⟨o, e3⟩ := hM c q
    have := cmem c (List.mem_map.mpr ⟨(x, c), mem_of_lookup z2, rfl⟩)
    rw [fresh c (Nat.le_of_lt this)] at e3; cases e3
  exact ⟨F, ow, g, by rw [e1], M', _, cv, R, fun x hx => bindL_not fun q => hx (by rw [List.map_fst_zip (by omega)] at q; exact q)⟩

theorem call_start {n : Nat} {a : Addr} {o : Obj} {fd : FuncData} {body : List Stmt} {ps xs : List Str} {as : List AV} {A : Around} {M : List Addr} {s : Shared} {vs : List Value} {Q : Value → Shared → Prop} {E : Value → Shared → Prop}
    (ho : C.h₀.get? a = some o) (hd : o.data = .func fd) (hcd : C.h₀.CodeRec fd.code fd.qualname) (hbody : fd.body = .stmts body) (hclo : fd.closure = []) (hgl : fd.globals = mainGlobals) (hbl : fd.builtins = builtinsNs)
    (hco : fd.scope.isCoroutine = false) (hgen : fd.scope.isGenerator = false) (hk : fd.scope.kind = .function)
    (hbind : ∀ vs : List Value, vs.length = ps.length → bindArgs fd ⟨vs, []⟩ = pure (ps.zip vs)) (len : as.length = ps.length)
    (nd : (ps ++ xs).Nodup) (hkind : ∀ x ∈ ps ++ xs, fd.scope.names.lookup x = some .local ∨ fd.scope.names.lookup x = some .cell) (hdbg : ∀ x ∈ ps ++ xs, (x == ("__debug__" : Str)) = false)
    (ak : AOk (n + 1) A) (h0 : Sub C.h₀ (hid s.heap M)) (hM : ∀ a ∈ M, ∃ o, s.heap.get? a = some o) (hM0 : ∀ a ∈ M, C.h₀.get? a = none) (rl : RepL C (hid s.heap M) as vs)
    (h : ∀ L s₁ M' m cv, (fiOf fd L a (ps ++ xs)).Ok → Own (fiOf fd L a (ps ++ xs)) M → Grow s s₁ → s₁.gens = s.gens → AOk n (A.deeper (callEnvC fd L a)) →
      Rel C (fun b x => s.heap.get? b = some x) M (fiOf fd L a (ps ++ xs)) M' m cv (fun _ => []) (as.map .fz ++ xs.map fun _ => .un) s₁ →
      ∀ E', wpAny (model C.prog C.w) (A.deeper (callEnvC fd L a)) (execs body (callEnvC fd L a)) (fun f s' => Q (match f with | .ret v => v | _ => .none) s') E' s₁) :
    wpAny (model C.prog C.w) A (call (.ref a) vs) Q E s := by
  have lv : vs.length = ps.length := by rw [← rl.length, len]
  have ho' : s.heap.get? a = some o := hid_sub _ _ _ _ (h0 _ _ ho)
  have k0 : Sub C.h₀ s.heap := h0.trans (hid_sub _ _)
  refine wpAny_call (codeAny_call_cells ak.room ho' hd (C.nolim.keeps k0) (hcd.keeps k0) hbody (hbind vs lv) hclo (fun x hx => ?_) (fun s₁ I => ?_) hco hgen hk)
  · have hx' : x.1 ∈ ps ++ xs := List.mem_append_left _ ((List.of_mem_zip hx).1)
    rcases hkind _ hx' with z | z
    · exact .inl z
    · exact .inr ⟨z, cells_mem _ _ _ _ (.inl z)⟩
  · obtain ⟨F, ow, g, eg, M', m, cv, R, _⟩ := frame_rel (xs := xs) hgl hbl hk len nd hkind hdbg h0 hM hM0 rl rfl I
    exact h _ s₁ M' m cv F ow g eg ak.deep R _

theorem call_ok {n : Nat} {a : Addr} {o : Obj} {fd : FuncData} {body : List Stmt} {ps xs : List Str} {as : List AV} {r : AV}
    (ho : C.h₀.get? a = some o) (hd : o.data = .func fd) (hcd : C.h₀.CodeRec fd.code fd.qualname) (hbody : fd.body = .stmts body) (hclo : fd.closure = []) (hgl : fd.globals = mainGlobals) (hbl : fd.builtins = builtinsNs)
    (hco : fd.scope.isCoroutine = false) (hgen : fd.scope.isGenerator = false) (hk : fd.scope.kind = .function)
    (hbind : ∀ vs : List Value, vs.length = ps.length → bindArgs fd ⟨vs, []⟩ = pure (ps.zip vs)) (len : as.length = ps.length)
    (nd : (ps ++ xs).Nodup) (hkind : ∀ x ∈ ps ++ xs, fd.scope.names.lookup x = some .local ∨ fd.scope.names.lookup x = some .cell) (hdbg : ∀ x ∈ ps ++ xs, (x == ("__debug__" : Str)) = false)
    (h : ∀ L, (fiOf fd L a (ps ++ xs)).Ok → SW C n (fiOf fd L a (ps ++ xs)) body (as.map .fz ++ xs.map fun _ => .un) (fun o => unfz o = some r)) : CallJ C (n + 1) (.ref a) as r := by
  intro A M s vs ak h0 hM hM0 rl Q E q
  refine call_start ho hd hcd hbody hclo hgl hbl hco hgen hk hbind len nd hkind hdbg ak h0 hM hM0 rl fun L s₁ M' m cv F ow g eg ak' R E' => ?_
  refine h L F _ _ M M' m cv _ s₁ ak' ow R _ _ fun oo f s2 ho2 af => ?_
  cases oo with
  | nxt ℓ2 =>
    cases f <;> first | exact af.elim | skip
    simp only [unfz, Option.some.injEq] at ho2
    subst ho2
    obtain ⟨g2, M2, m2, cv2, ad2, R2⟩ := af
    exact q _ _ ⟨R2.base, (g.mv.trans g2).gens, (g.mv.trans g2).bare, (g.mv.trans g2).os⟩ .none
  | brk ℓ2 => simp [unfz] at ho2
  | cnt ℓ2 => simp [unfz] at ho2
  | ret b =>
    cases f <;> first | exact af.elim | skip
    simp only [unfz, Option.some.injEq] at ho2
    subst ho2
    obtain ⟨g2, G⟩ := af
    exact q _ _ ⟨G.base, (g.mv.trans g2).gens, (g.mv.trans g2).bare, (g.mv.trans g2).os⟩ G.val
end
section
variable {C : Cx}

def testsOf (ifs : List Expr) (env : Env) : Sem Bool := forIn ifs true fun c r => if r = true then do let ok ← isTrue c env (eval c env); pure (ForInStep.yield ok) else pure (ForInStep.yield r)
inductive IJ (C : Cx) (n : Nat) (fi : Fi) (ℓ : List Slot) : List Expr → Bool → Prop
  | nil : IJ C n fi ℓ [] true
  | one {c b} : BJ C n fi ℓ c b → IJ C n fi ℓ [c] b
theorem IJ.tests {n : Nat} {fi : Fi} {ℓ : List Slot} {ifs : List Expr} {b : Bool} (h : IJ C n fi ℓ ifs b) {A : Around} {hb Mo M m cv ad} {s : Shared} (ak : AOk n A) (R : Rel C hb Mo fi M m cv ad ℓ s) :
    Ev C A (testsOf ifs fi.env) s (fun c s' => c = b) := by
  intro Q E q
  cases h with
  | nil => exact wpAny_tests_nil (q _ _ (.refl _) rfl)
  | one hb' => exact wpAny_tests_one (hb' A hb Mo M m cv ad s ak R _ _ fun c s' g e => q _ _ g e)

/-- the loop of a comprehension at a depth, over what its iterator has yet to give -/
def LoopC (C : Cx) (n : Nat) (fi : Fi) (e : Expr) (d : Nat) (l : List AV) (ℓ : List Slot) (F : List Slot → Prop) : Prop :=
  ∀ (A : Around) (hb : Base) (Mo M : List Addr) (m : Str → Option Value) (cv : Nat → Option Value) (ad : Nat → List Addr) (s : Shared) (I D : Addr) (o : Obj) (H0 : Heap),
    AOk n A → Own fi (I :: Mo) → (∀ x, ¬ hb I x) → I ∉ Mo → (∀ (i : Nat) x c, fi.vs[i]? = some (x, .cel c) → c ≠ I) → (∀ b x, H0.get? b = some x → hb b x) → (∀ b ∈ I :: Mo, H0.get? b = none) →
    Rel C (fun b x => hb b x ∨ (b = I ∧ x = o)) (I :: Mo) fi M m cv ad ℓ s → It C H0 I l s.heap → fi.an = some D →
    ∀ R : Result → Shared → Prop, (∀ ℓ' s', F ℓ' → Mv s s' → Here C hb Mo fi ℓ' s' → R (.ok .next) s') → codeAny (model C.prog C.w) A (.compLoop e d (.ref I) (.ref D) fi.env) R s

section
variable {n : Nat} {fi : Fi} {ℓ : List Slot}

theorem append_anon {A : Around} {hb Mo M m cv ad} {s : Shared} (R : Rel C hb Mo fi M m cv ad ℓ s) {D : Addr} (hD : fi.an = some D) {l : List AV} {a : AV} {v : Value} {Q : Value → Shared → Prop} {E : Value → Shared → Prop}
    (hv : ℓ[fi.vs.length]? = some (.ol l)) (hz : l.length ≤ sz) (rv : Rep C (hid s.heap M) a v) (q : ∀ s', Mv s s' → Here C hb Mo fi (ℓ.set fi.vs.length (.ol (l ++ [a]))) s' → Q .none s') :
    wpAny (model C.prog C.w) A (call (.builtin "list.append") [.ref D, v]) Q E s := by
  have z := R.slot _ _ hv
  have hi' := (List.getElem?_eq_some_iff.mp hv).1
  have ez := R.anon D hD
  rw [ez] at z
  generalize ed : ad fi.vs.length = ds at z
  cases z with
  | @ol _ _ vs la rl =>
    refine append_at la (by rw [← rl.length]; exact sz_le hz) fun h' hp hs => ?_
    have ia : D ∈ ad fi.vs.length := by rw [ed]; exact .head _
    refine q _ (.same rfl rfl) ⟨M, m, cv, ad, R.turn (tk := s.toks) hi' ia hs ?_⟩
    rw [ez, ed]
    exact .ol hp ((rl.snoc rv).mono (hid_change ((R.mA _ hi').2 D ia).1 hs))

def emitOf (elt : Expr) (env : Env) (acc : Value) : Sem Unit := do let x ← eval elt env; let _ ← call (.builtin "list.append") [acc, x]

theorem LoopC.last {e elt tg : Expr} {d : Nat} {ifs : List Expr} {p : Pos} {l : List AV} {F : List Slot → Prop} (P : List AV → List Slot → Prop) (h0 : P l ℓ)
    (step : ∀ x rest ℓ, P (x :: rest) ℓ → ∃ ℓ1, TJ C n fi tg x ℓ ℓ1 ∧ ∃ b, IJ C n fi ℓ1 ifs b ∧ (b = true → ∃ a l, EJ C n fi ℓ1 elt a ∧ ℓ1[fi.vs.length]? = some (.ol l) ∧ l.length ≤ sz ∧ P rest (ℓ1.set fi.vs.length (.ol (l ++ [a])))) ∧ (b = false → P rest ℓ1))
    (fin : ∀ ℓ, P [] ℓ → F ℓ)
    (hturn : ∀ it acc env, compTurn e d it acc env = (do
      standAt p
      match ← pyNext it with
      | none => pure (.done .next)
      | some v =>
        letOwnedTupleGo tg it v
        assign tg env v
        let ok ← testsOf ifs env
        if ok then emitOf elt env acc
        again (.compLoop e d it acc env)) := by intro _ _ _; rfl)
    (hden : ∀ it acc env, Model.den (model C.prog C.w) (.compLoop e d it acc env) = (compTurn e d it acc env).onRaise (fun x => do noteFrame x env; theTreesLotGoes x) := by intro _ _ _; rfl)
    (hw : ∀ A it acc env, Around.under A (.compLoop e d it acc env) = A := by intro _ _ _ _; rfl) (hquiet : ∀ it acc env, (Code.compLoop e d it acc env).quiet = true := by intro _ _ _; rfl) :
    LoopC C n fi e d l ℓ F := by
  intro A hb Mo M m cv ad s I D o H0 ak ow hInew hIMo hIc hH0 H0Mo R0 it hD R q
  refine codeAny_loop (hquiet _ _ _) (fun k s' => ∃ rest ℓ' M' m' cv' ad' o, k = rest.length ∧ Mv s s' ∧ P rest ℓ' ∧ Rel C (fun b x => hb b x ∨ (b = I ∧ x = o)) (I :: Mo) fi M' m' cv' ad' ℓ' s' ∧ It C H0 I rest s'.heap)
    (fun k s' hk => ?_) l.length ⟨l, ℓ, M, m, cv, ad, o, rfl, .refl _, h0, R0, it⟩
  obtain ⟨rest, ℓ', M', m', cv', ad', o, rfl, g', hP, R', it'⟩ := hk
  rw [hw, hden, hturn]
  refine wpAny_noted (wpAny_bind (wpAny_standAt (wpAny_bind ?_)))
  cases rest with
  | nil =>
    exact it'.done ak.handled fun h' tk hk => wpAny_pure (q _ _ (fin _ hP) (g'.trans (.same rfl rfl)) ⟨_, _, _, _, R'.drop (tk := tk) hInew hIMo hIc hk⟩)
  | cons x rest =>
    refine it'.next ak.handled fun v h' tk rv it3 hk => ?_
    obtain ⟨o3, T3, e3, _, _⟩ := it3.tame
    have R3 := R'.renew (tk := tk) hInew hIc hk e3
    refine wpAny_bind (letGo_tame it3.tame ?_)
    obtain ⟨ℓ4, ht, b, hi, hT, hF⟩ := step x rest ℓ' hP
    have sub3 : Sub H0 (hid h' M') := R3.kept (fun b x e => .inl (hH0 b x e)) H0Mo
    refine wpAny_bind (ht A _ (I :: Mo) M' m' cv' ad' _ v ak ow R3 (rv.mono sub3) _ _ fun s4 g4 hh4 => ?_)
    obtain ⟨M4, m4, cv4, ad4, R4⟩ := hh4
    have itat : ∀ {s5 : Shared} {M5 m5 cv5 ad5 ℓ5}, Rel C (fun b x => hb b x ∨ (b = I ∧ x = o3)) (I :: Mo) fi M5 m5 cv5 ad5 ℓ5 s5 → It C H0 I rest s5.heap := fun R5 =>
      it3.frame (fun _ _ e => e) (fun o e => by rw [e3] at e; cases e; exact R5.base I o3 (.inr ⟨rfl, rfl⟩)) (sub3.trans (hid_sub _ _)) (fun b x e => R5.base b x (.inl (hH0 b x e)))
    refine wpAny_bind (hi.tests ak R4 _ _ fun c s5 g5 ec => ?_)
    subst ec
    have R5 := R4.grow g5
    have gg : Mv s s5 := g'.trans ((Mv.same rfl rfl : Mv s' { s' with heap := h', toks := tk }).trans (g4.trans g5.mv))
    cases c
    · exact wpAny_pure ⟨rfl, _, Nat.lt_succ_self _, rest, ℓ4, M4, m4, cv4, ad4, o3, rfl, gg, hF rfl, R5, itat R5⟩
    · obtain ⟨a, l', he, hv, hz, hP'⟩ := hT rfl
      refine wpAny_bind (wpAny_bind (he A _ (I :: Mo) M4 m4 cv4 ad4 s5 ak R5 _ _ fun y s6 g6 ry => wpAny_bind (append_anon (R5.grow g6) hD hv hz ry fun s7 g7 hh7 => ?_)))
      obtain ⟨M7, m7, cv7, ad7, R7⟩ := hh7
      exact wpAny_pure (wpAny_pure ⟨rfl, _, Nat.lt_succ_self _, rest, _, M7, m7, cv7, ad7, o3, rfl, gg.trans (g6.mv.trans g7), hP', R7, itat R7⟩)
end
end
section
variable {C : Cx}

def VOk (env : Env) : List (Str × Loc) → Prop
  | [] => True
  | (x, .loc) :: r => env.kindOf x = some .local ∧ (x == ("__debug__" : Str)) = false ∧ VOk env r
  | (x, .cel c) :: r => (env.kindOf x = some .cell ∧ env.cells.lookup x = some c) ∧ (x == ("__debug__" : Str)) = false ∧ VOk env r
theorem VOk.loc {env : Env} : ∀ {vs : List (Str × Loc)}, VOk env vs → ∀ (i : Nat) x, vs[i]? = some (x, .loc) → env.kindOf x = some .local
  | [], _, i, x, e => by simp at e
  | (y, .loc) :: r, h, 0, x, e => by simp at e; subst e; exact h.1
  | (y, .cel c) :: r, h, 0, x, e => by simp at e
  | (y, .loc) :: r, h, i + 1, x, e => VOk.loc h.2.2 i x (by simpa using e)
  | (y, .cel c) :: r, h, i + 1, x, e => VOk.loc h.2.2 i x (by simpa using e)
theorem VOk.cel {env : Env} : ∀ {vs : List (Str × Loc)}, VOk env vs → ∀ (i : Nat) x c, vs[i]? = some (x, .cel c) → env.kindOf x = some .cell ∧ env.cells.lookup x = some c
  | [], _, i, x, c, e => by simp at e
  | (y, .loc) :: r, h, 0, x, c, e => by simp at e
  | (y, .cel d) :: r, h, 0, x, c, e => by simp at e; obtain ⟨rfl, rfl⟩ := e; exact h.1
  | (y, .loc) :: r, h, i + 1, x, c, e => VOk.cel h.2.2 i x c (by simpa using e)
  | (y, .cel d) :: r, h, i + 1, x, c, e => VOk.cel h.2.2 i x c (by simpa using e)
theorem VOk.dbg {env : Env} : ∀ {vs : List (Str × Loc)}, VOk env vs → ∀ p ∈ vs, (p.1 == ("__debug__" : Str)) = false
  | [], _, p, h => nomatch h
  | (y, .loc) :: r, h, p, hp => by
    rcases List.mem_cons.mp hp with rfl | hp
    · exact h.2.1
    · exact VOk.dbg h.2.2 p hp
  | (y, .cel c) :: r, h, p, hp => by
    rcases List.mem_cons.mp hp with rfl | hp
    · exact h.2.1
    · exact VOk.dbg h.2.2 p hp
theorem Fi.Ok.of {fi : Fi} (h1 : fi.env.scope.kind = .function) (h2 : fi.env.globals = mainGlobals) (h3 : fi.env.builtins = builtinsNs) (h4 : VOk fi.env fi.vs) (h5 : (fi.vs.map (·.1)).Nodup) : fi.Ok :=
  ⟨h1, h2, h3, h4.loc, h4.cel, h5, h4.dbg⟩

/-- the frame of a comprehension: its own names, and what it sees of the frame around it (a name, its slot there, its cell) -/
def fiC (fi : Fi) (scope : Scope) (cl : List (Str × Addr)) (L D : Addr) (ls : List Str) (caps : List (Str × Nat × Addr)) : Fi :=
  { env := compEnvC scope cl L fi.env, vs := ls.map (fun x => (x, .loc)) ++ caps.map (fun p => (p.1, .cel p.2.2)), an := some D, own := false }
def slotsC (ℓ : List Slot) (ls : List Str) (caps : List (Str × Nat × Addr)) : List Slot := ls.map (fun _ => .un) ++ caps.map (fun p => (ℓ[p.2.1]?).getD .un) ++ [.ol []]
def CapOk (fi : Fi) (ℓ : List Slot) (caps : List (Str × Nat × Addr)) : Prop := ∀ p ∈ caps, fi.vs[p.2.1]? = some (p.1, .cel p.2.2) ∧ ∃ a, ℓ[p.2.1]? = some (.fz a)

section
variable {n : Nat} {fi : Fi} {ℓ : List Slot} {A : Around} {hb : Base} {Mo M : List Addr} {m : Str → Option Value} {cv : Nat → Option Value} {ad : Nat → List Addr} {s : Shared}

/-- what is known behind a comprehension, ahead of its frame's going -/
structure Made (C : Cx) (M : List Addr) (s : Shared) (r : List AV) (D L : Addr) (s' : Shared) : Prop where
  grow : Grow s s'
  freshD : s.heap.get? D = none
  freshL : s.heap.get? L = none
  at_ : ∃ vs, ListAt s'.heap D vs ∧ RepL C (hid s'.heap (L :: D :: M)) r vs
  frame : ∃ m, s'.heap.Ns L m
  ne : D ≠ L

theorem comp_core {elt tg iter : Expr} {ifs : List Expr} {rest : List Comprehension} {scope : Scope} {pos : Pos} {a : AV} {l r : List AV} {cl : List (Str × Addr)} {ls : List Str} {caps : List (Str × Nat × Addr)}
    (ak : AOk n A) (R : Rel C hb Mo fi M m cv ad ℓ s) (he : EJ C n fi ℓ iter a) (hl : items a = some l) (hcap : CapOk fi ℓ caps) (hcell : ∀ x ∈ scope.names, x.2 ≠ .cell) (hk : scope.kind = .function)
    (hFC : ∀ L D, (fiC fi scope cl L D ls caps).Ok)
    (hloop : ∀ L D, LoopC C n (fiC fi scope cl L D ls caps) (.ListComp elt (⟨tg, iter, ifs, 0⟩ :: rest) scope pos) 0 l (slotsC ℓ ls caps) (fun ℓ' => ℓ'[ls.length + caps.length]? = some (.ol r)))
    {RR : Value → Env → Result → Shared → Prop} {E : Value → Shared → Prop} (q : ∀ D L s' cenv, cenv.locals = L → Made C M s r D L s' → RR (.ref D) cenv (.ok .next) s') :
    wpAny (model C.prog C.w) A (eval iter fi.env) (fun x s₁ => wpAny (model C.prog C.w) A (pyIter x) (fun it s₂ => wpAny (model C.prog C.w) A (newList []) (fun acc s₃ =>
      wpAny (model C.prog C.w) A (newFunctionEnv scope fi.env.globals cl [] fi.env.qual none .none (some fi.env)) (fun cenv s₄ =>
        codeAny (model C.prog C.w) A (.compStart (.ListComp elt (⟨tg, iter, ifs, 0⟩ :: rest) scope pos) 0 it acc { cenv with scope := relabel scope fi.env }) (RR acc cenv) s₄) E s₃) E s₂) E s₁) E s := by
  refine he A hb Mo M m cv ad s ak R _ _ fun v s1 g1 rx => iter_ok hl rx fun I s2 g2 hI it => ?_
  have R1 := R.grow g1
  have R2 := R1.grow g2
  obtain ⟨o0, T0, e0, _, _⟩ := it.tame
  refine wpAny_newObj_type (wpAny_newFunctionEnv hcell (by intro y hy; simp at hy) (fun h₁ hns₁ hsb₁ => ?_) hk)
  dsimp only at hns₁ hsb₁ ⊢
  generalize hD : s2.heap.objs.size = D at hns₁ hsb₁ ⊢
  generalize hH2 : s2.heap.push { cls := .type "list", data := .seq ([] : List Value).toArray } = H2 at hns₁ hsb₁ ⊢
  generalize hL : H2.objs.size = L at hns₁ hsb₁ ⊢
  have hLD : L = D + 1 := by rw [← hL, ← hH2, Heap.size_push, hD]
  have freshD2 : s2.heap.get? D = none := hD ▸ get_new
  have freshL2 : s2.heap.get? L = none := by
    cases e : s2.heap.get? L with
    | none => rfl
    | some o => exact absurd (hD ▸ Heap.lt_size e : L < D) (hLD ▸ Nat.not_lt.mpr (Nat.le_succ D))
  have hDL : D ≠ L := hLD ▸ Nat.ne_of_lt (Nat.lt_succ_self D)
  have k2 : Sub s2.heap h₁ := fun b o e => by
    have hb1 : b ≠ L := fun z => by rw [z, freshL2] at e; cases e
    exact hsb₁.extBut b o hb1 (Heap.get?_push_of_some _ (hH2 ▸ Heap.get?_push_of_some _ e))
  have atD : h₁.get? D = some { cls := .type "list", data := .seq ([] : List Value).toArray } :=
    hsb₁.extBut _ _ hDL (Heap.get?_push_of_some _ (hH2 ▸ hD ▸ Heap.get?_push_size _ rfl))
  have g3 : Grow s2 { s2 with heap := h₁, toks := s2.toks + ([] : List (Str × Value)).length } := .heap k2
  generalize hs3 : ({ s2 with heap := h₁, toks := s2.toks + ([] : List (Str × Value)).length } : Shared) = s3 at g3 ⊢
  have hh3 : s3.heap = h₁ := by rw [← hs3]
  rw [← hh3] at hns₁ atD k2
  clear hsb₁
  have freshI : s.heap.get? I = none := Sub.none g1.keep hI
  generalize hH0 : hid s2.heap (I :: M) = H0 at it
  have H0sub : Sub H0 s2.heap := hH0 ▸ hid_sub _ _
  have H0Mo : ∀ b ∈ I :: M, H0.get? b = none := fun b hb' => hH0 ▸ hid_none hb'
  have old : ∀ b ∈ M, ∃ o, s1.heap.get? b = some o := R1.has
  have ne1 : ∀ {b c : Addr}, b ∈ M → s1.heap.get? c = none → b ≠ c := fun hb' hc z => by obtain ⟨o, e⟩ := old _ hb'; rw [z, hc] at e; cases e
  have freshD1 := Sub.none g2.keep freshD2
  have freshL1 := Sub.none g2.keep freshL2
  have hID : I ≠ D := fun z => by rw [z, freshD2] at e0; cases e0
  have hIL : I ≠ L := fun z => by rw [z, freshL2] at e0; cases e0
  have cvs : ∀ p ∈ caps, ∃ v a, cv p.2.1 = some v ∧ ℓ[p.2.1]? = some (.fz a) ∧ Rep C (hid s1.heap M) a v := fun p hp => by
    obtain ⟨e1, a, e2⟩ := hcap p hp
    have z := R1.slot _ _ e2
    generalize cv p.2.1 = w at z ⊢
    generalize ad p.2.1 = ds at z
    cases z with
    | fz r => exact ⟨_, a, rfl, e2, r⟩
  let fc := fiC fi scope cl L D ls caps
  let M' := L :: D :: I :: M
  let cv' : Nat → Option Value := fun i => if i < ls.length then none else if i < ls.length + caps.length then (match caps[i - ls.length]? with | some p => cv p.2.1 | none => none) else some (.ref D)
  let ad' : Nat → List Addr := fun i => if i = ls.length + caps.length then [D] else []
  have subM : Sub (hid s1.heap M) (hid s3.heap M') := fun b o e => hid_get (g3.keep _ _ (g2.keep _ _ (hid_sub _ _ _ _ e))) fun q => by
    have e' := hid_sub _ _ _ _ e
    rcases List.mem_cons.mp q with rfl | q
    · rw [freshL1] at e'; cases e'
    rcases List.mem_cons.mp q with rfl | q
    · rw [freshD1] at e'; cases e'
    rcases List.mem_cons.mp q with rfl | q
    · rw [hI] at e'; cases e'
    · exact hid_not e q
  have vlen : fc.vs.length = ls.length + caps.length := by simp [fc, fiC]
  have vloc : ∀ (i : Nat) x lo, fc.vs[i]? = some (x, lo) → (i < ls.length ∧ lo = .loc) ∨ (ls.length ≤ i ∧ ∃ p, caps[i - ls.length]? = some p ∧ x = p.1 ∧ lo = .cel p.2.2) := fun i x lo e => by
    by_cases hi : i < ls.length
    · left
      simp only [fc, fiC] at e
      rw [List.getElem?_append_left (by simpa using hi)] at e
      simp only [List.getElem?_map, Option.map_eq_some_iff, Prod.mk.injEq] at e
      obtain ⟨_, _, _, rfl⟩ := e
      exact ⟨hi, rfl⟩
    · right
      simp only [fc, fiC] at e
      rw [List.getElem?_append_right (by simpa using hi)] at e
      simp only [List.getElem?_map, Option.map_eq_some_iff, Prod.mk.injEq, List.length_map] at e
      obtain ⟨p, e1, rfl, rfl⟩ := e
      exact ⟨by omega, p, e1, rfl, rfl⟩
  have RC : Rel C (fun b x => (s1.heap.get? b = some x ∨ H0.get? b = some x) ∨ (b = I ∧ x = o0)) (I :: M) fc M' _ cv' ad' (slotsC ℓ ls caps) s3 := {
    base := fun b x h => by
      rcases h with (h | h) | ⟨rfl, rfl⟩
      · exact g3.keep _ _ (g2.keep _ _ h)
      · exact g3.keep _ _ (H0sub _ _ h)
      · exact g3.keep _ _ e0
    len := by rw [vlen]; simp [slotsC]
    anon := fun b hb' => by
      have : b = D := by simpa [fc, fiC, eq_comm] using hb'
      subst this
      rw [vlen]
      show (if _ then _ else if _ then _ else _) = _
      rw [if_neg (by omega), if_neg (by omega)]
    ns := hns₁
    loc := fun i x e => by
      rcases vloc i x _ e with ⟨hi, _⟩ | ⟨_, p, _, _, z⟩
      · show (if _ then _ else if _ then _ else _) = _
        rw [if_pos hi]; rfl
      · cases z
    cel := fun i x c e => by
      rcases vloc i x _ e with ⟨_, z⟩ | ⟨hi, p, ep, rfl, z⟩
      · cases z
      · cases z
        have hp := List.mem_of_getElem? ep
        have hlt := (List.getElem?_eq_some_iff.mp ep).1
        have ec : cv' i = cv p.2.1 := by
          show (if _ then _ else if _ then _ else _) = _
          rw [if_neg (by omega), if_pos (by omega), ep]
        rw [ec]
        exact ((R1.cel _ _ _ (hcap p hp).1).keeps g2.keep).keeps g3.keep
    slot := fun i sl e => by
      by_cases h1 : i < ls.length
      · unfold slotsC at e
        rw [List.append_assoc, List.getElem?_append_left (by simpa using h1)] at e
        simp only [List.getElem?_map, Option.map_eq_some_iff] at e
        obtain ⟨_, _, rfl⟩ := e
        have ea : ad' i = [] := by show (if _ then _ else _) = _; rw [if_neg (by omega)]
        rw [ea]; exact .un
      · by_cases h2 : i < ls.length + caps.length
        · unfold slotsC at e
          rw [List.getElem?_append_left (by simp; omega), List.getElem?_append_right (by simp; omega)] at e
          simp only [List.getElem?_map, Option.map_eq_some_iff, List.length_map] at e
          obtain ⟨p, ep, rfl⟩ := e
          have ec : cv' i = cv p.2.1 := by
            show (if _ then _ else if _ then _ else _) = _
            rw [if_neg h1, if_pos h2, ep]
          have ea : ad' i = [] := by show (if _ then _ else _) = _; rw [if_neg (by omega)]
          obtain ⟨v, a, e1, e2, rv⟩ := cvs p (List.mem_of_getElem? ep)
          rw [ec, ea, e1, e2]
          exact .fz (rv.mono subM)
        · have hlt := (List.getElem?_eq_some_iff.mp e).1
          have hi : i = ls.length + caps.length := by simp [slotsC] at hlt; omega
          subst hi
          unfold slotsC at e
          rw [List.getElem?_append_right (by simp)] at e
          simp at e
          subst e
          have ec : cv' (ls.length + caps.length) = some (.ref D) := by
            show (if _ then _ else if _ then _ else _) = _
            rw [if_neg h1, if_neg h2]
          have ea : ad' (ls.length + caps.length) = [D] := by show (if _ then _ else _) = _; rw [if_pos rfl]
          rw [ec, ea]
          exact .ol ⟨0, atD⟩ .nil
    mL := ⟨.head _, fun z => by
      show False
      have z : L ∈ I :: M := z
      rcases List.mem_cons.mp z with z | z
      · exact hIL z.symm
      · exact ne1 z freshL1 rfl⟩
    mC := fun i x c e => by
      rcases vloc i x _ e with ⟨_, z⟩ | ⟨hi, p, ep, rfl, z⟩
      · cases z
      · cases z
        have hp := List.mem_of_getElem? ep
        have hm := (R1.mC _ _ _ (hcap p hp).1)
        refine ⟨.tail _ (.tail _ (.tail _ hm.1)), ne1 hm.1 freshL1, fun j y ej => ?_⟩
        rcases vloc j y _ ej with ⟨_, z⟩ | ⟨hj, p', ep', rfl, z⟩
        · cases z
        · simp only [Loc.cel.injEq] at z
          have h2 := (hcap p' (List.mem_of_getElem? ep')).1
          rw [← z] at h2
          have := hm.2.2 _ _ h2
          have h3 : fi.vs[p.2.1]? = some (p.1, .cel p.2.2) := (hcap p hp).1
          rw [← this, h2] at h3
          have h4 : p'.1 = p.1 := by simp at h3; exact h3
          have nd := (hFC L D).nd
          have f1 : (fc.vs.map (·.1))[j]? = some p'.1 := by rw [List.getElem?_map, ej]; rfl
          have f2 : (fc.vs.map (·.1))[i]? = some p.1 := by rw [List.getElem?_map, e]; rfl
          rw [h4] at f1
          exact (List.getElem?_inj (List.getElem?_eq_some_iff.mp f1).1 nd).mp (f1.trans f2.symm)
    mA := fun i hi => by
      have adi : ∀ j, ad' j = if j = ls.length + caps.length then [D] else [] := fun _ => rfl
      rw [adi i]
      by_cases z : i = ls.length + caps.length
      · rw [if_pos z]
        refine ⟨by simp, fun b hb' => ?_⟩
        rw [List.mem_singleton] at hb'
        subst hb'
        refine ⟨.tail _ (.head _), fun w => ?_, ?_, fun j y ej => ?_, fun j _ hne => ?_⟩
        · rcases List.mem_cons.mp w with w | w
          · exact hID w.symm
          · exact ne1 w freshD1 rfl
        · exact hDL
        · rcases vloc j y _ ej with ⟨_, w⟩ | ⟨_, p, ep, _, w⟩
          · cases w
          · cases w
            exact ne1 (R1.mC _ _ _ (hcap p (List.mem_of_getElem? ep)).1).1 freshD1 rfl
        · rw [adi j, if_neg (by omega)]; simp
      · rw [if_neg z]; simp
    mO := fun b hb' => .tail _ (.tail _ hb')
    new := fun b hb' => by
      rcases List.mem_cons.mp hb' with rfl | hb'
      · right
        rintro o ((h | h) | ⟨h, _⟩)
        · rw [freshL1] at h; cases h
        · rw [H0sub _ _ h] at freshL2; cases freshL2
        · exact hIL h.symm
      rcases List.mem_cons.mp hb' with rfl | hb'
      · right
        rintro o ((h | h) | ⟨h, _⟩)
        · rw [freshD1] at h; cases h
        · rw [H0sub _ _ h] at freshD2; cases freshD2
        · exact hID h.symm
      · exact .inl hb'
    has := fun b hb' => by
      rcases List.mem_cons.mp hb' with rfl | hb'
      · obtain ⟨o, _, _, e, _⟩ := hns₁; exact ⟨o, e⟩
      rcases List.mem_cons.mp hb' with rfl | hb'
      · exact ⟨_, atD⟩
      rcases List.mem_cons.mp hb' with rfl | hb'
      · exact ⟨_, g3.keep _ _ e0⟩
      · obtain ⟨o, e⟩ := old _ hb'; exact ⟨o, g3.keep _ _ (g2.keep _ _ e)⟩
    base0 := (R2.grow g3).base0
    new0 := fun b hb' => by
      have k0 := R1.base0
      rcases List.mem_cons.mp hb' with rfl | hb'
      · exact Sub.none k0 freshL1
      rcases List.mem_cons.mp hb' with rfl | hb'
      · exact Sub.none k0 freshD1
      rcases List.mem_cons.mp hb' with rfl | hb'
      · exact Sub.none k0 hI
      · exact R.new0 b hb' }
  have itn : It C H0 I l s3.heap := it.frame (fun _ _ e => e) (fun o e => g3.keep _ _ e) H0sub (H0sub.trans g3.keep)
  have run : codeAny (model C.prog C.w) A (.compLoop (.ListComp elt (⟨tg, iter, ifs, 0⟩ :: rest) scope pos) 0 (.ref I) (.ref D) fc.env) (RR (.ref D) (newEnv scope L fi.env.globals cl fi.env.qual none .none (some fi.env) builtinsNs)) s3 := by
    refine hloop L D A (fun b x => s1.heap.get? b = some x ∨ H0.get? b = some x) M M' _ cv' ad' s3 I D o0 H0 ak (fun z => nomatch z) (fun x z => ?_) (fun z => ne1 z hI rfl) (fun i x c e => ?_) (fun b x e => .inr e) H0Mo RC itn rfl _ fun ℓ' s' hF g hh => ?_
    · rcases z with z | z
      · rw [hI] at z; cases z
      · rw [H0Mo I (.head _)] at z; cases z
    · rcases vloc i x _ e with ⟨_, w⟩ | ⟨_, p, ep, _, w⟩
      · cases w
      · cases w; exact ne1 (R1.mC _ _ _ (hcap p (List.mem_of_getElem? ep)).1).1 hI
    · obtain ⟨Mx, mx, cx, ax, RX⟩ := hh
      have z := RX.slot _ _ hF
      have ez : cx (ls.length + caps.length) = some (.ref D) := by have := RX.anon D rfl; rwa [vlen] at this
      rw [ez] at z
      have kx : Sub s1.heap s'.heap := fun b x e => RX.base b x (.inl e)
      have hi' : ls.length + caps.length < ℓ'.length := (List.getElem?_eq_some_iff.mp hF).1
      generalize ed : ax (ls.length + caps.length) = ds at z
      cases z with
      | @ol _ _ vs la rl =>
        have hDx := ((RX.mA _ hi').2 D (by rw [ed]; exact .head _)).1
        refine q D L s' _ rfl ⟨⟨g1.keep.trans kx, fun i g' e => g.gens i g' (g3.gens i g' (g2.gens i g' (g1.gens i g' e))), fun z => g.bare (g3.bare (g2.bare (g1.bare z))), g.os.trans (g3.os.trans (g2.os.trans g1.os))⟩,
          Sub.none g1.keep freshD1, Sub.none g1.keep freshL1, ⟨vs, la, rl.mono (hid_mono (fun _ _ _ e => e) fun b hb' => ?_)⟩, ⟨_, RX.ns⟩, hDL⟩
        rcases List.mem_cons.mp hb' with rfl | hb'
        · exact RX.mL.1
        rcases List.mem_cons.mp hb' with rfl | hb'
        · exact hDx
        · exact RX.mO b hb'
  have hself : ∀ {Q : Value → Shared → Prop} {E : Value → Shared → Prop}, Q (.ref I) s3 → wpAny (model C.prog C.w) A (pyIter (.ref I)) Q E s3 := fun h => by
    obtain ⟨fp, nn, i, P, St, x⟩ := itn
    exact (x.walk A ak.handled).self i s3 _ _ x.st h
  exact codeAny_compStart_list run (hself run)
end
end
section
variable {C : Cx}
section
variable {n : Nat} {fi : Fi} {ℓ : List Slot} {pos pos' : Pos} {F : Out → Prop}

/-- what a comprehension of a list asks -/
structure CompOk (C : Cx) (n : Nat) (fi : Fi) (ℓ : List Slot) (elt tg iter : Expr) (ifs : List Expr) (rest : List Comprehension) (scope : Scope) (pos : Pos) (r : List AV) : Prop where
  get : ∃ a l cl ls caps, EJ C n fi ℓ iter a ∧ items a = some l ∧ CapOk fi ℓ caps ∧ closureFor scope fi.env = pure cl ∧ (∀ L D, (fiC fi scope cl L D ls caps).Ok) ∧
    (∀ L D, LoopC C n (fiC fi scope cl L D ls caps) (.ListComp elt (⟨tg, iter, ifs, 0⟩ :: rest) scope pos) 0 l (slotsC ℓ ls caps) (fun ℓ' => ℓ'[ls.length + caps.length]? = some (.ol r)))
  cell : ∀ x ∈ scope.names, x.2 ≠ .cell
  kind : scope.kind = .function
  names : ∀ x ∈ scope.names, x.2 = .local → scope.names.lookup x.1 = some .local
  fold : ∀ env x, foldedSetIterable iter env x = pure x

theorem NJ.comp {elt tg iter : Expr} {ifs : List Expr} {rest : List Comprehension} {scope : Scope} {r : List AV} (h : CompOk C n fi ℓ elt tg iter ifs rest scope pos r) :
    NJ C n fi ℓ (.ListComp elt (⟨tg, iter, ifs, 0⟩ :: rest) scope pos) r := fun A hb Mo M m cv ad s ak R Q E q => by
  obtain ⟨a, l, cl, ls, caps, he, hl, hcap, hclos, hFC, hloop⟩ := h.get
  rw [eval_ListComp]
  refine wpAny_comprehension_free (use := none) rfl (h.fold _) hclos h.kind h.names ?_
  refine comp_core (RR := fun acc cenv => compPost (model C.prog C.w) A E none Q acc cenv.locals) ak R he hl hcap h.cell h.kind hFC hloop fun D L s' cenv hcL md => ?_
  obtain ⟨vs, la, rl⟩ := md.at_
  obtain ⟨mL, hns⟩ := md.frame
  refine ⟨mL, hcL ▸ hns, fun h' hs => ?_⟩
  rw [hcL] at hs
  have keep : Sub s.heap h' := fun b o e => hs.extBut b o (fun z => by rw [z, md.freshL] at e; cases e) (md.grow.keep _ _ e)
  refine q _ _ ⟨keep, md.grow.gens, md.grow.bare, md.grow.os⟩ ⟨D, vs, rfl, md.freshD, ?_, rl.mono (hid_mono (fun b o nb e => hs.extBut b o (fun z => nb (z ▸ .head _)) e) fun b hb' => .tail _ hb')⟩
  obtain ⟨n0, e0⟩ := la
  exact ⟨n0, hs.extBut _ _ md.ne e0⟩
theorem NJ.toEJ {e : Expr} {l : List AV} (h : NJ C n fi ℓ e l) : EJ C n fi ℓ e (.lst l) := fun A hb Mo M m cv ad s ak R Q E q => h A hb Mo M m cv ad s ak R Q E fun v s' g hv => by
  obtain ⟨a, vs, rfl, hn, ⟨n0, e0⟩, rl⟩ := hv
  refine q _ _ g (.lst ⟨n0, hid_get e0 fun z => ?_⟩ (rl.mono (hid_mono (fun _ _ _ e => e) fun b hb' => .tail _ hb')))
  obtain ⟨o, e⟩ := R.has a z
  rw [hn] at e; cases e
theorem EJ.comp {elt tg iter : Expr} {ifs : List Expr} {rest : List Comprehension} {scope : Scope} {r : List AV} (h : CompOk C n fi ℓ elt tg iter ifs rest scope pos r) :
    EJ C n fi ℓ (.ListComp elt (⟨tg, iter, ifs, 0⟩ :: rest) scope pos) (.lst r) := (NJ.comp h).toEJ

/-- x = [e for .. in ..] on one line -/
theorem S1.assignComp (F' : fi.Ok) {elt tg iter : Expr} {ifs : List Expr} {rest : List Comprehension} {scope : Scope} {r : List AV} {p : Pos} {i : Nat} {x : Str} {lo : Loc} (hi : fi.vs[i]? = some (x, lo))
    (h : CompOk C n fi ℓ elt tg iter ifs rest scope p r) (hF : F (.nxt (ℓ.set i (.fz (.lst r)))))
    (hlo : lo = .loc ∨ fi.own = true := by first | exact .inl rfl | exact .inr rfl)
    (hs : swapsWith (.ListComp elt (⟨tg, iter, ifs, 0⟩ :: rest) scope p) (some (.Name x pos')) pos.line fi.env = pure true := by rfl) :
    S1 C n fi (.Assign [.Name x pos'] (.ListComp elt (⟨tg, iter, ifs, 0⟩ :: rest) scope p) pos) ℓ F := fun A hb Mo M m cv ad s ak ow R Q E q => by
  obtain ⟨a, l, cl, ls, caps, he, hl, hcap, hclos, hFC, hloop⟩ := h.get
  rw [exec_Assign_Name_used _ _ _ _ hs]
  refine wpAny_bind (wpAny_standAt (wpAny_bind ?_))
  show wpAny _ A (do let _ ← comprehension (.ListComp elt (⟨tg, iter, ifs, 0⟩ :: rest) scope p) scope fi.env _ (newList []) false (eval iter fi.env) (some (PySem.assign (.Name x pos') fi.env))) _ _ s
  refine wpAny_bind (wpAny_mono (wpAny_comprehension_free (use := some (PySem.assign (.Name x pos') fi.env)) (Q := fun _ s' => Q .next s') rfl (h.fold _) hclos h.kind h.names ?_) (fun _ s' hq => wpAny_pure (wpAny_pure hq)) fun _ _ e => e)
  refine comp_core (RR := fun acc cenv => compPost (model C.prog C.w) A E (some (PySem.assign (.Name x pos') fi.env)) (fun _ s' => Q .next s') acc cenv.locals) ak R he hl hcap h.cell h.kind hFC hloop fun D L s' cenv hcL md => ?_
  obtain ⟨vs, la, rl⟩ := md.at_
  obtain ⟨mL, oL, es, ep, eL, rL⟩ := md.frame
  have neM : ∀ b, b ∈ M → ∀ c, s.heap.get? c = none → b ≠ c := fun b hb' c hc z => by obtain ⟨o, e⟩ := R.has b hb'; rw [z, hc] at e; cases e
  have R' := R.around md.grow md.freshL eL
  have hLn : ∀ x, ¬ hb L x := fun x z => by have e := R.base _ _ z; rw [md.freshL] at e; cases e
  have hLMo : L ∉ Mo := fun z => neM _ (R.mO _ z) _ md.freshL rfl
  have hLc : ∀ (i : Nat) x c, fi.vs[i]? = some (x, .cel c) → c ≠ L := fun i x c e => neM _ (R.mC i x c e).1 _ md.freshL
  have ow' : Own fi (L :: Mo) := fun w i x c e z => by
    rcases List.mem_cons.mp z with z | z
    · exact hLc i x c e z
    · exact ow w i x c e z
  have rep : Rep C (hid s'.heap (L :: M)) (.lst r) (.ref D) := by
    obtain ⟨n0, e0⟩ := la
    refine .lst ⟨n0, hid_get e0 fun z => ?_⟩ (rl.mono (hid_mono (fun _ _ _ e => e) fun b hb' => ?_))
    · rcases List.mem_cons.mp z with z | z
      · exact md.ne z
      · exact neM _ z _ md.freshD rfl
    · rcases List.mem_cons.mp hb' with z | z
      · exact z ▸ .head _
      · exact .tail _ (.tail _ z)
  show wpAny _ A (PySem.assign (.Name x pos') fi.env (.ref D)) _ _ s'
  refine wpAny_assign_Name (store_fz F' R' ow' hlo hi rep fun s'' g'' hh => ?_)
  obtain ⟨M2, m2, cv2, ad2, R2⟩ := hh
  rw [hcL]
  refine ⟨mL, ⟨oL, es, ep, R2.base L oL (.inr ⟨rfl, rfl⟩), rL⟩, fun h' hs' => ?_⟩
  have R3 := R2.drop (h' := h') (tk := s''.toks) hLn hLMo hLc fun b o ne e => hs'.extBut b o ne e
  exact q _ _ _ hF ⟨md.grow.mv.trans (g''.trans (.same rfl rfl)), _, _, _, _, R3⟩

/-- a comprehension over one clause gives what its items give -/
theorem LoopC.fmap {e elt tg : Expr} {ifs : List Expr} {p : Pos} {d k : Nat} {cs vs0 : List Slot} {b : AV → List Slot} {g : AV → Option AV} {l : List AV} (hvs : fi.vs.length = k + cs.length) (h0 : vs0.length = k) (hz : l.length ≤ sz)
    (hstep : ∀ a ∈ l, ∀ vs acc, vs.length = k → (b a).length = k ∧ TJ C n fi tg a (vs ++ cs ++ [.ol acc]) (b a ++ cs ++ [.ol acc]) ∧
      ∃ t, IJ C n fi (b a ++ cs ++ [.ol acc]) ifs t ∧ (t = true → ∃ r, EJ C n fi (b a ++ cs ++ [.ol acc]) elt r ∧ g a = some r) ∧ (t = false → g a = none))
    (hturn : ∀ it acc env, compTurn e d it acc env = (do
      standAt p
      match ← pyNext it with
      | none => pure (.done .next)
      | some v =>
        letOwnedTupleGo tg it v
        PySem.assign tg env v
        let ok ← testsOf ifs env
        if ok then emitOf elt env acc
        again (.compLoop e d it acc env)) := by intro _ _ _; rfl)
    (hden : ∀ it acc env, Model.den (model C.prog C.w) (.compLoop e d it acc env) = (compTurn e d it acc env).onRaise (fun x => do noteFrame x env; theTreesLotGoes x) := by intro _ _ _; rfl)
    (hw : ∀ A it acc env, Around.under A (.compLoop e d it acc env) = A := by intro _ _ _ _; rfl) (hquiet : ∀ it acc env, (Code.compLoop e d it acc env).quiet = true := by intro _ _ _; rfl) :
    LoopC C n fi e d l (vs0 ++ cs ++ [.ol []]) (fun ℓ' => ℓ'[k + cs.length]? = some (.ol (l.filterMap g))) := by
  refine LoopC.last (fun rest ℓ' => ∃ done vs, l = done ++ rest ∧ vs.length = k ∧ ℓ' = vs ++ cs ++ [.ol (done.filterMap g)]) ⟨[], vs0, rfl, h0, rfl⟩ (fun x rest ℓ' hP => ?_) (fun ℓ' hP => ?_) hturn hden hw hquiet
  · obtain ⟨done, vs, hl, hk, rfl⟩ := hP
    obtain ⟨hb, ht, t, hi, h1, h2⟩ := hstep x (by rw [hl]; simp) vs (done.filterMap g) hk
    have at_ : (b x ++ cs ++ [Slot.ol (done.filterMap g)])[fi.vs.length]? = some (.ol (done.filterMap g)) := by
      rw [hvs, List.getElem?_append_right (by simp [hb])]; simp [hb]
    refine ⟨_, ht, t, hi, fun e1 => ?_, fun e1 => ⟨done ++ [x], b x, by rw [hl]; simp, hb, ?_⟩⟩
    · obtain ⟨r, he, hr⟩ := h1 e1
      refine ⟨r, done.filterMap g, he, at_, Nat.le_trans (List.length_filterMap_le _ _) (Nat.le_trans (by rw [hl]; simp) hz), done ++ [x], b x, by rw [hl]; simp, hb, ?_⟩
      rw [hvs, List.set_append_right _ _ (by simp [hb])]
      simp [hb, hr]
    · simp [h2 e1]
  · obtain ⟨done, vs, hl, hk, rfl⟩ := hP
    rw [List.append_nil] at hl
    subst hl
    rw [List.getElem?_append_right (by simp [hk])]; simp [hk]
theorem LoopC.map {e elt tg : Expr} {p : Pos} {d k : Nat} {cs vs0 : List Slot} {b : AV → List Slot} {f : AV → AV} {l : List AV} (hvs : fi.vs.length = k + cs.length) (h0 : vs0.length = k) (hz : l.length ≤ sz)
    (hstep : ∀ a ∈ l, ∀ vs acc, vs.length = k → (b a).length = k ∧ TJ C n fi tg a (vs ++ cs ++ [.ol acc]) (b a ++ cs ++ [.ol acc]) ∧ EJ C n fi (b a ++ cs ++ [.ol acc]) elt (f a))
    (hturn : ∀ it acc env, compTurn e d it acc env = (do
      standAt p
      match ← pyNext it with
      | none => pure (.done .next)
      | some v =>
        letOwnedTupleGo tg it v
        PySem.assign tg env v
        let ok ← testsOf [] env
        if ok then emitOf elt env acc
        again (.compLoop e d it acc env)) := by intro _ _ _; rfl)
    (hden : ∀ it acc env, Model.den (model C.prog C.w) (.compLoop e d it acc env) = (compTurn e d it acc env).onRaise (fun x => do noteFrame x env; theTreesLotGoes x) := by intro _ _ _; rfl)
    (hw : ∀ A it acc env, Around.under A (.compLoop e d it acc env) = A := by intro _ _ _ _; rfl) (hquiet : ∀ it acc env, (Code.compLoop e d it acc env).quiet = true := by intro _ _ _; rfl) :
    LoopC C n fi e d l (vs0 ++ cs ++ [.ol []]) (fun ℓ' => ℓ'[k + cs.length]? = some (.ol (l.map f))) := by
  have := LoopC.fmap (C := C) (n := n) (fi := fi) (e := e) (elt := elt) (tg := tg) (ifs := []) (p := p) (d := d) (k := k) (cs := cs) (vs0 := vs0) (b := b) (g := fun a => some (f a)) (l := l) hvs h0 hz
    (fun a ha vs acc hv => ⟨(hstep a ha vs acc hv).1, (hstep a ha vs acc hv).2.1, true, .nil, fun _ => ⟨_, (hstep a ha vs acc hv).2.2, rfl⟩, fun h => nomatch h⟩) hturn hden hw hquiet
  simpa [List.filterMap_eq_map] using this

abbrev capSlots (ℓ : List Slot) (caps : List (Str × Nat × Addr)) : List Slot := caps.map (fun p => (ℓ[p.2.1]?).getD .un)
theorem CompOk.one {elt tg iter : Expr} {ifs : List Expr} {scope : Scope} {pos : Pos} {a : AV} {l : List AV} {cl : List (Str × Addr)} {ls : List Str} {caps : List (Str × Nat × Addr)} {b : AV → List Slot} {g : AV → Option AV}
    (he : EJ C n fi ℓ iter a) (hl : items a = some l) (hcap : CapOk fi ℓ caps) (hclos : closureFor scope fi.env = pure cl) (hFC : ∀ L D, (fiC fi scope cl L D ls caps).Ok) (hz : l.length ≤ sz)
    (hstep : ∀ L D, (fiC fi scope cl L D ls caps).Ok → ∀ a ∈ l, ∀ vs acc, vs.length = ls.length → (b a).length = ls.length ∧
      TJ C n (fiC fi scope cl L D ls caps) tg a (vs ++ capSlots ℓ caps ++ [.ol acc]) (b a ++ capSlots ℓ caps ++ [.ol acc]) ∧
      ∃ t, IJ C n (fiC fi scope cl L D ls caps) (b a ++ capSlots ℓ caps ++ [.ol acc]) ifs t ∧ (t = true → ∃ r, EJ C n (fiC fi scope cl L D ls caps) (b a ++ capSlots ℓ caps ++ [.ol acc]) elt r ∧ g a = some r) ∧ (t = false → g a = none))
    (cell : ∀ x ∈ scope.names, x.2 ≠ .cell) (kind : scope.kind = .function) (names : ∀ x ∈ scope.names, x.2 = .local → scope.names.lookup x.1 = some .local) (fold : ∀ env x, foldedSetIterable iter env x = pure x) :
    CompOk C n fi ℓ elt tg iter ifs [] scope pos (l.filterMap g) :=
  ⟨⟨a, l, cl, ls, caps, he, hl, hcap, hclos, hFC, fun L D => by
    have := LoopC.fmap (C := C) (n := n) (fi := fiC fi scope cl L D ls caps) (e := .ListComp elt [⟨tg, iter, ifs, 0⟩] scope pos) (elt := elt) (tg := tg) (ifs := ifs) (p := iter.pos) (d := 0) (k := ls.length) (cs := capSlots ℓ caps) (vs0 := ls.map fun _ => .un) (b := b) (g := g) (l := l)
      (by simp [fiC]) (by simp) hz (hstep L D (hFC L D))
    rw [show (capSlots ℓ caps).length = caps.length by simp] at this
    exact this⟩, cell, kind, names, fold⟩
theorem CompOk.each {elt tg iter : Expr} {scope : Scope} {pos : Pos} {a : AV} {l : List AV} {cl : List (Str × Addr)} {ls : List Str} {caps : List (Str × Nat × Addr)} {b : AV → List Slot} {f : AV → AV}
    (he : EJ C n fi ℓ iter a) (hl : items a = some l) (hcap : CapOk fi ℓ caps) (hclos : closureFor scope fi.env = pure cl) (hFC : ∀ L D, (fiC fi scope cl L D ls caps).Ok) (hz : l.length ≤ sz)
    (hstep : ∀ L D, (fiC fi scope cl L D ls caps).Ok → ∀ a ∈ l, ∀ vs acc, vs.length = ls.length → (b a).length = ls.length ∧
      TJ C n (fiC fi scope cl L D ls caps) tg a (vs ++ capSlots ℓ caps ++ [.ol acc]) (b a ++ capSlots ℓ caps ++ [.ol acc]) ∧ EJ C n (fiC fi scope cl L D ls caps) (b a ++ capSlots ℓ caps ++ [.ol acc]) elt (f a))
    (cell : ∀ x ∈ scope.names, x.2 ≠ .cell) (kind : scope.kind = .function) (names : ∀ x ∈ scope.names, x.2 = .local → scope.names.lookup x.1 = some .local) (fold : ∀ env x, foldedSetIterable iter env x = pure x) :
    CompOk C n fi ℓ elt tg iter [] [] scope pos (l.map f) := by
  have := CompOk.one (C := C) (n := n) (fi := fi) (ℓ := ℓ) (elt := elt) (pos := pos) (ifs := []) (b := b) (g := fun a => some (f a)) he hl hcap hclos hFC hz
    (fun L D F a ha vs acc hv => ⟨(hstep L D F a ha vs acc hv).1, (hstep L D F a ha vs acc hv).2.1, true, .nil, fun _ => ⟨_, (hstep L D F a ha vs acc hv).2.2, rfl⟩, fun h => nomatch h⟩) cell kind names fold
  simpa [List.filterMap_eq_map] using this
end
end
section
variable {C : Cx}

theorem RepL.one {H : Heap} {a : AV} {vs : List Value} (r : RepL C H [a] vs) : ∃ v, vs = [v] ∧ Rep C H a v := by
  cases r with | cons r1 r2 => cases r2; exact ⟨_, rfl, r1⟩
theorem RepL.two {H : Heap} {a b : AV} {vs : List Value} (r : RepL C H [a, b] vs) : ∃ v w, vs = [v, w] ∧ Rep C H a v ∧ Rep C H b w := by
  cases r with | cons r1 r2 => obtain ⟨w, rfl, r3⟩ := r2.one; exact ⟨_, w, rfl, r1, r3⟩
theorem RepL.three {H : Heap} {a b c : AV} {vs : List Value} (r : RepL C H [a, b, c] vs) : ∃ v w u, vs = [v, w, u] ∧ Rep C H a v ∧ Rep C H b w ∧ Rep C H c u := by
  cases r with | cons r1 r2 => obtain ⟨w, u, rfl, r3, r4⟩ := r2.two; exact ⟨_, w, u, rfl, r1, r3, r4⟩

section
variable {n : Nat}
theorem len_lst {l : List AV} (hz : l.length ≤ sz) : CallJ C n (.builtin "len") [.lst l] (.int l.length) := fun A M s vs ak h0 hM hM0 rl Q E q => by
  obtain ⟨v, rfl, r⟩ := rl.one
  obtain ⟨a, ws, rfl, la, rw_⟩ := r.lst_
  have z : l.length ≤ 1048576 := hz
  have len := rw_.length
  refine Calls.call_len_list (la.mono (hid_sub _ _)).isList (by rw [List.size_toArray, ← len]; omega) (q _ _ (.toks _) ?_)
  rw [List.size_toArray, ← len]; exact .int _ _
theorem len_tup {l : List AV} (hz : l.length ≤ sz) : CallJ C n (.builtin "len") [.tup l] (.int l.length) := fun A M s vs ak h0 hM hM0 rl Q E q => by
  obtain ⟨v, rfl, r⟩ := rl.one
  obtain ⟨a, ws, rfl, la, rw_⟩ := r.tup_
  have z : l.length ≤ 1048576 := hz
  have len := rw_.length
  refine PyProof.Rows.len_tuple (la.mono (hid_sub _ _)).isTup (by rw [List.size_toArray, ← len]; omega) (q _ _ (.toks _) ?_)
  have e : (ws.toArray.size : Int) = l.length := by rw [List.size_toArray, ← len]
  rw [e]; exact .int _ _
theorem len_str {x : Str} (hz : x.length ≤ sz) : CallJ C n (.builtin "len") [.str x] (.int x.length) := fun A M s vs ak h0 hM hM0 rl Q E q => by
  obtain ⟨v, rfl, r⟩ := rl.one
  obtain ⟨t, rfl⟩ := r.str_
  have z : x.length ≤ 1048576 := hz
  exact P.len_str (by omega) (q _ _ (.toks _) (.int _ _))
theorem range1 {k : Int} : CallJ C n (.type "range") [.int k] (.rng 0 k 1) := fun A M s vs ak h0 hM hM0 rl Q E q => by
  obtain ⟨v, rfl, r⟩ := rl.one
  obtain ⟨t, rfl⟩ := r.int_
  exact call_range_1 (q _ _ (.heap (n := s.toks + 1 + 1) rep_push) (.rng (hid_at (fun a h => Heap.lt_size (hM a h).choose_spec) rfl)))
theorem range2 {j k : Int} : CallJ C n (.type "range") [.int j, .int k] (.rng j k 1) := fun A M s vs ak h0 hM hM0 rl Q E q => by
  obtain ⟨v, w, rfl, r, r'⟩ := rl.two
  obtain ⟨t, rfl⟩ := r.int_
  obtain ⟨t', rfl⟩ := r'.int_
  exact call_range_2 (q _ _ (.heap (n := s.toks + 1) rep_push) (.rng (hid_at (fun a h => Heap.lt_size (hM a h).choose_spec) rfl)))
theorem list_at {A : Around} {M : List Addr} {s : Shared} {x : AV} {l : List AV} {v : Value} (hx : x = .lst l ∨ x = .tup l) (hz : l.length ≤ sz) (hM : ∀ a ∈ M, ∃ o, s.heap.get? a = some o) (r : Rep C (hid s.heap M) x v) :
    Ev C A (call (.type "list") [v]) s (fun v s' => ∃ a vs, v = .ref a ∧ s.heap.get? a = none ∧ ListAt s'.heap a vs ∧ RepL C (hid s'.heap (a :: M)) l vs) := fun Q E q => by
  have main : ∀ (a : Addr) (ws : List Value) (T : String), T = "list" ∨ T = "tuple" → (∃ k, (hid s.heap M).get? a = some { cls := .type T, data := .seq ws.toArray k }) → RepL C (hid s.heap M) l ws → wpAny (model C.prog C.w) A (call (.type "list") [.ref a]) Q E s := fun a ws T hT ha rw_ => by
    obtain ⟨k, e⟩ := ha
    have e := hid_sub _ _ _ _ e
    refine call_list_seq a hT e rfl rfl (fun h' c' keep hnew => ?_) (by rw [List.size_toArray, ← rw_.length]; exact sz_le hz)
    exact q _ _ (.heap (n := s.toks) keep) ⟨_, ws, rfl, get_new, ⟨c', hnew⟩, rw_.mono (hid_cons keep get_new)⟩
  rcases hx with rfl | rfl
  · obtain ⟨a, ws, rfl, ⟨k, e⟩, rw_⟩ := r.lst_
    exact main a ws _ (.inl rfl) ⟨k, e⟩ rw_
  · obtain ⟨a, ws, rfl, ⟨k, e⟩, rw_⟩ := r.tup_
    exact main a ws _ (.inr rfl) ⟨k, e⟩ rw_
theorem list_of {x : AV} {l : List AV} (hx : x = .lst l ∨ x = .tup l) (hz : l.length ≤ sz) : CallJ C n (.type "list") [x] (.lst l) := fun A M s vs ak h0 hM hM0 rl Q E q => by
  obtain ⟨v, rfl, r⟩ := rl.one
  refine list_at hx hz hM r _ _ fun v s' g h => ?_
  obtain ⟨a, vs, rfl, hn, ⟨k, e⟩, rl⟩ := h
  refine q _ _ g (.lst ⟨k, hid_get e fun z => ?_⟩ (rl.mono (hid_mono (fun _ _ _ e => e) fun b hb' => .tail _ hb')))
  obtain ⟨o, e⟩ := hM a z
  rw [hn] at e; cases e

/-! ## methods -/
def asStrs : List AV → Option (List Str)
  | [] => some []
  | a :: l => match asStr a, asStrs l with
    | some i, some k => some (i :: k)
    | _, _ => none
theorem strs_are {H : Heap} : ∀ {l : List AV} {vs : List Value} {k : List Str}, RepL C H l vs → asStrs l = some k → ∃ ts : List (Str × Tok), vs = strValues ts ∧ ts.map (·.1) = k
  | [], _, _, r, e => by cases r; cases e; exact ⟨[], rfl, rfl⟩
  | a :: l, _, _, .cons r rs, e => by
    unfold asStrs at e
    split at e
    · rename_i i k' e1 e2
      cases e
      rw [asStr_eq e1] at r
      obtain ⟨t, rfl⟩ := r.str_
      obtain ⟨ts, rfl, rfl⟩ := strs_are rs e2
      exact ⟨(i, t) :: ts, rfl, rfl⟩
    · cases e
theorem join_ok {x : Str} {l : List AV} {k : List Str} (hk : asStrs l = some k) (hz : JoinOk x k = true) : CallJ C n (.builtin "str.join") [.str x, .lst l] (.str (Txt.join x k)) := fun A M s vs ak h0 hM hM0 rl Q E q => by
  obtain ⟨v, w, rfl, r, r'⟩ := rl.two
  obtain ⟨t, rfl⟩ := r.str_
  obtain ⟨a, ws, rfl, la, rw_⟩ := r'.lst_
  obtain ⟨ts, rfl, e⟩ := strs_are rw_ hk
  exact SC.join (la.mono (hid_sub _ _)).isList e hz fun t' k' => q _ _ (.toks _) (.str _ _)

variable {fi : Fi} {ℓ : List Slot} {pos p : Pos}
theorem EJ.strMeth {o e : Expr} {es : List Expr} {name : Str} {id : String} {x : Str} {as : List AV} {r : AV} (slot : PySem.Slot "str" name id) (ty : typeOf (.builtin id) = pure (.type "method_descriptor"))
    (ho : EJ C n fi ℓ o (.str x)) (ha : LJ C n fi ℓ (e :: es) as) (h : CallJ C n (.builtin id) (.str x :: as) r)
    (hbase : ∀ env, attributeBase o name env (eval o env) = eval o env := by intro _; rfl) (hline : (p.endLine == pos.line) = true := by rfl)
    (hfew : ∀ env, ((backTo pos (starEach (e :: es) env)).all (fun x => !x.1) && (backToKw pos (keywordEach [] env)).all (fun x => x.1.isSome)
      && decide ((e :: es).length + ([] : List Keyword).length + (if ([] : List Keyword).isEmpty then 0 else 1) < 30)) = true := by intro _; rfl)
    (hq : ∀ env, starEach (e :: es) env = (false, eval e env) :: starEach es env := by intro _; rfl)
    (hp : ∀ env pos, (backTo pos (starEach (e :: es) env)).any (·.1) = false := by intro _ _; rfl) :
    EJ C n fi ℓ (.Call (.Attribute o name p) (e :: es) [] pos) r := fun A hb Mo M m cv ad s ak R Q E q =>
  wpAny_Call_method_lateS (hbase _) (hfew _) hline (ho A hb Mo M m cv ad s ak R _ _ fun v s' g rx => by
    obtain ⟨t, rfl⟩ := rx.str_
    refine ⟨"str", id, F.plainAttrs_str, slot, ty, typeIs_str _ _ _, (fun _ e => nomatch e), Calls.callWith_builtin (hp _ _) (args_ok ha ak (R.grow g) hq _ _ fun a s'' g' ra => ?_)⟩
    rw [ra.1]
    have R' := (R.grow g).grow g'
    exact h A M s'' _ ak R'.glob R'.has R'.new0 (.cons (.str _ _) ra.2) _ _ fun v s3 g3 rv => q _ _ (g.trans (g'.trans g3)) rv)
end
end
section
variable {C : Cx}

structure Fn where
  params : Arguments
  body : List Stmt
  scope : Scope
def fnOn : Option Stmt → Option Fn
  | some (.FunctionDef _ a b _ _ _ s _ _ _) => some ⟨a, b, s⟩
  | _ => none
def noFn : Fn := ⟨⟨[], [], none, [], [], none, []⟩, [], ⟨.function, [], false, false, []⟩⟩
def fnTop (p : Program) (i : Nat) : Fn := (fnOn p.main.body[i]?).getD noFn
def clsOn : Option Stmt → List Stmt
  | some (.ClassDef _ _ _ b _ _ _ _ _ _ _) => b
  | _ => []
def fnIn (p : Program) (i j : Nat) : Fn := (fnOn (clsOn p.main.body[i]?)[j]?).getD noFn

/-- a function of the text, without defaults -/
def FnAt (C : Cx) (f : Fn) (a : Addr) : Prop := ∃ name qual oc od osl doc pm an cdv ct,
  C.h₀.get? a = some ⟨oc, od, .func (fnOf name qual f.params f.body f.scope .none .none doc pm an cdv ct), osl⟩ ∧ C.h₀.CodeRec cdv qual

def SWF (C : Cx) (n : Nat) (f : Fn) (a : Addr) (ps xs : List Str) (as : List AV) (F : Out → Prop) : Prop :=
  ∀ (name qual : Str) (doc pm : Value) (an : Option Addr) (cdv ct : Value) (L : Addr), (fiOf (fnOf name qual f.params f.body f.scope .none .none doc pm an cdv ct) L a (ps ++ xs)).Ok →
      SW C n (fiOf (fnOf name qual f.params f.body f.scope .none .none doc pm an cdv ct) L a (ps ++ xs)) f.body (as.map .fz ++ xs.map fun _ => .un) F
theorem fn_ok {n : Nat} {a : Addr} {f : Fn} {ps xs : List Str} {as : List AV} {r : AV} (hf : FnAt C f a) (h : SWF C n f a ps xs as (fun o => unfz o = some r))
    (hbind : ∀ (name qual : Str) (doc pm : Value) (an : Option Addr) (cdv ct : Value) (vs : List Value), vs.length = ps.length → bindArgs (fnOf name qual f.params f.body f.scope .none .none doc pm an cdv ct) ⟨vs, []⟩ = pure (ps.zip vs))
    (hco : f.scope.isCoroutine = false := by rfl) (hgen : f.scope.isGenerator = false := by rfl) (hk : f.scope.kind = .function := by rfl) (len : as.length = ps.length := by rfl)
    (nd : (ps ++ xs).Nodup := by decide) (hkind : ∀ x ∈ ps ++ xs, f.scope.names.lookup x = some .local ∨ f.scope.names.lookup x = some .cell := by decide) (hdbg : ∀ x ∈ ps ++ xs, (x == ("__debug__" : Str)) = false := by decide) : CallJ C (n + 1) (.ref a) as r := by
  obtain ⟨name, qual, oc, od, osl, doc, pm, an, cdv, ct, ho, hcd⟩ := hf
  exact call_ok (fd := fnOf name qual f.params f.body f.scope .none .none doc pm an cdv ct) ho rfl hcd rfl rfl rfl rfl hco hgen hk (hbind name qual doc pm an cdv ct) len nd hkind hdbg fun L F => h name qual doc pm an cdv ct L F
theorem EJ.callFn {n : Nat} {fi : Fi} {ℓ : List Slot} {p pos : Pos} (F : fi.Ok) {x : Str} {a : Addr} {f : Fn} {e : Expr} {es : List Expr} {as : List AV} {r : AV} (hf : FnAt C f a) (g : C.glb x (.ref a)) (ha : LJ C n fi ℓ (e :: es) as) (h : CallJ C n (.ref a) as r)
    (hx : fi.env.kindOf x = some .globalImplicit := by rfl) (hdbg : (x == ("__debug__" : Str)) = false := by decide) (hq : ∀ env, starEach (e :: es) env = (false, eval e env) :: starEach es env := by intro _; rfl) :
    EJ C n fi ℓ (.Call (.Name x p) (e :: es) [] pos) r := by
  obtain ⟨name, qual, oc, od, osl, doc, pm, an, cdv, ct, ho, hcd⟩ := hf
  exact EJ.callF F g ho rfl ha h hx hdbg hq

section
variable {α : Type} {a0 a1 a2 a3 a4 a5 a6 a7 a8 a9 a10 a11 a12 a13 a14 a15 a16 a17 a18 a19 a20 a21 a22 a23 : α} {l : List α}
theorem at0 : (a0 :: l)[0]? = some a0 := rfl
theorem at1 : (a0 :: a1 :: l)[1]? = some a1 := rfl
theorem at2 : (a0 :: a1 :: a2 :: l)[2]? = some a2 := rfl
theorem at3 : (a0 :: a1 :: a2 :: a3 :: l)[3]? = some a3 := rfl
theorem at4 : (a0 :: a1 :: a2 :: a3 :: a4 :: l)[4]? = some a4 := rfl
theorem at5 : (a0 :: a1 :: a2 :: a3 :: a4 :: a5 :: l)[5]? = some a5 := rfl
theorem at6 : (a0 :: a1 :: a2 :: a3 :: a4 :: a5 :: a6 :: l)[6]? = some a6 := rfl
theorem at7 : (a0 :: a1 :: a2 :: a3 :: a4 :: a5 :: a6 :: a7 :: l)[7]? = some a7 := rfl
theorem at8 : (a0 :: a1 :: a2 :: a3 :: a4 :: a5 :: a6 :: a7 :: a8 :: l)[8]? = some a8 := rfl
theorem at9 : (a0 :: a1 :: a2 :: a3 :: a4 :: a5 :: a6 :: a7 :: a8 :: a9 :: l)[9]? = some a9 := rfl
theorem at10 : (a0 :: a1 :: a2 :: a3 :: a4 :: a5 :: a6 :: a7 :: a8 :: a9 :: a10 :: l)[10]? = some a10 := rfl
theorem at11 : (a0 :: a1 :: a2 :: a3 :: a4 :: a5 :: a6 :: a7 :: a8 :: a9 :: a10 :: a11 :: l)[11]? = some a11 := rfl
theorem at12 : (a0 :: a1 :: a2 :: a3 :: a4 :: a5 :: a6 :: a7 :: a8 :: a9 :: a10 :: a11 :: a12 :: l)[12]? = some a12 := rfl
theorem at13 : (a0 :: a1 :: a2 :: a3 :: a4 :: a5 :: a6 :: a7 :: a8 :: a9 :: a10 :: a11 :: a12 :: a13 :: l)[13]? = some a13 := rfl
theorem at14 : (a0 :: a1 :: a2 :: a3 :: a4 :: a5 :: a6 :: a7 :: a8 :: a9 :: a10 :: a11 :: a12 :: a13 :: a14 :: l)[14]? = some a14 := rfl
theorem at15 : (a0 :: a1 :: a2 :: a3 :: a4 :: a5 :: a6 :: a7 :: a8 :: a9 :: a10 :: a11 :: a12 :: a13 :: a14 :: a15 :: l)[15]? = some a15 := rfl
theorem at16 : (a0 :: a1 :: a2 :: a3 :: a4 :: a5 :: a6 :: a7 :: a8 :: a9 :: a10 :: a11 :: a12 :: a13 :: a14 :: a15 :: a16 :: l)[16]? = some a16 := rfl
theorem at17 : (a0 :: a1 :: a2 :: a3 :: a4 :: a5 :: a6 :: a7 :: a8 :: a9 :: a10 :: a11 :: a12 :: a13 :: a14 :: a15 :: a16 :: a17 :: l)[17]? = some a17 := rfl
theorem at18 : (a0 :: a1 :: a2 :: a3 :: a4 :: a5 :: a6 :: a7 :: a8 :: a9 :: a10 :: a11 :: a12 :: a13 :: a14 :: a15 :: a16 :: a17 :: a18 :: l)[18]? = some a18 := rfl
theorem at19 : (a0 :: a1 :: a2 :: a3 :: a4 :: a5 :: a6 :: a7 :: a8 :: a9 :: a10 :: a11 :: a12 :: a13 :: a14 :: a15 :: a16 :: a17 :: a18 :: a19 :: l)[19]? = some a19 := rfl
theorem at20 : (a0 :: a1 :: a2 :: a3 :: a4 :: a5 :: a6 :: a7 :: a8 :: a9 :: a10 :: a11 :: a12 :: a13 :: a14 :: a15 :: a16 :: a17 :: a18 :: a19 :: a20 :: l)[20]? = some a20 := rfl
theorem at21 : (a0 :: a1 :: a2 :: a3 :: a4 :: a5 :: a6 :: a7 :: a8 :: a9 :: a10 :: a11 :: a12 :: a13 :: a14 :: a15 :: a16 :: a17 :: a18 :: a19 :: a20 :: a21 :: l)[21]? = some a21 := rfl
theorem at22 : (a0 :: a1 :: a2 :: a3 :: a4 :: a5 :: a6 :: a7 :: a8 :: a9 :: a10 :: a11 :: a12 :: a13 :: a14 :: a15 :: a16 :: a17 :: a18 :: a19 :: a20 :: a21 :: a22 :: l)[22]? = some a22 := rfl
theorem at23 : (a0 :: a1 :: a2 :: a3 :: a4 :: a5 :: a6 :: a7 :: a8 :: a9 :: a10 :: a11 :: a12 :: a13 :: a14 :: a15 :: a16 :: a17 :: a18 :: a19 :: a20 :: a21 :: a22 :: a23 :: l)[23]? = some a23 := rfl
end
theorem one_of {vs : List Value} (h : vs.length = 1) : ∃ a, vs = [a] := match vs, h with | [a], _ => ⟨a, rfl⟩
theorem two_of {vs : List Value} (h : vs.length = 2) : ∃ a b, vs = [a, b] := match vs, h with | [a, b], _ => ⟨a, b, rfl⟩
theorem three_of {vs : List Value} (h : vs.length = 3) : ∃ a b c, vs = [a, b, c] := match vs, h with | [a, b, c], _ => ⟨a, b, c, rfl⟩
theorem four_of {vs : List Value} (h : vs.length = 4) : ∃ a b c d, vs = [a, b, c, d] := match vs, h with | [a, b, c, d], _ => ⟨a, b, c, d, rfl⟩

section
variable {n : Nat} {fi : Fi} {ℓ : List Slot} {pos : Pos} {F : Out → Prop}
theorem S1.ifT {c : Expr} {body orelse : List Stmt} (hc : BJ C n fi ℓ c true) (h : SW C n fi body ℓ F) : S1 C n fi (.If c body orelse pos) ℓ F := S1.ifs hc (fun _ => h) fun e => nomatch e
theorem S1.ifF {c : Expr} {body orelse : List Stmt} (hc : BJ C n fi ℓ c false) (h : SW C n fi orelse ℓ F) : S1 C n fi (.If c body orelse pos) ℓ F := S1.ifs hc (fun e => nomatch e) fun _ => h
theorem BJ.to {c : Expr} {b b' : Bool} (h : BJ C n fi ℓ c b) (e : b = b') : BJ C n fi ℓ c b' := e ▸ h
theorem EJ.to {e : Expr} {a a' : AV} (h : EJ C n fi ℓ e a) (q : a = a') : EJ C n fi ℓ e a' := q ▸ h
theorem EJ.ifT {c a b : Expr} {x : AV} (hc : BJ C n fi ℓ c true) (ha : EJ C n fi ℓ a x) : EJ C n fi ℓ (.IfExp c a b pos) x := EJ.ife hc (fun _ => ha) fun e => nomatch e
theorem EJ.ifF {c a b : Expr} {x : AV} (hc : BJ C n fi ℓ c false) (hb : EJ C n fi ℓ b x) : EJ C n fi ℓ (.IfExp c a b pos) x := EJ.ife hc (fun e => nomatch e) fun _ => hb
theorem EJ.ite {c a b : Expr} {t : Bool} {x y : AV} (hc : BJ C n fi ℓ c t) (ha : EJ C n fi ℓ a x) (hb : EJ C n fi ℓ b y) : EJ C n fi ℓ (.IfExp c a b pos) (if t then x else y) :=
  EJ.ife hc (fun e => by rw [if_pos e]; exact ha) fun e => by rw [if_neg (by rw [e]; decide)]; exact hb
end
theorem CapOk.nil {fi : Fi} {ℓ : List Slot} : CapOk fi ℓ [] := fun p h => nomatch h
theorem CapOk.cons {fi : Fi} {ℓ : List Slot} {x : Str} {i : Nat} {c : Addr} {a : AV} {caps : List (Str × Nat × Addr)} (h : fi.vs[i]? = some (x, .cel c)) (h2 : ℓ[i]? = some (.fz a)) (hs : CapOk fi ℓ caps) : CapOk fi ℓ ((x, i, c) :: caps) := fun p hp => by
  rcases List.mem_cons.mp hp with rfl | hp
  · exact ⟨h, a, h2⟩
  · exact hs p hp
theorem small_le {a b : Int} (h1 : -1048576 ≤ a) (h2 : a ≤ 1048576) (h3 : -1048576 ≤ b) (h4 : b ≤ 1048576) : Builtin.Range.small a b 1 = true := by
  have e := rangeSize_one a b
  unfold Builtin.Range.small Builtin.Range.rangeFitsLong
  rw [e]
  simp only [Bool.and_eq_true, decide_eq_true_eq, Bool.or_eq_true, beq_iff_eq]
  split <;> simp <;> omega
theorem items_rng {a b : Int} (h1 : -1048576 ≤ a) (h2 : a ≤ 1048576) (h3 : -1048576 ≤ b) (h4 : b ≤ 1048576) : items (.rng a b 1) = some ((List.range (b - a).toNat).map fun (k : Nat) => AV.int (a + (k : Int))) := by
  have e := rangeSize_one a b
  show (if (Builtin.Range.small a b 1 && decide (0 ≤ Builtin.Range.rangeSize a b 1)) = true then some ((List.range (Builtin.Range.rangeSize a b 1).toNat).map fun (k : Nat) => AV.int (a + (k : Int) * 1)) else none) = _
  rw [if_pos (by rw [small_le h1 h2 h3 h4, e]; simp; split <;> omega), e]
  have e2 : (if a < b then b - a else 0).toNat = (b - a).toNat := by split <;> omega
  rw [e2]
  simp
theorem pick_init {α : Type} (l : List α) : pickL l none (some (-1)) = l.take (l.length - 1) := by
  rw [pickL_eq]
  have e1 : clipN none 0 l.length = 0 := rfl
  have e2 : clipN (some (-1)) l.length l.length = l.length - 1 := by unfold clipN; simp; omega
  rw [e1, e2]; simp
theorem pick_last {α : Type} (l : List α) : pickL l (some (-1)) none = l.drop (l.length - 1) := by
  rw [pickL_eq]
  have e1 : clipN none l.length l.length = l.length := rfl
  have e2 : clipN (some (-1)) 0 l.length = l.length - 1 := by unfold clipN; simp; omega
  rw [e1, e2]
  exact List.take_of_length_le (by simp)
theorem pick_to {α : Type} (l : List α) (n : Nat) : pickL l none (some (n : Int)) = l.take n := by
  rw [pickL_eq]
  have e1 : clipN none 0 l.length = 0 := rfl
  have e2 : clipN (some (n : Int)) l.length l.length = min n l.length := by unfold clipN; simp; omega
  rw [e1, e2]
  simp [List.take_eq_take_iff]
theorem pick_from {α : Type} (l : List α) (n : Nat) : pickL l (some (n : Int)) none = l.drop n := by
  rw [pickL_eq]
  have e1 : clipN none l.length l.length = l.length := rfl
  have e2 : clipN (some (n : Int)) 0 l.length = min n l.length := by unfold clipN; simp; omega
  rw [e1, e2]
  by_cases h : n ≤ l.length
  · rw [Nat.min_eq_left h]; exact List.take_of_length_le (by simp)
  · rw [Nat.min_eq_right (by omega), List.drop_eq_nil_of_le (by omega : l.length ≤ n), List.drop_eq_nil_of_le (Nat.le_refl _)]; simp
theorem pick_mid {α : Type} (l : List α) (m n : Nat) : pickL l (some (m : Int)) (some (n : Int)) = (l.take n).drop m := by
  rw [pickL_eq]
  have e1 : clipN (some (n : Int)) l.length l.length = min n l.length := by unfold clipN; simp; omega
  have e2 : clipN (some (m : Int)) 0 l.length = min m l.length := by unfold clipN; simp; omega
  rw [e1, e2, List.drop_take]
  by_cases h : m ≤ l.length
  · rw [Nat.min_eq_left h]
    by_cases h2 : n ≤ l.length
    · rw [Nat.min_eq_left h2]
    · rw [Nat.min_eq_right (by omega), List.take_of_length_le (by simp), List.take_of_length_le (by simp; omega)]
  · rw [Nat.min_eq_right (by omega : l.length ≤ m), List.drop_eq_nil_of_le (by omega : l.length ≤ m), List.drop_eq_nil_of_le (Nat.le_refl _)]; simp
theorem slc_lst {l : List AV} {lo hi : Option Int} (h : l.length ≤ sz) : opSlc (.lst l) lo hi = some (.lst (pickL l lo hi)) := if_pos (by simpa using h)
theorem slc_str {x : Str} {lo hi : Option Int} (h : x.length ≤ sz) : opSlc (.str x) lo hi = some (.str ⟨(pickL x.cps.toList lo hi).toArray⟩) := if_pos (by simpa using h)
theorem add_lst {a b : List AV} (h : a.length + b.length ≤ sz) : opBin .Add (.lst a) (.lst b) = some (.lst (a ++ b)) := if_pos h
theorem add_str {a b : Str} (h : a.length + b.length ≤ sz) : opBin .Add (.str a) (.str b) = some (.str (a ++ b)) := if_pos h
theorem idx_lst {l : List AV} {i : Int} (h : l.length ≤ sz) : opIdx (.lst l) (.int i) = at? l i := if_pos (by simpa using h)
theorem idx_tup {l : List AV} {i : Int} (h : l.length ≤ sz) : opIdx (.tup l) (.int i) = at? l i := if_pos (by simpa using h)
theorem at_nat {α : Type} {l : List α} {n : Nat} : at? l (n : Int) = l[n]? := by unfold at?; rw [if_pos (by omega)]; simp
theorem at_last {α : Type} {l : List α} (h : l ≠ []) : at? l (-1) = l.getLast? := by
  have : l.length ≠ 0 := by simpa using h
  unfold at?
  rw [if_neg (by omega), if_pos (by omega), List.getLast?_eq_getElem?]
  congr 1
  omega
theorem sz_eq : sz = 1048576 := rfl
theorem eq_int {i j : Int} : opCmp .Eq (.int i) (.int j) = some (.bool (i == j)) := rfl
theorem eq_str {i j : Str} : opCmp .Eq (.str i) (.str j) = some (.bool (i == j)) := rfl
section
variable {n : Nat} {fi : Fi} {ℓ : List Slot} {p pos : Pos}
theorem EJ.lenL (F : fi.Ok) (g : C.glb "len" (.builtin "len")) {e : Expr} {l : List AV} (he : EJ C n fi ℓ e (.lst l)) (hz : l.length ≤ sz) (hx : fi.env.kindOf "len" = some .globalImplicit) (hq : ∀ env, starEach [e] env = [(false, eval e env)]) :
    EJ C n fi ℓ (.Call (.Name "len" p) [e] [] pos) (.int l.length) := EJ.callB F g (LJ.cons he LJ.nil hq) (len_lst hz) hx (by decide) hq (fun env pos => by rw [hq]; rfl)
theorem EJ.lenS (F : fi.Ok) (g : C.glb "len" (.builtin "len")) {e : Expr} {x : Str} (he : EJ C n fi ℓ e (.str x)) (hz : x.length ≤ sz) (hx : fi.env.kindOf "len" = some .globalImplicit) (hq : ∀ env, starEach [e] env = [(false, eval e env)]) :
    EJ C n fi ℓ (.Call (.Name "len" p) [e] [] pos) (.int x.length) := EJ.callB F g (LJ.cons he LJ.nil hq) (len_str hz) hx (by decide) hq (fun env pos => by rw [hq]; rfl)
theorem EJ.range1 (F : fi.Ok) (g : C.glb "range" (.type "range")) {e : Expr} {k : Int} (he : EJ C n fi ℓ e (.int k)) (hx : fi.env.kindOf "range" = some .globalImplicit) (hq : ∀ env, starEach [e] env = [(false, eval e env)]) :
    EJ C n fi ℓ (.Call (.Name "range" p) [e] [] pos) (.rng 0 k 1) := EJ.callT F g (LJ.cons he LJ.nil hq) Mine.range1 hx (by decide) hq (fun env pos => by rw [hq]; rfl)
theorem EJ.range2 (F : fi.Ok) (g : C.glb "range" (.type "range")) {e e2 : Expr} {j k : Int} (he : EJ C n fi ℓ e (.int j)) (he2 : EJ C n fi ℓ e2 (.int k)) (hx : fi.env.kindOf "range" = some .globalImplicit) (hq : ∀ env, starEach [e, e2] env = [(false, eval e env), (false, eval e2 env)]) (hq2 : ∀ env, starEach [e2] env = [(false, eval e2 env)]) :
    EJ C n fi ℓ (.Call (.Name "range" p) [e, e2] [] pos) (.rng j k 1) := EJ.callT F g (LJ.cons he (LJ.cons he2 LJ.nil hq2) (fun env => by rw [hq, hq2])) Mine.range2 hx (by decide) (fun env => by rw [hq, hq2]) (fun env pos => by rw [hq]; rfl)
theorem EJ.list1 (F : fi.Ok) (g : C.glb "list" (.type "list")) {e : Expr} {x : AV} {l : List AV} (he : EJ C n fi ℓ e x) (hx' : x = .lst l ∨ x = .tup l) (hz : l.length ≤ sz) (hx : fi.env.kindOf "list" = some .globalImplicit) (hq : ∀ env, starEach [e] env = [(false, eval e env)]) :
    EJ C n fi ℓ (.Call (.Name "list" p) [e] [] pos) (.lst l) := EJ.callT F g (LJ.cons he LJ.nil hq) (list_of hx' hz) hx (by decide) hq (fun env pos => by rw [hq]; rfl)
end
def lessL {α : Type} (st : List α) : List α := if 1 < st.length then st.take (st.length - 1) else st
theorem lessL_len {α : Type} (st : List α) : (lessL st).length ≤ st.length := by unfold lessL; split <;> simp
end
section
variable {C : Cx}
section
variable {hb : Base} {Mo : List Addr} {fi : Fi} {M : List Addr} {m : Str → Option Value} {cv : Nat → Option Value} {ad : Nat → List Addr} {ℓ : List Slot} {s : Shared}

/-- another one ran: what stands around changes -/
theorem Rel.shift (R : Rel C hb Mo fi M m cv ad ℓ s) {s' : Shared} {hb' : Base} {Mo' : List Addr} (k : ∀ b x, b ∉ Mo → s.heap.get? b = some x → s'.heap.get? b = some x)
    (hn : ∀ b ∈ Mo', b ∈ Mo ∨ s.heap.get? b = none) (has : ∀ b ∈ Mo', ∃ o, s'.heap.get? b = some o) (base' : ∀ b x, hb' b x → s'.heap.get? b = some x)
    (new' : ∀ b ∈ M, b ∉ Mo → ∀ x, ¬ hb' b x) (hc : ∀ (i : Nat) x c, fi.vs[i]? = some (x, .cel c) → c ∉ Mo) :
    Rel C hb' Mo' fi (Mo' ++ M.filter (fun b => decide (b ∉ Mo))) m cv ad ℓ s' := by
  have mem : ∀ b, b ∈ M → b ∉ Mo → b ∈ Mo' ++ M.filter (fun b => decide (b ∉ Mo)) := fun b h n => List.mem_append_right _ (List.mem_filter.mpr ⟨h, by simpa using n⟩)
  have inv : ∀ b, b ∈ Mo' ++ M.filter (fun b => decide (b ∉ Mo)) → b ∈ Mo' ∨ (b ∈ M ∧ b ∉ Mo) := fun b h => by
    rcases List.mem_append.mp h with h | h
    · exact .inl h
    · exact .inr ⟨(List.mem_filter.mp h).1, by simpa using (List.mem_filter.mp h).2⟩
  have own : ∀ b, b ∈ M → b ∉ Mo → b ∉ Mo' := fun b h n z => by
    rcases hn b z with w | w
    · exact n w
    · obtain ⟨o, e⟩ := R.has b h; rw [w] at e; cases e
  have k0 : Sub C.h₀ s'.heap := fun b x e => k b x (fun z => by have := R.new0 b (R.mO b z); rw [e] at this; cases this) (R.base0 b x e)
  have kk : Sub (hid s.heap M) (hid s'.heap (Mo' ++ M.filter (fun b => decide (b ∉ Mo)))) := fun b x e => by
    have nb := hid_not e
    refine hid_get (k b x (fun z => nb (R.mO b z)) (hid_sub _ _ _ _ e)) fun q => ?_
    rcases inv b q with z | z
    · rcases hn b z with w | w
      · exact nb (R.mO b w)
      · rw [hid_sub _ _ _ _ e] at w; cases w
    · exact nb z.1
  have sub : Sub (hid s.heap M) s'.heap := kk.trans (hid_sub _ _)
  exact {
    base := base'
    len := R.len
    anon := R.anon
    ns := by obtain ⟨o, es, ep, e, r⟩ := R.ns; exact ⟨o, es, ep, k _ _ R.mL.2 e, r⟩
    loc := R.loc
    cel := fun i x c e => by obtain ⟨o, e1, r⟩ := R.cel i x c e; exact ⟨o, k _ _ (hc i x c e) e1, r⟩
    slot := fun i sl e => (R.slot i sl e).mono kk (fun b hb' o w => k b o ((R.mA i (List.getElem?_eq_some_iff.mp e).1).2 b hb').2.1 w) sub
    mL := ⟨mem _ R.mL.1 R.mL.2, own _ R.mL.1 R.mL.2⟩
    mC := fun i x c e => ⟨mem _ (R.mC i x c e).1 (hc i x c e), (R.mC i x c e).2⟩
    mA := fun i hi => ⟨(R.mA i hi).1, fun b hb' => by
      have z := (R.mA i hi).2 b hb'
      exact ⟨mem _ z.1 z.2.1, own _ z.1 z.2.1, z.2.2⟩⟩
    mO := fun b h => List.mem_append_left _ h
    new := fun b h => by
      rcases inv b h with z | z
      · exact .inl z
      · exact .inr (new' b z.1 z.2)
    has := fun b h => by
      rcases inv b h with z | z
      · exact has b z
      · obtain ⟨o, e⟩ := R.has b z.1; exact ⟨o, k _ _ z.2 e⟩
    base0 := k0
    new0 := fun b h => by
      rcases inv b h with z | z
      · rcases hn b z with w | w
        · exact R.new0 b (R.mO b w)
        · exact Sub.none R.base0 w
      · exact R.new0 b z.1 }

/-- what no slot needs may stand for good -/
theorem Rel.trim (R : Rel C hb Mo fi M m cv ad ℓ s) {M' : List Addr} (sub : ∀ b ∈ M', b ∈ M) (hL : fi.env.locals ∈ M') (hC : ∀ (i : Nat) x c, fi.vs[i]? = some (x, .cel c) → c ∈ M') (hA : ∀ i, i < ℓ.length → ∀ a ∈ ad i, a ∈ M')
    (hO : ∀ b ∈ Mo, b ∈ M') : Rel C hb Mo fi M' m cv ad ℓ s := by
  have kk : Sub (hid s.heap M) (hid s.heap M') := hid_mono (fun _ _ _ e => e) sub
  exact { R with
    slot := fun i sl e => (R.slot i sl e).mono kk (fun b _ o w => w) (hid_sub _ _)
    mL := ⟨hL, R.mL.2⟩
    mC := fun i x c e => ⟨hC i x c e, (R.mC i x c e).2⟩
    mA := fun i hi => ⟨(R.mA i hi).1, fun b hb' => ⟨hA i hi b hb', ((R.mA i hi).2 b hb').2⟩⟩
    mO := hO
    new := fun b h => R.new b (sub b h)
    has := fun b h => R.has b (sub b h)
    new0 := fun b h => R.new0 b (sub b h) }
end

/-! ## segments of a generator -/
section
variable {A : Around} {R : GenEnd} {Y : Protocol} {n : Nat} {s₀ : Shared} {c : Code} {fs : List Frame} {s : Shared} {env : Env}
  {K : Flow → Sem Fin} {H : Value → Sem Fin} {gd : Bool → Bool} {lv : List Value → List Value}

abbrev GSeg (C : Cx) (A : Around) (R : GenEnd) (Y : Protocol) (n : Nat) (s₀ : Shared) (c : Code) (t : Sem Fin) (fs : List Frame) (s : Shared) : Prop := Seg (model C.prog C.w) A R Y n s₀ c t fs s

theorem seg_bw {α : Type} {m : Sem α} {f : α → Sem Flow}
    (h : wpAny (model C.prog C.w) (A.over c fs) m (fun a s' => GSeg C A R Y n s₀ c ((f a).wrap K H gd lv) fs s') (fun x s' => GSeg C A R Y n s₀ c (H x) fs s') s) :
    GSeg C A R Y n s₀ c ((m >>= f).wrap K H gd lv) fs s := by
  rw [Sem.bind_eq_wrap', Sem.wrap_wrap]; exact seg_wrap h

def backFlow (env : Env) (r : Result) : Sem Flow := (match r with | .ok f => (.pure f : Sem Flow) | .error e => .raise e).onRaise fun (x : Value) => do
        if (← field x 1) == Value.none then unsupported "frame.own-activation:exception-without-traceback"
        setFlight x env.frame
theorem seg_For {tg iter : Expr} {body orelse : List Stmt} {pos : Pos} (hs : ∀ x, foldedSetIterable iter env x = pure x)
    (h : wpAny (model C.prog C.w) (A.over c fs) (eval iter env) (fun x s1 => wpAny (model C.prog C.w) (A.over c fs) (pyIter x) (fun it s2 =>
      ∀ p, GSeg C A R Y n s₀ (.forLoop tg it body orelse env) ((model C.prog C.w).den (.forLoop tg it body orelse env)) (.ret (fun r => (backFlow env r).wrap K H gd lv) none (gd false) (lv []) c p [] :: fs) s2)
      (fun x s' => GSeg C A R Y n s₀ c (H x) fs s') s1) (fun x s' => GSeg C A R Y n s₀ c (H x) fs s') s) :
    GSeg C A R Y n s₀ c ((exec (.For tg iter body orelse pos) env).wrap K H gd lv) fs s := by
  rw [exec_For]
  refine seg_bw (wpAny_standAt ?_)
  refine seg_bw (wpAny_mono h (fun x s1 h1 => ?_) fun _ _ e => e)
  rw [hs]
  refine seg_bw (wpAny_pure ?_)
  refine seg_bw (wpAny_standAt ?_)
  refine seg_bw (wpAny_holding (wpAny_mono h1 (fun it s2 h2 => ?_) fun _ _ e => e))
  exact seg_call h2

def forK (tg : Expr) (it : Value) (body orelse : List Stmt) (env : Env) : Flow → Sem Fin
  | .next => .pure (.again (.forLoop tg it body orelse env))
  | .cont => .pure (.again (.forLoop tg it body orelse env))
  | .brk => .pure (.done .next)
  | .ret v => .pure (.done (.ret v))
def forH (env : Env) : Value → Sem Fin := fun e => (do noteFrame e env; theTreesLotGoes e : Sem Unit).wrap (fun _ => .raise e) .raise id id
theorem seg_forLoop {tg : Expr} {it : Value} {body orelse : List Stmt}
    (h : wpAny (model C.prog C.w) (A.over (.forLoop tg it body orelse env) fs) (pyNext it) (fun r s1 => match r with
      | none => GSeg C A R Y n s₀ (.block orelse env) ((model C.prog C.w).den (.block orelse env)) fs s1
      | some v => wpAny (model C.prog C.w) (A.over (.forLoop tg it body orelse env) fs) (letOwnedTupleGo tg it v) (fun _ s2 => wpAny (model C.prog C.w) (A.over (.forLoop tg it body orelse env) fs) (assign tg env v) (fun _ s3 =>
          GSeg C A R Y n s₀ (.forLoop tg it body orelse env) ((execs body env).wrap (forK tg it body orelse env) (forH env) id id) fs s3) (fun _ _ => False) s2) (fun _ _ => False) s1) (fun _ _ => False) s) :
    GSeg C A R Y n s₀ (.forLoop tg it body orelse env) ((model C.prog C.w).den (.forLoop tg it body orelse env)) fs s := by
  show Seg _ A R Y n s₀ _ ((forTurn tg it body orelse env).onRaise (fun x => do noteFrame x env; theTreesLotGoes x)) fs s
  unfold forTurn
  rw [Sem.onRaise_eq_wrap, Sem.bind_eq_wrap', Sem.wrap_wrap]
  refine seg_wrap (wpAny_standAt ?_)
  rw [Sem.bind_eq_wrap', Sem.wrap_wrap]
  refine seg_wrap (wpAny_onRaise (wpAny_mono h (fun r s1 h1 => ?_) fun _ _ e => e.elim))
  cases r with
  | none => exact seg_again (c' := .block orelse env) rfl h1
  | some v =>
    dsimp only
    rw [Sem.bind_eq_wrap', Sem.wrap_wrap]
    refine seg_wrap (wpAny_mono h1 (fun _ s2 h2 => ?_) fun _ _ e => e.elim)
    rw [Sem.bind_eq_wrap', Sem.wrap_wrap]
    refine seg_wrap (wpAny_mono h2 (fun _ s3 h3 => ?_) fun _ _ e => e.elim)
    rw [Sem.bind_eq_wrap', Sem.wrap_wrap]
    rw [Sem.wrap_congr (execs body env) _ _ (K' := forK tg it body orelse env) (H' := forH env) (fun f => by cases f <;> rfl)
        (fun e => by first | exact Sem.bind_eq_wrap _ _ | (show (do noteFrame e env; theTreesLotGoes e : Sem Unit).bind (fun _ => .raise e) = _; unfold forH; rw [Sem.bind_eq_wrap]))]
    exact h3
end
end
section
variable {C : Cx}

section
variable {A : Around} {E : Value → Shared → Prop} {s : Shared}
/-- the next of a generator of a function, with bare states -/
theorem next_genB {a : Addr} {g n : Nat} {gs : GenState} {P : Nat → Shared → Shared → Prop} {Y : Protocol} {Q : Option Value → Shared → Prop} (hh : A.handled = none)
    (hl : s.heap.NoLimit) (hroom : A.depth < recursionLimit) (hg : s.heap.IsGen a g) (hgs : s.gens[g]? = some gs)
    (hgo : gs.Goes (model C.prog C.w) A.in1 (fun n s₀ r s₁ => r = .ok (.ret .none) ∧ P n s₀ s₁) Y n (.send .none) (s.setGen g .running))
    (hY : ∀ v s₁ gs', gs'.bare = true → Y (n - 1) (s.setGen g .running) v s₁ (fun r' s'' => match n with
        | 0 => False
        | m + 1 => gs'.Goes (model C.prog C.w) A.in1 (fun n s₀ r s₁ => r = .ok (.ret .none) ∧ P n s₀ s₁) Y m r' s'') → Q (some v) (s₁.setGen g gs'))
    (hP : ∀ s₁, P n (s.setGen g .running) s₁ → ∀ h', (∀ b o, s₁.heap.get? b = some o → h'.get? b = some o) → Q none { s₁.setGen g .finished with heap := h' }) :
    wpAny (model C.prog C.w) A (pyNext (.ref a)) Q E s := by
  unfold pyNext
  refine wpAny_bind (wpAny_attempt (wpAny_callSpecial?_slot (name := Str.ofString "__next__") hg.typeIs slot_gen_next
    (wpAny_call_entry slot_gen_next hg.typeIs entry_gen_next ?_ (args_gen_next _))))
  show wpAny _ _ (Builtin.Generator.genWake (.ref a) (.send .none)) _ _ s
  unfold Builtin.Generator.genWake
  refine wpAny_bind (wpAny_holding (wpAny_genNumber hg (wpAny_bind (wpAny_genState hgs ?_))))
  cases gs with
  | running => exact hgo.elim
  | finished => exact hgo.elim
  | _ =>
    refine wpAny_bind (wpAny_roomToWake hl hroom ?_)
    show wpAny _ _ (.resume g (.send .none) [] _) _ _ s
    refine wpAny_resumeQ hgs hgo (fun x s₁ hx => ?_) (fun v s₁ gs' hb hv => ?_)
    · obtain ⟨rfl, hp⟩ := hx
      show wpAny _ _ (newExc (.type "StopIteration") [] >>= _) _ _ _
      refine wpAny_bind ?_
      simp only [newExc, newTuple]
      refine wpAny_bind (wpAny_newObj_type ?_ (by size_fits))
      refine wpAny_bind (m := firstArgMember _ _) (wpAny_of_eq (a := Value.none) (by first | rfl | (simp only [firstArgMember]; rfl)) ?_)
      refine wpAny_newObj_type ?_ (by size_fits)
      simp only [raiseNew]
      refine wpAny_bind (wpAny_bind (wpAny_handled ?_))
      rw [show A.in1.handled = none from hh]
      refine wpAny_throw ?_
      refine wpAny_bind (wpAny_isInstance (T := "StopIteration") (b := true) ⟨_, Heap.get?_push_size _ rfl, rfl⟩ isSubtype_stop ?_)
      exact wpAny_pure (hP s₁ hp _ fun b o hb => Heap.get?_push_of_some _ (Heap.get?_push_of_some _ hb))
    · exact wpAny_pure ⟨v, rfl, wpAny_pure (hY v s₁ gs' hb hv)⟩
end

/-- what a frame at L calls its own: the frame, and what its name x holds -/
def OW (L : Addr) (x : Str) (h : Heap) (b : Addr) : Prop := b = L ∨ ∃ m, h.Ns L m ∧ m x = some (.ref b)
def Two (L : Addr) (x : Str) (h : Heap) (D : Addr) : Prop := ∃ m, h.Ns L m ∧ m x = some (.ref D)
theorem Ns.uniq {h : Heap} {L : Addr} {m m' : Str → Option Value} (a : h.Ns L m) (b : h.Ns L m') : m = m' := by
  obtain ⟨o, es, ep, e, d, k, f⟩ := a
  obtain ⟨o', es', ep', e', d', k', f'⟩ := b
  rw [e] at e'; cases e'
  rw [d] at d'; cases d'
  funext x
  rw [← f, ← f']
theorem OW.of {L : Addr} {x : Str} {h : Heap} {b D : Addr} (t : Two L x h D) (o : OW L x h b) : b = L ∨ b = D := by
  rcases o with o | ⟨m, n, e⟩
  · exact .inl o
  · obtain ⟨m', n', e'⟩ := t
    rw [Ns.uniq n n', e'] at e
    cases e
    exact .inr rfl
theorem Two.own {L : Addr} {x : Str} {h : Heap} {D : Addr} (t : Two L x h D) : OW L x h D := .inr t
theorem Two.same {L : Addr} {x : Str} {h h' : Heap} {D : Addr} (t : Two L x h D) (k : ∀ o, h.get? L = some o → h'.get? L = some o) : Two L x h' D := by
  obtain ⟨m, ⟨o, es, ep, e, r⟩, f⟩ := t
  exact ⟨m, ⟨o, es, ep, k _ e, r⟩, f⟩

/-- what stays while one frame runs: all but its own; its own afterwards are its own before, or new -/
structure Ran (L : Addr) (x : Str) (h h' : Heap) : Prop where
  keep : ∀ b o, ¬ OW L x h b → h.get? b = some o → h'.get? b = some o
  own : ∃ D, Two L x h' D ∧ (OW L x h D ∨ h.get? D = none) ∧ (∃ o, h'.get? D = some o) ∧ D ≠ L

/-- how the generator and the one who asks it hand over -/
def YG (C : Cx) (toks : List AV) (LG : Addr) (xG : Str) (LT : Addr) (xT : Str) (MoL : List Addr) : Protocol := fun n s₀ v s' kap =>
  ∃ a DG DT, toks[toks.length - 1 - n]? = some a ∧ n < toks.length ∧ Ran LG xG s₀.heap s'.heap ∧ Two LG xG s'.heap DG ∧ Two LT xT s'.heap DT ∧ Rep C (hid s'.heap ([LG, DG] ++ ([LT, DT] ++ MoL))) a v ∧ Mv s₀ s' ∧
    ∀ s'' : Shared, Ran LT xT s'.heap s''.heap → (∀ b ∈ MoL, ∃ o, s''.heap.get? b = some o) → kap (.send .none) s''

section
variable {fi : Fi} {hb : Base} {Mo : List Addr} {M : List Addr} {m : Str → Option Value} {cv : Nat → Option Value} {ad : Nat → List Addr} {ℓ : List Slot} {s : Shared}

/-- a frame without cells that owns one list alone -/
structure Lone (fi : Fi) (ℓ : List Slot) (i : Nat) (x : Str) : Prop where
  nocel : ∀ (j : Nat) y c, fi.vs[j]? ≠ some (y, .cel c)
  name : fi.vs[i]? = some (x, .loc)
  mine : ∃ l, ℓ[i]? = some (.ol l)
  rest : ∀ j sl, j ≠ i → ℓ[j]? = some sl → sl = .un ∨ ∃ a, sl = .fz a

theorem Lone.at (o : Lone fi ℓ i x) (R : Rel C hb Mo fi M m cv ad ℓ s) : ∃ D, cv i = some (.ref D) ∧ ad i = [D] ∧ (∀ j, j < ℓ.length → j ≠ i → ad j = []) ∧ Two fi.env.locals x s.heap D ∧ D ∈ M ∧ D ∉ Mo ∧ D ≠ fi.env.locals ∧ ∃ o, s.heap.get? D = some o := by
  obtain ⟨l, hl⟩ := o.mine
  have hi := (List.getElem?_eq_some_iff.mp hl).1
  have z := R.slot i _ hl
  generalize ec : cv i = w at z
  generalize ed : ad i = ds at z
  cases z with
  | @ol _ D vs la rl =>
    have zA := (R.mA i hi).2 D (by rw [ed]; exact .head _)
    refine ⟨D, rfl, rfl, fun j hj hne => ?_, ⟨m, R.ns, ?_⟩, zA.1, zA.2.1, zA.2.2.1, let ⟨n, e⟩ := la; ⟨_, e⟩⟩
    · have ej : ℓ[j]? = some ℓ[j] := List.getElem?_eq_getElem hj
      have zj := R.slot j _ ej
      rcases o.rest j _ hne ej with h | ⟨a, h⟩ <;> rw [h] at zj <;> generalize ad j = ds at zj <;> generalize cv j = w at zj <;> cases zj <;> rfl
    · rw [← R.loc i x o.name]; exact ec
theorem Lone.trim (o : Lone fi ℓ i x) (R : Rel C hb Mo fi M m cv ad ℓ s) {D : Addr} (hD : Two fi.env.locals x s.heap D) : Rel C hb Mo fi ([fi.env.locals, D] ++ Mo) m cv ad ℓ s := by
  obtain ⟨D', h1, h2, h3, h4, h5, h6, h7, h8⟩ := o.at R
  have e : D' = D := by
    rcases OW.of h4 hD.own with z | z
    · obtain ⟨m1, n1, f1⟩ := hD
      obtain ⟨m2, n2, f2⟩ := h4
      rw [Ns.uniq n1 n2, f2] at f1
      cases f1; rfl
    · exact z.symm
  subst e
  refine R.trim (fun b hb' => ?_) (by simp) (fun i x c e => absurd e (o.nocel i x c)) (fun j hj a ha => ?_) (fun b h => by simp [h])
  · simp only [List.cons_append, List.nil_append, List.mem_cons] at hb'
    rcases hb' with rfl | rfl | h
    · exact R.mL.1
    · exact h5
    · exact R.mO b h
  · by_cases z : j = i
    · subst z; rw [h2] at ha; simp at ha; simp [ha]
    · rw [h3 j hj z] at ha; cases ha
end
end
section
variable {C : Cx}

def PE (LG : Addr) (xG : Str) (n : Nat) (s₀ s₁ : Shared) : Prop := n = 0 ∧ (∀ b o, ¬ OW LG xG s₀.heap b → s₀.heap.get? b = some o → s₁.heap.get? b = some o) ∧ Mv s₀ s₁
abbrev Ready (C : Cx) (A : Around) (toks : List AV) (LG : Addr) (xG : Str) (LT : Addr) (xT : Str) (MoL : List Addr) (gs : GenState) (k : Nat) (s : Shared) : Prop :=
  gs.Goes (model C.prog C.w) A.in1 (fun n s₀ r s₁ => r = .ok (.ret .none) ∧ PE LG xG n s₀ s₁) (YG C toks LG xG LT xT MoL) k (.send .none) s

theorem setGen_get {s : Shared} {g i : Nat} {x y : GenState} (e : s.gens[i]? = some y) (h : i ≠ g) : (s.setGen g x).gens[i]? = some y := by
  show (s.gens.setIfInBounds g x)[i]? = some y
  rw [Array.getElem?_setIfInBounds_ne (Ne.symm h)]; exact e
theorem setGen_self {s : Shared} {g : Nat} {x y : GenState} (e : s.gens[g]? = some y) : (s.setGen g x).gens[g]? = some x := by
  show (s.gens.setIfInBounds g x)[g]? = some x
  have := (Array.getElem?_eq_some_iff.mp e).1
  simp [this]
theorem setGen_bare {s : Shared} {g : Nat} {x : GenState} (hx : x.bare = true) (h : AllBare s.gens) : AllBare (s.setGen g x).gens := fun y hy => by
  have hy : y ∈ s.gens.setIfInBounds g x := hy
  rcases Array.mem_or_eq_of_mem_setIfInBounds hy with z | z
  · exact h _ z
  · exact z ▸ hx

/-- the state of the one who asks, ahead of an item -/
structure Ask (C : Cx) (A : Around) (toks : List AV) (LG : Addr) (xG : Str) (xT : Str) (MoT : List Addr) (a : Addr) (g : Nat) (hb : Base) (fi : Fi) (i : Nat) (WG : List Addr) (k : Nat) (ℓ : List Slot) (s : Shared) : Prop where
  rel : Here C hb (WG ++ MoT) fi ℓ s
  lone : Lone fi ℓ i xT
  isgen : s.heap.IsGen a g
  notT : a ≠ fi.env.locals
  aW : a ∉ WG
  aM : a ∉ MoT
  st : ∃ gs, s.gens[g]? = some gs ∧ Ready C A toks LG xG fi.env.locals xT MoT gs k (s.setGen g .running)
  own : ∀ b, OW LG xG s.heap b → b ∈ WG
  own' : ∀ b ∈ WG, OW LG xG s.heap b
  hd : ∀ b ∈ WG, ∀ x, ¬ hb b x
  hba : ∃ o, hb a o
  sep : ∀ b ∈ WG, b ∉ MoT

theorem forGen {n : Nat} {A : Around} {toks : List AV} {LG : Addr} {xG xT : Str} {MoT : List Addr} {a : Addr} {g : Nat} {hb : Base} {fi : Fi} {i : Nat} {WG : List Addr} {ℓ : List Slot} {s : Shared} {tg iter : Expr} {body : List Stmt} {pos : Pos}
    (ak : AOk n A) {P : List AV → List Slot → Prop} (hP : ∀ rest ℓ, P rest ℓ → Lone fi ℓ i xT)
    (step : ∀ x rest ℓ, P (x :: rest) ℓ → ∃ ℓ', TJ C n fi tg x ℓ ℓ' ∧ SW C n fi body ℓ' (fun o => match o with | .nxt ℓ => P rest ℓ | .cnt ℓ => P rest ℓ | _ => False))
    (h0 : P toks ℓ) (K : Ask C A toks LG xG xT MoT a g hb fi i WG toks.length ℓ s) (hs : ∀ env x, foldedSetIterable iter env x = pure x)
    {Q : Flow → Shared → Prop} {E : Value → Shared → Prop}
    (he : ∀ (Q : Value → Shared → Prop) (E : Value → Shared → Prop), Q (.ref a) s → wpAny (model C.prog C.w) A (eval iter fi.env) Q E s)
    (q : ∀ ℓ' s', P [] ℓ' → (∀ j gs, j ≠ g → s.gens[j]? = some gs → s'.gens[j]? = some gs) → (AllBare s.gens → AllBare s'.gens) → s'.os = s.os → Here C hb MoT fi ℓ' s' → Q .next s') :
    wpAny (model C.prog C.w) A (exec (.For tg iter body [] pos) fi.env) Q E s := by
  refine wpAny_For (he _ _ (wpAny_pyIter_gen K.isgen ?_)) (hs fi.env)
  refine codeAny_forLoop_any (fun k s' => ∃ rest ℓ' WG', k = rest.length ∧ rest = toks.drop (toks.length - k) ∧ P rest ℓ' ∧ Ask C A toks LG xG xT MoT a g hb fi i WG' k ℓ' s' ∧
      (∀ j gs, j ≠ g → s.gens[j]? = some gs → s'.gens[j]? = some gs) ∧ (AllBare s.gens → AllBare s'.gens) ∧ s'.os = s.os)
    (fun k s' hk => ?_) toks.length ⟨toks, ℓ, WG, rfl, by simp, h0, K, fun j gs _ e => e, id, rfl⟩
  obtain ⟨rest, ℓ', WG', hk, hrest, hPr, K', hg1, hg2, hg3⟩ := hk
  obtain ⟨M, m, cv, ad, R⟩ := K'.rel
  obtain ⟨gs, hgs, hgo⟩ := K'.st
  obtain ⟨DT, hcv, had, hads, hTwo, hDM, hDMo, hDL, oD, hDo⟩ := K'.lone.at R
  have RT := K'.lone.trim R hTwo
  have hWM : ∀ b, b ∈ WG' → b ∈ WG' ++ MoT := fun b h => List.mem_append_left _ h
  have hLTW : fi.env.locals ∉ WG' := fun z => R.mL.2 (hWM _ z)
  have hDTW : DT ∉ WG' := fun z => hDMo (hWM _ z)
  have nocel : ∀ (j : Nat) y c, fi.vs[j]? = some (y, .cel c) → c ∉ WG' ++ MoT := fun j y c e => absurd e (K'.lone.nocel j y c)
  refine next_genB ak.handled (C.nolim.keeps R.base0) ak.room K'.isgen hgs hgo (fun v s1' gs' hbare hY => ?_) (fun s1' hp h' hk' => ?_)
  · -- an item
    obtain ⟨x, DG, DT', hx, hlt, hran, hTG, hTT, rv, hmv, hkap⟩ := hY
    have keep1 : ∀ b o, b ∉ WG' → s'.heap.get? b = some o → s1'.heap.get? b = some o := fun b o nb e => hran.keep b o (fun z => nb (K'.own b z)) e
    have hTwo1 : Two fi.env.locals xT s1'.heap DT := hTwo.same fun o e => keep1 _ o hLTW e
    have hDT : DT' = DT := by
      obtain ⟨m1, n1, f1⟩ := hTT
      obtain ⟨m2, n2, f2⟩ := hTwo1
      rw [Ns.uniq n1 n2, f2] at f1
      cases f1; rfl
    subst hDT
    have hMoT : ∀ b ∈ MoT, ∃ o, s1'.heap.get? b = some o := fun b hb' => by
      obtain ⟨o, e⟩ := R.has b (R.mO b (List.mem_append_right _ hb'))
      exact ⟨o, keep1 b o (fun z => K'.sep b z hb') e⟩
    have hDo1 : ∃ o, s1'.heap.get? DT' = some o := ⟨oD, keep1 _ _ hDTW hDo⟩
    cases k with
    | zero => exact absurd (hkap s1' ⟨fun b o _ e => e, DT', hTwo1, .inl hTwo1.own, hDo1, hDL⟩ hMoT) id
    | succ k' =>
    have hLGW : LG ∈ WG' := K'.own LG (.inl rfl)
    have hDGs : DG ∈ WG' ∨ s'.heap.get? DG = none := by
      obtain ⟨D, t, hD, _, hne⟩ := hran.own
      have : DG = D := by
        obtain ⟨m1, n1, f1⟩ := hTG
        obtain ⟨m2, n2, f2⟩ := t
        rw [Ns.uniq n1 n2, f2] at f1
        cases f1; rfl
      subst this
      exact hD.imp (fun z => K'.own _ z) id
    have hDGo : ∃ o, s1'.heap.get? DG = some o := by
      obtain ⟨D, t, hD, ho, hne⟩ := hran.own
      have : DG = D := by
        obtain ⟨m1, n1, f1⟩ := hTG
        obtain ⟨m2, n2, f2⟩ := t
        rw [Ns.uniq n1 n2, f2] at f1
        cases f1; rfl
      exact this ▸ ho
    have hW2 : ∀ b ∈ [LG, DG], b ∈ WG' ∨ s'.heap.get? b = none := fun b hb' => by
      simp only [List.mem_cons, List.not_mem_nil, or_false] at hb'
      rcases hb' with rfl | rfl
      · exact .inl hLGW
      · exact hDGs
    have hsepM : ∀ b, (∃ o, s'.heap.get? b = some o) → b ∉ WG' → b ∉ [LG, DG] := fun b ⟨o, e⟩ nb z => by
      rcases hW2 b z with w | w
      · exact nb w
      · rw [w] at e; cases e
    let hbB : Base := fun b o => s1'.heap.get? b = some o ∧ b ≠ fi.env.locals ∧ b ≠ DT'
    have hLGo : ∃ o, s1'.heap.get? LG = some o := by obtain ⟨m1, ⟨o, _, _, e, _⟩, _⟩ := hTG; exact ⟨o, e⟩
    have R2 := RT.shift (s' := s1'.setGen g gs') (hb' := hbB) (Mo' := [LG, DG] ++ MoT) (fun b o nb e => keep1 b o (fun z => nb (hWM b z)) e)
      (fun b hb' => by
        rcases List.mem_append.mp hb' with z | z
        · exact (hW2 b z).imp (fun w => hWM b w) id
        · exact .inl (List.mem_append_right _ z))
      (fun b hb' => by
        rcases List.mem_append.mp hb' with z | z
        · simp only [List.mem_cons, List.not_mem_nil, or_false] at z
          rcases z with rfl | rfl
          · exact hLGo
          · exact hDGo
        · exact hMoT b z)
      (fun b o h => h.1)
      (fun b hb' nb o h => by
        simp only [List.cons_append, List.nil_append, List.mem_cons] at hb'
        rcases hb' with z | z | z
        · exact h.2.1 z
        · exact h.2.2 z
        · exact nb z) nocel
    have rest1 : ∃ rest', rest = x :: rest' ∧ rest' = toks.drop (toks.length - k') ∧ k' = rest'.length := by
      have e1 : toks.length - 1 - (k' + 1 - 1) = toks.length - (k' + 1) := by omega
      rw [e1] at hx
      have lt := (List.getElem?_eq_some_iff.mp hx).1
      have e2 : toks.drop (toks.length - (k' + 1)) = x :: toks.drop (toks.length - (k' + 1) + 1) := by
        rw [← (List.getElem?_eq_some_iff.mp hx).2]; exact List.drop_eq_getElem_cons lt
      have kk : k' + 1 ≤ toks.length := by
        have := congrArg List.length hrest
        rw [List.length_drop] at this; omega
      have e3 : toks.length - (k' + 1) + 1 = toks.length - k' := by omega
      rw [e3] at e2
      exact ⟨_, hrest.trans e2, rfl, by rw [List.length_drop]; omega⟩
    obtain ⟨rest', rfl, hr1, hr2⟩ := rest1
    obtain ⟨ℓ4, ht, hw⟩ := step x rest' ℓ' hPr
    have ow : Own fi ([LG, DG] ++ MoT) := fun _ j y c e => absurd e (K'.lone.nocel j y c)
    have rv2 : Rep C (hid (s1'.setGen g gs').heap (([LG, DG] ++ MoT) ++ ([fi.env.locals, DT'] ++ (WG' ++ MoT)).filter (fun b => decide (b ∉ WG' ++ MoT)))) x v := rv.mono (hid_mono (fun _ _ _ e => e) fun b hb' => by
      rcases List.mem_append.mp hb' with z | z
      · rcases List.mem_append.mp z with z | z
        · exact List.mem_append_left _ z
        · exact List.mem_append_right _ (List.mem_append_right _ z)
      · obtain ⟨z1, z2⟩ := List.mem_filter.mp z
        rcases List.mem_append.mp z1 with z1 | z1
        · exact List.mem_append_right _ (List.mem_append_left _ z1)
        · simp at z2; simp at z1; exact absurd z1 (by rintro (w | w); exact z2.1 w; exact z2.2 w))
    have tm : Tame (s1'.setGen g gs').heap a := by
      obtain ⟨o, nm, qn, e, hc, _⟩ := K'.isgen
      exact ⟨o, _, keep1 a o K'.aW e, hc, by decide⟩
    refine letGo_tame tm (ht A hbB _ _ _ _ _ _ v ak ow R2 rv2 _ _ fun s4 g4 hh4 => ?_)
    obtain ⟨M4, m4, cv4, ad4, R4⟩ := hh4
    refine hw A hbB _ M4 m4 cv4 ad4 s4 ak ow R4 _ _ fun oo f s5 ho af => ?_
    -- the next round
    have fin : ∀ ℓ5, P rest' ℓ5 → Mv s4 s5 → Here C hbB ([LG, DG] ++ MoT) fi ℓ5 s5 → ∃ m, m < k' + 1 ∧ ∃ rest ℓ' WG', m = rest.length ∧ rest = toks.drop (toks.length - m) ∧ P rest ℓ' ∧ Ask C A toks LG xG xT MoT a g hb fi i WG' m ℓ' s5 ∧
      (∀ j gs, j ≠ g → s.gens[j]? = some gs → s5.gens[j]? = some gs) ∧ (AllBare s.gens → AllBare s5.gens) ∧ s5.os = s.os := by
      intro ℓ5 hP5 g5 hh5
      obtain ⟨M5, m5, cv5, ad5, R5⟩ := hh5
      have lone5 := hP _ _ hP5
      obtain ⟨D5, hcv5, had5, hads5, hTwo5, hDM5, hDMo5, hDL5, oD5, hDo5⟩ := lone5.at R5
      have aDT : a ≠ DT' := fun z => by
        obtain ⟨o, e⟩ := K'.hba
        rcases R.new DT' hDM with w | w
        · exact hDMo w
        · exact w o (z ▸ e)
      have base5 : ∀ b o, s1'.heap.get? b = some o → b ≠ fi.env.locals → b ≠ DT' → s5.heap.get? b = some o := fun b o e n1 n2 => R5.base b o ⟨e, n1, n2⟩
      have isg5 : s5.heap.IsGen a g := by
        obtain ⟨o, nm, qn, e, r⟩ := K'.isgen
        exact ⟨o, nm, qn, base5 a o (keep1 a o K'.aW e) K'.notT aDT, r⟩
      have run5 : Ran fi.env.locals xT s1'.heap s5.heap := by
        refine ⟨fun b o nb e => base5 b o e (fun z => nb (.inl z)) fun z => nb (z ▸ hTwo1.own), D5, hTwo5, ?_, ⟨oD5, hDo5⟩, hDL5⟩
        cases e : s1'.heap.get? D5 with
        | none => exact .inr rfl
        | some o =>
          left
          rcases R5.new D5 hDM5 with w | w
          · exact absurd w hDMo5
          · by_cases z : D5 = DT'
            · exact z ▸ hTwo1.own
            · exact absurd ⟨e, hDL5, z⟩ (w o)
      have LGne : LG ≠ fi.env.locals ∧ LG ≠ DT' := ⟨fun z => hLTW (z ▸ hLGW), fun z => hDTW (z ▸ hLGW)⟩
      have hTG5 : Two LG xG s5.heap DG := hTG.same fun o e => base5 _ o e LGne.1 LGne.2
      have gen1 : s1'.gens[g]? = some .running := hmv.gens g _ (setGen_self hgs)
      have gen4 : s4.gens[g]? = some gs' := g4.gens g _ (setGen_self gen1)
      refine ⟨k', Nat.lt_succ_self _, rest', ℓ5, [LG, DG], hr2, hr1, hP5, ?_, fun j gg hj e => ?_, fun hball => ?_, ?_⟩
      · exact {
          rel := ⟨M5, m5, cv5, ad5, R5.back (fun b o h => ⟨keep1 b o (fun z => K'.hd b z o h) (R.base b o h), fun z => by
              rcases R.new fi.env.locals R.mL.1 with w | w
              · exact R.mL.2 w
              · exact w o (z ▸ h), fun z => by
              rcases R.new DT' hDM with w | w
              · exact hDMo w
              · exact w o (z ▸ h)⟩) (fun _ h => h) fun b h => .inl h⟩
          lone := lone5
          isgen := isg5
          notT := K'.notT
          aW := hsepM a (let ⟨o, _, _, e, _⟩ := K'.isgen; ⟨o, e⟩) K'.aW
          aM := K'.aM
          st := ⟨gs', g5.gens g _ gen4, hkap _ run5 fun b hb' => by
            obtain ⟨o, e⟩ := R5.has b (R5.mO b (List.mem_append_right _ hb')); exact ⟨o, e⟩⟩
          own := fun b hb' => by
            rcases OW.of hTG5 hb' with z | z <;> simp [z]
          own' := fun b hb' => by
            simp only [List.mem_cons, List.not_mem_nil, or_false] at hb'
            rcases hb' with rfl | rfl
            · exact .inl rfl
            · exact hTG5.own
          hd := fun b hb' o h => by
            rcases hW2 b hb' with z | z
            · exact K'.hd b z o h
            · rw [R.base b o h] at z; cases z
          hba := K'.hba
          sep := fun b hb' hm => by
            rcases hW2 b hb' with z | z
            · exact K'.sep b z hm
            · obtain ⟨o, e⟩ := R.has b (R.mO b (List.mem_append_right _ hm)); rw [e] at z; cases z }
      · exact g5.gens j gg (g4.gens j gg (setGen_get (hmv.gens j gg (setGen_get (hg1 j gg hj e) hj)) hj))
      · exact g5.bare (g4.bare (setGen_bare hbare (hmv.bare (setGen_bare rfl (hg2 hball)))))
      · exact g5.os.trans (g4.os.trans (hmv.os.trans hg3))
    cases oo with
    | nxt ℓ5 =>
      cases f <;> first | exact af.elim | skip
      exact fin ℓ5 ho af.1 af.2
    | cnt ℓ5 =>
      cases f <;> first | exact af.elim | skip
      exact fin ℓ5 ho af.1 af.2
    | brk ℓ5 => exact ho.elim
    | ret b => exact ho.elim
  · -- the end
    obtain ⟨hk0, hkeep, hmv⟩ := hp
    subst hk0
    have keep1 : ∀ b o, b ∉ WG' → s'.heap.get? b = some o → h'.get? b = some o := fun b o nb e => hk' b o (hkeep b o (fun z => nb (K'.own b z)) e)
    have hr : rest = [] := List.eq_nil_of_length_eq_zero hk.symm
    subst hr
    have R2 := RT.shift (s' := { s1'.setGen g .finished with heap := h' }) (hb' := hb) (Mo' := MoT) (fun b o nb e => keep1 b o (fun z => nb (hWM b z)) e)
      (fun b hb' => .inl (List.mem_append_right _ hb'))
      (fun b hb' => by
        obtain ⟨o, e⟩ := R.has b (R.mO b (List.mem_append_right _ hb'))
        exact ⟨o, keep1 b o (fun z => K'.sep b z hb') e⟩)
      (fun b o h => keep1 b o (fun z => K'.hd b z o h) (R.base b o h))
      (fun b hb' nb o h => (RT.new b hb').elim nb fun w => w o h) nocel
    refine wpAny_execs_nil (q ℓ' _ hPr (fun j gg hj e => ?_) (fun hball => ?_) ?_ ⟨_, _, _, _, R2⟩)
    · exact setGen_get (hmv.gens j gg (setGen_get (hg1 j gg hj e) hj)) hj
    · exact setGen_bare rfl (hmv.bare (setGen_bare rfl (hg2 hball)))
    · exact hmv.os.trans hg3
end
section
variable {C : Cx}

/-- the generator's frame at a point of a segment that began at s₀ -/
structure GI (C : Cx) (xG : Str) (LT : Addr) (xT : Str) (MoL : List Addr) (fi : Fi) (s₀ s : Shared) (ℓ : List Slot) : Prop where
  get : ∃ DT, Two LT xT s₀.heap DT ∧ (∃ o, s₀.heap.get? DT = some o) ∧ (∀ b ∈ [LT, DT] ++ MoL, ¬ OW fi.env.locals xG s₀.heap b) ∧
    Here C (fun b o => s₀.heap.get? b = some o ∧ ¬ OW fi.env.locals xG s₀.heap b) ([LT, DT] ++ MoL) fi ℓ s
  mv : Mv s₀ s
  nocel : ∀ (j : Nat) y c, fi.vs[j]? ≠ some (y, .cel c)

theorem GI.own {xG LT xT MoL fi s₀ s ℓ} (G : GI C xG LT xT MoL fi s₀ s ℓ) (Mo : List Addr) : Own fi Mo := fun _ j y c e => absurd e (G.nocel j y c)
theorem GI.after {xG LT xT MoL fi s₀ s ℓ} (G : GI C xG LT xT MoL fi s₀ s ℓ) {s' ℓ'} (mv : Mv s s') {DT : Addr} (h1 : Two LT xT s₀.heap DT) (h2 : ∃ o, s₀.heap.get? DT = some o) (h3 : ∀ b ∈ [LT, DT] ++ MoL, ¬ OW fi.env.locals xG s₀.heap b)
    (h : Here C (fun b o => s₀.heap.get? b = some o ∧ ¬ OW fi.env.locals xG s₀.heap b) ([LT, DT] ++ MoL) fi ℓ' s') : GI C xG LT xT MoL fi s₀ s' ℓ' := ⟨⟨DT, h1, h2, h3, h⟩, G.mv.trans mv, G.nocel⟩

section
variable {A : Around} {RE : GenEnd} {Y : Protocol} {n k : Nat} {s₀ : Shared} {c : Code} {fs : List Frame} {s : Shared} {fi : Fi} {ℓ : List Slot} {xG xT : Str} {LT : Addr} {MoL : List Addr}
  {K : Flow → Sem Fin} {H : Value → Sem Fin} {gd : Bool → Bool} {lv : List Value → List Value}

/-- a statement without a yield -/
theorem g_st {st : Stmt} {rest : List Stmt} {F : Out → Prop} (G : GI C xG LT xT MoL fi s₀ s ℓ) (ak : AOk n (A.over c fs)) (h : S1 C n fi st ℓ F)
    (nx : ∀ ℓ' s', F (.nxt ℓ') → GI C xG LT xT MoL fi s₀ s' ℓ' → GSeg C A RE Y k s₀ c ((execs rest fi.env).wrap K H gd lv) fs s')
    (bk : ∀ ℓ' s', F (.brk ℓ') → GI C xG LT xT MoL fi s₀ s' ℓ' → GSeg C A RE Y k s₀ c (K .brk) fs s')
    (cn : ∀ ℓ' s', F (.cnt ℓ') → GI C xG LT xT MoL fi s₀ s' ℓ' → GSeg C A RE Y k s₀ c (K .cont) fs s')
    (rt : ∀ a, ¬ F (.ret a)) : GSeg C A RE Y k s₀ c ((execs (st :: rest) fi.env).wrap K H gd lv) fs s := by
  obtain ⟨DT, h1, h2, h3, M, m, cv, ad, R⟩ := G.get
  refine seg_execs_cons (seg_wrap (h _ _ _ M m cv ad s ak (G.own _) R _ _ fun o f s' ho af => ?_))
  cases o with
  | nxt ℓ' => cases f <;> first | exact af.elim | exact nx ℓ' s' ho (G.after af.1 h1 h2 h3 af.2)
  | brk ℓ' => cases f <;> first | exact af.elim | exact bk ℓ' s' ho (G.after af.1 h1 h2 h3 af.2)
  | cnt ℓ' => cases f <;> first | exact af.elim | exact cn ℓ' s' ho (G.after af.1 h1 h2 h3 af.2)
  | ret a => exact absurd ho (rt a)
theorem g_nil {rest : List Stmt} (h : GSeg C A RE Y k s₀ c (K .next) fs s) : GSeg C A RE Y k s₀ c ((execs [] fi.env).wrap K H gd lv) fs s := seg_execs_nil h

/-- an if with yields in it -/
theorem g_if {t : Expr} {body orelse : List Stmt} {pos : Pos} {b : Bool} (G : GI C xG LT xT MoL fi s₀ s ℓ) (ak : AOk n (A.over c fs)) (hc : BJ C n fi ℓ t b)
    (ht : b = true → ∀ s', GI C xG LT xT MoL fi s₀ s' ℓ → GSeg C A RE Y k s₀ c ((execs body fi.env).wrap K H gd lv) fs s')
    (hf : b = false → ∀ s', GI C xG LT xT MoL fi s₀ s' ℓ → GSeg C A RE Y k s₀ c ((execs orelse fi.env).wrap K H gd lv) fs s') :
    GSeg C A RE Y k s₀ c ((exec (.If t body orelse pos) fi.env).wrap K H gd lv) fs s := by
  obtain ⟨DT, h1, h2, h3, M, m, cv, ad, R⟩ := G.get
  rw [exec_If]
  refine seg_bw (wpAny_standAt (seg_bw (hc _ _ _ M m cv ad s ak R _ _ fun v s' g e => ?_)))
  subst e
  have G' := G.after g.mv h1 h2 h3 ⟨M, m, cv, ad, R.grow g⟩
  cases v
  · exact hf rfl s' G'
  · exact ht rfl s' G'

/-- a yield -/
theorem g_yield {toks : List AV} {e : Expr} {a : AV} {i : Nat} {yp pos : Pos} (G : GI C xG LT xT MoL fi s₀ s ℓ) (lone : Lone fi ℓ i xG) (ak : AOk n (A.over c fs)) (he : EJ C n fi ℓ e a)
    (htok : toks[toks.length - 1 - k]? = some a) (hk : k < toks.length) (hfs : splitAtGen fs = none) (hgd : gd false = false) (hfg : fs.any Frame.guarded = false) (hco : fi.env.scope.isCoroutine = false) (hint : interactive fi.env = false)
    (cont : ∀ s'', GI C xG LT xT MoL fi s'' s'' ℓ → GSeg C A RE (YG C toks fi.env.locals xG LT xT MoL) k s'' c (K .next) fs s'') :
    GSeg C A RE (YG C toks fi.env.locals xG LT xT MoL) (k + 1) s₀ c ((exec (.Expr (.Yield (some e) yp) pos) fi.env).wrap K H gd lv) fs s := by
  obtain ⟨DT, h1, h2, h3, M, m, cv, ad, R⟩ := G.get
  refine seg_Expr_Yield hfs hgd hfg (he _ _ _ M m cv ad s ak R _ _ fun v s' g rv => fun kap hkap => ?_) hco hint
  have R' := R.grow g
  obtain ⟨D, hcv, had, hads, hTwo, hDM, hDMo, hDL, hDo⟩ := lone.at R'
  have RT := lone.trim R' hTwo
  have hkeep : ∀ b o, ¬ OW fi.env.locals xG s₀.heap b → s₀.heap.get? b = some o → s'.heap.get? b = some o := fun b o nb e => R'.base b o ⟨e, nb⟩
  have hLT : ∀ o, s₀.heap.get? LT = some o → s'.heap.get? LT = some o := fun o e => hkeep _ _ (h3 LT (by simp)) e
  have hTT := h1.same hLT
  have hran : Ran fi.env.locals xG s₀.heap s'.heap := ⟨hkeep, D, hTwo, by
    cases q : s₀.heap.get? D with
    | none => exact .inr rfl
    | some o =>
      left
      rcases R'.new D hDM with w | w
      · exact absurd w hDMo
      · exact Classical.byContradiction fun z => w o ⟨q, z⟩, hDo, hDL⟩
  refine ⟨a, D, DT, htok, hk, hran, hTwo, hTT, ?_, G.mv.trans g.mv, fun s'' hr hmo => ?_⟩
  · refine rv.mono (hid_mono (fun _ _ _ e => e) fun b hb' => ?_)
    rcases List.mem_append.mp hb' with z | z
    · simp only [List.mem_cons, List.not_mem_nil, or_false] at z
      rcases z with rfl | rfl
      · exact R'.mL.1
      · exact hDM
    · exact R'.mO b z
  · refine hkap .none s'' ?_
    show GSeg C A RE _ k s'' c (K .next) fs s''
    obtain ⟨DT2, t2, hD2, ho2, hne2⟩ := hr.own
    have ne0 : ∀ b, b ∈ [fi.env.locals, D] → ∃ o, s'.heap.get? b = some o := fun b hb' => by
      simp only [List.mem_cons, List.not_mem_nil, or_false] at hb'
      rcases hb' with rfl | rfl
      · obtain ⟨o, _, _, e, _⟩ := R'.ns; exact ⟨o, e⟩
      · exact hDo
    have nin : ∀ b, b ∈ [fi.env.locals, D] → b ∉ [LT, DT] ++ MoL := fun b hb' => by
      simp only [List.mem_cons, List.not_mem_nil, or_false] at hb'
      rcases hb' with rfl | rfl
      · exact R'.mL.2
      · exact hDMo
    have keepT : ∀ b o, b ∉ [LT, DT] ++ MoL → s'.heap.get? b = some o → s''.heap.get? b = some o := fun b o nb e => hr.keep b o (fun z => by
      rcases OW.of hTT z with w | w <;> exact nb (by simp [w])) e
    have hD2' : DT2 ∈ [LT, DT] ++ MoL ∨ s'.heap.get? DT2 = none := hD2.imp (fun z => by rcases OW.of hTT z with w | w <;> simp [w]) id
    have tG2 : Two fi.env.locals xG s''.heap D := hTwo.same fun o e => keepT _ o (nin _ (by simp)) e
    have nOW2 : ∀ b ∈ [LT, DT2] ++ MoL, ¬ OW fi.env.locals xG s''.heap b := fun b hb' z => by
      have zz : b ∈ [fi.env.locals, D] := by rcases OW.of tG2 z with w | w <;> simp [w]
      have nn := nin b zz
      simp only [List.cons_append, List.nil_append, List.mem_cons] at hb' nn
      rcases hb' with rfl | rfl | w
      · exact nn (.inl rfl)
      · rcases hD2' with w | w
        · exact nin _ zz w
        · obtain ⟨o, e⟩ := ne0 _ zz; rw [e] at w; cases w
      · exact nn (.inr (.inr w))
    have R2 := RT.shift (s' := s'') (hb' := fun b o => s''.heap.get? b = some o ∧ ¬ OW fi.env.locals xG s''.heap b) (Mo' := [LT, DT2] ++ MoL) (fun b o nb e => keepT b o nb e)
      (fun b hb' => by
        simp only [List.cons_append, List.nil_append, List.mem_cons] at hb'
        rcases hb' with rfl | rfl | w
        · exact .inl (by simp)
        · exact hD2'
        · exact .inl (by simp [w]))
      (fun b hb' => by
        simp only [List.cons_append, List.nil_append, List.mem_cons] at hb'
        rcases hb' with rfl | rfl | w
        · obtain ⟨m1, ⟨o, _, _, e, _⟩, _⟩ := t2; exact ⟨o, e⟩
        · exact ho2
        · exact hmo b w)
      (fun b o h => h.1)
      (fun b hb' nb o h => by
        simp only [List.cons_append, List.nil_append, List.mem_cons] at hb'
        rcases hb' with rfl | rfl | w
        · exact h.2 (.inl rfl)
        · exact h.2 tG2.own
        · exact nb (by simpa using w)) (fun j y c' e' => absurd e' (G.nocel j y c'))
    exact cont s'' ⟨⟨DT2, t2, ho2, nOW2, _, _, _, _, R2⟩, .refl _, G.nocel⟩
end
end
section
variable {C : Cx}
section
variable {A : Around} {RE : GenEnd} {Y : Protocol} {n k : Nat} {s₀ : Shared} {c : Code} {fs : List Frame} {s : Shared} {fi : Fi} {ℓ : List Slot} {xG xT : Str} {LT : Addr} {MoL : List Addr}
  {K : Flow → Sem Fin} {H : Value → Sem Fin} {gd : Bool → Bool} {lv : List Value → List Value}

abbrev loopFrame (env : Env) (K : Flow → Sem Fin) (H : Value → Sem Fin) (gd : Bool → Bool) (lv : List Value → List Value) (c : Code) (p : Pos) : Frame :=
  .ret (fun r => (backFlow env r).wrap K H gd lv) none (gd false) (lv []) c p []

/-- a loop's end goes on behind it -/
theorem g_leave {c' : Code} {p : Pos} {env : Env} (h : GSeg C A RE Y k s₀ c (K .next) fs s) : GSeg C A RE Y k s₀ c' (.pure (.done .next)) (loopFrame env K H gd lv c p :: fs) s :=
  seg_leaf (.ok .next) h

theorem g_While {t : Expr} {body : List Stmt} {pos : Pos} {env : Env}
    (h : ∀ p, GSeg C A RE Y k s₀ (.whileLoop t body [] env) ((model C.prog C.w).den (.whileLoop t body [] env)) (loopFrame env K H gd lv c p :: fs) s) :
    GSeg C A RE Y k s₀ c ((exec (.While t body [] pos) env).wrap K H gd lv) fs s := seg_While h

def whK (t : Expr) (body : List Stmt) (env : Env) : Flow → Sem Fin
  | .next => .pure (.again (.whileLoop t body [] env))
  | .cont => .pure (.again (.whileLoop t body [] env))
  | .brk => .pure (.done .next)
  | .ret v => .pure (.done (.ret v))
theorem g_turn {t : Expr} {body : List Stmt} (G : GI C xG LT xT MoL fi s₀ s ℓ) (ak : AOk n (A.over (.whileLoop t body [] fi.env) fs)) (ht : BJ C n fi ℓ t true)
    (h : ∀ s', GI C xG LT xT MoL fi s₀ s' ℓ → GSeg C A RE Y k s₀ (.whileLoop t body [] fi.env) ((execs body fi.env).wrap (whK t body fi.env) (forH fi.env) id id) fs s') :
    GSeg C A RE Y k s₀ (.whileLoop t body [] fi.env) ((model C.prog C.w).den (.whileLoop t body [] fi.env)) fs s := by
  obtain ⟨DT, h1, h2, h3, M, m, cv, ad, R⟩ := G.get
  refine seg_whileLoop (ht _ _ _ M m cv ad s ak R _ _ fun v s' g e => ?_)
  subst e
  rw [if_pos rfl]
  have := h s' (G.after g.mv h1 h2 h3 ⟨M, m, cv, ad, R.grow g⟩)
  refine Eq.mpr (congrArg (fun tr => Seg (model C.prog C.w) A RE Y k s₀ (.whileLoop t body [] fi.env) tr fs s') ?_) this
  exact Sem.wrap_congr _ _ _ (fun f => by cases f <;> rfl) (fun e => rfl)
theorem g_again {t : Expr} {body : List Stmt} {env : Env} {c' : Code} (h : GSeg C A RE Y k s₀ (.whileLoop t body [] env) ((model C.prog C.w).den (.whileLoop t body [] env)) fs s) :
    GSeg C A RE Y k s₀ c' (.pure (.again (.whileLoop t body [] env))) fs s := seg_again rfl h

/-- for .. in ..: .. else: .., in which at most one item is hit (and the loop left there) -/
theorem g_for {tg iter : Expr} {body orelse : List Stmt} {pos : Pos} {a : AV} {l : List AV} (G : GI C xG LT xT MoL fi s₀ s ℓ) (ak : AOk n (A.over c fs)) (he : EJ C n fi ℓ iter a) (hl : items a = some l) (hs : ∀ env x, foldedSetIterable iter env x = pure x)
    (hit : AV → Bool) (Inv : List Slot → Prop) (h0 : Inv ℓ)
    (ak2 : ∀ it p, AOk n (A.over (.forLoop tg it body orelse fi.env) (loopFrame fi.env K H gd lv c p :: fs)))
    (hmiss : ∀ x ℓ, x ∈ l → hit x = false → Inv ℓ → ∃ ℓ', TJ C n fi tg x ℓ ℓ' ∧ SW C n fi body ℓ' (fun o => match o with | .nxt ℓ => Inv ℓ | _ => False))
    (hhit : ∀ x ℓ, l.find? hit = some x → Inv ℓ → ∃ ℓ', TJ C n fi tg x ℓ ℓ' ∧ ∀ it p s', GI C xG LT xT MoL fi s₀ s' ℓ' →
      GSeg C A RE Y k s₀ (.forLoop tg it body orelse fi.env) ((execs body fi.env).wrap (forK tg it body orelse fi.env) (forH fi.env) id id) (loopFrame fi.env K H gd lv c p :: fs) s')
    (hend : l.find? hit = none → ∀ ℓ p s', Inv ℓ → GI C xG LT xT MoL fi s₀ s' ℓ → GSeg C A RE Y k s₀ (.block orelse fi.env) ((model C.prog C.w).den (.block orelse fi.env)) (loopFrame fi.env K H gd lv c p :: fs) s') :
    GSeg C A RE Y k s₀ c ((exec (.For tg iter body orelse pos) fi.env).wrap K H gd lv) fs s := by
  obtain ⟨DT, h1, h2, h3, M, m, cv, ad, R⟩ := G.get
  refine seg_For (hs fi.env) (he _ _ _ M m cv ad s ak R _ _ fun v s1 g1 rx => iter_ok hl rx fun I s2 g2 hI it p => ?_)
  have R1 := R.grow g1
  obtain ⟨o0, T0, e0, _, _⟩ := it.tame
  generalize hMo : [LT, DT] ++ MoL = Mo at *
  generalize hHB : (fun b o => s₀.heap.get? b = some o ∧ ¬ OW fi.env.locals xG s₀.heap b : Base) = hb at *
  have hInew := fun x => (show ¬ hb I x from fun z => by rw [R1.base I x z] at hI; cases hI)
  have hIMo : I ∉ Mo := fun z => by obtain ⟨o, e⟩ := R1.has I (R1.mO I z); rw [hI] at e; cases e
  have hIc : ∀ (i : Nat) x c, fi.vs[i]? = some (x, .cel c) → c ≠ I := fun i x c e => absurd e (G.nocel i x c)
  generalize hH : hid s2.heap (I :: M) = H0 at it
  have H0Mo : ∀ b ∈ I :: Mo, H0.get? b = none := fun b hb' => hH ▸ hid_none (by
    rcases List.mem_cons.mp hb' with rfl | z
    · exact .head _
    · exact .tail _ (R.mO b z))
  have R2 := (R1.around g2 hI e0).firm
  rw [hH] at R2
  have H0I : ∀ x, ¬ (hb I x ∨ H0.get? I = some x) := fun x z => z.elim (hInew x) fun y => by rw [H0Mo I (.head _)] at y; cases y
  have R3 : Rel C (fun b x => (hb b x ∨ H0.get? b = some x) ∨ (b = I ∧ x = o0)) (I :: Mo) fi (I :: M) m cv ad ℓ s2 :=
    R2.back (fun b x z => z.elim (fun y => y.elim (fun w => .inl (.inl w)) .inr) fun y => .inl (.inr y)) (fun _ h => h) fun b h => .inl h
  have main : ∀ (rest : List AV) (ℓ : List Slot) (s : Shared) (M : List Addr) (m : Str → Option Value) (cv : Nat → Option Value) (ad : Nat → List Addr) (o : Obj), (∃ pre, l = pre ++ rest ∧ ∀ x ∈ pre, hit x = false) → Inv ℓ → Mv s₀ s →
      Rel C (fun b x => (hb b x ∨ H0.get? b = some x) ∨ (b = I ∧ x = o)) (I :: Mo) fi M m cv ad ℓ s → It C H0 I rest s.heap →
      GSeg C A RE Y k s₀ (.forLoop tg (.ref I) body orelse fi.env) ((model C.prog C.w).den (.forLoop tg (.ref I) body orelse fi.env)) (loopFrame fi.env K H gd lv c p :: fs) s := by
    intro rest
    induction rest with
    | nil =>
      intro ℓ s M m cv ad o hpre hInv mv R it
      obtain ⟨pre, hl', hpre⟩ := hpre
      refine seg_forLoop (it.done (ak2 _ _).handled fun h' tk hk => ?_)
      have R4 := (R.drop (tk := tk) H0I hIMo hIc hk).loose
      refine hend ?_ ℓ p _ hInv ⟨⟨DT, h1, h2, hMo ▸ h3, hHB ▸ hMo ▸ ⟨_, _, _, _, R4⟩⟩, mv.trans (.same rfl rfl), G.nocel⟩
      rw [hl', List.append_nil]
      exact List.find?_eq_none.mpr fun x hx => by rw [hpre x hx]; decide
    | cons x rest ih =>
      intro ℓ s M m cv ad o hpre hInv mv R it
      obtain ⟨pre, hl', hpre⟩ := hpre
      refine seg_forLoop (it.next (ak2 _ _).handled fun v h' tk rv it3 hk => ?_)
      obtain ⟨o3, T3, e3, _, _⟩ := it3.tame
      have R4 := R.renew (tk := tk) H0I hIc hk e3
      have sub4 : Sub H0 (hid h' M) := R4.kept (fun b x e => .inl (.inr e)) H0Mo
      have own : ∀ Mo, Own fi Mo := fun Mo => G.own Mo
      refine letGo_tame it3.tame ?_
      by_cases hx : hit x = true
      · have hf : l.find? hit = some x := by
          rw [hl', List.find?_append, List.find?_eq_none.mpr fun y hy => by rw [hpre y hy]; decide]
          simp [hx]
        obtain ⟨ℓ', ht, hc⟩ := hhit x ℓ hf hInv
        have R5 : Rel C hb Mo fi M m cv ad ℓ { s with heap := h', toks := tk } := R4.back (fun b x z => .inl (.inl z)) (fun b h => .tail _ h) fun b h => by
          rcases List.mem_cons.mp h with rfl | z
          · exact .inr hInew
          · exact .inl z
        refine ht _ _ _ M m cv ad _ v (ak2 _ _) (own _) R5 (rv.mono sub4) _ _ fun s5 g5 hh5 => ?_
        exact hc (.ref I) p s5 ⟨⟨DT, h1, h2, hMo ▸ h3, hHB ▸ hMo ▸ hh5⟩, mv.trans ((Mv.same rfl rfl : Mv s { s with heap := h', toks := tk }).trans g5), G.nocel⟩
      · have hx : hit x = false := by simpa using hx
        obtain ⟨ℓ', ht, hw⟩ := hmiss x ℓ (by rw [hl']; simp) hx hInv
        refine ht _ _ _ M m cv ad _ v (ak2 _ _) (own _) R4 (rv.mono sub4) _ _ fun s5 g5 hh5 => ?_
        obtain ⟨M5, m5, cv5, ad5, R5⟩ := hh5
        refine seg_wrap (hw _ _ _ M5 m5 cv5 ad5 s5 (ak2 _ _) (own _) R5 _ _ fun oo f s6 ho af => ?_)
        cases oo with
        | nxt ℓ6 =>
          cases f <;> first | exact af.elim | skip
          obtain ⟨g6, M6, m6, cv6, ad6, R6⟩ := af
          refine seg_again rfl (ih ℓ6 s6 M6 m6 cv6 ad6 o3 ⟨pre ++ [x], by rw [hl']; simp, fun y hy => ?_⟩ ho (mv.trans ((Mv.same rfl rfl : Mv s { s with heap := h', toks := tk }).trans (g5.trans g6))) R6 ?_)
          · rcases List.mem_append.mp hy with z | z
            · exact hpre y z
            · rw [List.mem_singleton.mp z]; exact hx
          · exact it3.frame (fun _ _ e => e) (fun o e => by rw [e3] at e; cases e; exact R6.base I o3 (.inr ⟨rfl, rfl⟩)) (sub4.trans (hid_sub _ _)) (fun b x e => R6.base b x (.inl (.inr e)))
        | brk ℓ6 => exact ho.elim
        | cnt ℓ6 => exact ho.elim
        | ret b => exact ho.elim
  exact main l ℓ s2 (I :: M) m cv ad o0 ⟨[], rfl, fun x hx => nomatch hx⟩ h0 (G.mv.trans (g1.mv.trans g2.mv)) R3 it
/-- the else of a for -/
theorem g_block {st : List Stmt} (h : GSeg C A RE Y k s₀ (.block st fi.env) ((execs st fi.env).wrap (fun f => .pure (.done f)) (forH fi.env) id id) fs s) :
    GSeg C A RE Y k s₀ (.block st fi.env) ((model C.prog C.w).den (.block st fi.env)) fs s := by
  show Seg _ A RE Y k s₀ _ (((execs st fi.env).onRaise (fun x => do noteFrame x fi.env; theTreesLotGoes x)) >>= fun f => pure (Fin.done f)) fs s
  rw [Sem.onRaise_eq_wrap, Sem.bind_eq_wrap', Sem.wrap_wrap]
  rw [Sem.wrap_congr (execs st fi.env) _ _ (K' := fun f => .pure (.done f)) (H' := forH fi.env) (fun f => by cases f <;> rfl)
        (fun e => by rw [Sem.bind_eq_wrap, Sem.wrap_wrap]; rfl)]
  exact h
end
end
section
variable {C : Cx}
section
variable {n : Nat} {fi : Fi} {ℓ : List Slot} {pos p1 p2 p3 : Pos} {F : Out → Prop}

theorem own_at {hb Mo M m cv ad} {s : Shared} (R : Rel C hb Mo fi M m cv ad ℓ s) {i : Nat} {l : List AV} (hv : ℓ[i]? = some (.ol l)) : ∃ D vs, cv i = some (.ref D) ∧ ad i = [D] ∧ ListAt s.heap D vs ∧ RepL C (hid s.heap M) l vs ∧ i < ℓ.length ∧ D ∈ M := by
  have z := R.slot i _ hv
  have hi := (List.getElem?_eq_some_iff.mp hv).1
  generalize ec : cv i = w at z
  generalize ed : ad i = ds at z
  cases z with
  | @ol _ D vs la rl => exact ⟨D, vs, rfl, rfl, la, rl, hi, ((R.mA i hi).2 D (by rw [ed]; exact .head _)).1⟩
/-- an owned list's new content -/
theorem own_set {hb Mo M m cv ad} {s : Shared} (R : Rel C hb Mo fi M m cv ad ℓ s) {i : Nat} {l l' : List AV} {D : Addr} {vs' : List Value} {h' : Heap} {tk : Nat} (hv : ℓ[i]? = some (.ol l)) (hc : cv i = some (.ref D)) (ha : ad i = [D]) (hs : Heap.SameBut D s.heap h') (hl : ListAt h' D vs')
    (r : RepL C (hid s.heap M) l' vs') : Here C hb Mo fi (ℓ.set i (.ol l')) { s with heap := h', toks := tk } := by
  have hi := (List.getElem?_eq_some_iff.mp hv).1
  have ia : D ∈ ad i := by rw [ha]; exact .head _
  refine ⟨M, m, cv, ad, R.turn (tk := tk) hi ia hs ?_⟩
  rw [hc, ha]
  exact .ol hl (r.mono (hid_change ((R.mA i hi).2 D ia).1 hs))

theorem EJ.lenO (F' : fi.Ok) (g : C.glb "len" (.builtin "len")) {i : Nat} {x : Str} {lo : Loc} {l : List AV} (hi : fi.vs[i]? = some (x, lo)) (hv : ℓ[i]? = some (.ol l)) (hz : l.length ≤ sz) (hx : fi.env.kindOf "len" = some .globalImplicit) :
    EJ C n fi ℓ (.Call (.Name "len" p1) [.Name x p2] [] pos) (.int l.length) := fun A hb Mo M m cv ad s ak R Q E q => by
  obtain ⟨D, vs, hc, ha, la, rl, _, _⟩ := own_at R hv
  have z : l.length ≤ 1048576 := hz
  have len := rl.length
  refine Call_ (glb_at F' R g hx (by decide) (Calls.callWith_builtin rfl (Calls.evalArgs_plain (Calls.spliced_cons (R.var F' hi hc (Calls.spliced_nil ?_))))))
  refine Calls.call_len_list la.isList (by rw [List.size_toArray, ← len]; omega) (q _ _ (.toks _) ?_)
  rw [List.size_toArray, ← len]; exact .int _ _
/-- x[-1] of an owned list -/
theorem EJ.lastO (F' : fi.Ok) {i : Nat} {x : Str} {lo : Loc} {l : List AV} {a : AV} {e : Expr} (hi : fi.vs[i]? = some (x, lo)) (hv : ℓ[i]? = some (.ol l)) (he : EJ C n fi ℓ e (.int (-1))) (ha : l.getLast? = some a) (hz : l.length ≤ sz)
    (hns : ∀ u v w p, e ≠ .Slice u v w p := by intro _ _ _ _ h; cases h) : EJ C n fi ℓ (.Subscript (.Name x p1) e pos) a := fun A hb Mo M m cv ad s ak R Q E q => by
  obtain ⟨D, vs, hc, hd, la, rl, _, _⟩ := own_at R hv
  refine Subscript_ (R.var F' hi hc (he A hb Mo M m cv ad s ak R _ _ fun v s' g rv => ?_))
  obtain ⟨t, rfl⟩ := rv.int_
  have la' := la.mono g.keep
  have rl' := rl.mono (hid_grow g.keep)
  have len := rl'.length
  have hsub : ∃ ops, subscripted e false (.ref D) (.int (-1) t) = operate ops (getItem (.ref D) (.int (-1) t)) := by
    cases e <;> first | exact ⟨_, rfl⟩ | exact absurd rfl (hns _ _ _ _)
  have ne : l ≠ [] := fun z => by subst z; simp at ha
  have ha' : l[l.length - 1]? = some a := by rw [← List.getLast?_eq_getElem?]; exact ha
  obtain ⟨w, hw, rw_⟩ := rl'.get ha'
  have z : l.length ≤ 1048576 := hz
  have pos' : 0 < l.length := List.length_pos_iff.mpr ne
  refine sub_tail la'.isList.typeIs slot_list_getitem.lookup (fun Q E q => ?_) hsub _ _ fun v s2 g2 rv2 => q _ _ (g.trans g2) rv2
  refine wpAny_getItem_list_neg la'.isList (by omega) (by rw [List.size_toArray, ← len]; omega) (by omega) ?_ (q _ _ (.refl _) rw_)
  rw [List.size_toArray, ← len]
  have : (-1 + (l.length : Int)).toNat = l.length - 1 := by omega
  rw [this]; simpa using hw
/-- x.pop() of an owned list of strings -/
theorem S1.pop (F' : fi.Ok) {i : Nat} {x : Str} {lo : Loc} {l : List AV} {y : Str} (hi : fi.vs[i]? = some (x, lo)) (hv : ℓ[i]? = some (.ol (l ++ [.str y]))) (hz : l.length + 1 ≤ sz) (h : F (.nxt (ℓ.set i (.ol l)))) (hline : (p2.endLine == p3.line) = true := by rfl)
    (hbase : ∀ env, attributeBase (.Name x p1) "pop" env (eval (.Name x p1) env) = eval (.Name x p1) env := by intro _; rfl) (hint : ∀ env, env.scope.kind = .function → interactive env = false := by intro env h; unfold interactive; rw [h]; rfl) :
    S1 C n fi (.Expr (.Call (.Attribute (.Name x p1) "pop" p2) [] [] p3) pos) ℓ F := fun A hb Mo M m cv ad s ak ow R Q E q => by
  obtain ⟨D, vs, hc, hd, la, rl, _, _⟩ := own_at R hv
  have len := rl.length
  obtain ⟨v, hv1, rv⟩ := rl.get (i := l.length) (a := .str y) (by simp)
  obtain ⟨t, rfl⟩ := rv.str_
  have hsz : vs.length = l.length + 1 := by rw [← len]; simp
  refine wpAny_Expr ?_ (hint _ F'.fn) rfl
  obtain ⟨k, e0⟩ := id la
  refine Call_method0 (hbase _) hline (R.var F' hi hc ⟨"list", "list.pop", PySem.F.plainAttrs_list, PySem.F.slot_list_pop, PySem.F.type_list_pop, la.isList.typeIs, fun a e => by cases e; exact ⟨_, e0, rfl⟩, ?_⟩)
  refine P.pop_list (n := k) e0 (y := .str y t) (by rw [List.size_toArray, hsz]; simpa using hv1) ?_ (by rw [List.size_toArray, hsz]; exact sz_le hz)
  have e1 := IsL.update (n := k) e0 fun xs => xs.eraseIdxIfInBounds (vs.toArray.size - 1)
  have e2 : vs.toArray.eraseIdxIfInBounds (vs.toArray.size - 1) = (vs.take l.length).toArray := by
    unfold Array.eraseIdxIfInBounds
    rw [dif_pos (by rw [List.size_toArray]; omega)]
    have hd : vs.toArray.size - 1 = l.length := by rw [List.size_toArray]; omega
    simp only [hd]
    have : vs.eraseIdx l.length = vs.take l.length := by
      rw [List.eraseIdx_eq_take_drop_succ, List.drop_eq_nil_of_le (by omega)]; simp
    simp [this]
  have rl2 : RepL C (hid s.heap M) l (vs.take l.length) := by have := rl.take l.length; simpa using this
  have e1' : ListAt (s.heap.update D (Obj.mapSeq fun xs => xs.eraseIdxIfInBounds (vs.toArray.size - 1))) D (vs.take l.length) := ⟨_, e2 ▸ e1⟩
  exact q _ _ _ h ⟨.same rfl rfl, own_set (tk := s.toks) R hv hc hd (Heap.SameBut.update ..) e1' rl2⟩
/-- an owned list as a condition -/
theorem BJ.valO (F' : fi.Ok) {i : Nat} {x : Str} {lo : Loc} {l : List AV} (hi : fi.vs[i]? = some (x, lo)) (hv : ℓ[i]? = some (.ol l)) (hz : l.length ≤ sz) : BJ C n fi ℓ (.Name x p1) (!l.isEmpty) := fun A hb Mo M m cv ad s ak R Q E q => by
  obtain ⟨D, vs, hc, ha, la, rl, _, _⟩ := own_at R hv
  have z : l.length ≤ 1048576 := hz
  refine isTrue_plain (R.var F' hi hc ?_)
  exact wpAny_truthy_list la.isList (by rw [List.size_toArray, ← rl.length]; omega) (q _ _ (.toks _) (by rw [isEmpty_rep rl]))
end
end
section
variable {C : Cx}

theorem keep_head {α : Type} (l : List α) (k : Nat) (hk : k ≤ l.length) (f : α × Nat → Option α) (h1 : ∀ x i, i < k → f (x, i) = some x) (h2 : ∀ x i, k ≤ i → f (x, i) = none) : l.zipIdx.filterMap f = l.take k := by
  have gen : ∀ (l : List α) (j : Nat), (l.zipIdx j).filterMap f = l.take (k - j) := by
    intro l
    induction l with
    | nil => intro j; simp
    | cons x l ih =>
      intro j
      rw [List.zipIdx_cons, List.filterMap_cons]
      by_cases hj : j < k
      · rw [h1 x j hj, ih (j + 1)]
        have : k - j = (k - (j + 1)) + 1 := by omega
        rw [this, List.take_succ_cons]
      · rw [h2 x j (by omega), ih (j + 1)]
        have e1 : k - j = 0 := by omega
        have e2 : k - (j + 1) = 0 := by omega
        rw [e1, e2]; simp
  simpa using gen l 0

section
variable {A : Around} {E : Value → Shared → Prop} {s : Shared}
theorem fm_congr {α β : Type} {f g : α → Option β} : ∀ {l : List α}, (∀ x ∈ l, f x = g x) → l.filterMap f = l.filterMap g
  | [], _ => rfl
  | x :: l, h => by rw [List.filterMap_cons, List.filterMap_cons, h x (.head _), fm_congr fun y hy => h y (.tail _ hy)]
theorem del_tail {l : Addr} {vs ws : List Value} {n : Nat} {f : Array Value → Array Value} {gone : List Value} {Q : Unit → Shared → Prop} (ho : s.heap.get? l = some { cls := .type "list", data := .seq vs.toArray n }) (hf : f vs.toArray = ws.toArray) (hsz : vs.length ≤ sizeLine) (hw : ws.length ≤ sizeLine)
    (h : ∀ h' n', h'.get? l = some { cls := .type "list", data := .seq ws.toArray n' } → Heap.SameBut l s.heap h' → Q () { s with heap := h' }) :
    wpAny (model C.prog C.w) A (updateSeq l f >>= fun _ => letGo gone >>= fun _ => ret .none) (fun fin s' => ∃ v, fin = .done (.ret v) ∧ Q () s') E s := by
  refine wpAny_bind (wpAny_updateSeq (hz := by rw [List.size_toArray]; exact hsz) (_hz' := by rw [hf, List.size_toArray]; exact Nat.le_succ_of_le hw) ho rfl ?_)
  refine wpAny_bind (wpAny_letGo (wpAny_pure ⟨.none, rfl, ?_⟩))
  have e := IsL.update (n := n) ho f
  exact h _ _ (hf ▸ e) (Heap.SameBut.update ..)
theorem del_from {l sl : Addr} {vs : List Value} {vl : Value} {k : Int} {n : Nat} {Q : Unit → Shared → Prop} (ho : s.heap.get? l = some { cls := .type "list", data := .seq vs.toArray n })
    (hs : s.heap.get? sl = some { cls := .type "slice", data := .fields #[vl, .none, .none] }) (pl : IsPart vl (some k)) (hsz : vs.length ≤ sizeLine)
    (h : ∀ h' n', h'.get? l = some { cls := .type "list", data := .seq (vs.take (clipN (some k) 0 vs.length)).toArray n' } → Heap.SameBut l s.heap h' → Q () { s with heap := h' }) :
    wpAny (model C.prog C.w) A (delItem (.ref l) (.ref sl)) Q E s := by
  have hTs : s.TypeIs (.ref sl) "slice" := ⟨_, hs, rfl⟩
  have hTl : s.TypeIs (.ref l) "list" := ⟨_, ho, rfl⟩
  refine wpAny_delItem_slot hTl (by decide) F.slot_list_delitem (wpAny_call_entry F.slot_list_delitem hTl F.entry_list_delitem ?_ (F.args_list_delitem_2 _ _))
  show wpAny _ _ (Builtin.List.listSubscript? (.ref sl) >>= _) _ _ s
  refine wpAny_bind ?_
  unfold Builtin.List.listSubscript?
  refine wpAny_bind (wpAny_specialOf hTs slice_no_index ?_)
  simp only [Option.isNone_none, if_true]
  refine wpAny_pure ?_
  show wpAny _ _ (typeOf (.ref sl) >>= _) _ _ s
  refine wpAny_bind (wpAny_typeOf hTs ?_)
  rw [if_neg (by decide)]
  rw [listSliceParts_eq]
  have hstep : ¬ ((rawPart none == rawInt 0) = true) := Bool.false_ne_true
  refine wpAny_bind (wpAny_bind (wpAny_field hs rfl (x := .none) rfl (wpAny_bind (wpAny_listPart (k := none) .none ?_))))
  rw [if_neg hstep]
  refine wpAny_bind (wpAny_field hs rfl (x := vl) rfl (wpAny_bind (wpAny_listPart pl ?_)))
  refine wpAny_bind (wpAny_field hs rfl (x := .none) rfl (wpAny_bind (wpAny_listPart (k := none) .none (wpAny_pure ?_))))
  refine wpAny_bind (m := Builtin.List.listItems (.ref l)) ?_
  unfold Builtin.List.listItems
  refine wpAny_bind (wpAny_seqItems ho rfl (wpAny_pure ?_))
  refine wpAny_bind (wpAny_of_eq (sliceIndices_raw (some k) none none vs.toArray.size (by simp)) ?_)
  refine wpAny_bind (wpAny_rule ?_)
  have e1 : (sliceBounds (some k) none none vs.toArray.size).1 = (clipN (some k) 0 vs.length : Int) := by rw [List.size_toArray]; exact clip_eq (some k) 0 vs.length
  have e2 : (sliceBounds (some k) none none vs.toArray.size).2.1 = (vs.length : Int) := by rw [List.size_toArray]; exact (clip_eq none vs.length vs.length).trans rfl
  have hb : clipN (some k) 0 vs.length ≤ vs.length := clipN_le (Nat.zero_le _)
  have key : ∀ (sel : Nat → Bool), (∀ i, sel i = (decide ((sliceBounds (some k) none none vs.toArray.size).1 ≤ (i : Int)) && decide ((i : Int) < (sliceBounds (some k) none none vs.toArray.size).2.1) && (((i : Int) - (sliceBounds (some k) none none vs.toArray.size).1) % 1 == 0))) →
      (vs.zipIdx.filterMap fun x => if sel x.2 = true then none else some x.1) = vs.take (clipN (some k) 0 vs.length) := fun sel hsel => by
    have tst : ∀ (x : Value) (i : Nat), i < vs.length → ((if sel i = true then (none : Option Value) else some x) = if i < clipN (some k) 0 vs.length then some x else none) := fun x i hi => by
      rw [hsel, e1, e2]
      by_cases z : i < clipN (some k) 0 vs.length
      · rw [if_pos z, if_neg]
        simp; omega
      · rw [if_neg z, if_pos]
        simp; omega
    have h2 : (vs.zipIdx.filterMap fun x => if sel x.2 = true then none else some x.1) = vs.zipIdx.filterMap fun x => if x.2 < clipN (some k) 0 vs.length then some x.1 else none := by
      refine fm_congr fun x hx => ?_
      have := List.mem_zipIdx hx
      exact tst x.1 x.2 (by omega)
    rw [h2]
    exact keep_head vs _ hb _ (fun x i hi => by simp [hi]) fun x i hi => by simp; omega
  refine del_tail ho ?_ hsz (Nat.le_trans (List.length_take_le _ _) (Nat.le_trans hb hsz)) h
  exact congrArg List.toArray (key _ fun i => rfl)

variable {n : Nat} {fi : Fi} {ℓ : List Slot} {pos p1 p2 p3 : Pos} {F : Out → Prop}
/-- del x[e:] of an owned list -/
theorem S1.delFrom (F' : fi.Ok) {i : Nat} {x : Str} {lo : Loc} {l : List AV} {e : Expr} {k : Int} (hi : fi.vs[i]? = some (x, lo)) (hv : ℓ[i]? = some (.ol l)) (he : EJ C n fi ℓ e (.int k)) (hz : l.length ≤ sz) (h : F (.nxt (ℓ.set i (.ol (l.take (clipN (some k) 0 l.length)))))) :
    S1 C n fi (.Delete [.Subscript (.Name x p1) (.Slice (some e) none none p2) p3] pos) ℓ F := fun A hb Mo M m cv ad s ak ow R Q E q => by
  obtain ⟨D, vs, hc, hd, la, rl, _, hDM⟩ := own_at R hv
  refine wpAny_Delete (wpAny_deleteEach_cons ?_)
  rw [arm_delete_Subscript]
  refine wpAny_bind (R.var F' hi hc (wpAny_bind (wpAny_holding (wpAny_Slice ?_))))
  rw [evalPart_some]
  refine he A hb Mo M m cv ad s ak R _ _ fun v s' g rv => ?_
  obtain ⟨t, rfl⟩ := rv.int_
  rw [evalPart_none]
  refine wpAny_pure (wpAny_pure ?_)
  refine wpAny_bind (wpAny_standAt (wpAny_bind (wpAny_holding ?_)))
  have g3 : Grow s' { s' with heap := s'.heap.push { cls := .type "slice", data := .fields #[.int k t, .none, .none] } } := .push _
  have R3 := (R.grow g).grow g3
  obtain ⟨n0, e0⟩ := (la.mono g.keep).mono g3.keep
  have rl3 := (rl.mono (hid_grow g.keep)).mono (hid_grow g3.keep)
  have len := rl.length
  refine del_from e0 (Heap.get?_push_size _ rfl) (.int _ _) (by rw [← len]; exact sz_le hz) fun h' n' e1 hs => wpAny_release (wpAny_deleteEach_nil ?_)
  rw [← len] at e1
  have hh := own_set (tk := s'.toks) R3 hv hc hd hs ⟨n', e1⟩ (rl3.take _)
  exact q _ _ _ h ⟨g.mv.trans (g3.mv.trans (.same rfl rfl)), hh⟩
end
end
section
variable {C : Cx}

/-! ## what the things of the lexer answer -/
def GetJ (C : Cx) (x : Ext) (name : Str) (r : AV) : Prop := ∀ (A : Around) (M : List Addr) (s : Shared) (v : Value) (Q : Value → Shared → Prop) (E : Value → Shared → Prop), Sub C.h₀ (hid s.heap M) → C.RX (hid s.heap M) x v →
  (∀ w s', Grow s s' → Rep C (hid s'.heap M) r w → Q w s') → wpAny (model C.prog C.w) A (getAttr v name true) Q E s
def MetJ (C : Cx) (x : Ext) (name : Str) (f : Addr) : Prop := ∀ (A : Around) (M : List Addr) (s : Shared) (v : Value) (pl : Sem Bool) (Q : Value × List Value → Shared → Prop) (E : Value → Shared → Prop), Sub C.h₀ (hid s.heap M) → C.RX (hid s.heap M) x v →
  Q (.ref f, [v]) s → wpAny (model C.prog C.w) A (getMethod v name pl) Q E s
def TruJ (C : Cx) (x : Ext) : Prop := ∀ (A : Around) (M : List Addr) (s : Shared) (v : Value) (Q : Bool → Shared → Prop) (E : Value → Shared → Prop), Sub C.h₀ (hid s.heap M) → C.RX (hid s.heap M) x v → (∀ s', Grow s s' → Q true s') → wpAny (model C.prog C.w) A (truthy v) Q E s
def CallM (C : Cx) (n : Nat) (x : Ext) (as : List AV) (r : AV) : Prop :=
  ∀ (A : Around) (M : List Addr) (s : Shared) (v : Value) (vs : List Value), AOk n A → Sub C.h₀ (hid s.heap M) → (∀ a ∈ M, ∃ o, s.heap.get? a = some o) → (∀ a ∈ M, C.h₀.get? a = none) → C.RX (hid s.heap M) x v → RepL C (hid s.heap M) as vs →
    Ev C A (call v vs) s (fun w s' => Rep C (hid s'.heap M) r w)
def Keeps' (C : Cx) (x : Ext) : Prop := ∀ (H : Heap) (v : Value), Sub C.h₀ H → C.RX H x v → ∃ k, (k = Keeper.frame ∨ k = Keeper.machine ∨ k = Keeper.boundFrame) ∧ Looks (model C.prog C.w) H (keeperOf v) k
def IsFn (C : Cx) (f : Addr) : Prop := ∃ o fd, C.h₀.get? f = some o ∧ o.data = .func fd

section
variable {n : Nat} {fi : Fi} {ℓ : List Slot} {pos p p1 p2 p3 : Pos} {x : Ext}
theorem EJ.attr {e : Expr} {name : Str} {r : AV} (he : EJ C n fi ℓ e (.ext x)) (g : GetJ C x name r) (hbase : ∀ env, attributeBase e name env (eval e env) = eval e env := by intro _; rfl) : EJ C n fi ℓ (.Attribute e name pos) r := fun A hb Mo M m cv ad s ak R Q E q => by
  have arm : eval (.Attribute e name pos) fi.env = (do
    let o ← attributeBase e name fi.env (eval e fi.env)
    standAt pos.atName
    let r ← holding [o] (getAttr o name true)
    letTemporaryGo e o r
    pure r) := rfl
  rw [arm, hbase]
  refine wpAny_bind (he A hb Mo M m cv ad s ak R _ _ fun v s' g' rx => wpAny_bind (wpAny_standAt (wpAny_bind (wpAny_holding (g A M s' v _ _ (R.grow g').glob rx.ext_ fun w s'' g'' rw_ => ?_)))))
  exact wpAny_bind (wpAny_letTemporaryGo (wpAny_pure (q _ _ (g'.trans g'') rw_)))

theorem meth_core {o : Expr} {name : Str} {args : List Expr} {apos pos : Pos} {A : Around} {s : Shared} {Q : Value → Shared → Prop} {E : Value → Shared → Prop} {env : Env}
    (hbase : attributeBase o name env (eval o env) = eval o env)
    (hfew : ((backTo pos (starEach args env)).all (fun x => !x.1) && (backToKw pos (keywordEach [] env)).all (fun x => x.1.isSome)
      && decide (args.length + ([] : List Keyword).length + (if ([] : List Keyword).isEmpty then 0 else 1) < 30)) = true)
    (hline : (apos.endLine == pos.line) = true)
    (h : wpAny (model C.prog C.w) A (eval o env) (fun ov s₁ => ∃ f, (∀ (pl : Sem Bool) (Q : Value × List Value → Shared → Prop) (E : Value → Shared → Prop), Q (f, [ov]) s₁ → wpAny (model C.prog C.w) A (getMethod ov name pl) Q E s₁) ∧
      wpAny (model C.prog C.w) A (callWith pos f [ov] (backTo pos (starEach args env)) []) Q E s₁) E s) :
    wpAny (model C.prog C.w) A (eval (.Call (.Attribute o name apos) args [] pos) env) Q E s := by
  rw [arm_eval_Call, hbase]
  refine wpAny_bind (wpAny_mono h (fun ov s₁ h₁ => ?_) fun _ _ e => e)
  obtain ⟨f, hm, hc⟩ := h₁
  refine wpAny_bind (wpAny_standAt ?_)
  have hform : methodCallForm (args.length + ([] : List Keyword).length) (backTo pos (starEach args env)) (backToKw pos (keywordEach [] env)) = true := hfew
  have hpos : methodCallPos true o env apos pos = pure pos := by unfold methodCallPos; simp [hline]
  unfold methodCall
  rw [hform]
  refine wpAny_bind (wpAny_holding (hm _ _ _ ?_))
  exact wpAny_bind (wpAny_of_eq hpos hc)

/-- m.f() -/
theorem EJ.meth0 {o : Expr} {name : Str} {r : AV} {f : Addr} (ho : EJ C n fi ℓ o (.ext x)) (hm : MetJ C x name f) (hf : IsFn C f) (h : CallJ C n (.ref f) [.ext x] r)
    (hbase : ∀ env, attributeBase o name env (eval o env) = eval o env := by intro _; rfl) (hline : (p.endLine == pos.line) = true := by rfl) : EJ C n fi ℓ (.Call (.Attribute o name p) [] [] pos) r := fun A hb Mo M m cv ad s ak R Q E q => by
  refine meth_core (hbase _) rfl hline (ho A hb Mo M m cv ad s ak R _ _ fun v s' g rx => ⟨.ref f, fun pl Q E q => hm A M s' v pl Q E (R.grow g).glob rx.ext_ q, ?_⟩)
  obtain ⟨o, fd, e1, e2⟩ := hf
  have R' := R.grow g
  refine Calls.callWith_function (o := o) (fd := fd) (PySem.evalArgs_none ⟨⟨R'.base0 _ _ e1, e2⟩, ?_⟩)
  exact h A M s' [v] ak R'.glob R'.has R'.new0 (.cons rx .nil) _ _ fun w s'' g' rw_ => q _ _ (g.trans g') rw_
/-- f(..) of a name that holds a thing of the lexer -/
theorem EJ.callVar (F : fi.Ok) {y : Str} {i : Nat} {lo : Loc} {e : Expr} {es : List Expr} {as : List AV} {r : AV} (hi : fi.vs[i]? = some (y, lo)) (hv : ℓ[i]? = some (.fz (.ext x))) (ha : LJ C n fi ℓ (e :: es) as) (h : CallM C n x as r) (hk : Keeps' C x)
    (hq : ∀ env, starEach (e :: es) env = (false, eval e env) :: starEach es env := by intro _; rfl) (hp : ∀ env pos, (backTo pos (starEach (e :: es) env)).any (·.1) = false := by intro _ _; rfl) :
    EJ C n fi ℓ (.Call (.Name y p) (e :: es) [] pos) r := fun A hb Mo M m cv ad s ak R Q E q => by
  have z := R.slot i _ hv
  generalize ez : cv i = w at z
  generalize ad i = ds at z
  cases z with
  | @fz _ v rx =>
    refine Call_ (R.var F hi ez ?_)
    refine callWith_of (P := fun h => Sub (hid s.heap M) h) (by rw [hp]; rfl) (fun h kh => ?_) (args_ok ha ak R hq _ _ fun a s' g ra => ⟨(hid_sub _ _).trans g.keep, ?_⟩)
    · obtain ⟨k, k1, k2⟩ := hk _ _ R.glob rx.ext_
      exact ⟨k, k1, k2.keeps kh⟩
    · rw [ra.1, List.nil_append]
      have R' := R.grow g
      exact h A M s' v a.pos ak R'.glob R'.has R'.new0 (C.mono (hid_grow g.keep) rx.ext_) ra.2 _ _ fun w s'' g' rw_ => q _ _ (g.trans g') rw_
theorem BJ.ext {e : Expr} (h : EJ C n fi ℓ e (.ext x)) (t : TruJ C x) (he : ∀ env whole, isTrue e env whole = (do let v ← whole; standAt e.pos; holding [v] (truthy v)) := by intro _ _; rfl) : BJ C n fi ℓ e true :=
  fun A hb Mo M m cv ad s ak R Q E q => isTrue_plain (h A hb Mo M m cv ad s ak R _ _ fun v s' g rx => t A M s' v _ _ (R.grow g).glob rx.ext_ fun s'' g' => q _ _ (g.trans g') rfl) (he _ _)
/-- two names of one thing -/
theorem BJ.same {l r : Expr} {a : Addr} (hl : EJ C n fi ℓ l (.ext (.gen a))) (hr : EJ C n fi ℓ r (.ext (.gen a))) (hm : behindInMarks .Is r = false := by with_unfolding_all rfl) : BJ C n fi ℓ (.Compare l [.Is] [r] pos) true :=
  fun A hb Mo M m cv ad s ak R Q E q => wpAny_isTrue_Compare1 (hl A hb Mo M m cv ad s ak R _ _ fun v s' g rx => hr A hb Mo M m cv ad s' ak (R.grow g) _ _ fun v' s'' g' ry => by
    have e1 := C.gen.mp rx.ext_
    have e2 := C.gen.mp ry.ext_
    subst e1; subst e2
    exact wpAny_is_ref_self (wpAny_truthy_bool (q _ _ (g.trans g') rfl))) hm
theorem BJ.sameNot {l r : Expr} {a : Addr} (hl : EJ C n fi ℓ l (.ext (.gen a))) (hr : EJ C n fi ℓ r (.ext (.gen a))) (hm : behindInMarks .IsNot r = false := by with_unfolding_all rfl) : BJ C n fi ℓ (.Compare l [.IsNot] [r] pos) false :=
  fun A hb Mo M m cv ad s ak R Q E q => wpAny_isTrue_Compare1 (hl A hb Mo M m cv ad s ak R _ _ fun v s' g rx => hr A hb Mo M m cv ad s' ak (R.grow g) _ _ fun v' s'' g' ry => by
    have e1 := C.gen.mp rx.ext_
    have e2 := C.gen.mp ry.ext_
    subst e1; subst e2
    exact wpAny_isNot_ref_self (wpAny_truthy_bool (q _ _ (g.trans g') rfl))) hm
/-- type(e) is not T, of a value of the builtin type T -/
def tyOf : AV → Option String
  | .int _ => some "int"
  | .str _ => some "str"
  | _ => none
theorem BJ.typeIsNot (F : fi.Ok) (g1 : C.glb "type" (.type "type")) {e : Expr} {a : AV} {T : String} {y : Str} (he : EJ C n fi ℓ e a) (hT : tyOf a = some T) (g2 : C.glb y (.type T)) (hx : fi.env.kindOf "type" = some .globalImplicit) (hy : fi.env.kindOf y = some .globalImplicit)
    (hyd : (y == ("__debug__" : Str)) = false) (hq : ∀ env, starEach [e] env = [(false, eval e env)]) (hm : behindInMarks .IsNot (.Name y p2) = false := by with_unfolding_all rfl) : BJ C n fi ℓ (.Compare (.Call (.Name "type" p1) [e] [] p3) [.IsNot] [.Name y p2] pos) false :=
  fun A hb Mo M m cv ad s ak R Q E q => by
  refine wpAny_isTrue_Compare1 (Call_ (glb_at F R g1 hx (by decide) ?_)) hm
  rw [hq]
  refine PyProof.Rows.callWith_type rfl (Calls.evalArgs_plain (Calls.spliced_cons (he A hb Mo M m cv ad s ak R _ _ fun v s' g rv => Calls.spliced_nil ?_)))
  have ty : ∀ {Q : Value → Shared → Prop} {E : Value → Shared → Prop}, Q (.type T) s' → wpAny (model C.prog C.w) A (call (.type "type") [v]) Q E s' := fun {Q E} h => by
    cases a <;> simp only [tyOf, Option.some.injEq, reduceCtorEq] at hT
    · subst hT; obtain ⟨t, rfl⟩ := rv.int_; exact call_type_of (typeIs_int _ _ _) (by decide) h
    · subst hT; obtain ⟨t, rfl⟩ := rv.str_; exact call_type_of (typeIs_str _ _ _) (by decide) h
  exact ty (glb_at F (R.grow g) g2 hy hyd (isnot_type_same (wpAny_truthy_bool (q _ _ g rfl))))
def isiOf (a : AV) (T : String) : Option Bool := match a with
  | .tup _ => if T = "tuple" then some true else if T = "str" then some false else none
  | .str _ => if T = "str" then some true else if T = "tuple" then some false else if T = "int" then some false else none
  | .int _ => if T = "int" then some true else if T = "tuple" then some false else none
  | _ => none
theorem isi_call {A : Around} {s : Shared} {M : List Addr} {a : AV} {T : String} {b : Bool} {v : Value} {Q : Value → Shared → Prop} {E : Value → Shared → Prop} (h : isiOf a T = some b) (r : Rep C (hid s.heap M) a v) (q : ∀ s', Grow s s' → Q (.bool b) s') :
    wpAny (model C.prog C.w) A (call (.builtin "isinstance") [v, .type T]) Q E s := by
  unfold isiOf at h
  split at h
  · obtain ⟨x, vs, rfl, ⟨k, e⟩, _⟩ := r.tup_
    have e := hid_sub _ _ _ _ e
    split at h
    · rename_i z; subst z; cases h; exact IsiPair.tuple_tuple e rfl (q _ (.refl _))
    split at h
    · rename_i z; subst z; cases h; exact IsiPair.tuple_str e rfl (q _ (.toks _))
    · cases h
  · obtain ⟨t, rfl⟩ := r.str_
    split at h
    · rename_i z; subst z; cases h; exact IsiPair.str_str (q _ (.refl _))
    split at h
    · rename_i z; subst z; cases h; exact IsiPair.str_tuple (q _ (.toks _))
    split at h
    · rename_i z; subst z; cases h; exact IsiPair.str_int (q _ (.toks _))
    · cases h
  · obtain ⟨t, rfl⟩ := r.int_
    split at h
    · rename_i z; subst z; cases h; exact IsiPair.int_int (q _ (.refl _))
    split at h
    · rename_i z; subst z; cases h; exact IsiPair.int_tuple (q _ (.toks _))
    · cases h
  · cases h
theorem BJ.isinst (F : fi.Ok) (g1 : C.glb "isinstance" (.builtin "isinstance")) {e : Expr} {a : AV} {T : String} {y : Str} {b : Bool} (he : EJ C n fi ℓ e a) (g2 : C.glb y (.type T)) (hT : isiOf a T = some b) (hx : fi.env.kindOf "isinstance" = some .globalImplicit) (hy : fi.env.kindOf y = some .globalImplicit)
    (hyd : (y == ("__debug__" : Str)) = false) (hq : ∀ env, starEach [e, .Name y p2] env = [(false, eval e env), (false, eval (.Name y p2) env)]) : BJ C n fi ℓ (.Call (.Name "isinstance" p1) [e, .Name y p2] [] pos) b := fun A hb Mo M m cv ad s ak R Q E q => by
  refine isTrue_plain ?_ rfl
  refine Call_ (glb_at F R g1 hx (by decide) ?_)
  rw [hq]
  refine Calls.callWith_builtin rfl (Calls.evalArgs_plain (Calls.spliced_cons (he A hb Mo M m cv ad s ak R _ _ fun v s' g rv => Calls.spliced_cons (glb_at F (R.grow g) g2 hy hyd (Calls.spliced_nil ?_)))))
  exact isi_call hT rv fun s'' g' => wpAny_truthy_bool (q _ _ (g.trans g') rfl)
end
end
section
variable {C : Cx}

/-! ## owned dicts -/
theorem Rel.notSys {hb Mo fi M m cv ad ℓ} {s : Shared} (R : Rel C hb Mo fi M m cv ad ℓ s) : (s.heap.objs.size == sysModules) = false := by
  obtain ⟨o, es, ep, e, _⟩ := C.hmg
  have := Heap.lt_size (R.base0 _ _ e)
  show decide (s.heap.objs.size = 1) = false
  have : (3 : Nat) < s.heap.objs.size := this
  exact decide_eq_false (by omega)
theorem pairs_new {K : Type} [DecidableEq K] {prog : Program} {w : World} {knd : KeyKind prog w K} {h : Heap} : (h.push { cls := .type "dict", data := .dict #[] }).DictOf knd h.objs.size [] := Heap.DictOf.new h
theorem stored_zip {K : Type} [DecidableEq K] {ks : List K} {vs : List Value} {k : K} {v : Value} (hl : ks.length = vs.length) (h : k ∉ ks) : stored (ks.zip vs) k v = (ks ++ [k]).zip (vs ++ [v]) := by
  rw [List.zip_append hl]
  unfold stored
  rw [if_neg]
  · rfl
  · intro z
    obtain ⟨kv, h1, h2⟩ := List.any_eq_true.mp z
    have h2 : kv.1 = k := by simpa using h2
    exact h (h2 ▸ (List.of_mem_zip (a := kv.1) (b := kv.2) h1).1)
theorem atKey_zip {K : Type} [DecidableEq K] {ks : List K} {ps : List (Addr × Value)} {k : K} (h : k ∉ ks) : atKey (ks.zip ps) k = none := by
  unfold atKey
  rw [Option.map_eq_none_iff, List.find?_eq_none]
  intro x hx z
  have z : x.1 = k := by simpa using z
  exact h (z ▸ (List.of_mem_zip (a := x.1) (b := x.2) hx).1)
theorem storedH_zip {K : Type} [DecidableEq K] {ks : List K} {ps : List (Addr × Value)} {k : K} {a : Addr} {v : Value} (hl : ks.length = ps.length) (h : k ∉ ks) : storedH (ks.zip ps) k a v = (ks ++ [k]).zip (ps ++ [(a, v)]) := by
  rw [List.zip_append hl, storedH_new (atKey_zip h)]
  rfl

section
variable {n : Nat} {fi : Fi} {ℓ : List Slot} {pos pos' p p1 p2 : Pos} {F : Out → Prop} {i : Nat} {x : Str} {lo : Loc}
/-- x = {} -/
theorem S1.dict0 (F' : fi.Ok) (sl : Slot) (hsl : sl = .oS [] [] ∨ sl = .oTS [] [] ∨ sl = .oTI [] []) (hi : fi.vs[i]? = some (x, lo)) (h : F (.nxt (ℓ.set i sl)))
    (hlo : lo = .loc ∨ fi.own = true := by first | exact .inl rfl | exact .inr rfl) (hs : swapsWith (.Dict [] [] p) (some (.Name x pos')) pos.line fi.env = pure false := by rfl) :
    S1 C n fi (.Assign [.Name x pos'] (.Dict [] [] p) pos) ℓ F := fun A hb Mo M m cv ad s ak ow R Q E q =>
  wpAny_Assign_Name (wpAny_Dict_empty (by
    have g : Grow s { s with heap := s.heap.push { cls := .type "dict", data := .dict #[] } } := .push _
    obtain ⟨o1, o2, o3, o4⟩ := fresh_own R g get_new
    have ns := R.notSys
    have ok : SlotOk C (s.heap.push { cls := .type "dict", data := .dict #[] }) (hid (s.heap.push { cls := .type "dict", data := .dict #[] }) (s.heap.objs.size :: M)) sl (some (.ref s.heap.objs.size)) [s.heap.objs.size] := by
      rcases hsl with rfl | rfl | rfl
      · exact .oS ns rfl (vs := []) (Heap.DictOf.new _) .nil
      · exact .oTS ns rfl (ps := []) (Heap.DictOfH.new _) (fun x hx => nomatch hx) .nil
      · exact .oTI ns rfl (ps := []) (Heap.DictOfH.new _) (fun x hx => nomatch hx) .nil
    exact (R.fresh g get_new ⟨_, Heap.get?_push_size _ rfl⟩).store F' hi (fun c hc => hlo.elim (fun z => by rw [hc] at z; cases z) fun z => ow z i x c (hc ▸ hi)) ok (by simp) (fun b hb => by
      rw [List.mem_singleton] at hb
      subst hb
      exact ⟨.head _, o1, o2, o3, fun j hj _ => o4 j hj⟩) fun s'' m' eg eo R' => q _ _ _ h ⟨g.mv.trans (.same eg eo), _, _, _, _, R'⟩)) hs

theorem SW.freezeD {st : List Stmt} {sl : Slot} {a : AV} (hv : ℓ[i]? = some sl) (hsl : (∃ ks l, sl = .oS ks l ∧ a = .dS ks l) ∨ (∃ ks l, sl = .oTS ks l ∧ a = .dTS ks l) ∨ (∃ ks l, sl = .oTI ks l ∧ a = .dTI ks l)) (h : SW C n fi st (ℓ.set i (.fz a)) F) :
    SW C n fi st ℓ F := fun A hb Mo M m cv ad s ak ow R Q E q => by
  have z := R.slot i _ hv
  have hi := (List.getElem?_eq_some_iff.mp hv).1
  generalize ez : cv i = w at z
  generalize ed : ad i = ds at z
  have fr : ∀ b, ds = [b] → SlotOk C s.heap (hid s.heap (M.filter fun c => decide (c ≠ b))) (.fz a) (cv i) [] → wpAny (model C.prog C.w) A (execs st fi.env) Q E s := fun b e hok => by
    subst e
    exact h A hb Mo _ m cv _ s ak ow (R.freeze hi ed hok) Q E q
  have lift : ∀ b (o : Obj), s.heap.get? b = some o → (hid s.heap (M.filter fun c => decide (c ≠ b))).get? b = some o := fun b o e => hid_get e fun q => by simpa using (List.mem_filter.mp q).2
  have mono : ∀ b, Sub (hid s.heap M) (hid s.heap (M.filter fun c => decide (c ≠ b))) := fun b => hid_mono (fun _ _ _ e => e) fun c q => (List.mem_filter.mp q).1
  rcases hsl with ⟨ks, l, rfl, rfl⟩ | ⟨ks, l, rfl, rfl⟩ | ⟨ks, l, rfl, rfl⟩
  · cases z with
    | @oS _ _ b vs y0 y1 d r =>
      refine fr b rfl ?_
      rw [ez]
      obtain ⟨o, es, ep, e, t⟩ := d
      exact .fz (.dS y0 y1 ⟨o, es, ep, lift _ _ e, t⟩ (r.mono (mono b)))
  · cases z with
    | @oTS _ _ b ps y0 y1 d y r =>
      refine fr b rfl ?_
      rw [ez]
      obtain ⟨o, es, ep, e, h1, h2, h3, h4, h5⟩ := d
      exact .fz (.dTS y0 y1 ⟨o, es, ep, lift _ _ e, h1, h2, h3, fun x hx => tupleKey_mono (mono b) (y x hx), h5⟩ (r.mono (mono b)))
  · cases z with
    | @oTI _ _ b ps y0 y1 d y r =>
      refine fr b rfl ?_
      rw [ez]
      obtain ⟨o, es, ep, e, h1, h2, h3, h4, h5⟩ := d
      exact .fz (.dTI y0 y1 ⟨o, es, ep, lift _ _ e, h1, h2, h3, fun x hx => tupleKey_mono (mono b) (y x hx), h5⟩ (r.mono (mono b)))

theorem RepL.snocM {H : Heap} {l : List AV} {vs : List Value} {a : AV} {v : Value} (r : RepL C H l vs) (q : Rep C H a v) : RepL C H (l ++ [a]) (vs ++ [v]) := r.snoc q

/-- d[k] = v, a new key, a text -/
theorem S1.setS (F' : fi.Ok) {ek e : Expr} {k : Str} {a : AV} {ks : List Str} {l : List AV} (hi : fi.vs[i]? = some (x, lo)) (hv : ℓ[i]? = some (.oS ks l)) (he : EJ C n fi ℓ e a) (hk : EJ C n fi ℓ ek (.str k)) (hnew : k ∉ ks) (hz : ks.length ≤ sz)
    (h : F (.nxt (ℓ.set i (.oS (ks ++ [k]) (l ++ [a]))))) (hs : swapsWith e (some (.Subscript (.Name x p1) ek p2)) pos.line fi.env = pure false := by rfl) :
    S1 C n fi (.Assign [.Subscript (.Name x p1) ek p2] e pos) ℓ F := fun A hb Mo M m cv ad s ak ow R Q E q => by
  refine wpAny_Assign_Subscript (he A hb Mo M m cv ad s ak R _ _ fun v s1 g1 rv => ?_) hs
  have R1 := R.grow g1
  have z := R1.slot i _ hv
  have hi' := (List.getElem?_eq_some_iff.mp hv).1
  generalize ez : cv i = w at z
  generalize ed : ad i = ds at z
  cases z with
  | @oS _ _ b vs y0 y1 d r =>
    refine R1.var F' hi ez (hk A hb Mo M m cv ad s1 ak R1 _ _ fun kv s2 g2 rk => ?_)
    obtain ⟨t, rfl⟩ := rk.str_
    have R2 := R1.grow g2
    have z2 := R2.slot i _ hv
    rw [ez, ed] at z2
    cases z2 with
    | @oS _ _ _ vs2 y02 y12 d2 r2 =>
    refine wpAny_setItem_pairs (knd := sK C) (k := k) (strKind_is _ _ _ _) d2 (fun h' hm' hs' => ?_) (by rw [List.length_zip, ← y12, Nat.min_self]; exact sz_le hz)
    have ia : b ∈ ad i := by rw [ed]; exact .head _
    refine q _ _ _ h ⟨(g1.trans g2).mv.trans (.same rfl rfl), M, m, cv, ad, ?_⟩
    refine R2.turn (tk := s2.toks + 1) hi' ia hs' ?_
    rw [ez, ed]
    have kk := hid_change ((R2.mA i hi').2 b ia).1 hs'
    rw [stored_zip y12 hnew] at hm'
    exact .oS y0 (by simp [y12]) hm' ((r2.snoc (rv.mono (hid_grow g2.keep))).mono kk)

/-- d[a, b] = v, a new key -/
theorem S1.setT (F' : fi.Ok) {K : Type} [DecidableEq K] {knd : KeyKind C.prog C.w K} {ek e : Expr} {k : List K} {a kav : AV} {ks : List (List K)} {l : List AV} {mk : List (List K) → List AV → Slot} (hi : fi.vs[i]? = some (x, lo)) (hv : ℓ[i]? = some (mk ks l))
    (hmk : ∀ {h H cv as ks l}, SlotOk C h H (mk ks l) cv as → ∃ b ps, cv = some (.ref b) ∧ as = [b] ∧ (b == sysModules) = false ∧ ks.length = ps.length ∧ h.DictOfH (tupleKind knd) b (ks.zip ps) ∧ (∀ x ∈ ks.zip ps, IsTupleKey knd H x.1 x.2.1) ∧ RepL C H l (ps.map (·.2)))
    (hmk' : ∀ {h H b ks l} {ps : List (Addr × Value)}, (b == sysModules) = false → ks.length = ps.length → h.DictOfH (tupleKind knd) b (ks.zip ps) → (∀ x ∈ ks.zip ps, IsTupleKey knd H x.1 x.2.1) → RepL C H l (ps.map (·.2)) → SlotOk C h H (mk ks l) (some (.ref b)) [b])
    (he : EJ C n fi ℓ e a) (hk : EJ C n fi ℓ ek kav) (hkey : ∀ {H v}, Rep C H kav v → ∃ b, v = .ref b ∧ IsTupleKey knd H k b) (hnew : k ∉ ks) (hz : ks.length ≤ sz)
    (h : F (.nxt (ℓ.set i (mk (ks ++ [k]) (l ++ [a]))))) (hs : swapsWith e (some (.Subscript (.Name x p1) ek p2)) pos.line fi.env = pure false := by rfl) :
    S1 C n fi (.Assign [.Subscript (.Name x p1) ek p2] e pos) ℓ F := fun A hb Mo M m cv ad s ak ow R Q E q => by
  refine wpAny_Assign_Subscript (he A hb Mo M m cv ad s ak R _ _ fun v s1 g1 rv => ?_) hs
  have R1 := R.grow g1
  have hi' := (List.getElem?_eq_some_iff.mp hv).1
  obtain ⟨b, ps, ez, ed, y0, y1, d, y, r⟩ := hmk (R1.slot i _ hv)
  refine R1.var F' hi ez (hk A hb Mo M m cv ad s1 ak R1 _ _ fun kv s2 g2 rk => ?_)
  have R2 := R1.grow g2
  obtain ⟨ka, rfl, hka⟩ := hkey rk
  obtain ⟨b', ps2, ez2, ed2, y02, y12, d2, y2, r2⟩ := hmk (R2.slot i _ hv)
  rw [ez] at ez2
  cases ez2
  refine wpAny_setItem_heap (knd := tupleKind knd) (k := k) (tupleKind_room_in1 ak.u1) (tupleKey_mono (hid_sub _ _) hka) d2 (fun h' hm' hs' => ?_) (by rw [List.length_zip, ← y12, Nat.min_self]; exact sz_le hz)
  have ia : b ∈ ad i := by rw [ed]; exact .head _
  refine q _ _ _ h ⟨(g1.trans g2).mv.trans (.same rfl rfl), M, m, cv, ad, ?_⟩
  refine R2.turn (tk := s2.toks + (tupleKind knd).draws k) hi' ia hs' ?_
  rw [ez, ed]
  have kk := hid_change ((R2.mA i hi').2 b ia).1 hs'
  rw [storedH_zip y12 hnew] at hm'
  refine hmk' y0 (by simp [y12]) hm' (fun x hx => ?_) (by rw [List.map_append]; exact (r2.snoc (rv.mono (hid_grow g2.keep))).mono kk)
  rw [List.zip_append y12] at hx
  rcases List.mem_append.mp hx with z | z
  · exact tupleKey_mono kk (y2 x z)
  · have z : x = (k, ka, v) := by simpa using z
    subst z
    exact tupleKey_mono kk hka
theorem slotTS {h H : Heap} {cv as ks l} (z : SlotOk C h H (.oTS ks l) cv as) : ∃ (b : Addr) (ps : List (Addr × Value)), cv = some (.ref b) ∧ as = [b] ∧ (b == sysModules) = false ∧ ks.length = ps.length ∧ h.DictOfH (tupleKind (sK C)) b (ks.zip ps) ∧ (∀ x ∈ ks.zip ps, IsTupleKey (sK C) H x.1 x.2.1) ∧ RepL C H l (ps.map (·.2)) := by
  cases z with | oTS y0 y1 d y r => exact ⟨_, _, rfl, rfl, y0, y1, d, y, r⟩
theorem slotTI {h H : Heap} {cv as ks l} (z : SlotOk C h H (.oTI ks l) cv as) : ∃ (b : Addr) (ps : List (Addr × Value)), cv = some (.ref b) ∧ as = [b] ∧ (b == sysModules) = false ∧ ks.length = ps.length ∧ h.DictOfH (tupleKind (iK C)) b (ks.zip ps) ∧ (∀ x ∈ ks.zip ps, IsTupleKey (iK C) H x.1 x.2.1) ∧ RepL C H l (ps.map (·.2)) := by
  cases z with | oTI y0 y1 d y r => exact ⟨_, _, rfl, rfl, y0, y1, d, y, r⟩
theorem keyS {l : List AV} {k : List Str} (h : keyStrs l = some k) {H : Heap} {v : Value} (r : Rep C H (.tup l) v) : ∃ b, v = .ref b ∧ IsTupleKey (sK C) H k b := by
  obtain ⟨a, vs, rfl, t, rl⟩ := r.tup_
  exact ⟨a, rfl, tupKey t (keyStrs_are rl h)⟩
theorem keyI {l : List AV} {k : List Int} (h : keyInts l = some k) {H : Heap} {v : Value} (r : Rep C H (.tup l) v) : ∃ b, v = .ref b ∧ IsTupleKey (iK C) H k b := by
  obtain ⟨a, vs, rfl, t, rl⟩ := r.tup_
  exact ⟨a, rfl, tupKey t (keyInts_are rl h)⟩
end
end
section
variable {C : Cx}
section
variable {n : Nat} {fi : Fi} {ℓ : List Slot} {pos p p1 p2 p3 : Pos} {x : Ext}
/-- m.f(..) of a thing of the lexer -/
theorem EJ.meth {o e : Expr} {es : List Expr} {as : List AV} {name : Str} {r : AV} {f : Addr} (ho : EJ C n fi ℓ o (.ext x)) (hm : MetJ C x name f) (hf : IsFn C f) (ha : LJ C n fi ℓ (e :: es) as) (h : CallJ C n (.ref f) (.ext x :: as) r)
    (hbase : ∀ env, attributeBase o name env (eval o env) = eval o env := by intro _; rfl) (hline : (p.endLine == pos.line) = true := by rfl)
    (hfew : ∀ env, ((backTo pos (starEach (e :: es) env)).all (fun x => !x.1) && (backToKw pos (keywordEach [] env)).all (fun x => x.1.isSome)
      && decide ((e :: es).length + ([] : List Keyword).length + (if ([] : List Keyword).isEmpty then 0 else 1) < 30)) = true := by intro _; rfl)
    (hq : ∀ env, starEach (e :: es) env = (false, eval e env) :: starEach es env := by intro _; rfl) : EJ C n fi ℓ (.Call (.Attribute o name p) (e :: es) [] pos) r := fun A hb Mo M m cv ad s ak R Q E q => by
  refine meth_core (hbase _) (hfew _) hline (ho A hb Mo M m cv ad s ak R _ _ fun v s' g rx => ⟨.ref f, fun pl Q E q => hm A M s' v pl Q E (R.grow g).glob rx.ext_ q, ?_⟩)
  obtain ⟨ob, fd, e1, e2⟩ := hf
  have R' := R.grow g
  refine Calls.callWith_function (o := ob) (fd := fd) (args_ok ha ak R' hq _ _ fun a s2 g2 ra => ⟨⟨(R'.grow g2).base0 _ _ e1, e2⟩, ?_⟩)
  rw [ra.1]
  have R2 := R'.grow g2
  exact h A M s2 _ ak R2.glob R2.has R2.new0 (.cons (rx.mono (hid_grow g2.keep)) ra.2) _ _ fun w s'' g' rw_ => q _ _ (g.trans (g2.trans g')) rw_
/-- a class of the text, as a thing that is called -/
def ClsK (C : Cx) (a : Addr) : Prop := ∀ (H : Heap), Sub C.h₀ H → ∃ k, (k = Keeper.frame ∨ k = Keeper.machine ∨ k = Keeper.boundFrame) ∧ Looks (model C.prog C.w) H (keeperOf (.ref a)) k
theorem EJ.callC (F : fi.Ok) {y : Str} {a : Addr} {e : Expr} {es : List Expr} {as : List AV} {r : AV} (g : C.glb y (.ref a)) (hk : ClsK C a) (ha : LJ C n fi ℓ (e :: es) as) (h : CallJ C n (.ref a) as r)
    (hy : fi.env.kindOf y = some .globalImplicit := by rfl) (hdbg : (y == ("__debug__" : Str)) = false := by decide)
    (hq : ∀ env, starEach (e :: es) env = (false, eval e env) :: starEach es env := by intro _; rfl) (hp : ∀ env pos, (backTo pos (starEach (e :: es) env)).any (·.1) = false := by intro _ _; rfl) :
    EJ C n fi ℓ (.Call (.Name y p) (e :: es) [] pos) r := fun A hb Mo M m cv ad s ak R Q E q => by
  refine Call_ (glb_at F R g hy hdbg ?_)
  refine callWith_of (P := fun h => Sub (hid s.heap M) h) (by rw [hp]; rfl) (fun h kh => hk h (R.glob.trans kh)) (args_ok ha ak R hq _ _ fun a' s' g ra => ⟨(hid_sub _ _).trans g.keep, ?_⟩)
  exact call_at h ak (R.grow g) ra _ _ fun w s'' g' rw_ => q _ _ (g.trans g') rw_
end
/-- the same data, twice -/
theorem deep_same {a : AV} {d : PyData} (h : toPy a = some d) (hs : PySem.SeqAt.shaped d = true) (he : PyData.eqv d d = true) : deepEq a a = some true := by
  unfold deepEq
  rw [h]
  dsimp only
  rw [hs, he]; rfl
end
section
variable {C : Cx}

/-- the binding of arguments, as the frame will hold them -/
def BindJ (C : Cx) (fd : FuncData) (args : Args) (M : List Addr) (s : Shared) (ps : List Str) (as : List AV) : Prop :=
  ∀ A : Around, Ev C A (bindArgs fd args) s (fun binds s1 => ∃ vs, binds = ps.zip vs ∧ RepL C (hid s1.heap M) as vs)
theorem BindJ.plain {fd : FuncData} {vs : List Value} {M : List Addr} {s : Shared} {ps : List Str} {as : List AV} (h : bindArgs fd ⟨vs, []⟩ = pure (ps.zip vs)) (rl : RepL C (hid s.heap M) as vs) : BindJ C fd ⟨vs, []⟩ M s ps as := fun A Q E q => by
  rw [h]
  exact wpAny_pure (q _ _ (.refl _) ⟨vs, rfl, rl⟩)

theorem call_begin {n : Nat} {a : Addr} {o : Obj} {fd : FuncData} {body : List Stmt} {ps xs : List Str} {as : List AV} {A : Around} {M : List Addr} {s : Shared} {args : Args} {R : Result → Shared → Prop}
    (ho : C.h₀.get? a = some o) (hd : o.data = .func fd) (hcd : C.h₀.CodeRec fd.code fd.qualname) (hbody : fd.body = .stmts body) (hclo : fd.closure = []) (hgl : fd.globals = mainGlobals) (hbl : fd.builtins = builtinsNs)
    (hco : fd.scope.isCoroutine = false) (hgen : fd.scope.isGenerator = false) (hk : fd.scope.kind = .function)
    (hbind : BindJ C fd args M s ps as) (len : as.length = ps.length)
    (nd : (ps ++ xs).Nodup) (hkind : ∀ x ∈ ps ++ xs, fd.scope.names.lookup x = some .local ∨ fd.scope.names.lookup x = some .cell) (hdbg : ∀ x ∈ ps ++ xs, (x == ("__debug__" : Str)) = false)
    (ak : AOk (n + 1) A) (h0 : Sub C.h₀ (hid s.heap M)) (hM : ∀ a ∈ M, ∃ o, s.heap.get? a = some o) (hM0 : ∀ a ∈ M, C.h₀.get? a = none)
    (h : ∀ L s₀ s₁ M' m cv, (fiOf fd L a (ps ++ xs)).Ok → Own (fiOf fd L a (ps ++ xs)) M → Grow s s₀ → Grow s₀ s₁ → AOk n (A.deeper (callEnvC fd L a)) →
      Rel C (fun b x => s₀.heap.get? b = some x) M (fiOf fd L a (ps ++ xs)) M' m cv (fun _ => []) (as.map .fz ++ xs.map fun _ => .un) s₁ →
      ∀ E', wpAny (model C.prog C.w) (A.deeper (callEnvC fd L a)) (execs body (callEnvC fd L a)) (fun f s' => R (.ok (.ret (match f with | .ret v => v | _ => .none))) s') E' s₁) :
    codeAny (model C.prog C.w) A (.call (.ref a) args) R s := by
  have k0 : Sub C.h₀ s.heap := h0.trans (hid_sub _ _)
  refine codeAny_call_function ak.room (k0 _ _ ho) hd hco hgen hbody (hcd.keeps k0) ?_
  rw [hclo]
  refine hbind _ _ _ fun binds s0 g0 hb => ?_
  obtain ⟨vs, rfl, rl⟩ := hb
  refine wpAny_newFunctionEnv_cells hk (fun x hx => ?_) fun env he s1 I => ?_
  · have hx' : x.1 ∈ ps ++ xs := List.mem_append_left _ ((List.of_mem_zip hx).1)
    rcases hkind _ hx' with z | z
    · exact .inl z
    · exact .inr ⟨z, cells_mem _ _ _ _ (.inl z)⟩
  · subst he
    have h0' : Sub C.h₀ (hid s0.heap M) := h0.trans (hid_grow g0.keep)
    have hM' : ∀ a ∈ M, ∃ o, s0.heap.get? a = some o := fun a h => let ⟨o, e⟩ := hM a h; ⟨o, g0.keep _ _ e⟩
    obtain ⟨F, ow, g, eg, M', m, cv, R', _⟩ := frame_rel (C := C) (fd := fd) (a := a) (ps := ps) (xs := xs) (as := as) (vs := vs) (s := s0) (s₁ := s1) (M := M) hgl hbl hk len nd hkind hdbg h0' hM' hM0 rl rfl I
    refine ⟨C.nolim.keeps ((k0.trans g0.keep).trans g.keep), codeAny_func ?_⟩
    exact h _ s0 s1 M' m cv F ow g0 g ak.deep R' _

/-- a call whose arguments are bound by defaults or stars, and that changes nothing old -/
theorem call_okC {n : Nat} {a : Addr} {o : Obj} {fd : FuncData} {body : List Stmt} {ps xs : List Str} {as : List AV} {r : AV} {A : Around} {M : List Addr} {s : Shared} {args : Args} {R : Result → Shared → Prop}
    (ho : C.h₀.get? a = some o) (hd : o.data = .func fd) (hcd : C.h₀.CodeRec fd.code fd.qualname) (hbody : fd.body = .stmts body) (hclo : fd.closure = []) (hgl : fd.globals = mainGlobals) (hbl : fd.builtins = builtinsNs)
    (hco : fd.scope.isCoroutine = false) (hgen : fd.scope.isGenerator = false) (hk : fd.scope.kind = .function)
    (hbind : BindJ C fd args M s ps as) (len : as.length = ps.length)
    (nd : (ps ++ xs).Nodup) (hkind : ∀ x ∈ ps ++ xs, fd.scope.names.lookup x = some .local ∨ fd.scope.names.lookup x = some .cell) (hdbg : ∀ x ∈ ps ++ xs, (x == ("__debug__" : Str)) = false)
    (ak : AOk (n + 1) A) (h0 : Sub C.h₀ (hid s.heap M)) (hM : ∀ a ∈ M, ∃ o, s.heap.get? a = some o) (hM0 : ∀ a ∈ M, C.h₀.get? a = none)
    (h : ∀ L, (fiOf fd L a (ps ++ xs)).Ok → SW C n (fiOf fd L a (ps ++ xs)) body (as.map .fz ++ xs.map fun _ => .un) (fun o => unfz o = some r))
    (q : ∀ v s', Grow s s' → Rep C (hid s'.heap M) r v → R (.ok (.ret v)) s') : codeAny (model C.prog C.w) A (.call (.ref a) args) R s := by
  refine (call_begin ho hd hcd hbody hclo hgl hbl hco hgen hk hbind len nd hkind hdbg ak h0 hM hM0 fun L s0 s1 M' m cv F ow g0 g1 ak' R1 E' => ?_)
  refine h L F _ _ M M' m cv _ s1 ak' ow R1 _ _ fun oo f s2 ho2 af => ?_
  cases oo with
  | nxt ℓ2 =>
    cases f <;> first | exact af.elim | skip
    simp only [unfz, Option.some.injEq] at ho2
    subst ho2
    obtain ⟨g2, M2, m2, cv2, ad2, R2⟩ := af
    exact q _ _ (g0.trans ⟨R2.base, (g1.mv.trans g2).gens, (g1.mv.trans g2).bare, (g1.mv.trans g2).os⟩) .none
  | brk ℓ2 => simp [unfz] at ho2
  | cnt ℓ2 => simp [unfz] at ho2
  | ret b =>
    cases f <;> first | exact af.elim | skip
    simp only [unfz, Option.some.injEq] at ho2
    subst ho2
    obtain ⟨g2, G⟩ := af
    exact q _ _ (g0.trans ⟨G.base, (g1.mv.trans g2).gens, (g1.mv.trans g2).bare, (g1.mv.trans g2).os⟩) G.val

section
variable {hb : Base} {Mo : List Addr} {fi : Fi} {M : List Addr} {m : Str → Option Value} {cv : Nat → Option Value} {ad : Nat → List Addr} {ℓ : List Slot} {s : Shared}
/-- a thing that the frames around own is turned: what is known of it is written anew -/
theorem Rel.rebase (R : Rel C hb Mo fi M m cv ad ℓ s) {a : Addr} {h' : Heap} {tk : Nat} {o' : Obj} (ha : a ∈ Mo) (hc : ∀ (i : Nat) x c, fi.vs[i]? = some (x, .cel c) → c ≠ a) (hs : Heap.SameBut a s.heap h') (e' : h'.get? a = some o') :
    Rel C (fun b x => if b = a then x = o' else hb b x) Mo fi M m cv ad ℓ { s with heap := h', toks := tk } := by
  have haM := R.mO a ha
  have hL : a ≠ fi.env.locals := fun z => R.mL.2 (z ▸ ha)
  have hid' : Sub (hid s.heap M) (hid h' M) := hid_change haM hs
  have sub : Sub (hid s.heap M) h' := hid'.trans (hid_sub _ _)
  exact {
    base := fun b x h => by
      by_cases q : b = a
      · subst q; rw [if_pos rfl] at h; subst h; exact e'
      · rw [if_neg q] at h; exact (hs.2 b q).trans (R.base b x h)
    len := R.len
    anon := R.anon
    ns := R.ns.sameBut hs hL.symm
    loc := R.loc
    cel := fun i x c e => (R.cel i x c e).sameBut hs (hc i x c e)
    slot := fun i sl e => by
      have hi := (List.getElem?_eq_some_iff.mp e).1
      exact (R.slot i sl e).mono hid' (fun b hb' o q => (hs.2 b fun z => ((R.mA i hi).2 b hb').2.1 (z ▸ ha)).trans q) sub
    mL := R.mL
    mC := R.mC
    mA := R.mA
    mO := R.mO
    new := fun b h => by
      by_cases q : b = a
      · subst q; exact .inl ha
      · rcases R.new b h with z | z
        · exact .inl z
        · exact .inr fun o x => by rw [if_neg q] at x; exact z o x
    has := fun b h => by
      by_cases q : b = a
      · subst q; exact ⟨_, e'⟩
      · obtain ⟨o, e⟩ := R.has b h; exact ⟨o, (hs.2 b q).trans e⟩
    base0 := sub_change R.base0 (R.new0 a haM) hs
    new0 := R.new0 }
end
end
section

/-! ## the dict of a thing made of a class -/
inductive EA : List DictEntry → List (Str × Value) → Prop
  | nil : EA [] []
  | cons {h : Int} {x : Str} {t : Tok} {v : Value} {es l} : EA es l → EA (⟨h, .str x t, v⟩ :: es) ((x, v) :: l)
def AttrsAre (od : Obj) (l : List (Str × Value)) : Prop := ∃ es n, od = { cls := .type "dict", data := .dict (List.toArray es) n } ∧ EA es l
theorem EA.find {es : List DictEntry} {l : List (Str × Value)} (h : EA es l) (x : Str) : (es.find? (·.key.isStr x)).map (·.val) = l.lookup x := by
  induction h with
  | nil => rfl
  | @cons h y t v es l _ ih =>
    rw [List.find?_cons]
    by_cases q : y = x
    · subst q
      have : (Value.str y t).isStr y = true := by simp [Value.isStr]
      simp only [this, List.lookup, beq_self_eq_true]; rfl
    · have e1 : (Value.str y t).isStr x = false := by simp [Value.isStr, q]
      have e2 : (x == y) = false := beq_eq_false_iff_ne.mpr fun z => q z.symm
      simp only [e1, List.lookup, e2]
      exact ih
theorem EA.noRef {es : List DictEntry} {l : List (Str × Value)} (h : EA es l) : es.any (·.refKey) = false := by
  induction h with
  | nil => rfl
  | cons _ ih => rw [List.any_cons, ih]; rfl
theorem AttrsAre.look {od : Obj} {l : List (Str × Value)} (h : AttrsAre od l) (x : Str) : lookIn x od = some (l.lookup x) := by
  obtain ⟨es, n, rfl, ea⟩ := h
  unfold lookIn
  dsimp only
  have := ea.find x
  cases e : es.find? (·.key.isStr x) with
  | some en => rw [e] at this; rw [← this]; rfl
  | none =>
    rw [e] at this
    rw [← this, ea.noRef]; rfl
theorem EA.idx {es : List DictEntry} {l : List (Str × Value)} (h : EA es l) {x : Str} (hx : l.lookup x = none) : es.findIdx? (·.key.isStr x) = none := by
  rw [List.findIdx?_eq_none_iff]
  intro e he
  have := h.find x
  rw [hx, Option.map_eq_none_iff, List.find?_eq_none] at this
  simpa using this e he
theorem EA.snoc {es : List DictEntry} {l : List (Str × Value)} (h : EA es l) (hs : Int) (x : Str) (t : Tok) (v : Value) : EA (es ++ [⟨hs, .str x t, v⟩]) (l ++ [(x, v)]) := by
  induction h with
  | nil => exact .cons .nil
  | cons _ ih => exact .cons ih
theorem EA.len {es : List DictEntry} {l : List (Str × Value)} (h : EA es l) : es.length = l.length := by
  induction h with
  | nil => rfl
  | cons _ ih => rw [List.length_cons, List.length_cons, ih]
theorem AttrsAre.put {od : Obj} {l : List (Str × Value)} (h : AttrsAre od l) {x : Str} (hx : l.lookup x = none) (hs : Int) (t : Tok) (v : Value) : AttrsAre (Obj.putName x hs (.str x t) v od) (l ++ [(x, v)]) := by
  obtain ⟨es, n, rfl, ea⟩ := h
  refine ⟨es ++ [⟨hs, .str x t, v⟩], n + 1, ?_, ea.snoc hs x t v⟩
  rw [Obj.putName_eq]
  unfold Obj.putNameByArray
  dsimp only
  rw [List.findIdx?_toArray, ea.idx hx]
  dsimp only
  rw [List.push_toArray]
theorem AttrsAre.nil : AttrsAre emptyDict [] := ⟨[], 0, rfl, .nil⟩

/-- the store of an attribute -/
theorem set_at {prog : Program} {w : World} {A : Around} {E : Value → Shared → Prop} {s : Shared} {K : Frag} {x dx c : Addr} {od : Obj} {l : List (Str × Value)} {name : Str} {v : Value} {Q : Unit → Shared → Prop} (X : K.In s.heap)
    (hx : s.heap.get? x = some (instObj c dx)) (hdx : s.heap.get? dx = some od) (ha : AttrsAre od l) (hn : l.lookup name = none) (hlen : l.length ≤ 900)
    (hs : findIn K (.ref c) "__setattr__" = some (some (.builtin "object.__setattr__"))) (hp : plainOver K c = true) (ht : takerIn K c name = some none) (hh : (clsIn K c).any (·.hasDict) = true)
    (h : ∀ h' od' tk, Heap.SameBut dx s.heap h' → h'.get? dx = some od' → AttrsAre od' (l ++ [(name, v)]) → Q () { s with heap := h', toks := tk }) : wpAny (model prog w) A (setAttr (.ref x) name v) Q E s := by
  have I : InstAt s.heap x (instObj c dx) c (some od) := ⟨hx, rfl, rfl, hdx⟩
  refine set_plain X I hs ?_
  refine osa_open (s := { s with toks := s.toks + 1 }) X I hp ht fun b => ?_
  obtain ⟨cd, hc, hd'⟩ := any_some hh
  refine wpAny_bind (wpAny_pure (wpAny_bind (wpAny_bind (wpAny_loadPart hx (wpAny_bind (looks_clsIn X hc _ _ _ _ (fun _ _ e => e) ?_))))))
  rw [hd']
  refine wpAny_pure (a := some dx) (wpAny_bind (wpAny_pure (wpAny_bind ?_)))
  unfold nsSet
  refine wpAny_bind (wpAny_bind (wpAny_askSetting (wpAny_pure (wpAny_bind (wpAny_mkText (wpAny_bind (wpAny_loadPart hdx ?_)))))))
  obtain ⟨es, n, rfl, ea⟩ := id ha
  dsimp only
  have cc : (!(List.toArray es).any (·.key.isStr name) && (List.toArray es).any (·.refKey)) = false := by
    have z := ea.noRef
    rw [← Array.any_toList, ← Array.any_toList]
    show (!es.any _ && es.any _) = false
    rw [z, Bool.and_false]
  rw [aRefKeyMayBeTheName_at, cc]
  refine wpAny_updatePart hdx ?_
  have ha' := ha.put hn (PyData.keyHash w.params name) (s.toks + 1) v
  obtain ⟨es', n', e', ea'⟩ := id ha'
  have fr : (Obj.putName name (PyData.keyHash w.params name) (.str name (s.toks + 1)) v { cls := .type "dict", data := .dict (List.toArray es) n }).isFreed = false := by rw [e']; rfl
  have D' := Heap.get?_update_self (Obj.putName name (PyData.keyHash w.params name) (.str name (s.toks + 1)) v) hdx fr
  refine wpAny_bind (wpAny_lookBehind D' (by rw [e']; exact pastItsLine_dict (by rw [List.size_toArray, sizeLine_eq, ea'.len, List.length_append]; show _ + 1 ≤ _; omega)) ?_)
  exact wpAny_pure (h _ _ _ (Heap.SameBut.update ..) D' ha')
end
section
variable {C : Cx}
section
variable {n : Nat} {fi : Fi} {ℓ : List Slot} {pos : Pos} {F : Out → Prop}
/-- for k, v in d.items() -/
theorem S1.forItems (F' : fi.Ok) {tg : List Expr} {kk : Nat} {tp p0 apos cpos : Pos} {body : List Stmt} {i : Nat} {x : Str} {lo : Loc} {ks : List Str} {l : List AV} (hi : fi.vs[i]? = some (x, lo)) (hv : ℓ[i]? = some (.fz (.dS ks l))) (P : List (Str × AV) → List Slot → Prop) (h0 : P (ks.zip l) ℓ)
    (step : ∀ k a rest ℓ, P ((k, a) :: rest) ℓ → ∃ ℓ', TJ C n fi (.Tuple tg kk tp) (.tup [.str k, a]) ℓ ℓ' ∧ SW C n fi body ℓ' (loopOut (P rest) F)) (fin : ∀ ℓ, P [] ℓ → F (.nxt ℓ))
    (hline : (apos.endLine == cpos.line) = true) : S1 C n fi (.For (.Tuple tg kk tp) (.Call (.Attribute (.Name x p0) "items" apos) [] [] cpos) body [] pos) ℓ F := fun A hb Mo M m cv ad s ak ow R Q E q => by
  have z := R.slot i _ hv
  generalize ez : cv i = w at z
  generalize ad i = ds at z
  cases z with
  | @fz _ v rx =>
  obtain ⟨d, vs, rfl, hds, hlen, hd, rl⟩ := rx.dS_
  obtain ⟨ep, hat⟩ := hd.dictAt
  have hdS : s.heap.DictOf (sK C) d (ks.zip vs) := dictOf_mono (hid_sub _ _) hd
  have hat1 : s.heap.DictAt (sK C) d (ks.zip vs) ep := hat.at fun o e => hid_sub _ _ _ _ e
  refine wpAny_For (wpAny_Call_items hds hdS rfl hline (fun Q' h => R.var F' hi ez h) ?_) (fun _ => rfl)
  refine wpAny_pyIter_items (knd := sK C) (d := d) (kvs := ks.zip vs) (ep := ep) ⟨_, Heap.get?_push_size _ rfl, rfl, rfl⟩ (hat1.push _) ?_
  generalize hs2 : ({ s with heap := (s.heap.push { cls := .type "dict_items", data := .fields #[.ref d] }).push { cls := .type "dict_itemiterator", data := .fields #[.none, .bool false, .ref d, .int 0 0, .int (ks.zip vs).length 0, .int ep 0, .none, .none] } } : Shared) = s2
  generalize hI : (s.heap.push { cls := .type "dict_items", data := .fields #[.ref d] }).objs.size = I
  have g2 : Grow s s2 := by subst hs2; exact (Grow.push (s := s) _).trans (Grow.push (s := { s with heap := s.heap.push { cls := .type "dict_items", data := .fields #[.ref d] } }) _)
  have nI : s.heap.get? I = none := by
    cases e : s.heap.get? I with
    | none => rfl
    | some o =>
      have h1 := Heap.lt_size e
      rw [← hI, Heap.size_push] at h1
      exact absurd h1 (Nat.not_lt_of_le (Nat.le_succ _))
  have eI : IsItemIter s2.heap I d 0 (ks.zip vs).length ep .none .none := by subst hs2; subst hI; exact Heap.get?_push_size _ rfl
  show codeAny (model C.prog C.w) A (.forLoop (.Tuple tg kk tp) (.ref I) body [] fi.env) _ s2
  have hInew := fun x => (show ¬ hb I x from fun z => by rw [R.base I x z] at nI; cases nI)
  have hIMo : I ∉ Mo := fun z => by obtain ⟨o, e⟩ := R.has I (R.mO I z); rw [nI] at e; cases e
  have hIc : ∀ (i : Nat) x c, fi.vs[i]? = some (x, .cel c) → c ≠ I := fun i x c e z => by obtain ⟨o, e⟩ := R.has c (R.mC i x c e).1; rw [z, nI] at e; cases e
  have ow' : Own fi (I :: Mo) := fun w i x c e z => by
    rcases List.mem_cons.mp z with z | z
    · exact hIc i x c e z
    · exact ow w i x c e z
  have neI : d ≠ I := fun z => by obtain ⟨o, es, e, _⟩ := hat1; rw [z, nI] at e; cases e
  generalize hH : hid s2.heap (I :: M) = H0
  have H0s : Sub (hid s.heap M) H0 := hH ▸ hid_cons g2.keep nI
  have H0Mo : ∀ b ∈ I :: Mo, H0.get? b = Option.none := fun b hb' => hH ▸ hid_none (by
    rcases List.mem_cons.mp hb' with rfl | z
    · exact .head _
    · exact .tail _ (R.mO b z))
  have R2 := (R.around g2 nI eI).firm
  rw [hH] at R2
  have H0I : ∀ x, ¬ (hb I x ∨ H0.get? I = some x) := fun x z => z.elim (hInew x) fun y => by rw [H0Mo I (.head _)] at y; cases y
  have shuf : ∀ {o : Obj} {M' m' cv' ad' ℓ' s'}, Rel C (fun b x => (hb b x ∨ (b = I ∧ x = o)) ∨ H0.get? b = some x) (I :: Mo) fi M' m' cv' ad' ℓ' s' → Rel C (fun b x => (hb b x ∨ H0.get? b = some x) ∨ (b = I ∧ x = o)) (I :: Mo) fi M' m' cv' ad' ℓ' s' :=
    fun R => R.back (fun b x z => z.elim (fun y => y.elim (fun w => .inl (.inl w)) .inr) fun y => .inl (.inr y)) (fun _ h => h) fun b h => .inl h
  have hlv : ks.length = vs.length := hlen
  have hll : l.length = vs.length := rl.length
  refine codeAny_forLoop_any (fun k s' => ∃ j ℓ' M' m' cv' ad' ok ov o, k = vs.length - j ∧ j ≤ vs.length ∧ Mv s s' ∧ P ((ks.zip l).drop j) ℓ' ∧ IsItemIter s'.heap I d j (ks.zip vs).length ep ok ov ∧ s'.heap.get? I = some o ∧
      Rel C (fun b x => (hb b x ∨ H0.get? b = some x) ∨ (b = I ∧ x = o)) (I :: Mo) fi M' m' cv' ad' ℓ' s')
    (fun k s' hk => ?_) vs.length ⟨0, ℓ, _, m, cv, ad, .none, .none, _, rfl, Nat.zero_le _, g2.mv, h0, eI, eI, shuf R2⟩
  obtain ⟨j, ℓ', M', m', cv', ad', ok, ov, o, rfl, hj, g', hP, hit, hio, R'⟩ := hk
  have sub' : Sub H0 (hid s'.heap M') := R'.kept (fun b x e => .inl (.inr e)) H0Mo
  have hat' : s'.heap.DictAt (sK C) d (ks.zip vs) ep := hat.at fun o e => hid_sub _ _ _ _ (sub' _ _ (H0s _ _ e))
  have kl : (ks.zip vs).length = vs.length := by rw [List.length_zip]; omega
  by_cases hend : j = vs.length
  · subst hend
    refine wpAny_pyNext_items_end ak.handled hit hat' (List.getElem?_eq_none_iff.mpr (by omega)) fun h' hk => wpAny_execs_nil ?_
    have R3 := (R'.drop (tk := s'.toks) H0I hIMo hIc (fun b o nb e => hk b o nb e)).loose
    refine q _ _ _ (fin _ (by rw [List.drop_eq_nil_of_le (by rw [List.length_zip]; omega)] at hP; exact hP)) ⟨g'.trans (.same rfl rfl), _, _, _, _, R3⟩
  · have hlt : j < vs.length := by omega
    have ek : ks[j]? = some ks[j] := List.getElem?_eq_getElem (by omega)
    have ev : vs[j]? = some vs[j] := List.getElem?_eq_getElem hlt
    have el : l[j]? = some l[j] := List.getElem?_eq_getElem (by omega)
    have ekv : (ks.zip vs)[j]? = some (ks[j], vs[j]) := by rw [List.getElem?_zip_eq_some]; exact ⟨ek, ev⟩
    have ekl : (ks.zip l)[j]? = some (ks[j], l[j]) := by rw [List.getElem?_zip_eq_some]; exact ⟨ek, el⟩
    have hdrop : (ks.zip l).drop j = (ks[j], l[j]) :: (ks.zip l).drop (j + 1) := by
      have h1 : j < (ks.zip l).length := by rw [List.length_zip]; omega
      rw [List.getElem?_eq_getElem h1] at ekl
      rw [List.drop_eq_getElem_cons h1, Option.some.inj ekl]
    rw [hdrop] at hP
    refine wpAny_pyNext_items_item hit hat' ekv fun key h1 hkey hout hT hsz hk1 => ?_
    obtain ⟨t, rfl⟩ := Value.isStrOf_shape hkey
    have R3 := R'.renew (tk := s'.toks) H0I hIc hk1 hout
    refine wpAny_letOwnedTupleGo_items hout fun h2 hit2 hs2' => ?_
    have R4 := R3.renew (tk := s'.toks) (h' := h2) H0I hIc (fun b o nb e => (hs2'.2 b nb).trans e) hit2
    obtain ⟨ℓ4, ht, hw⟩ := step _ _ _ ℓ' hP
    have nT : s'.heap.get? s'.heap.objs.size = none := get_new
    have TI : s'.heap.objs.size ≠ I := fun z => by rw [z, hio] at nT; cases nT
    have hT2 : h2.get? s'.heap.objs.size = some { cls := .type "tuple", data := .seq #[.str ks[j] t, vs[j]] } := (hs2'.2 _ TI).trans hT
    have hTM : s'.heap.objs.size ∉ M' := fun z => by obtain ⟨o, e⟩ := R'.has _ z; rw [nT] at e; cases e
    have sub4 : Sub H0 (hid h2 M') := R4.kept (fun b x e => .inl (.inr e)) H0Mo
    obtain ⟨va, eva, ra⟩ := rl.get el
    rw [ev] at eva
    cases eva
    have rT : Rep C (hid h2 M') (.tup [.str ks[j], l[j]]) (.ref s'.heap.objs.size) := .tup ⟨0, hid_get hT2 hTM⟩ (.cons (.str _ _) (.cons (ra.mono (H0s.trans sub4)) .nil))
    refine ht A _ (I :: Mo) M' m' cv' ad' _ _ ak ow' R4 rT _ _ fun s5 g5 hh5 => ?_
    obtain ⟨M5, m5, cv5, ad5, R5⟩ := hh5
    refine hw A _ (I :: Mo) M5 m5 cv5 ad5 s5 ak ow' R5 _ _ fun oo f s6 ho af => ?_
    have gg : Mv s { s' with heap := h2 } := g'.trans (.same rfl rfl)
    cases oo with
    | nxt ℓ6 =>
      cases f <;> first | exact af.elim | skip
      obtain ⟨g6, M6, m6, cv6, ad6, R6⟩ := af
      have e6 := R6.base I _ (.inr ⟨rfl, rfl⟩)
      exact ⟨vs.length - (j + 1), by omega, j + 1, ℓ6, M6, m6, cv6, ad6, _, _, _, rfl, hlt, gg.trans (g5.trans g6), ho, e6, e6, R6⟩
    | cnt ℓ6 =>
      cases f <;> first | exact af.elim | skip
      obtain ⟨g6, M6, m6, cv6, ad6, R6⟩ := af
      have e6 := R6.base I _ (.inr ⟨rfl, rfl⟩)
      exact ⟨vs.length - (j + 1), by omega, j + 1, ℓ6, M6, m6, cv6, ad6, _, _, _, rfl, hlt, gg.trans (g5.trans g6), ho, e6, e6, R6⟩
    | brk ℓ6 =>
      cases f <;> first | exact af.elim | skip
      obtain ⟨g6, M6, m6, cv6, ad6, R6⟩ := af
      refine q _ _ _ ho ⟨gg.trans (g5.trans g6), M6, m6, cv6, ad6, R6.back (fun b x z => .inl (.inl z)) (fun b h => .tail _ h) fun b h => ?_⟩
      rcases List.mem_cons.mp h with rfl | z
      · exact .inr hInew
      · exact .inl z
    | ret a =>
      cases f <;> first | exact af.elim | skip
      exact q _ _ _ ho ⟨gg.trans (g5.trans af.1), af.2.back (fun b x z => .inl (.inl z)) fun b h => .tail _ h⟩
end
end
section
variable {C : Cx}
def enumB (hb : Base) (H0 : Heap) (e it : Addr) (h : Heap) : Base := fun b x => (hb b x ∨ H0.get? b = some x) ∨ ((b = e ∨ b = it) ∧ h.get? b = some x)
/-- what stands around, told in other words -/
theorem Rel.back' {hb hb' : Base} {Mo : List Addr} {fi : Fi} {M : List Addr} {m : Str → Option Value} {cv : Nat → Option Value} {ad : Nat → List Addr} {ℓ : List Slot} {s : Shared} (R : Rel C hb' Mo fi M m cv ad ℓ s) (h1 : ∀ b x, hb b x → s.heap.get? b = some x) (h2 : ∀ b ∈ M, b ∉ Mo → ∀ x, ¬ hb b x) : Rel C hb Mo fi M m cv ad ℓ s :=
  { R with
    base := h1
    new := fun b hm => by
      by_cases q : b ∈ Mo
      · exact .inl q
      · exact .inr (h2 b hm q) }
section
variable {n : Nat} {fi : Fi} {ℓ : List Slot} {pos : Pos} {F : Out → Prop}
/-- for k, v in enumerate(l) -/
theorem S1.forEnum (F' : fi.Ok) (hown : fi.own = true) {tg : List Expr} {kk : Nat} {tp p0 cpos : Pos} {body : List Stmt} {es : Expr} {l : List AV} (g1 : C.glb "enumerate" (.type "enumerate")) (hes : EJ C n fi ℓ es (.lst l)) (P : Nat → List AV → List Slot → Prop) (h0 : P 0 l ℓ)
    (step : ∀ j a rest ℓ, P j (a :: rest) ℓ → ∃ ℓ', TJ C n fi (.Tuple tg kk tp) (.tup [.int (j : Int), a]) ℓ ℓ' ∧ SW C n fi body ℓ' (loopOut (P (j + 1) rest) F)) (fin : ∀ j ℓ, P j [] ℓ → F (.nxt ℓ))
    (hx : fi.env.kindOf "enumerate" = some .globalImplicit) (hq : ∀ env, starEach [es] env = [(false, eval es env)]) : S1 C n fi (.For (.Tuple tg kk tp) (.Call (.Name "enumerate" p0) [es] [] cpos) body [] pos) ℓ F := fun A hb Mo M m cv ad s ak ow R Q E q => by
  refine wpAny_For (Call_ (glb_at F' R g1 hx (by decide) ?_)) (fun _ => rfl)
  rw [hq]
  refine PyProof.Rows.callWith_type rfl (Calls.evalArgs_plain (Calls.spliced_cons (hes A hb Mo M m cv ad s ak R _ _ fun v s1 g1 rv => Calls.spliced_nil ?_)))
  obtain ⟨d, vs, rfl, la, rl⟩ := rv.lst_
  have R1 := R.grow g1
  have hL1 := (la.mono (hid_sub _ _)).isList
  refine call_enumerate_list hL1 fun h2 he hit hsz hk => ?_
  generalize hE : s1.heap.objs.size + 1 = e at he
  generalize hI : s1.heap.objs.size = it at he hit
  refine wpAny_pyIter_enum he ?_
  generalize hs2 : ({ s1 with heap := h2 } : Shared) = s2
  have eh : h2 = s2.heap := by rw [← hs2]
  rw [eh] at he hit hk
  have nit : s1.heap.get? it = none := hI ▸ get_new
  have nE : s1.heap.get? e = none := by
    cases q : s1.heap.get? e with
    | none => rfl
    | some o =>
      have h1 := Heap.lt_size q
      rw [← hE] at h1
      exact absurd h1 (Nat.not_lt_of_le (Nat.le_succ _))
  have hei : e ≠ it := fun z => by rw [← hE, ← hI] at z; exact Nat.succ_ne_self _ z
  have mv2 : Mv s s2 := g1.mv.trans (by subst hs2; exact .same rfl rfl)
  generalize hH : hid s2.heap (e :: it :: M) = H0
  have frM : ∀ b, b ∈ M → b ≠ e ∧ b ≠ it := fun b h => by
    obtain ⟨o, q⟩ := R1.has b h
    exact ⟨fun z => by (rw [z, nE] at q; cases q), fun z => by (rw [z, nit] at q; cases q)⟩
  have frB : ∀ b x, hb b x → b ≠ e ∧ b ≠ it := fun b x h => by
    have q := R1.base b x h
    exact ⟨fun z => by (rw [z, nE] at q; cases q), fun z => by (rw [z, nit] at q; cases q)⟩
  have H0Mo : ∀ b ∈ e :: it :: Mo, H0.get? b = Option.none := fun b hb' => hH ▸ hid_none (by
    rcases List.mem_cons.mp hb' with rfl | z
    · exact .head _
    rcases List.mem_cons.mp z with rfl | z
    · exact .tail _ (.head _)
    · exact .tail _ (.tail _ (R.mO b z)))
  have H0s : Sub (hid s1.heap M) H0 := hH ▸ fun b x q => hid_get (hk _ _ (hid_sub _ _ _ _ q)) fun z => by
    rcases List.mem_cons.mp z with rfl | z
    · have := hid_sub _ _ _ _ q; rw [nE] at this; cases this
    rcases List.mem_cons.mp z with rfl | z
    · have := hid_sub _ _ _ _ q; rw [nit] at this; cases this
    · exact hid_not q z
  have hcel : ∀ (i : Nat) x c, fi.vs[i]? = some (x, .cel c) → c ∉ e :: it :: Mo := fun i x c q z => by
    have hm := (R.mC i x c q).1
    rcases List.mem_cons.mp z with z | z
    · exact (frM c hm).1 z
    rcases List.mem_cons.mp z with z | z
    · exact (frM c hm).2 z
    · exact ow hown i x c q z
  have ow' : Own fi (e :: it :: Mo) := fun w i x c q z => hcel i x c q z
  obtain ⟨oi, hoi, _⟩ := id hit
  have R2 : Rel C (enumB hb H0 e it s2.heap) (e :: it :: Mo) fi _ m cv ad ℓ s2 := R1.shift (fun b x _ q => hk b x q) (fun b hb' => by
      rcases List.mem_cons.mp hb' with rfl | z
      · exact .inr nE
      rcases List.mem_cons.mp z with rfl | z
      · exact .inr nit
      · exact .inl z) (fun b hb' => by
      rcases List.mem_cons.mp hb' with rfl | z
      · exact ⟨_, he⟩
      rcases List.mem_cons.mp z with rfl | z
      · exact ⟨_, hoi⟩
      · obtain ⟨o, q⟩ := R1.has b (R1.mO b z); exact ⟨o, hk _ _ q⟩) (fun b x h => by
      rcases h with (h | h) | h
      · exact hk _ _ (R1.base b x h)
      · rw [← hH] at h; exact hid_sub _ _ _ _ h
      · exact h.2) (fun b hm hn x h => by
      rcases h with (h | h) | h
      · exact ((R1.new b hm).resolve_left hn) x h
      · rw [← hH] at h; exact hid_not h (.tail _ (.tail _ hm))
      · rcases h.1 with z | z
        · exact (frM b hm).1 z
        · exact (frM b hm).2 z) (fun i x c q => ow hown i x c q)
  have notB : ∀ b, b = e ∨ b = it → ∀ x, ¬ (hb b x ∨ H0.get? b = some x) := fun b hb' x h => by
    rcases hb' with rfl | rfl
    · rcases h with h | h
      · exact (frB _ _ h).1 rfl
      · rw [H0Mo _ (.head _)] at h; cases h
    · rcases h with h | h
      · exact (frB _ _ h).2 rfl
      · rw [H0Mo _ (.tail _ (.head _))] at h; cases h
  -- a change of the two iterators alone
  have turn : ∀ {s' : Shared} {M' m' cv' ad' ℓ'} {h' : Heap} {tk : Nat}, Rel C (enumB hb H0 e it s'.heap) (e :: it :: Mo) fi M' m' cv' ad' ℓ' s' → (∀ b o, b ≠ e → b ≠ it → s'.heap.get? b = some o → h'.get? b = some o) → (∃ o, h'.get? e = some o) → (∃ o, h'.get? it = some o) →
      Rel C (enumB hb H0 e it h') (e :: it :: Mo) fi ((e :: it :: Mo) ++ M'.filter (fun b => decide (b ∉ e :: it :: Mo))) m' cv' ad' ℓ' { s' with heap := h', toks := tk } := fun {s' M' m' cv' ad' ℓ' h' tk} R' k e1 e2 => by
    have k' : ∀ b o, b ∉ e :: it :: Mo → s'.heap.get? b = some o → h'.get? b = some o := fun b o nb q => k b o (fun z => nb (z ▸ .head _)) (fun z => nb (z ▸ .tail _ (.head _))) q
    refine R'.shift (s' := { s' with heap := h', toks := tk }) (fun b x nb q => k' b x nb q) (fun b h => .inl h) (fun b hb' => ?_) (fun b x h => ?_) (fun b hm hn x h => ?_) (fun i x c q => hcel i x c q)
    · by_cases z1 : b = e
      · subst z1; exact e1
      by_cases z2 : b = it
      · subst z2; exact e2
      · obtain ⟨o, q⟩ := R'.has b (R'.mO b hb'); exact ⟨o, k b o z1 z2 q⟩
    · rcases h with h | h
      · by_cases z1 : b = e
        · exact absurd h (notB b (.inl z1) x)
        by_cases z2 : b = it
        · exact absurd h (notB b (.inr z2) x)
        · exact k b x z1 z2 (R'.base b x (.inl h))
      · exact h.2
    · rcases h with h | h
      · exact ((R'.new b hm).resolve_left hn) x (.inl h)
      · rcases h.1 with z | z
        · exact hn (z ▸ .head _)
        · exact hn (z ▸ .tail _ (.head _))
  have leave : ∀ {s' : Shared} {M' m' cv' ad' ℓ'}, Rel C (enumB hb H0 e it s'.heap) (e :: it :: Mo) fi M' m' cv' ad' ℓ' s' → Rel C hb Mo fi M' m' cv' ad' ℓ' s' := fun R' => R'.back (fun b x z => .inl (.inl z)) (fun b h => .tail _ (.tail _ h)) fun b h => by
    rcases List.mem_cons.mp h with rfl | z
    · exact .inr fun x q => (frB _ _ q).1 rfl
    rcases List.mem_cons.mp z with rfl | z
    · exact .inr fun x q => (frB _ _ q).2 rfl
    · exact .inl z
  have hll : l.length = vs.length := rl.length
  refine codeAny_forLoop_any (fun k s' => ∃ j ℓ' M' m' cv' ad' old, k = vs.length - j ∧ j ≤ vs.length ∧ Mv s s' ∧ P j (l.drop j) ℓ' ∧ IsEnum s'.heap e it ((j : Nat) : Int) old ∧ s'.heap.IsListIter it d j ∧
      Rel C (enumB hb H0 e it s'.heap) (e :: it :: Mo) fi M' m' cv' ad' ℓ' s')
    (fun k s' hk => ?_) vs.length ⟨0, ℓ, _, m, cv, ad, .none, rfl, Nat.zero_le _, mv2, h0, he, hit, R2⟩
  obtain ⟨j, ℓ', M', m', cv', ad', old, rfl, hj, g', hP, he', hit', R'⟩ := hk
  have sub' : Sub H0 (hid s'.heap M') := R'.kept (fun b x e => .inl (.inr e)) H0Mo
  have hl' : s'.heap.IsList d vs.toArray := ((la.mono H0s).mono (sub'.trans (hid_sub _ _))).isList
  by_cases hend : j = vs.length
  · subst hend
    refine wpAny_pyNext_enum_end ak.handled he' hit' hl' (by simp) fun h' hk => wpAny_execs_nil ?_
    obtain ⟨oi', hoi', _⟩ := id hit'
    have hx := hk
    have R3 := R'.back (hb' := enumB hb H0 e it s'.heap) (Mo' := e :: it :: Mo) (hb := hb) (Mo := Mo) (fun b x z => .inl (.inl z)) (fun b h => .tail _ (.tail _ h)) (fun b h => by
      rcases List.mem_cons.mp h with rfl | z
      · exact .inr fun x q => (frB _ _ q).1 rfl
      rcases List.mem_cons.mp z with rfl | z
      · exact .inr fun x q => (frB _ _ q).2 rfl
      · exact .inl z)
    have itMo : it ∉ Mo := fun z => (frM it (R.mO it z)).2 rfl
    by_cases hpr : ∃ o, h'.get? it = some o
    · have R4 := turn (tk := s'.toks) (h' := h') R' (fun b o n1 n2 q => hk b o n2 q) ⟨_, hk _ _ hei he'⟩ hpr
      exact q _ _ _ (fin _ _ (by rw [List.drop_eq_nil_of_le (by omega)] at hP; exact hP)) ⟨g'.trans (.same rfl rfl), _, _, _, _, leave (s' := { s' with heap := h' }) R4⟩
    · have R4 : Rel C hb Mo fi (Mo ++ M'.filter (fun b => decide (b ∉ e :: it :: Mo))) m' cv' ad' ℓ' { s' with heap := h' } := R'.shift (s' := { s' with heap := h' }) (fun b x nb q => hk b x (fun z => nb (z ▸ .tail _ (.head _))) q) (fun b h => .inl (.tail _ (.tail _ h))) (fun b hb' => by
          obtain ⟨o, q⟩ := R'.has b (R'.mO b (.tail _ (.tail _ hb')))
          exact ⟨o, hk b o (fun z => itMo (z ▸ hb')) q⟩) (fun b x h => hk b x (frB b x h).2 (R'.base b x (.inl (.inl h)))) (fun b hm hn x h => ((R'.new b hm).resolve_left hn) x (.inl (.inl h))) (fun i x c q => hcel i x c q)
      exact q _ _ _ (fin _ _ (by rw [List.drop_eq_nil_of_le (by omega)] at hP; exact hP)) ⟨g'.trans (.same rfl rfl), _, _, _, _, R4⟩
  · have hlt : j < vs.length := by omega
    have ev : vs[j]? = some vs[j] := List.getElem?_eq_getElem hlt
    have el : l[j]? = some l[j] := List.getElem?_eq_getElem (by omega)
    rw [List.drop_eq_getElem_cons (by omega)] at hP
    refine wpAny_pyNext_enum_item he' hit' hl' (x := vs[j]) (by simpa using ev) hei fun h1 hout hit1 hT hsz1 hk1 => ?_
    obtain ⟨oi1, hoi1, _⟩ := id hit1
    have R3 := turn (tk := s'.toks + 1) (h' := h1) R' hk1 ⟨_, hout⟩ ⟨_, hoi1⟩
    refine wpAny_letOwnedTupleGo_enum hout fun h2' he2 hs2' => ?_
    have R4 := turn (s' := { s' with heap := h1, toks := s'.toks + 1 }) (tk := s'.toks + 1) (h' := h2') R3 (fun b o n1 _ q => (hs2'.2 b n1).trans q) ⟨_, he2⟩ ⟨_, (hs2'.2 it hei.symm).trans hoi1⟩
    have hit2 : h2'.IsListIter it d (j + 1) := hit1.at fun o q => (hs2'.2 it hei.symm).trans q
    obtain ⟨ℓ4, ht, hw⟩ := step _ _ _ ℓ' hP
    have nT : s'.heap.get? s'.heap.objs.size = none := get_new
    have Te : s'.heap.objs.size ≠ e := fun z => by rw [z, he'] at nT; cases nT
    have hT2 : h2'.get? s'.heap.objs.size = some { cls := .type "tuple", data := .seq #[.int j s'.toks, vs[j]] } := (hs2'.2 _ Te).trans hT
    have TMo : s'.heap.objs.size ∉ e :: it :: Mo := fun z => by obtain ⟨o, q⟩ := R'.has _ (R'.mO _ z); rw [nT] at q; cases q
    generalize hM4 : (e :: it :: Mo) ++ ((e :: it :: Mo) ++ M'.filter (fun b => decide (b ∉ e :: it :: Mo))).filter (fun b => decide (b ∉ e :: it :: Mo)) = M4 at R4
    have hTM : s'.heap.objs.size ∉ M4 := fun z => by
      rw [← hM4] at z
      rcases List.mem_append.mp z with z | z
      · exact TMo z
      · have z := (List.mem_filter.mp z).1
        rcases List.mem_append.mp z with z | z
        · exact TMo z
        · obtain ⟨o, q⟩ := R'.has _ (List.mem_filter.mp z).1; rw [nT] at q; cases q
    have sub4 : Sub H0 (hid h2' M4) := R4.kept (fun b x e => .inl (.inr e)) H0Mo
    obtain ⟨va, eva, ra⟩ := rl.get el
    rw [ev] at eva
    cases eva
    have rT : Rep C (hid h2' M4) (.tup [.int (j : Int), l[j]]) (.ref s'.heap.objs.size) := .tup ⟨0, hid_get hT2 hTM⟩ (.cons (.int _ _) (.cons (ra.mono (H0s.trans sub4)) .nil))
    refine ht A _ (e :: it :: Mo) M4 m' cv' ad' _ _ ak ow' R4 rT _ _ fun s5 g5 hh5 => ?_
    obtain ⟨M5, m5, cv5, ad5, R5⟩ := hh5
    refine hw A _ (e :: it :: Mo) M5 m5 cv5 ad5 s5 ak ow' R5 _ _ fun oo f s6 ho af => ?_
    have gg : Mv s { s' with heap := h2', toks := s'.toks + 1 } := g'.trans (.same rfl rfl)
    have back6 : ∀ {s6 : Shared} {M6 m6 cv6 ad6 ℓ6}, Rel C (enumB hb H0 e it h2') (e :: it :: Mo) fi M6 m6 cv6 ad6 ℓ6 s6 → IsEnum s6.heap e it ((j + 1 : Nat) : Int) vs[j] ∧ s6.heap.IsListIter it d (j + 1) ∧ Rel C (enumB hb H0 e it s6.heap) (e :: it :: Mo) fi M6 m6 cv6 ad6 ℓ6 s6 := fun {s6 M6 m6 cv6 ad6 ℓ6} R6 => by
      have a1 : IsEnum s6.heap e it ((j : Int) + 1) vs[j] := R6.base e _ (.inr ⟨.inl rfl, he2⟩)
      refine ⟨by rw [Int.natCast_add]; exact a1, hit2.at fun o q => R6.base it o (.inr ⟨.inr rfl, q⟩), R6.back' ?_ ?_⟩
      · intro b x h
        rcases h with h | h
        · exact R6.base b x (.inl h)
        · exact h.2
      · intro b hm hn x h
        rcases h with h | h
        · exact ((R6.new b hm).resolve_left hn) x (.inl h)
        · rcases h.1 with z | z
          · exact hn (z ▸ .head _)
          · exact hn (z ▸ .tail _ (.head _))
    cases oo with
    | nxt ℓ6 =>
      cases f <;> first | exact af.elim | skip
      obtain ⟨g6, M6, m6, cv6, ad6, R6⟩ := af
      obtain ⟨b1, b2, b3⟩ := back6 R6
      exact ⟨vs.length - (j + 1), by omega, j + 1, ℓ6, M6, m6, cv6, ad6, _, rfl, hlt, gg.trans (g5.trans g6), ho, b1, b2, b3⟩
    | cnt ℓ6 =>
      cases f <;> first | exact af.elim | skip
      obtain ⟨g6, M6, m6, cv6, ad6, R6⟩ := af
      obtain ⟨b1, b2, b3⟩ := back6 R6
      exact ⟨vs.length - (j + 1), by omega, j + 1, ℓ6, M6, m6, cv6, ad6, _, rfl, hlt, gg.trans (g5.trans g6), ho, b1, b2, b3⟩
    | brk ℓ6 =>
      cases f <;> first | exact af.elim | skip
      obtain ⟨g6, M6, m6, cv6, ad6, R6⟩ := af
      exact q _ _ _ ho ⟨gg.trans (g5.trans g6), M6, m6, cv6, ad6, leave (back6 R6).2.2⟩
    | ret a =>
      cases f <;> first | exact af.elim | skip
      exact q _ _ _ ho ⟨gg.trans (g5.trans af.1), af.2.back (fun b x z => .inl (.inl z)) fun b h => .tail _ (.tail _ h)⟩
end
end
section
section
variable {prog : Program} {w : World} {A : Around} {E : Value → Shared → Prop} {s : Shared} {K : Frag} {c a : Addr} {o : Obj}
theorem sub_tup_cls : subIn K (.type "tuple") (.ref c) = some false := by
  show Option.map (fun x => x.contains (Value.ref c)) (fastBuiltinMro "tuple") = _
  have : fastBuiltinMro "tuple" = some [.type "tuple", .type "object"] := by decide +kernel
  rw [this]; rfl
theorem isi_tup_nested {dep : Int} {tk : Tok} {Q : Fin → Shared → Prop} (X : K.In s.heap) (hx : s.heap.get? a = some o) (hc : o.cls = .type "tuple") (e0 : (clsIn K c).isSome = true) (e1 : typeIn K (.ref c) = some (.type "type")) (h : ∀ k, Q (.done (.ret (.bool false))) { s with toks := k }) :
    wpAny (model prog w) A (Builtin.«isinstance.nested» ⟨[.ref a, .ref c, .int dep tk], []⟩) Q E s := by
  obtain ⟨hh, g, d, tt, os⟩ := s
  have ht : Looks (model prog w) hh (typeOf (.ref a)) (.type "tuple") := hc ▸ (Looks.ld hx).andThen .now
  have L1 := looks_typeIn (M := model prog w) X e1
  have L2 := looks_subIn (M := model prog w) X (sub_tup_cls (K := K) (c := c))
  have L3 : Looks (model prog w) hh (isInstance (.ref a) (.ref c)) false := ht.andThen L2
  unfold Builtin.«isinstance.nested»
  refine wpAny_bind (ht.at ?_)
  rw [if_neg (show ¬ ((Value.type "tuple" == Value.ref c) = true) from Bool.false_ne_true)]
  refine wpAny_bind (L1.at ?_)
  rw [if_pos (by decide)]
  k_delta "plainIsInstance"
  unfold isType
  repeat lk
  obtain ⟨cd, hcd⟩ := Option.isSome_iff_exists.mp e0
  unfold clsIn at hcd
  split at hcd
  · rename_i ho
    refine nd_load (X _ _ ho) (nd_pure (wpAny_pure ?_))
    simp only [Bool.not_true, Bool.false_eq_true, if_false]
    refine wpAny_bind (L3.at ?_)
    simp only [Bool.false_eq_true, if_false]
    refine wpAny_bind (class_attr_tuple hx hc ?_)
    refine wpAny_bind (wpAny_pure ?_)
    simp only [Bool.not_true, Bool.false_eq_true, if_false]
    refine wpAny_bind (wpAny_rule ?_)
    refine L2.at ?_
    exact wpAny_pure (h _)
  · cases hcd
theorem isi_tup {Q : Value → Shared → Prop} (X : K.In s.heap) (hx : s.heap.get? a = some o) (hc : o.cls = .type "tuple") (e0 : (clsIn K c).isSome = true) (e1 : typeIn K (.ref c) = some (.type "type")) (h : ∀ k, Q (.bool false) { s with toks := k }) :
    wpAny (model prog w) A (call (.builtin "isinstance") [.ref a, .ref c]) Q E s :=
  call_isinstance (S := fun _ R s => (K.In s.heap ∧ s.heap.get? a = some o) ∧ ∀ k, R (.ok (.ret (.bool false))) { s with toks := k }) (fun _ _ _ _ _ hs => isinstance_outer (isi_tup_nested hs.1.1 hs.1.2 hc e0 e1 hs.2) (fun z => nomatch z)) ⟨⟨X, hx⟩, h⟩
end
/-- isinstance(e, C) of a tuple and a class of the text -/
theorem BJ.isinstC {C : Cx} {n : Nat} {fi : Fi} {ℓ : List Slot} {pos p1 p2 : Pos} {K : Frag} (hK : K.In C.h₀) (F : fi.Ok) (g1 : C.glb "isinstance" (.builtin "isinstance")) {e : Expr} {l : List AV} {c : Addr} {y : Str} (he : EJ C n fi ℓ e (.tup l)) (g2 : C.glb y (.ref c))
    (e0 : (clsIn K c).isSome = true) (e1 : typeIn K (.ref c) = some (.type "type")) (hx : fi.env.kindOf "isinstance" = some .globalImplicit) (hy : fi.env.kindOf y = some .globalImplicit)
    (hyd : (y == ("__debug__" : Str)) = false) (hq : ∀ env, starEach [e, .Name y p2] env = [(false, eval e env), (false, eval (.Name y p2) env)]) : BJ C n fi ℓ (.Call (.Name "isinstance" p1) [e, .Name y p2] [] pos) false := fun A hb Mo M m cv ad s ak R Q E q => by
  refine isTrue_plain ?_ rfl
  refine Call_ (glb_at F R g1 hx (by decide) ?_)
  rw [hq]
  refine Calls.callWith_builtin rfl (Calls.evalArgs_plain (Calls.spliced_cons (he A hb Mo M m cv ad s ak R _ _ fun v s' g rv => Calls.spliced_cons (glb_at F (R.grow g) g2 hy hyd (Calls.spliced_nil ?_)))))
  obtain ⟨a, vs, rfl, ⟨k, et⟩, _⟩ := rv.tup_
  exact isi_tup (Frag.In.keeps hK (R.grow g).base0) (hid_sub _ _ _ _ et) rfl e0 e1 fun k => wpAny_truthy_bool (q _ _ (g.trans (.toks _)) rfl)
end
section
variable {C : Cx}
theorem value_some {K : Type} [DecidableEq K] {k : K} : ∀ {ks : List K} {ws : List Value}, ks.length = ws.length → (valueAt (ks.zip ws) k).isSome = decide (k ∈ ks)
  | [], _, _ => by simp [valueAt]
  | x :: ks, [], h => by simp at h
  | x :: ks, w :: ws, h => by
    have ih := value_some (k := k) (Nat.succ.inj h)
    unfold valueAt at ih ⊢
    rw [List.zip_cons_cons, List.find?_cons]
    by_cases e : x = k
    · simp [e]
    · have e' : ¬ k = x := fun z => e z.symm
      simp only [e, decide_false, List.mem_cons, e', false_or]
      exact ih
section
variable {n : Nat} {fi : Fi} {ℓ : List Slot} {pos p p1 p2 : Pos} {F : Out → Prop} {i : Nat} {x : Str} {lo : Loc}
theorem S1.assertT {test : Expr} {msg : Option Expr} (hc : BJ C n fi ℓ test true) (h : F (.nxt ℓ)) : S1 C n fi (.Assert test msg pos) ℓ F := fun A hb Mo M m cv ad s ak ow R Q E q =>
  wpAny_Assert_holds (hc A hb Mo M m cv ad s ak R _ _ fun v s' g e => ⟨e, q _ _ _ h ⟨g.mv, _, _, _, _, R.grow g⟩⟩)
/-- k in d, a text and a dict -/
theorem BJ.inS {l r : Expr} {k : Str} {ks : List Str} {vs : List AV} (hl : EJ C n fi ℓ l (.str k)) (hr : EJ C n fi ℓ r (.dS ks vs)) (hm : behindInMarks .In r = false := by with_unfolding_all rfl) : BJ C n fi ℓ (.Compare l [.In] [r] pos) (decide (k ∈ ks)) :=
  fun A hb Mo M m cv ad s ak R Q E q => wpAny_isTrue_Compare1 (hl A hb Mo M m cv ad s ak R _ _ fun v s' g rx => hr A hb Mo M m cv ad s' ak (R.grow g) _ _ fun v' s'' g' ry => by
    obtain ⟨t, rfl⟩ := rx.str_
    obtain ⟨d, ws, rfl, hd, hlen, hD, rl⟩ := ry.dS_
    refine wpAny_in_of (knd := sK C) (k := k) (strKind_is _ _ _ _) hd (dictOf_mono (hid_sub _ _) hD).mapOf (wpAny_truthy_bool ?_)
    exact q _ _ ((g.trans g').trans (.toks _)) (value_some hlen)) hm
/-- x.get(k) of an owned dict that has no k -/
theorem EJ.getO (F' : fi.Ok) {ek : Expr} {k : Str} {ks : List Str} {l : List AV} (hi : fi.vs[i]? = some (x, lo)) (hv : ℓ[i]? = some (.oS ks l)) (hk : EJ C n fi ℓ ek (.str k)) (hn : k ∉ ks) (hline : (p2.endLine == pos.line) = true)
    (hbase : ∀ env, attributeBase (.Name x p1) "get" env (eval (.Name x p1) env) = eval (.Name x p1) env)
    (hfew : ∀ env, ((backTo pos (starEach [ek] env)).all (fun x => !x.1) && (backToKw pos (keywordEach [] env)).all (fun x => x.1.isSome)
      && decide ([ek].length + ([] : List Keyword).length + (if ([] : List Keyword).isEmpty then 0 else 1) < 30)) = true)
    (hq : ∀ env, backTo pos (starEach [ek] env) = [(false, eval ek env)]) : EJ C n fi ℓ (.Call (.Attribute (.Name x p1) "get" p2) [ek] [] pos) .none := fun A hb Mo M m cv ad s ak R Q E q => by
  have z := R.slot i _ hv
  generalize ez : cv i = w at z
  generalize ed : ad i = ds at z
  cases z with
  | @oS _ _ b vs y0 y1 d r =>
  refine wpAny_Call_method_lateS (hbase _) (hfew _) hline (R.var F' hi ez ?_)
  refine ⟨"dict", "dict.get", PySem.F.plainAttrs_dict, PySem.F.slot_dict_get, PySem.F.type_dict_get, d.typeIs, d.mapOf.noDict, ?_⟩
  rw [hq]
  refine wpAny_dict_get1 (knd := sK C) y0 (hk A hb Mo M m cv ad s ak R _ _ fun kv s1 g1 rk => ?_)
  obtain ⟨t, rfl⟩ := rk.str_
  have z2 := (R.grow g1).slot i _ hv
  rw [ez, ed] at z2
  cases z2 with
  | @oS _ _ _ vs2 y02 y12 d2 r2 =>
  refine ⟨k, _, strKind_is _ _ _ _, d2.mapOf, ?_⟩
  have e : valueAt (ks.zip vs2) k = Option.none := by
    have := value_some (k := k) y12
    rw [decide_eq_false hn] at this
    cases q : valueAt (ks.zip vs2) k with
    | none => rfl
    | some v => rw [q] at this; cases this
  rw [e]
  exact q _ _ (g1.trans (.toks _)) .none
/-- x.get(k, e) of an empty dict -/
theorem EJ.get0 {ed ek e : Expr} {k : Str} {a : AV} (hd : EJ C n fi ℓ ed (.dS [] [])) (hk : EJ C n fi ℓ ek (.str k)) (he : EJ C n fi ℓ e a) (hline : (p2.endLine == pos.line) = true)
    (hbase : ∀ env, attributeBase ed "get" env (eval ed env) = eval ed env)
    (hfew : ∀ env, ((backTo pos (starEach [ek, e] env)).all (fun x => !x.1) && (backToKw pos (keywordEach [] env)).all (fun x => x.1.isSome)
      && decide ([ek, e].length + ([] : List Keyword).length + (if ([] : List Keyword).isEmpty then 0 else 1) < 30)) = true)
    (hq : ∀ env, backTo pos (starEach [ek, e] env) = [(false, eval ek env), (false, eval e env)]) : EJ C n fi ℓ (.Call (.Attribute ed "get" p2) [ek, e] [] pos) a := fun A hb Mo M m cv ad s ak R Q E q => by
  refine wpAny_Call_method_lateS (hbase _) (hfew _) hline (hd A hb Mo M m cv ad s ak R _ _ fun dv s0 g0 rd => ?_)
  obtain ⟨b, ws, rfl, hds, hlen, hD, rl⟩ := rd.dS_
  have hD0 := dictOf_mono (hid_sub _ _) hD
  have R0 := R.grow g0
  refine ⟨"dict", "dict.get", PySem.F.plainAttrs_dict, PySem.F.slot_dict_get, PySem.F.type_dict_get, hD0.typeIs, hD0.mapOf.noDict, ?_⟩
  rw [hq]
  refine wpAny_dict_get2 (knd := sK C) hds (hk A hb Mo M m cv ad s0 ak R0 _ _ fun kv s1 g1 rk => he A hb Mo M m cv ad s1 ak (R0.grow g1) _ _ fun v s2 g2 rv => ?_)
  obtain ⟨t, rfl⟩ := rk.str_
  refine ⟨k, _, strKind_is _ _ _ _, (dictOf_mono (g1.keep.trans g2.keep) hD0).mapOf, ?_⟩
  exact q _ _ (g0.trans (g1.trans (g2.trans (.toks _)))) rv
theorem list_keys {ks : List Str} {l : List AV} (hz : ks.length ≤ sz) : CallJ C n (.type "list") [.dS ks l] (.lst (ks.map .str)) := fun A M s vs ak h0 hM hM0 rl Q E q => by
  obtain ⟨v, rfl, r⟩ := rl.one
  obtain ⟨d, ws, rfl, hds, hlen, hD, rw_⟩ := r.dS_
  obtain ⟨ep, hat⟩ := (dictOf_mono (hid_sub s.heap M) hD).dictAt
  have kl : (ks.zip ws).length = ks.length := by rw [List.length_zip]; omega
  refine kdl_call (kdl_dict (knd := sK C) (kvs := ks.zip ws) (ep := ep) hds) ak.handled hat (by rw [kl]; exact sz_le hz) fun h' tk acc c' hk hD' hacc => ?_
  have g : Grow s { s with heap := h', toks := tk } := .heap (n := tk) hk
  refine q _ _ g (.lst (vs := acc.toList) ⟨c', hid_get (by rw [Array.toArray_toList]; exact hD') fun z => ?_⟩ ?_)
  · obtain ⟨o, e⟩ := hM _ z
    rw [get_new] at e; cases e
  · have hl : acc.toList.length = ks.length := by rw [Array.length_toList, hacc.1, kl]
    have key : ∀ {H : Heap} (ks : List Str) (vs : List Value), vs.length = ks.length → (∀ (i : Nat) (v : Value), vs[i]? = some v → ∃ k : Str, ks[i]? = some k ∧ Value.isStrOf k v = true) → RepL C H (ks.map .str) vs := by
      intro H ks
      induction ks with
      | nil => intro vs h _; rw [List.length_eq_zero_iff.mp h]; exact .nil
      | cons k ks ih =>
        intro vs h hv
        cases vs with
        | nil => cases h
        | cons v vs =>
          obtain ⟨k', e, hk'⟩ := hv 0 v rfl
          cases e
          obtain ⟨t, rfl⟩ := Value.isStrOf_shape hk'
          exact .cons (.str _ _) (ih vs (Nat.succ.inj h) fun i v e => hv (i + 1) v e)
    refine key ks acc.toList hl fun i v e => ?_
    obtain ⟨k, y, e2, hk2⟩ := hacc.2 i v (by rw [← Array.getElem?_toList]; exact e)
    exact ⟨k, (List.getElem?_zip_eq_some.mp e2).1, hk2⟩
theorem int_text {y : Str} {k : Int} (h : PySem.intText? y = some k) (hl : y.length ≤ 640) : CallJ C n (.type "int") [.str y] (.int k) := fun A M s vs ak h0 hM hM0 rl Q E q => by
  obtain ⟨v, rfl, r⟩ := rl.one
  obtain ⟨t, rfl⟩ := r.str_
  exact KIN.call_text h hl (q _ _ (.toks _) (.int _ _))
end
end
section
variable {C : Cx}

/-! ## one thing that is changed, and by more than one name -/
/-- what is known of the thing -/
abbrev Tk := Heap → List Addr → Prop
def TkOk (t : Addr) (T : Tk) : Prop := ∀ h h' M M', T h M → Sub (hid h M) (hid h' M') → (∀ o, h.get? t = some o → h'.get? t = some o) → T h' M'
def AfterX (C : Cx) (hb : Base) (Mo : List Addr) (fi : Fi) (s : Shared) {σ : Type} (T : σ → Tk) : Out → σ → Flow → Shared → Prop
  | .nxt ℓ, b, .next, s' => Mv s s' ∧ ∃ M m cv ad, Rel C hb Mo fi M m cv ad ℓ s' ∧ T b s'.heap M
  | .brk ℓ, b, .brk, s' => Mv s s' ∧ ∃ M m cv ad, Rel C hb Mo fi M m cv ad ℓ s' ∧ T b s'.heap M
  | .cnt ℓ, b, .cont, s' => Mv s s' ∧ ∃ M m cv ad, Rel C hb Mo fi M m cv ad ℓ s' ∧ T b s'.heap M
  | .ret a, b, .ret v, s' => Mv s s' ∧ Gone C hb Mo a v s' ∧ T b s'.heap Mo
  | _, _, _, _ => False
theorem AfterX.from {hb Mo fi s s1 o f s'} {σ : Type} {T : σ → Tk} {b : σ} (g : Mv s s1) (h : AfterX C hb Mo fi s1 T o b f s') : AfterX C hb Mo fi s T o b f s' := by
  cases o <;> cases f <;> first | exact h.elim | exact ⟨g.trans h.1, h.2⟩
def SX (C : Cx) (n : Nat) (fi : Fi) (t : Addr) {σ : Type} (T : σ → Tk) (st : List Stmt) (ℓ : List Slot) (b : σ) (F : Out → σ → Prop) : Prop :=
  ∀ (A : Around) (hb : Base) (Mo M : List Addr) (m : Str → Option Value) (cv : Nat → Option Value) (ad : Nat → List Addr) (s : Shared), AOk n A → Own fi Mo → t ∈ Mo → (∀ x, ¬ hb t x) → Rel C hb Mo fi M m cv ad ℓ s → T b s.heap M →
    ∀ (Q : Flow → Shared → Prop) (E : Value → Shared → Prop), (∀ o b' f s', F o b' → AfterX C hb Mo fi s T o b' f s' → Q f s') → wpAny (model C.prog C.w) A (execs st fi.env) Q E s
def SX1 (C : Cx) (n : Nat) (fi : Fi) (t : Addr) {σ : Type} (T : σ → Tk) (st : Stmt) (ℓ : List Slot) (b : σ) (F : Out → σ → Prop) : Prop :=
  ∀ (A : Around) (hb : Base) (Mo M : List Addr) (m : Str → Option Value) (cv : Nat → Option Value) (ad : Nat → List Addr) (s : Shared), AOk n A → Own fi Mo → t ∈ Mo → (∀ x, ¬ hb t x) → Rel C hb Mo fi M m cv ad ℓ s → T b s.heap M →
    ∀ (Q : Flow → Shared → Prop) (E : Value → Shared → Prop), (∀ o b' f s', F o b' → AfterX C hb Mo fi s T o b' f s' → Q f s') → wpAny (model C.prog C.w) A (exec st fi.env) Q E s
def andThenX (C : Cx) (n : Nat) (fi : Fi) (t : Addr) {σ : Type} (T : σ → Tk) (rest : List Stmt) (F : Out → σ → Prop) : Out → σ → Prop
  | .nxt ℓ, b => SX C n fi t T rest ℓ b F
  | o, b => F o b
section
variable {n : Nat} {fi : Fi} {ℓ : List Slot} {pos : Pos} {t : Addr} {σ : Type} {T : σ → Tk} {b : σ} {F : Out → σ → Prop}
theorem SX.nil (h : F (.nxt ℓ) b) : SX C n fi t T [] ℓ b F := fun A hb Mo M m cv ad s ak ow ht hn R hT Q E q => wpAny_execs_nil (q _ _ _ _ h ⟨.refl _, _, _, _, _, R, hT⟩)
theorem SX.cons {st : Stmt} {rest : List Stmt} (h : SX1 C n fi t T st ℓ b (andThenX C n fi t T rest F)) : SX C n fi t T (st :: rest) ℓ b F := fun A hb Mo M m cv ad s ak ow ht hn R hT Q E q =>
  wpAny_execs_cons (h A hb Mo M m cv ad s ak ow ht hn R hT _ _ fun o b' f s' ho af => by
    cases o with
    | nxt ℓ' =>
      cases f with
      | next =>
        obtain ⟨g, M', m', cv', ad', R', hT'⟩ := af
        exact ho A hb Mo M' m' cv' ad' s' ak ow ht hn R' hT' Q E fun o b f s'' ho' af' => q o b f s'' ho' (af'.from g)
      | brk => exact af.elim
      | cont => exact af.elim
      | ret v => exact af.elim
    | brk ℓ' => cases f <;> first | exact af.elim | exact q _ _ _ _ ho af
    | cnt ℓ' => cases f <;> first | exact af.elim | exact q _ _ _ _ ho af
    | ret a => cases f <;> first | exact af.elim | exact q _ _ _ _ ho af)
theorem SX.mono {st : List Stmt} {G : Out → σ → Prop} (h : SX C n fi t T st ℓ b F) (k : ∀ o b, F o b → G o b) : SX C n fi t T st ℓ b G := fun A hb Mo M m cv ad s ak ow ht hn R hT Q E q => h A hb Mo M m cv ad s ak ow ht hn R hT Q E fun o b f s' ho af => q o b f s' (k o b ho) af
/-- all that stands, and the thing -/
def hbT (hb : Base) (s : Shared) (M : List Addr) (t : Addr) : Base := fun b x => hb b x ∨ (hid s.heap M).get? b = some x ∨ (b = t ∧ s.heap.get? b = some x)
variable {hb : Base} {Mo M M' : List Addr} {m m' : Str → Option Value} {cv cv' : Nat → Option Value} {ad ad' : Nat → List Addr} {ℓ' : List Slot} {s s' : Shared}
theorem Rel.track (R : Rel C hb Mo fi M m cv ad ℓ s) (ht : t ∈ Mo) : Rel C (hbT hb s M t) Mo fi M m cv ad ℓ s :=
  R.back' (fun b x h => h.elim (R.base b x) fun z => z.elim (hid_sub _ _ b x) fun y => y.2) fun b hm hn x h => h.elim (fun z => ((R.new b hm).resolve_left hn) x z) fun z => z.elim (fun y => hid_not y hm) fun y => hn (y.1 ▸ ht)
theorem Rel.untrack (R : Rel C (hbT hb s M t) Mo fi M' m' cv' ad' ℓ' s') (hM : ∀ b ∈ Mo, b ∈ M) : Rel C hb Mo fi M' m' cv' ad' ℓ' s' ∧ Sub (hid s.heap M) (hid s'.heap M') ∧ ∀ o, s.heap.get? t = some o → s'.heap.get? t = some o :=
  ⟨R.back (fun b x e => .inl e) (fun _ h => h) (fun b h => .inl h), R.kept (fun b x e => .inr (.inl e)) (fun b hb => hid_none (hM b hb)), fun o e => R.base t o (.inr (.inr ⟨rfl, e⟩))⟩
theorem SX1.of {st : Stmt} {F' : Out → Prop} (hT : ∀ b, TkOk t (T b)) (h : S1 C n fi st ℓ F') (k : ∀ o, F' o → F o b) : SX1 C n fi t T st ℓ b F := fun A hb Mo M m cv ad s ak ow ht hn R hTb Q E q =>
  h A _ Mo M m cv ad s ak ow (R.track ht) Q E fun o f s' ho af => by
    cases o with
    | nxt ℓ' =>
      cases f <;> first | exact af.elim | skip
      obtain ⟨g, M', m', cv', ad', R'⟩ := af
      obtain ⟨R2, sub, et⟩ := R'.untrack R.mO
      exact q _ _ _ _ (k _ ho) ⟨g, _, _, _, _, R2, hT b _ _ _ _ hTb sub et⟩
    | brk ℓ' =>
      cases f <;> first | exact af.elim | skip
      obtain ⟨g, M', m', cv', ad', R'⟩ := af
      obtain ⟨R2, sub, et⟩ := R'.untrack R.mO
      exact q _ _ _ _ (k _ ho) ⟨g, _, _, _, _, R2, hT b _ _ _ _ hTb sub et⟩
    | cnt ℓ' =>
      cases f <;> first | exact af.elim | skip
      obtain ⟨g, M', m', cv', ad', R'⟩ := af
      obtain ⟨R2, sub, et⟩ := R'.untrack R.mO
      exact q _ _ _ _ (k _ ho) ⟨g, _, _, _, _, R2, hT b _ _ _ _ hTb sub et⟩
    | ret a =>
      cases f <;> first | exact af.elim | skip
      obtain ⟨g, G⟩ := af
      refine q _ _ _ _ (k _ ho) ⟨g, G.back (fun b x e => .inl e) fun _ h => h, hT b _ _ _ _ hTb (fun b x e => hid_get (G.base b x (.inr (.inl e))) fun z => hid_not e (R.mO b z)) fun o e => G.base t o (.inr (.inr ⟨rfl, e⟩))⟩
def loopOutX {σ : Type} (P : List Slot → σ → Prop) (F : Out → σ → Prop) : Out → σ → Prop
  | .nxt ℓ, b => P ℓ b
  | .cnt ℓ, b => P ℓ b
  | .brk ℓ, b => F (.nxt ℓ) b
  | .ret a, b => F (.ret a) b
theorem SX1.for_ (hT : ∀ b, TkOk t (T b)) (F' : fi.Ok) {tg iter : Expr} {body : List Stmt} {a : AV} {l : List AV} (he : EJ C n fi ℓ iter a) (hl : items a = some l) (P : List AV → List Slot → σ → Prop) (h0 : P l ℓ b)
    (step : ∀ x rest ℓ b, P (x :: rest) ℓ b → ∃ ℓ', TJ C n fi tg x ℓ ℓ' ∧ SX C n fi t T body ℓ' b (loopOutX (P rest) F)) (fin : ∀ ℓ b, P [] ℓ b → F (.nxt ℓ) b)
    (hs : ∀ env x, foldedSetIterable iter env x = pure x := by intro _ _; rfl) : SX1 C n fi t T (.For tg iter body [] pos) ℓ b F := fun A hb Mo M m cv ad s ak ow ht hnt R hTb Q E q => by
  refine wpAny_For (he A hb Mo M m cv ad s ak R _ _ fun v s1 g1 rx => iter_ok hl rx fun I s2 g2 hI it => ?_) (hs fi.env)
  have R1 := R.grow g1
  obtain ⟨o0, T0, e0, _, _⟩ := it.tame
  have hInew := fun x => (show ¬ hb I x from fun z => by rw [R1.base I x z] at hI; cases hI)
  have hIMo : I ∉ Mo := fun z => by obtain ⟨o, e⟩ := R1.has I (R1.mO I z); rw [hI] at e; cases e
  have hIt : t ≠ I := fun z => hIMo (z ▸ ht)
  have hIc : ∀ (i : Nat) x c, fi.vs[i]? = some (x, .cel c) → c ≠ I := fun i x c e z => by obtain ⟨o, e⟩ := R1.has c (R1.mC i x c e).1; rw [z, hI] at e; cases e
  have ow' : Own fi (I :: Mo) := fun w i x c e z => by
    rcases List.mem_cons.mp z with z | z
    · exact hIc i x c e z
    · exact ow w i x c e z
  have T2 : T b s2.heap (I :: M) := hT b _ _ _ _ hTb (hid_cons (g1.trans g2).keep (Sub.none g1.keep hI)) fun o e => (g1.trans g2).keep _ _ e
  generalize hH : hid s2.heap (I :: M) = H0 at it
  have H0Mo : ∀ b ∈ I :: Mo, H0.get? b = Option.none := fun b hb' => hH ▸ hid_none (by
    rcases List.mem_cons.mp hb' with rfl | z
    · exact .head _
    · exact .tail _ (R.mO b z))
  have R2 := (R1.around g2 hI e0).firm
  rw [hH] at R2
  have H0I : ∀ x, ¬ (hb I x ∨ H0.get? I = some x) := fun x z => z.elim (hInew x) fun y => by rw [H0Mo I (.head _)] at y; cases y
  have shuf : ∀ {o : Obj} {M' m' cv' ad' ℓ' s'}, Rel C (fun b x => (hb b x ∨ (b = I ∧ x = o)) ∨ H0.get? b = some x) (I :: Mo) fi M' m' cv' ad' ℓ' s' → Rel C (fun b x => (hb b x ∨ H0.get? b = some x) ∨ (b = I ∧ x = o)) (I :: Mo) fi M' m' cv' ad' ℓ' s' :=
    fun R => R.back (fun b x z => z.elim (fun y => y.elim (fun w => .inl (.inl w)) .inr) fun y => .inl (.inr y)) (fun _ h => h) fun b h => .inl h
  have hnt' : ∀ o x, ¬ ((hb t x ∨ H0.get? t = some x) ∨ (t = I ∧ x = o)) := fun o x z => z.elim (fun y => y.elim (hnt x) fun w => by rw [H0Mo t (.tail _ ht)] at w; cases w) fun y => hIt y.1
  refine codeAny_forLoop_any (fun k s' => ∃ rest ℓ' b' M' m' cv' ad' o, k = rest.length ∧ Mv s s' ∧ P rest ℓ' b' ∧ Rel C (fun b x => (hb b x ∨ H0.get? b = some x) ∨ (b = I ∧ x = o)) (I :: Mo) fi M' m' cv' ad' ℓ' s' ∧ It C H0 I rest s'.heap ∧ T b' s'.heap M')
    (fun k s' hk => ?_) l.length ⟨l, ℓ, b, _, m, cv, ad, o0, rfl, g1.mv.trans g2.mv, h0, shuf R2, it, T2⟩
  obtain ⟨rest, ℓ', b', M', m', cv', ad', o, rfl, g', hP, R', it', T'⟩ := hk
  have sub' : Sub H0 (hid s'.heap M') := R'.kept (fun b x e => .inl (.inr e)) H0Mo
  have iM' : I ∈ M' := R'.mO I (.head _)
  cases rest with
  | nil =>
    refine it'.done ak.handled fun h' tk hk => wpAny_execs_nil ?_
    have R3 := (R'.drop (tk := tk) H0I hIMo hIc hk).loose
    refine q _ _ _ _ (fin _ _ hP) ⟨g'.trans (.same rfl rfl), _, _, _, _, R3, hT b' _ _ _ _ T' (hid_mono (fun b x nb e => hk b x (fun z => nb (z ▸ iM')) e) fun c z => (List.mem_filter.mp z).1) fun o e => hk _ _ hIt e⟩
  | cons x rest =>
    refine it'.next ak.handled fun v h' tk rv it3 hk => ?_
    obtain ⟨o3, T3, e3, _, _⟩ := it3.tame
    have R3 := R'.renew (tk := tk) H0I hIc hk e3
    have T3' : T b' h' M' := hT b' _ _ _ _ T' (hid_mono (fun b x nb e => hk b x (fun z => nb (z ▸ iM')) e) fun _ z => z) fun o e => hk _ _ hIt e
    refine letGo_tame it3.tame ?_
    obtain ⟨ℓ4, htj, hw⟩ := step x rest ℓ' b' hP
    have sub3 : Sub H0 (hid h' M') := R3.kept (fun b x e => .inl (.inr e)) H0Mo
    refine htj A _ (I :: Mo) M' m' cv' ad' _ v ak ow' (R3.track (t := t) (.tail _ ht)) (rv.mono sub3) _ _ fun s4 g4 hh4 => ?_
    obtain ⟨M4, m4, cv4, ad4, R4'⟩ := hh4
    obtain ⟨R4, sub4, et4⟩ := R4'.untrack R3.mO
    have T4 : T b' s4.heap M4 := hT b' _ _ _ _ T3' sub4 et4
    refine hw A _ (I :: Mo) M4 m4 cv4 ad4 s4 ak ow' (.tail _ ht) (hnt' o3) R4 T4 _ _ fun oo b5 f s5 ho af => ?_
    have gg : Mv s { s' with heap := h', toks := tk } := g'.trans (.same rfl rfl)
    have itat : ∀ {s5 : Shared} {M5 m5 cv5 ad5 ℓ5}, Rel C (fun b x => (hb b x ∨ H0.get? b = some x) ∨ (b = I ∧ x = o3)) (I :: Mo) fi M5 m5 cv5 ad5 ℓ5 s5 → It C H0 I rest s5.heap := fun R5 =>
      it3.frame (fun _ _ e => e) (fun o e => by rw [e3] at e; cases e; exact R5.base I o3 (.inr ⟨rfl, rfl⟩)) (sub3.trans (hid_sub _ _)) (fun b x e => R5.base b x (.inl (.inr e)))
    cases oo with
    | nxt ℓ5 =>
      cases f <;> first | exact af.elim | skip
      obtain ⟨g5, M5, m5, cv5, ad5, R5, T5⟩ := af
      exact ⟨_, Nat.lt_succ_self _, rest, ℓ5, b5, M5, m5, cv5, ad5, o3, rfl, gg.trans (g4.trans g5), ho, R5, itat R5, T5⟩
    | cnt ℓ5 =>
      cases f <;> first | exact af.elim | skip
      obtain ⟨g5, M5, m5, cv5, ad5, R5, T5⟩ := af
      exact ⟨_, Nat.lt_succ_self _, rest, ℓ5, b5, M5, m5, cv5, ad5, o3, rfl, gg.trans (g4.trans g5), ho, R5, itat R5, T5⟩
    | brk ℓ5 =>
      cases f <;> first | exact af.elim | skip
      obtain ⟨g5, M5, m5, cv5, ad5, R5, T5⟩ := af
      refine q _ _ _ _ ho ⟨gg.trans (g4.trans g5), M5, m5, cv5, ad5, R5.back (fun b x z => .inl (.inl z)) (fun b h => .tail _ h) fun b h => ?_, T5⟩
      rcases List.mem_cons.mp h with rfl | z
      · exact .inr hInew
      · exact .inl z
    | ret a =>
      cases f <;> first | exact af.elim | skip
      exact q _ _ _ _ ho ⟨gg.trans (g4.trans af.1), af.2.1.back (fun b x z => .inl (.inl z)) fun b h => .tail _ h, hT b5 _ _ _ _ af.2.2 (hid_mono (fun _ _ _ e => e) fun b h => .tail _ h) fun _ e => e⟩
end

/-! ## a list that is held by more than one name -/
def LT (C : Cx) (t : Addr) (β : List AV) : Tk := fun h M => ∃ vs, ListAt h t vs ∧ RepL C (hid h M) β vs
theorem LT.ok {t : Addr} (β : List AV) : TkOk t (LT C t β) := fun h h' M M' ⟨vs, ⟨n, e⟩, rl⟩ k kt => ⟨vs, ⟨n, kt _ e⟩, rl.mono k⟩
theorem SX1.append {n : Nat} {fi : Fi} {ℓ : List Slot} {pos p1 p2 p3 : Pos} {t : Addr} {β : List AV} {F : Out → List AV → Prop} (F' : fi.Ok) {i : Nat} {x : Str} {lo : Loc} {e : Expr} {a : AV} (hi : fi.vs[i]? = some (x, lo)) (hv : ℓ[i]? = some (.fz (.ext (.gen t)))) (he : EJ C n fi ℓ e a) (h : F (.nxt ℓ) (β ++ [a]))
    (hcell : fi.own = true) (hz : β.length ≤ sz) (hline : (p2.endLine == p3.line) = true) (hstar : ∀ env, starEach [e] env = [(false, eval e env)])
    (hbase : ∀ env, attributeBase (.Name x p1) "append" env (eval (.Name x p1) env) = eval (.Name x p1) env) (hint : ∀ env, env.scope.kind = .function → interactive env = false := by intro env h; unfold interactive; rw [h]; rfl) :
    SX1 C n fi t (LT C t) (.Expr (.Call (.Attribute (.Name x p1) "append" p2) [e] [] p3) pos) ℓ β F := fun A hb Mo M m cv ad s ak ow ht hn R hT Q E q => by
  have tM := R.mO t ht
  refine wpAny_Expr ?_ (hint _ F'.fn) rfl
  refine wpAny_Call_append (hbase _) (by rw [hstar]; rfl) hline (by rw [hstar]; rfl) ((EJ.var F' hi hv) A hb Mo M m cv ad s ak R _ _ fun v s1 g1 rv => ?_)
  have ev := C.gen.mp rv.ext_
  subst ev
  have R1 := R.grow g1
  have hT1 : LT C t β s1.heap M := LT.ok β _ _ _ _ hT (hid_grow g1.keep) fun o e => g1.keep _ _ e
  obtain ⟨vs, ⟨n0, e0⟩, rl⟩ := id hT1
  refine ⟨t, vs.toArray, rfl, ⟨_, n0, e0, rfl, rfl, rfl⟩, ?_⟩
  refine he A hb Mo M m cv ad s1 ak R1 _ _ fun y s2 g2 ry => ?_
  have R2 := R1.grow g2
  obtain ⟨vs2, la2, rl2⟩ := LT.ok β _ _ _ _ hT1 (hid_grow g2.keep) fun o e => g2.keep _ _ e
  refine append_at la2 (by rw [← rl2.length]; exact sz_le hz) fun h' hp hs => ?_
  obtain ⟨n2, e2⟩ := id hp
  have hc : ∀ (i : Nat) x c, fi.vs[i]? = some (x, .cel c) → c ≠ t := fun i z cc e q => ow hcell i z cc e (q ▸ ht)
  have R3 := R2.rebase (tk := s2.toks) ht hc hs e2
  have k := hid_change tM hs
  refine q _ _ _ _ h ⟨(g1.trans g2).mv.trans (.same rfl rfl), M, m, cv, ad, R3.back' (fun b x z => ?_) (fun b hm hn x z => ((R2.new b hm).resolve_left hn) x z), vs2 ++ [y], hp, ((rl2.snoc ry).mono k)⟩
  exact (hs.2 b fun w => hn x (w ▸ z)).trans (R2.base b x z)
end
section
variable {C : Cx}
theorem assign_sub {M : Model} {A : Around} {env : Env} {s : Shared} {E : Value → Shared → Prop} {o i : Expr} {ps : Pos} {v : Value} {Q : Unit → Shared → Prop}
    (h : wpAny M A (eval o env) (fun ov s₂ => wpAny M A (eval i env) (fun iv s₃ => wpAny M A (setItem ov iv v) Q E s₃) E s₂) E s) : wpAny M A (assign (.Subscript o i ps) env v) Q E s := fun Γ p hΓ => by
  simp only [assign_Subscript, Sem.wp_bind', Sem.wp_holding, Sem.wp_cmd_standAt, Sem.wp_release]
  exact Sem.wp_mono M Γ _ (fun ov p₂ s₂ h₂ => Sem.wp_mono M Γ _ (fun iv p₃ s₃ h₃ => Sem.wp_mono M Γ _ (fun _ _ _ h' => h') (fun _ _ _ h' => h') _ _ (h₃ Γ _ hΓ)) (fun _ _ _ h' => h') _ _ (h₂ Γ p₂ hΓ)) (fun _ _ _ h' => h') _ _ (h Γ p hΓ)
/-- an object that is a dict of these -/
def DO (C : Cx) (d : Addr) (od : Obj) (kvs : List (Str × Value)) : Prop := ∀ h : Heap, h.get? d = some od → h.DictOf (sK C) d kvs
theorem DO.of {h : Heap} {d : Addr} {kvs : List (Str × Value)} (x : h.DictOf (sK C) d kvs) : ∃ od, h.get? d = some od ∧ DO C d od kvs := by
  obtain ⟨o, es, ep, e, t⟩ := x
  exact ⟨o, e, fun h' e' => ⟨o, es, ep, e', t⟩⟩
section
variable {n : Nat} {fi : Fi} {ℓ ℓ' : List Slot} {pos p p1 p2 p3 : Pos} {hb : Base} {Mo M : List Addr} {m : Str → Option Value} {cv : Nat → Option Value} {ad : Nat → List Addr} {s : Shared} {A : Around} {Q : Flow → Shared → Prop} {E : Value → Shared → Prop}
theorem S1.raw {st : Stmt} (h : S1 C n fi st ℓ (fun o => o = .nxt ℓ')) (ak : AOk n A) (ow : Own fi Mo) (R : Rel C hb Mo fi M m cv ad ℓ s) (q : ∀ s' M' m' cv' ad', Mv s s' → Rel C hb Mo fi M' m' cv' ad' ℓ' s' → Q .next s') : wpAny (model C.prog C.w) A (exec st fi.env) Q E s :=
  h A hb Mo M m cv ad s ak ow R Q E fun o f s' ho af => by
    subst ho
    cases f <;> first | exact af.elim | skip
    obtain ⟨g, M', m', cv', ad', R'⟩ := af
    exact q _ _ _ _ _ g R'
/-- x = o[k] = a new thing -/
theorem set_new (F' : fi.Ok) (hown : fi.own = true) {i : Nat} {x key : Str} {lo : Loc} {eo ek val : Expr} {d : Addr} {od o0 : Obj} {ks : List Str} {ws : List Value} (hi : fi.vs[i]? = some (x, lo)) (hil : i < ℓ.length)
    (ho : ∀ t, EJ C n fi (ℓ.set i (.fz (.ext (.gen t)))) eo (.ext (.gen d))) (hk : ∀ t, EJ C n fi (ℓ.set i (.fz (.ext (.gen t)))) ek (.str key)) (ak : AOk n A) (ow : Own fi Mo) (R : Rel C hb Mo fi M m cv ad ℓ s)
    (hval : ∀ (Q : Value → Shared → Prop) (E : Value → Shared → Prop), Q (.ref s.heap.objs.size) { s with heap := s.heap.push o0 } → wpAny (model C.prog C.w) A (eval val fi.env) Q E s) (hf : o0.isFreed = false)
    (dM : d ∈ Mo) (hd0 : hb d od) (hd : DO C d od (ks.zip ws)) (hlen : ks.length = ws.length) (hnew : key ∉ ks) (hz : ks.length ≤ sz)
    (hw : swappedStores [.Name x p1, .Subscript eo ek p2] val fi.env = pure none) (he : (assignEach [.Name x p1, .Subscript eo ek p2] fi.env).map (·.2) = [assign (.Name x p1) fi.env, assign (.Subscript eo ek p2) fi.env])
    (q : ∀ s' M' m' cv' ad' t od', Mv s s' → s.heap.get? t = none → (t == sysModules) = false → Own fi (t :: Mo) → Rel C (fun b x => (b = t ∧ x = o0) ∨ (if b = d then x = od' else hb b x)) (t :: Mo) fi M' m' cv' ad' (ℓ.set i (.fz (.ext (.gen t)))) s' → DO C d od' ((ks ++ [key]).zip (ws ++ [.ref t])) → Q .next s') :
    wpAny (model C.prog C.w) A (exec (.Assign [.Name x p1, .Subscript eo ek p2] val pos) fi.env) Q E s := by
  refine wpAny_Assign_two (hval _ _ ?_) he hw
  have nt : s.heap.get? s.heap.objs.size = none := get_new
  have nsys := R.notSys
  generalize ht : s.heap.objs.size = t at nt nsys
  have g : Grow s { s with heap := s.heap.push o0 } := .push _
  have et : (s.heap.push o0).get? t = some o0 := ht ▸ Heap.get?_push_size _ hf
  have R1 := R.around g nt et
  have ndt : d ≠ t := fun z => by have := R.base _ _ hd0; rw [z, nt] at this; cases this
  have ow1 : Own fi (t :: Mo) := fun w i x c e z => by
    rcases List.mem_cons.mp z with z | z
    · obtain ⟨o, e2⟩ := R.has c (R.mC i x c e).1
      rw [z, nt] at e2; cases e2
    · exact ow w i x c e z
  refine (TJ.name (pos := p1) F' hi (.inr hown)) A _ (t :: Mo) (t :: M) m cv ad _ (.ref t) ak ow1 R1 (.ext (C.gen.mpr rfl)) _ _ fun s2 g2 hh => ?_
  obtain ⟨M2, m2, cv2, ad2, R2⟩ := hh
  refine assign_sub ((ho t) A _ _ _ _ _ _ _ ak R2 _ _ fun ov s3 g3 ro => ?_)
  have eo' := C.gen.mp ro.ext_
  subst eo'
  have R3 := R2.grow g3
  refine (hk t) A _ _ _ _ _ _ _ ak R3 _ _ fun kv s4 g4 rk => ?_
  obtain ⟨tk, rfl⟩ := rk.str_
  have R4 := R3.grow g4
  have hD := hd _ (R4.base d od (.inl hd0))
  refine wpAny_setItem_pairs (knd := sK C) (k := key) (strKind_is _ _ _ _) hD (fun h' hm' hs' => ?_) (by rw [List.length_zip, ← hlen, Nat.min_self]; exact sz_le hz)
  obtain ⟨od', e', hd'⟩ := DO.of hm'
  have hc : ∀ (i : Nat) x c, fi.vs[i]? = some (x, .cel c) → c ≠ d := fun i z cc e q => ow hown i z cc e (q ▸ dM)
  have R5 := R4.rebase (tk := s4.toks + 1) (.tail _ dM) hc hs' e'
  refine q { s4 with heap := h', toks := s4.toks + 1 } M2 m2 cv2 ad2 t od' (g.mv.trans (g2.trans (g3.mv.trans (g4.mv.trans (.same rfl rfl))))) nt nsys ow1 (R5.back (fun b x z => ?_) (fun _ h => h) fun b h => .inl h) (by rw [← stored_zip hlen hnew]; exact hd')
  rcases z with ⟨rfl, rfl⟩ | z
  · rw [if_neg (fun z => ndt z.symm)]; exact .inr ⟨rfl, rfl⟩
  · by_cases e : b = d
    · rw [if_pos e] at z ⊢; exact z
    · rw [if_neg e] at z ⊢; exact .inl z
end
end
section
theorem merge_empty {prog : Program} {w : World} {A : Around} {E : Value → Shared → Prop} {s : Shared} {d a : Addr} {o : Obj} {ep : Nat} {Q : Unit → Shared → Prop} (hd : s.heap.get? d = some { cls := .type "dict", data := .dict #[] }) (ha : (a == sysModules) = false) (ho : s.heap.get? a = some o) (hc : o.cls = .type "dict") (hdat : o.data = .dict #[] ep) (h : Q () s) :
    wpAny (model prog w) A (mergeMapping d (.ref a) true) Q E s := by
  have hT : s.TypeIs (.ref a) "dict" := ⟨o, ho, hc⟩
  unfold mergeMapping
  refine wpAny_bind ?_
  refine wpAny_isInstance (T := "dict") (b := true) hT (by rw [isSubtype_type]; kernel_rfl) ?_
  rw [if_pos rfl]
  refine wpAny_bind (wpAny_specialOf hT PySem.F.slot_dict_iter.lookup ?_)
  refine wpAny_bind (wpAny_pure ?_)
  have e : (some (Value.builtin "dict.__iter__") == some (Value.builtin "dict.__iter__")) = true := by simp
  rw [e]
  dsimp only
  rw [if_neg (by rw [ha]; exact Bool.false_ne_true)]
  refine wpAny_bind (wpAny_dictEntries hd rfl ?_)
  rw [if_pos (by rfl)]
  refine wpAny_bind (wpAny_dictEntries ho hdat ?_)
  refine wpAny_bind ?_
  rw [← Array.forIn_toList]
  show wpAny _ _ (forIn [] _ _) _ _ _
  rw [List.forIn_nil]
  refine wpAny_pure ?_
  refine wpAny_bind (wpAny_dictEntries ho hdat ?_)
  refine wpAny_bind (wpAny_dictEpoch ho hdat ?_)
  refine wpAny_bind ?_
  show wpAny _ _ (forIn [] _ _) _ _ _
  rw [List.forIn_nil]
  exact wpAny_pure (wpAny_pure h)

theorem kw_empty {prog : Program} {w : World} {A : Around} {E : Value → Shared → Prop} {s : Shared} {f : Value} {y : Sem Value} {Q : Addr → Shared → Prop}
    (h : wpAny (model prog w) A y (fun v s2 => ∃ a o ep, v = .ref a ∧ (a == sysModules) = false ∧ s2.heap.get? a = some o ∧ o.cls = .type "dict" ∧ o.data = .dict #[] ep ∧ s2.heap.get? s.heap.objs.size = some { cls := .type "dict", data := .dict #[] } ∧ Q s.heap.objs.size s2) E { s with heap := s.heap.push { cls := .type "dict", data := .dict #[] } }) :
    wpAny (model prog w) A (mergedKeywords f [(none, y)]) Q E s := by
  unfold mergedKeywords
  refine wpAny_bind (wpAny_alloc ?_)
  refine wpAny_bind (wpAny_holding ?_)
  refine wpAny_bind ?_
  rw [List.forIn_cons]
  refine wpAny_bind ?_
  dsimp only
  refine wpAny_bind ?_
  rw [if_pos (by rfl)]
  refine wpAny_pure ?_
  refine wpAny_bind (wpAny_mono h (fun v s2 z => ?_) fun _ _ e => e)
  obtain ⟨a, o, ep, rfl, ha, ho, hc, hdat, hd, hq⟩ := z
  refine wpAny_bind (wpAny_onRaise (wpAny_holding (wpAny_tryCatch (wpAny_onRaise (merge_empty hd ha ho hc hdat ?_)))))
  refine wpAny_pure ?_
  dsimp only
  rw [List.forIn_nil]
  refine wpAny_pure ?_
  rw [if_pos (by rfl)]
  exact wpAny_pure (wpAny_pure hq)
theorem evalArgs_kw0 {prog : Program} {w : World} {A : Around} {E : Value → Shared → Prop} {s : Shared} {f : Value} {x y : Sem Value} {Q : Args → Shared → Prop}
    (h : wpAny (model prog w) A (spliced [(false, x)]) (fun vs s1 => wpAny (model prog w) A y (fun v s2 => ∃ a o ep, v = .ref a ∧ (a == sysModules) = false ∧ s2.heap.get? a = some o ∧ o.cls = .type "dict" ∧ o.data = .dict #[] ep ∧ s2.heap.get? s1.heap.objs.size = some { cls := .type "dict", data := .dict #[] } ∧ Q ⟨vs, []⟩ s2) E { s1 with heap := s1.heap.push { cls := .type "dict", data := .dict #[] } }) E s) :
    wpAny (model prog w) A (evalArgs f true [(false, x)] [(none, y)]) Q E s := by
  unfold evalArgs
  dsimp only
  refine wpAny_bind (wpAny_mono h (fun vs s1 h1 => ?_) fun _ _ e => e)
  refine wpAny_bind (wpAny_pure (wpAny_holding ?_))
  dsimp only
  rw [if_neg (by simp)]
  refine wpAny_bind (kw_empty (wpAny_mono h1 (fun v s2 z => ?_) fun _ _ e => e))
  obtain ⟨a, o, ep, rfl, ha, ho, hc, hdat, hd, hq⟩ := z
  refine ⟨a, o, ep, rfl, ha, ho, hc, hdat, hd, ?_⟩
  refine wpAny_bind (wpAny_pure ?_)
  refine wpAny_bind (wpAny_holding ?_)
  unfold keywordsIn
  refine wpAny_bind (wpAny_dictEntries hd rfl ?_)
  refine wpAny_bind ?_
  rw [← Array.forIn_toList]
  show wpAny _ _ (forIn [] _ _) _ _ _
  rw [List.forIn_nil]
  exact wpAny_pure (wpAny_pure (wpAny_pure hq))
end
local macro_rules
  | `(tactic| walk_at "ev") => `(tactic| first | rfl | assumption)
local macro_rules
  | `(tactic| walk_at "var") => `(tactic| (apply EJ.var; (assumption); walk_at "idx"; rfl))
local macro_rules
  | `(tactic| walk_at "idx") => `(tactic| first | exact at0 | exact at1 | exact at2 | exact at3 | exact at4 | exact at5 | exact at6 | exact at7 | exact at8 | exact at9 | exact at10 | exact at11 | exact at12 | exact at13 | exact at14 | exact at15 | exact at16 | exact at17 | exact at18 | exact at19 | exact at20 | exact at21 | exact at22 | exact at23)
local macro_rules
  | `(tactic| walk_at "ej") => `(tactic| first
    | exact EJ.int _ | exact EJ.str _ | exact EJ.none | exact EJ.bool _
    | walk_at "var"
    | (apply EJ.tup; (walk_at "lj"); (simp only [List.length_cons, List.length_nil, sz]; omega))
    | (apply EJ.lst; (walk_at "lj"); (simp only [List.length_cons, List.length_nil, sz]; omega))
    | (apply EJ.idx; (walk_at "ej"); (walk_at "ej"); (walk_at "ev"); (intro _ _ _ _ h; cases h))
    | (apply EJ.slc; (walk_at "ej"); (walk_at "pj"); (walk_at "pj"); walk_at "ev")
    | (apply EJ.bin; (walk_at "ej"); (walk_at "ej"); walk_at "ev")
    | (apply EJ.neg; walk_at "ej")
    | walk_at "call")
local macro_rules
  | `(tactic| walk_at "pj") => `(tactic| first
    | exact PJ.none
    | (apply PJ.some; walk_at "ej"))
local macro_rules
  | `(tactic| walk_at "lj") => `(tactic| first
    | exact LJ.nil
    | (apply LJ.cons; (walk_at "ej"); (walk_at "lj"); (exact fun _ => rfl)))
local macro_rules
  | `(tactic| walk_at "bj") => `(tactic| first
    | (apply BJ.cmp; (walk_at "ej"); (walk_at "ej"); (walk_at "ev"); with_unfolding_all rfl)
    | (apply BJ.not; walk_at "bj")
    | exact BJ.and_nil | exact BJ.or_nil
    | (apply BJ.and; (walk_at "bj"); (intro _; walk_at "bj"))
    | (apply BJ.or; (walk_at "bj"); (intro _; walk_at "bj"))
    | (apply BJ.chain; (walk_at "ej"); (walk_at "ej"); (walk_at "ev"); (walk_at "ej"); (walk_at "ev"); with_unfolding_all rfl)
    | (apply BJ.val; (walk_at "ej"); (walk_at "ev"); (exact fun _ _ => rfl)))
local macro_rules
  | `(tactic| walk_at "if") => `(tactic| (apply SW.cons; apply S1.ifs; (walk_at "bj")))
local macro_rules
  | `(tactic| walk_at "nx") => `(tactic| (apply SW.nil; show SW _ _ _ _ _ _))
local macro_rules
  | `(tactic| walk_at "ret") => `(tactic| (apply SW.cons; apply S1.ret; (walk_at "ej")))


section
variable {C : Cx}
def moveF : Fn := fnTop PySem.Challenge.pw_bf5016_01 50

def lawMove (k : Nat) (one two : Str) : AV :=
  if k = 4 then .tup [.str one, .str two]
  else if k = 2 then .tup [.str "#pop", .str one]
  else if k = 9 then .tup [.str one, .str "#push"]
  else (([.str one, .str "#pop", .str "", .str "#pop:2", .str "", .str "#push", .str "", .str "", .str "#pop"] : List AV)[k]?).getD .none
theorem lt_ten {k : Nat} (h : k < 10) : k = 0 ∨ k = 1 ∨ k = 2 ∨ k = 3 ∨ k = 4 ∨ k = 5 ∨ k = 6 ∨ k = 7 ∨ k = 8 ∨ k = 9 := by omega

theorem move_ok {n : Nat} {a : Addr} (hf : FnAt C moveF a) {k : Nat} {one two : Str} (h : k < 10) : CallJ C (n + 1) (.ref a) [.int k, .str one, .str two] (lawMove k one two) := by
  refine fn_ok (ps := ["kind", "one", "two"]) (xs := []) hf (fun name qual doc pm an cdv ct L F => ?_) (fun name qual doc pm an cdv ct vs hv => ?_)
  · unfold lawMove
    walk_at "if"
    · intro e
      walk_at "ret"
      rw [if_pos (by simp at e; omega)]; rfl
    intro e
    rw [if_neg (by simp at e; omega)]
    walk_at "nx"
    walk_at "if"
    · intro e
      walk_at "ret"
      rw [if_pos (by simp at e; omega)]; rfl
    intro e
    rw [if_neg (by simp at e; omega)]
    walk_at "nx"
    walk_at "if"
    · intro e
      walk_at "ret"
      rw [if_pos (by simp at e; omega)]; rfl
    intro e
    rw [if_neg (by simp at e; omega)]
    walk_at "nx"
    apply SW.cons; apply S1.ret
    · apply EJ.idx
      · walk_at "ej"
      · walk_at "ej"
      · show opIdx _ _ = some ((([.str one, .str "#pop", .str "", .str "#pop:2", .str "", .str "#push", .str "", .str "", .str "#pop"] : List AV)[k]?).getD .none)
        rcases lt_ten h with rfl | rfl | rfl | rfl | rfl | rfl | rfl | rfl | rfl | rfl <;> first | rfl | exact absurd e (by decide)
      · intro _ _ _ _ h; cases h
    · rfl
  · obtain ⟨v1, v2, v3, rfl⟩ := three_of hv
    rfl
end
section
variable {C : Cx}
def drawsF : Fn := fnTop PySem.Challenge.pw_bf5016_01 48
def drawL (s : List Int) (k : Nat) : Int := (s[k % s.length]?).getD 0 + 11 * k * ((k / s.length : Nat) : Int)
def drawsL (s : List Int) (most : Nat) : List Int := if s.length = 0 then List.replicate most 0 else (List.range most).map (drawL s)

def onInt (f : Int → AV) : AV → AV
  | .int k => f k
  | x => x
theorem draws_ok {n : Nat} {a : Addr} (hf : FnAt C drawsF a) (g1 : C.glb "len" (.builtin "len")) (g2 : C.glb "range" (.type "range")) {s : List Int} {most : Nat} (h1 : s.length ≤ 1000) (h2 : most ≤ 1000) :
    CallJ C (n + 1) (.ref a) [.lst (s.map .int), .int most] (.lst ((drawsL s most).map .int)) := by
  refine fn_ok (ps := ["script", "most"]) (xs := ["many"]) hf (fun name qual doc pm an cdv ct L F => ?_) (fun name qual doc pm an cdv ct vs hv => ?_)
  · have hz : s.length ≤ sz := Nat.le_trans h1 (by decide)
    apply SW.cons; apply S1.assign
    · assumption
    · exact at2
    · apply EJ.callB
      · assumption
      · exact g1
      · walk_at "lj"
      · exact len_lst (by simpa using hz)
      · rfl
      · decide
      · intro _; rfl
      · intro _ _; rfl
    · simp only [List.length_map]
      walk_at "if"
      · intro e
        have e : s.length = 0 := by simp at e; simp [e]
        apply SW.cons; apply S1.ret
        · apply EJ.bin
          · walk_at "ej"
          · walk_at "ej"
          · exact if_pos (by have : sz = 1048576 := rfl; simp; omega)
        · show some (AV.lst _) = some _
          unfold drawsL
          rw [if_pos e]
          simp
      · intro e
        have e : s.length ≠ 0 := by simp at e; simpa using e
        apply SW.nil; show SW _ _ _ _ _ _
        apply SW.cons; apply S1.ret (a := .lst ((drawsL s most).map .int))
        · have r : (((List.range most).map fun (k : Nat) => AV.int (k : Int)).map (onInt fun k => .int (drawL s k.toNat))) = (drawsL s most).map .int := by unfold drawsL; rw [if_neg e]; simp [onInt]
          rw [← r]
          apply EJ.comp
          apply CompOk.each (a := .rng 0 most 1) (l := (List.range most).map fun (k : Nat) => AV.int (k : Int)) (ls := ["k"]) (caps := [("many", 2, L + 1 + 1), ("script", 0, L + 1)]) (b := fun a => [.fz a])
          · apply EJ.callT
            · assumption
            · exact g2
            · walk_at "lj"
            · exact range1
            · rfl
            · decide
            · intro _; rfl
            · intro _ _; rfl
          · rw [items_rng (by omega) (by omega) (by omega) (by omega)]; simp
          · exact .cons rfl rfl (.cons rfl rfl .nil)
          · rfl
          · intro L' D
            exact Fi.Ok.of rfl rfl rfl ⟨rfl, rfl, ⟨rfl, rfl⟩, rfl, ⟨rfl, rfl⟩, rfl, trivial⟩ (by show (["k", "many", "script"] : List Str).Nodup; decide)
          · simp; exact Nat.le_trans h2 (by decide)
          · intro L' D F2 x hx vs acc hv
            obtain ⟨k, hk, rfl⟩ := List.mem_map.mp hx
            obtain ⟨v0, rfl⟩ : ∃ v0, vs = [v0] := match vs, hv with | [v], _ => ⟨v, rfl⟩
            refine ⟨rfl, TJ.name (i := 0) F2 rfl, ?_⟩
            have lt : k < most := by simpa using hk
            have hm : k % s.length < s.length := Nat.mod_lt _ (by omega)
            apply EJ.bin
            · apply EJ.idx
              · walk_at "ej"
              · apply EJ.bin
                · walk_at "ej"
                · walk_at "ej"
                · exact if_pos (by omega)
              · show (if decide ((s.map AV.int).length ≤ sz) then at? (s.map AV.int) _ else none) = some (.int (s[k % s.length]?.getD 0))
                rw [if_pos (by simpa using hz)]
                have e1 : (k : Int).fmod s.length = ((k % s.length : Nat) : Int) := by
                  rw [Int.fmod_eq_emod_of_nonneg _ (by omega)]; rfl
                rw [e1]
                unfold at?
                rw [if_pos (by omega), Int.toNat_natCast]
                simp [hm]
              · intro _ _ _ _ h; cases h
            · apply EJ.bin
              · apply EJ.bin
                · walk_at "ej"
                · walk_at "ej"
                · exact if_pos (by simp)
              · apply EJ.bin
                · walk_at "ej"
                · walk_at "ej"
                · exact if_pos (by simp only [ne_eq, Bool.and_eq_true, decide_eq_true_eq, decide_not, Bool.not_eq_true', decide_eq_false_iff_not]; omega)
              · exact if_pos (by simp only [Bool.or_eq_true, decide_eq_true_eq]; right; omega)
            · show some (AV.int _) = some (AV.int (drawL s (k : Int).toNat))
              have e2 : (k : Int).fdiv s.length = ((k / s.length : Nat) : Int) := by
                rw [Int.fdiv_eq_ediv_of_nonneg _ (by omega)]; rfl
              rw [e2, Int.toNat_natCast]
              rfl
          · decide
          · rfl
          · decide
          · intro _ _; rfl
        · rfl
    · exact .inr rfl
    · rfl
  · obtain ⟨v1, v2, rfl⟩ := two_of hv
    rfl
end
section
variable {C : Cx}
def stepF : Fn := fnTop PySem.Challenge.pw_bf5016_01 51
def stepL {α : Type} (st : List α) (k : Nat) (one two : α) : List α :=
  if k = 0 then st ++ [one] else if k = 1 ∨ k = 8 then lessL st else if k = 2 then lessL st ++ [one] else if k = 3 then lessL (lessL st)
  else if k = 4 then st ++ [one, two] else if k = 5 then st ++ st.drop (st.length - 1) else if k = 9 then st ++ [one, one] else st
theorem lessL_map {α β : Type} (f : α → β) (st : List α) : lessL (st.map f) = (lessL st).map f := by unfold lessL; simp only [List.length_map]; split <;> simp
theorem stepL_map {α β : Type} (f : α → β) (st : List α) (k : Nat) (a b : α) : stepL (st.map f) k (f a) (f b) = (stepL st k a b).map f := by
  unfold stepL
  simp only [lessL_map, List.length_map]
  repeat' split
  all_goals simp

theorem step_ok {n : Nat} {a : Addr} (hf : FnAt C stepF a) (g1 : C.glb "len" (.builtin "len")) {st : List AV} {k : Nat} {one two : AV} (h1 : st.length ≤ 1000) :
    CallJ C (n + 1) (.ref a) [.lst st, .int k, one, two] (.lst (stepL st k one two)) := by
  refine fn_ok (ps := ["stack", "kind", "one", "two"]) (xs := ["less"]) hf (fun name qual doc pm an cdv ct L F => ?_) (fun name qual doc pm an cdv ct vs hv => ?_)
  · have s0 := sz_eq
    refine SW.cons (S1.assign (a := .lst (lessL st)) F at4 ?_ ?_ (.inl rfl) rfl)
    · apply EJ.to
      · apply EJ.ite
        · apply BJ.cmp
          · apply EJ.lenL
            · assumption
            · assumption
            · walk_at "ej"
            · omega
            · rfl
            · exact fun _ => rfl
          · walk_at "ej"
          · rfl
          · rfl
        · apply EJ.slc
          · walk_at "ej"
          · walk_at "pj"
          · walk_at "pj"
          · exact slc_lst (by omega)
        · walk_at "ej"
      · show (if decide (((st.length : Nat) : Int) > 1) = true then AV.lst _ else AV.lst _) = _
        unfold lessL
        rw [pick_init]
        by_cases h : 1 < st.length
        · rw [if_pos h, if_pos (by simp; omega)]
        · rw [if_neg h, if_neg (by simp; omega)]
    · show SW _ _ _ _ _ _
      have l1 := lessL_len st
      have l2 := lessL_len (lessL st)
      unfold stepL
      walk_at "if"
      · intro e
        rw [if_pos (by simp at e; omega)]
        apply SW.cons; apply S1.ret
        · apply EJ.bin
          · walk_at "ej"
          · walk_at "ej"
          · exact add_lst (by simp; omega)
        · rfl
      intro e
      rw [if_neg (by simp at e; omega)]
      walk_at "nx"
      walk_at "if"
      · intro e
        rw [if_pos (by simp at e; omega)]
        walk_at "ret"
        rfl
      intro e
      rw [if_neg (by simp at e; omega)]
      walk_at "nx"
      walk_at "if"
      · intro e
        rw [if_pos (by simp at e; omega)]
        apply SW.cons; apply S1.ret
        · apply EJ.bin
          · walk_at "ej"
          · walk_at "ej"
          · exact add_lst (by simp; omega)
        · rfl
      intro e
      rw [if_neg (by simp at e; omega)]
      walk_at "nx"
      walk_at "if"
      · intro e
        rw [if_pos (by simp at e; omega)]
        apply SW.cons; apply S1.ret (a := .lst (lessL (lessL st)))
        · apply EJ.to
          · apply EJ.ite
            · apply BJ.cmp
              · apply EJ.lenL
                · assumption
                · assumption
                · walk_at "ej"
                · omega
                · rfl
                · exact fun _ => rfl
              · walk_at "ej"
              · rfl
              · rfl
            · apply EJ.slc
              · walk_at "ej"
              · walk_at "pj"
              · walk_at "pj"
              · exact slc_lst (by omega)
            · walk_at "ej"
          · show (if decide ((((lessL st).length : Nat) : Int) > 1) = true then AV.lst _ else AV.lst _) = AV.lst (if 1 < (lessL st).length then _ else _)
            rw [pick_init]
            by_cases h : 1 < (lessL st).length
            · rw [if_pos h, if_pos (by simp; omega)]
            · rw [if_neg h, if_neg (by simp; omega)]
        · rfl
      intro e
      rw [if_neg (by simp at e; omega)]
      walk_at "nx"
      walk_at "if"
      · intro e
        rw [if_pos (by simp at e; omega)]
        apply SW.cons; apply S1.ret
        · apply EJ.bin
          · walk_at "ej"
          · walk_at "ej"
          · exact add_lst (by simp; omega)
        · rfl
      intro e
      rw [if_neg (by simp at e; omega)]
      walk_at "nx"
      walk_at "if"
      · intro e
        rw [if_pos (by simp at e; omega)]
        apply SW.cons; apply S1.ret
        · apply EJ.bin
          · walk_at "ej"
          · apply EJ.slc
            · walk_at "ej"
            · walk_at "pj"
            · walk_at "pj"
            · exact slc_lst (by omega)
          · exact add_lst (by rw [pick_last]; simp; omega)
        · rw [pick_last]; rfl
      intro e
      rw [if_neg (by simp at e; omega)]
      walk_at "nx"
      walk_at "if"
      · intro e
        rw [if_pos (by simp at e; omega)]
        apply SW.cons; apply S1.ret
        · apply EJ.bin
          · walk_at "ej"
          · walk_at "ej"
          · exact add_lst (by simp; omega)
        · rfl
      intro e
      rw [if_neg (by simp at e; omega)]
      walk_at "nx"
      walk_at "ret"
      rfl
  · obtain ⟨v1, v2, v3, v4, rfl⟩ := four_of hv
    rfl
end
section
variable {C : Cx}
def belowF : Fn := fnTop PySem.Challenge.pw_bf5016_01 52
def belowL (hs : List Int) (least : Int) : Nat → Nat → Nat
  | 0, a => a
  | k + 1, a => match hs[a]? with
    | some h => if least ≤ h then belowL hs least k (a + 1) else a
    | none => a
theorem below_ok {n : Nat} {a : Addr} (hf : FnAt C belowF a) (g1 : C.glb "len" (.builtin "len")) {hs : List Int} {i : Nat} {least : Int} (h1 : hs.length ≤ 1000) (h2 : i ≤ hs.length) :
    CallJ C (n + 1) (.ref a) [.lst (hs.map .int), .int i, .int least] (.int (belowL hs least (hs.length - i) i : Nat)) := by
  refine fn_ok (ps := ["heights", "at", "least"]) (xs := []) hf (fun name qual doc pm an cdv ct L F => ?_) (fun name qual doc pm an cdv ct vs hv => ?_)
  · have zz := sz_eq
    refine SW.cons (S1.while_ (fun k ℓ => ∃ j, ℓ = [.fz (.lst (hs.map .int)), .fz (.int (j : Nat)), .fz (.int least)] ∧ k = hs.length - j ∧ j ≤ hs.length ∧ belowL hs least k j = belowL hs least (hs.length - i) i) (hs.length - i) ⟨i, rfl, rfl, h2, rfl⟩ (fun k ℓ hP => ?_))
    obtain ⟨j, rfl, rfl, hj, hb⟩ := hP
    by_cases hlt : j < hs.length
    · obtain ⟨v, hv⟩ : ∃ v, hs[j]? = some v := ⟨_, List.getElem?_eq_getElem hlt⟩
      have ek : hs.length - j = (hs.length - (j + 1)) + 1 := by omega
      rw [ek, belowL, hv] at hb
      refine ⟨decide (least ≤ v), BJ.to (BJ.and (BJ.cmp (EJ.var F at1 at1) (EJ.lenL F g1 (EJ.var F at0 at0) (by simp; omega) rfl (fun _ => rfl)) rfl rfl) fun _ => BJ.and (BJ.cmp (EJ.idx (z := .int v) (EJ.var F at0 at0) (EJ.var F at1 at1) (by
          rw [idx_lst (by simp; omega), at_nat]; simp [hv]) (fun _ _ _ _ h => by cases h)) (EJ.var F at2 at2) rfl rfl) fun _ => BJ.and_nil) (by simp [hlt]), fun e => ?_, fun e => ?_⟩
      · have e : least ≤ v := by simpa using e
        refine SW.cons (S1.aug F at1 at1 (b := .int 1) (r := .int ((j + 1 : Nat) : Int)) (EJ.int 1) (fun A M s va vb _ _ ra rb Q E q => by
          obtain ⟨t, rfl⟩ := ra.int_
          obtain ⟨u, rfl⟩ := rb.int_
          exact P.iadd_int (q _ _ (.toks _) (.int _ _))) (SW.nil ⟨hs.length - (j + 1), by omega, j + 1, rfl, rfl, by omega, ?_⟩) (.inl rfl))
        rw [← hb]; simp [e]
      · have e : ¬ least ≤ v := by simpa using e
        refine SW.cons (S1.ret (EJ.var F at1 at1) ?_)
        show some (AV.int _) = some (AV.int _)
        rw [← hb]; simp [e]
    · have hj' : j = hs.length := by omega
      subst hj'
      refine ⟨false, BJ.to (BJ.and (c := false) (BJ.cmp (EJ.var F at1 at1) (EJ.lenL F g1 (EJ.var F at0 at0) (by simp; omega) rfl (fun _ => rfl)) rfl rfl) fun e => ?_) (by simp), (fun e => nomatch e), fun _ => ?_⟩
      · simp at e
      · refine SW.cons (S1.ret (EJ.var F at1 at1) ?_)
        show some (AV.int _) = some (AV.int _)
        rw [← hb]; simp [belowL]
  · obtain ⟨v1, v2, v3, rfl⟩ := three_of hv
    rfl
end
section
variable {C : Cx}
def pumpsF : Fn := fnTop PySem.Challenge.pw_bf5016_01 53
abbrev Quad := Nat × Nat × Nat × Nat
def quadAV (q : Quad) : AV := .tup [.int q.1, .int q.2.1, .int q.2.2.1, .int q.2.2.2]
def pumpHit (hs : List Int) (tops : List Str) (i j : Nat) (least h : Int) (s : List Quad × List Quad) : List Quad × List Quad :=
  if tops[j]? = tops[i]? then
    if h = least then (s.1, s.2 ++ [(i, j, j, j)])
    else if s.1 = [] then
      if belowL hs least (hs.length - belowL hs h (hs.length - j) j) (belowL hs h (hs.length - j) j) < tops.length ∧ hs[belowL hs h (hs.length - j) j]? = some (h - 1) ∧
          hs[belowL hs least (hs.length - belowL hs h (hs.length - j) j) (belowL hs h (hs.length - j) j)]? = some (least - 1) then
        ([(i, j, belowL hs h (hs.length - j) j, belowL hs least (hs.length - belowL hs h (hs.length - j) j) (belowL hs h (hs.length - j) j))], s.2) else s
    else s
  else s
def pumpIn (hs : List Int) (tops : List Str) (i : Nat) (least : Int) : Nat → Nat → List Quad × List Quad → List Quad × List Quad
  | 0, _, s => s
  | n + 1, j, s => match hs[j]? with
    | some h => if 2 < least ∧ least ≤ h then pumpIn hs tops i least n (j + 1) (pumpHit hs tops i j least h s) else s
    | none => s
def pumpAll (hs : List Int) (tops : List Str) : Nat → Nat → List Quad × List Quad → List Quad × List Quad
  | 0, _, s => s
  | n + 1, i, s => pumpAll hs tops n (i + 1) (pumpIn hs tops i ((hs[i]?).getD 0) (tops.length - (i + 1)) (i + 1) s)
theorem belowL_le {hs : List Int} {least : Int} : ∀ (k a : Nat), a + k ≤ hs.length → belowL hs least k a ≤ a + k ∧ a ≤ belowL hs least k a
  | 0, a, _ => by simp [belowL]
  | k + 1, a, h => by
    unfold belowL
    split
    · split
      · have := belowL_le (hs := hs) (least := least) k (a + 1) (by omega)
        omega
      · omega
    · omega

def PS (hs : List Int) (tops : List Str) (s : List Quad × List Quad) (a4 a5 a6 a7 a8 : Slot) : List Slot :=
  [.fz (.lst (hs.map .int)), .fz (.lst (tops.map .str)), .ol (s.1.map quadAV), .ol (s.2.map quadAV), a4, a5, a6, a7, a8]

theorem S1.inc {n : Nat} {fi : Fi} {ℓ : List Slot} {G : Out → Prop} {p pos : Pos} {x : Str} {lo : Loc} {i : Nat} {t : Int} (F : fi.Ok) (hi : fi.vs[i]? = some (x, lo)) (hv : ℓ[i]? = some (.fz (.int t))) (h : G (.nxt (ℓ.set i (.fz (.int (t + 1)))))) (hlo : lo = .loc) :
    S1 C n fi (.AugAssign (.Name x p) .Add (.Constant (.int 1) u v) pos) ℓ G :=
  S1.aug F hi hv (b := .int 1) (r := .int (t + 1)) (EJ.int 1) (fun A M s va vb _ _ ra rb Q E q => by
    obtain ⟨t, rfl⟩ := ra.int_
    obtain ⟨u, rfl⟩ := rb.int_
    exact P.iadd_int (q _ _ (.toks _) (.int _ _))) h (.inl hlo)
theorem pumps_ok {n : Nat} {a ab : Addr} (hf : FnAt C pumpsF a) (hb : FnAt C belowF ab) (gb : C.glb "_law_below" (.ref ab)) (g1 : C.glb "len" (.builtin "len")) (g2 : C.glb "range" (.type "range")) {hs : List Int} {tops : List Str} (hl : hs.length = tops.length) (h1 : tops.length ≤ 100) (hsm : ∀ h ∈ hs, -1000 ≤ h ∧ h ≤ 1000) :
    CallJ C (n + 2) (.ref a) [.lst (hs.map .int), .lst (tops.map .str)] (.lst (((pumpAll hs tops tops.length 0 ([], [])).1 ++ (pumpAll hs tops tops.length 0 ([], [])).2.take 1).map quadAV)) := by
  refine fn_ok (ps := ["heights", "tops"]) (xs := ["laid", "rings", "i", "least", "j", "k", "l"]) hf (fun name qual doc pm an cdv ct L F => ?_) (fun name qual doc pm an cdv ct vs hv => ?_)
  · have zz := sz_eq
    refine SW.cons (S1.own (l := []) F at2 (NJ.lst LJ.nil (by simp)) ?_ (.inl rfl) rfl)
    refine SW.cons (S1.own (l := []) F at3 (NJ.lst LJ.nil (by simp)) ?_ (.inl rfl) rfl)
    refine SW.cons (S1.for_ F (EJ.range1 F g2 (EJ.lenL F g1 (EJ.var F at1 at1) (by simp; omega) rfl (fun _ => rfl)) rfl (fun _ => rfl)) (items_rng (by omega) (by omega) (by omega) (by simp; omega))
      (fun rest ℓ => ∃ i s a4 a5 a6 a7 a8, rest = (((List.range tops.length).drop i).map fun (k : Nat) => AV.int (0 + (k : Int))) ∧ i ≤ tops.length ∧ ℓ = PS hs tops s a4 a5 a6 a7 a8 ∧ s.1.length ≤ 1 ∧ s.2.length ≤ 200 * i ∧
        pumpAll hs tops (tops.length - i) i s = pumpAll hs tops tops.length 0 ([], []))
      ⟨0, ([], []), .un, .un, .un, .un, .un, by simp, by omega, rfl, by simp, by simp, rfl⟩ (fun x rest ℓ hP => ?_) (fun ℓ hP => ?_) (fun _ _ => rfl))
    · obtain ⟨i, s, a4, a5, a6, a7, a8, hr, hi, rfl, hs1, hs2, hs3⟩ := hP
      have hlt : i < tops.length := by
        have := congrArg List.length hr
        simp at this; omega
      have hdrop : (List.range tops.length).drop i = i :: (List.range tops.length).drop (i + 1) := by
        rw [List.drop_eq_getElem_cons (by simpa using hlt)]; simp
      rw [hdrop, List.map_cons] at hr
      simp only [List.cons.injEq] at hr
      obtain ⟨rfl, rfl⟩ := hr
      obtain ⟨hI, hhI⟩ : ∃ v, hs[i]? = some v := ⟨_, List.getElem?_eq_getElem (by omega)⟩
      have bI := hsm hI (List.mem_of_getElem? hhI)
      refine ⟨PS hs tops s (.fz (.int ((i : Nat) : Int))) a5 a6 a7 a8, (show TJ C (n + 1) _ _ (.int (0 + (i : Int))) _ _ by rw [Int.zero_add]; exact TJ.name F (i := 4) rfl), ?_⟩
      refine SW.cons (S1.assign (a := .int hI) F at5 (EJ.idx (EJ.var F at0 at0) (EJ.var F at4 at4) (by rw [idx_lst (by simp; omega), at_nat]; simp [hhI]) (fun _ _ _ _ h => by cases h)) ?_ (.inl rfl) rfl)
      refine SW.cons (S1.assign (a := .int ((i + 1 : Nat) : Int)) F at6 (EJ.bin (EJ.var F at4 at4) (EJ.int 1) rfl) ?_ (.inl rfl) rfl)
      have e1 : pumpAll hs tops (tops.length - i) i s = pumpAll hs tops (tops.length - (i + 1)) (i + 1) (pumpIn hs tops i hI (tops.length - (i + 1)) (i + 1) s) := by
        rw [show tops.length - i = (tops.length - (i + 1)) + 1 by omega, pumpAll, hhI]; rfl
      rw [e1] at hs3
      refine SW.cons (S1.while_ (fun k ℓ => ∃ j s' b7 b8, ℓ = PS hs tops s' (.fz (.int ((i : Nat) : Int))) (.fz (.int hI)) (.fz (.int ((j : Nat) : Int))) b7 b8 ∧ k = tops.length - j ∧ i < j ∧ j ≤ tops.length ∧ s'.1.length ≤ 1 ∧ s'.2.length ≤ 200 * i + j ∧
        pumpIn hs tops i hI k j s' = pumpIn hs tops i hI (tops.length - (i + 1)) (i + 1) s) (tops.length - (i + 1)) ⟨i + 1, s, a7, a8, rfl, rfl, by omega, by omega, hs1, by omega, rfl⟩ (fun k ℓ hP => ?_))
      obtain ⟨j, s', b7, b8, rfl, rfl, hij, hj, hs1', hs2', hp⟩ := hP
      obtain ⟨ti, hti⟩ : ∃ v, tops[i]? = some v := ⟨_, List.getElem?_eq_getElem (by omega)⟩
      by_cases hlt : j < tops.length
      · obtain ⟨h, hh⟩ : ∃ v, hs[j]? = some v := ⟨_, List.getElem?_eq_getElem (by omega)⟩
        obtain ⟨tj, htj⟩ : ∃ v, tops[j]? = some v := ⟨_, List.getElem?_eq_getElem (by omega)⟩
        have bh := hsm h (List.mem_of_getElem? hh)
        have ek : tops.length - j = (tops.length - (j + 1)) + 1 := by omega
        rw [ek, pumpIn, hh] at hp
        refine ⟨decide (2 < hI ∧ hI ≤ h), BJ.to (BJ.and (BJ.cmp (EJ.var F at5 at5) (EJ.int 2) rfl rfl) fun _ => BJ.and (BJ.cmp (EJ.var F at6 at6) (EJ.lenL F g1 (EJ.var F at1 at1) (by simp; omega) rfl (fun _ => rfl)) rfl rfl) fun _ => BJ.and (BJ.cmp (EJ.idx (z := .int h) (EJ.var F at0 at0) (EJ.var F at6 at6) (by
            rw [idx_lst (by simp; omega), at_nat]; simp [hh]) (fun _ _ _ _ h => by cases h)) (EJ.var F at5 at5) rfl rfl) fun _ => BJ.and_nil) (by simp [hlt]), fun e => ?_, fun e => ?_⟩
        · have e : 2 < hI ∧ hI ≤ h := by simpa using e
          rw [show (match some h with
            | some h => if 2 < hI ∧ hI ≤ h then pumpIn hs tops i hI (tops.length - (j + 1)) (j + 1) (pumpHit hs tops i j hI h s') else s'
            | Option.none => s') = pumpIn hs tops i hI (tops.length - (j + 1)) (j + 1) (pumpHit hs tops i j hI h s') from if_pos e] at hp
          have fin : ∀ s2 b7 b8 ℓ', pumpHit hs tops i j hI h s' = s2 → s2.1.length ≤ 1 → s2.2.length ≤ s'.2.length + 1 → ℓ' = PS hs tops s2 (.fz (.int ((i : Nat) : Int))) (.fz (.int hI)) (.fz (.int ((j : Nat) + 1 : Int))) b7 b8 → ∃ k', k' < tops.length - j ∧ ∃ j1 s1 c7 c8, ℓ' = PS hs tops s1 (.fz (.int ((i : Nat) : Int))) (.fz (.int hI)) (.fz (.int ((j1 : Nat) : Int))) c7 c8 ∧ k' = tops.length - j1 ∧ i < j1 ∧ j1 ≤ tops.length ∧ s1.1.length ≤ 1 ∧ s1.2.length ≤ 200 * i + j1 ∧
              pumpIn hs tops i hI k' j1 s1 = pumpIn hs tops i hI (tops.length - (i + 1)) (i + 1) s := by
            intro s2 b7 b8 ℓ' h2 l1 l2 h3
            subst h2
            exact ⟨_, by omega, j + 1, _, b7, b8, by rw [h3]; rfl, rfl, by omega, by omega, l1, by omega, hp⟩
          refine SW.cons (S1.ifs (BJ.cmp (b := decide (tj = ti)) (EJ.idx (z := .str tj) (EJ.var F at1 at1) (EJ.var F at6 at6) (by rw [idx_lst (by simp; omega), at_nat]; simp [htj]) (fun _ _ _ _ h => by cases h)) (EJ.idx (z := .str ti) (EJ.var F at1 at1) (EJ.var F at4 at4) (by rw [idx_lst (by simp; omega), at_nat]; simp [hti]) (fun _ _ _ _ h => by cases h)) ?_) (fun q => ?_) (fun q => ?_))
          · rfl
          · have q : tj = ti := by simpa using q
            refine SW.cons (S1.ifs (BJ.cmp (b := decide (h = hI)) (EJ.idx (z := .int h) (EJ.var F at0 at0) (EJ.var F at6 at6) (by rw [idx_lst (by simp; omega), at_nat]; simp [hh]) (fun _ _ _ _ h => by cases h)) (EJ.var F at5 at5) ?_ rfl) (fun r => ?_) (fun r => ?_))
            · rfl
            · have r : h = hI := by simpa using r
              have hq : pumpHit hs tops i j hI h s' = (s'.1, s'.2 ++ [(i, j, j, j)]) := by
                unfold pumpHit
                rw [if_pos (by rw [htj, hti, q]), if_pos r]
              refine SW.cons (S1.append F at3 at3 (EJ.tup (LJ.cons (EJ.var F at4 at4) (LJ.cons (EJ.var F at6 at6) (LJ.cons (EJ.var F at6 at6) (LJ.cons (EJ.var F at6 at6) LJ.nil)))) (by simp; omega)) (SW.nil (SW.nil (SW.cons (S1.inc F at6 at6 (SW.nil (fin _ b7 b8 _ hq hs1' (by simp) ?_)) rfl)))) (by simp; omega))
              simp [PS, quadAV]
            · have r : ¬ h = hI := by simpa using r
              refine SW.cons (S1.ifs (BJ.not (BJ.valO F at2 at2 (by simp; omega))) (fun t => ?_) (fun t => ?_))
              · have t : s'.1 = [] := by simpa using t
                obtain ⟨K, eK⟩ : ∃ K, K = belowL hs h (hs.length - j) j := ⟨_, rfl⟩
                obtain ⟨N, eN⟩ : ∃ N, N = belowL hs hI (hs.length - K) K := ⟨_, rfl⟩
                have bK := belowL_le (hs := hs) (least := h) (hs.length - j) j (by omega)
                rw [← eK] at bK
                have bN := belowL_le (hs := hs) (least := hI) (hs.length - K) K (by omega)
                rw [← eN] at bN
                have hq : pumpHit hs tops i j hI h s' = if N < tops.length ∧ hs[K]? = some (h - 1) ∧ hs[N]? = some (hI - 1) then ([(i, j, K, N)], s'.2) else s' := by
                  unfold pumpHit
                  rw [if_pos (by rw [htj, hti, q]), if_neg r, if_pos t, ← eK, ← eN]
                refine SW.cons (S1.assign (a := .int (K : Nat)) F at7 (EJ.callFn F hb gb (LJ.cons (EJ.var F at0 at0) (LJ.cons (EJ.var F at6 at6) (LJ.cons (EJ.idx (z := .int h) (EJ.var F at0 at0) (EJ.var F at6 at6) (by rw [idx_lst (by simp; omega), at_nat]; simp [hh]) (fun _ _ _ _ h => by cases h)) LJ.nil))) (by rw [eK]; exact below_ok hb g1 (by omega) (by omega))) ?_ (.inl rfl) rfl)
                refine SW.cons (S1.assign (a := .int (N : Nat)) F at8 (EJ.callFn F hb gb (LJ.cons (EJ.var F at0 at0) (LJ.cons (EJ.var F at7 at7) (LJ.cons (EJ.var F at5 at5) LJ.nil))) (by rw [eN]; exact below_ok hb g1 (by omega) (by omega))) ?_ (.inl rfl) rfl)
                by_cases lN : N < tops.length
                · obtain ⟨hk, hhk⟩ : ∃ v, hs[K]? = some v := ⟨_, List.getElem?_eq_getElem (by omega)⟩
                  obtain ⟨hn, hhn⟩ : ∃ v, hs[N]? = some v := ⟨_, List.getElem?_eq_getElem (by omega)⟩
                  refine SW.cons (S1.ifs (b := decide (hk = h - 1 ∧ hn = hI - 1)) (BJ.to (BJ.and (BJ.cmp (EJ.var F at8 at8) (EJ.lenL F g1 (EJ.var F at1 at1) (by simp; omega) rfl (fun _ => rfl)) rfl rfl) fun _ => BJ.and (BJ.cmp (EJ.idx (z := .int hk) (EJ.var F at0 at0) (EJ.var F at7 at7) (by rw [idx_lst (by simp; omega), at_nat]; simp [hhk]) (fun _ _ _ _ h => by cases h)) (EJ.bin (z := .int (h - 1)) (EJ.idx (z := .int h) (EJ.var F at0 at0) (EJ.var F at6 at6) (by rw [idx_lst (by simp; omega), at_nat]; simp [hh]) (fun _ _ _ _ h => by cases h)) (EJ.int 1) rfl) rfl rfl) fun _ => BJ.and (BJ.cmp (EJ.idx (z := .int hn) (EJ.var F at0 at0) (EJ.var F at8 at8) (by rw [idx_lst (by simp; omega), at_nat]; simp [hhn]) (fun _ _ _ _ h => by cases h)) (EJ.bin (z := .int (hI - 1)) (EJ.var F at5 at5) (EJ.int 1) rfl) rfl rfl) fun _ => BJ.and_nil) (by rw [Bool.eq_iff_iff]; simp [lN])) (fun u => ?_) (fun u => ?_))
                  · have u : hk = h - 1 ∧ hn = hI - 1 := by simpa using u
                    rw [if_pos ⟨lN, by rw [hhk, u.1], by rw [hhn, u.2]⟩] at hq
                    refine SW.cons (S1.append F at2 at2 (EJ.tup (LJ.cons (EJ.var F at4 at4) (LJ.cons (EJ.var F at6 at6) (LJ.cons (EJ.var F at7 at7) (LJ.cons (EJ.var F at8 at8) LJ.nil)))) (by simp; omega)) (SW.nil (SW.nil (SW.nil (SW.nil (SW.cons (S1.inc F at6 at6 (SW.nil (fin _ (.fz (.int (K : Nat))) (.fz (.int (N : Nat))) _ hq (by simp) (by simp) ?_)) rfl)))))) (by simp; omega))
                    simp [PS, quadAV, t]
                  · have u : ¬ (hk = h - 1 ∧ hn = hI - 1) := by simpa using u
                    rw [if_neg (fun w => u ⟨by simpa [hhk] using w.2.1, by simpa [hhn] using w.2.2⟩)] at hq
                    exact SW.nil (SW.nil (SW.nil (SW.nil (SW.cons (S1.inc F at6 at6 (SW.nil (fin _ (.fz (.int (K : Nat))) (.fz (.int (N : Nat))) _ hq hs1' (by omega) rfl)) rfl)))))
                · rw [if_neg (fun w => lN w.1)] at hq
                  refine SW.cons (S1.ifs (b := false) (BJ.to (BJ.and (c := false) (BJ.cmp (EJ.var F at8 at8) (EJ.lenL F g1 (EJ.var F at1 at1) (by simp; omega) rfl (fun _ => rfl)) rfl rfl) fun u => ?_) (by simp)) (fun u => nomatch u) (fun u => ?_))
                  · exact absurd (by simpa using u) lN
                  · exact SW.nil (SW.nil (SW.nil (SW.nil (SW.cons (S1.inc F at6 at6 (SW.nil (fin _ (.fz (.int (K : Nat))) (.fz (.int (N : Nat))) _ hq hs1' (by omega) rfl)) rfl)))))
              · have t : ¬ s'.1 = [] := by simpa using t
                refine SW.nil (SW.nil (SW.nil (SW.cons (S1.inc F at6 at6 (SW.nil (fin s' b7 b8 _ ?_ hs1' (by omega) rfl)) rfl))))
                unfold pumpHit
                rw [if_pos (by rw [htj, hti, q]), if_neg r, if_neg t]
          · have q : ¬ tj = ti := by simpa using q
            refine SW.nil (SW.cons (S1.inc F at6 at6 (SW.nil (fin s' b7 b8 _ ?_ hs1' (by omega) rfl)) rfl))
            unfold pumpHit
            rw [if_neg (by rw [htj, hti]; simpa using q)]
        · have e : ¬ (2 < hI ∧ hI ≤ h) := by simpa using e
          refine SW.nil ⟨i + 1, s', _, _, _, b7, b8, rfl, by omega, rfl, hs1', by omega, ?_⟩
          have z : pumpIn hs tops i hI (tops.length - (i + 1)) (i + 1) s = s' := by rw [← hp]; exact if_neg e
          rw [z] at hs3
          exact hs3
      · have hj' : j = tops.length := by omega
        subst hj'
        refine ⟨false, BJ.to (BJ.and (c := false) (BJ.cmp (EJ.var F at5 at5) (EJ.int 2) rfl rfl) fun _ => BJ.to (BJ.and (c := false) (BJ.cmp (EJ.var F at6 at6) (EJ.lenL F g1 (EJ.var F at1 at1) (by simp; omega) rfl (fun _ => rfl)) rfl rfl) fun e => ?_) (by simp)) (by simp), (fun e => nomatch e), fun _ => ?_⟩
        · simp at e
        · refine SW.nil ⟨i + 1, s', _, _, _, b7, b8, rfl, by omega, rfl, hs1', by omega, ?_⟩
          have z : pumpIn hs tops i hI (tops.length - (i + 1)) (i + 1) s = s' := by rw [← hp, Nat.sub_self, pumpIn]
          rw [z] at hs3
          exact hs3
    · obtain ⟨i, s, a4, a5, a6, a7, a8, hr, hi, rfl, hs1, hs2, hs3⟩ := hP
      have hi' : i = tops.length := by
        have := congrArg List.length hr
        simp at this; omega
      subst hi'
      have hs3 : s = pumpAll hs tops tops.length 0 ([], []) := by rw [← hs3]; simp [pumpAll]
      refine SW.freeze (i := 2) (l := s.1.map quadAV) rfl (SW.freeze (i := 3) (l := s.2.map quadAV) rfl (SW.cons (S1.ret (EJ.bin (EJ.var F at2 at2) (EJ.slc (EJ.var F at3 at3) PJ.none (PJ.some (EJ.int 1)) (slc_lst (by simp; omega))) (add_lst ?_)) ?_)))
      · rw [show (1 : Int) = ((1 : Nat) : Int) from rfl, pick_to]; simp; omega
      · rw [show (1 : Int) = ((1 : Nat) : Int) from rfl, pick_to, ← hs3]
        show some (AV.lst _) = some (AV.lst _)
        simp
  · obtain ⟨v1, v2, rfl⟩ := two_of hv
    rfl
end
section
variable {C : Cx}
/-! ## the generator -/
def lastL {α : Type} (st : List α) : List α := match st.getLast? with | some x => [x] | none => []
def moveOne (st : List Str) (s : Str) : List Str := if s = "#pop" then lessL st else if s = "#push" then st ++ lastL st else st ++ [s]
def strsOf : List PyData → List Str
  | .str s :: l => s :: strsOf l
  | _ => []
def moveL (mv : PyData) (st : List Str) : List Str := match mv with
  | .tuple l => (strsOf l).foldl moveOne st
  | .int i => if st.length ≤ i.natAbs then st.take 1 else st.take (clipN (some i) 0 st.length)
  | .str _ => st ++ lastL st
  | _ => st
def moveAV : PyData → AV
  | .int i => .int i
  | .str s => .str s
  | .tuple l => .tup ((strsOf l).map .str)
  | _ => .none
abbrev Rule := Str × List Str × PyData
abbrev Tab := List (Str × List Rule)
def ruleAV (r : Rule) : AV := .tup [.ext (.mat r.1), .ext (.tok r.2.1), moveAV r.2.2]
def tokAV (T : Tab) : AV := .dS (T.map (·.1)) (T.map fun p => .lst (p.2.map ruleAV))
def look (T : Tab) (s : Str) : List Rule := ((T.find? fun p => decide (p.1 = s)).map (·.2)).getD []
def hitR (text : Str) (pos : Nat) (r : Rule) : Bool := decide ((text.cps.toList[pos]?).map (fun c => (⟨#[c]⟩ : Str)) = some r.1)
def tokOne (pos : Nat) (names : List Str) (c : Nat) : AV := .tup [.int pos, .ext (.tok names), .str ⟨#[c]⟩]
def lexS (T : Tab) (text : Str) : Nat → Nat → List Str → List AV
  | 0, _, _ => []
  | k + 1, pos, st => match text.cps.toList[pos]? with
    | none => []
    | some c => match (look T ((st.getLast?).getD ⟨#[]⟩)).find? (hitR text pos) with
      | some r => tokOne pos r.2.1 c :: lexS T text k (pos + 1) (moveL r.2.2 st)
      | none => if c = 10 then tokOne pos ["Text", "Whitespace"] c :: lexS T text k (pos + 1) ["root"] else tokOne pos ["Error"] c :: lexS T text k (pos + 1) st

inductive MoveOk (T : Tab) : PyData → Prop
  | none : MoveOk T .none
  | pop (i : Int) : i = -1 ∨ i = -2 → MoveOk T (.int i)
  | push : MoveOk T (.str "#push")
  | tup (l : List Str) : l.length ≤ 4 → (∀ s ∈ l, s = "#pop" ∨ s = "#push" ∨ s ∈ T.map (·.1)) → MoveOk T (.tuple (l.map .str))
structure TabOk (T : Tab) : Prop where
  root : ("root" : Str) ∈ T.map (·.1)
  few : T.length ≤ 100
  rules : ∀ p ∈ T, p.2.length ≤ 100 ∧ ∀ r ∈ p.2, MoveOk T r.2.2
def Good (T : Tab) (st : List Str) : Prop := st ≠ [] ∧ ∀ s ∈ st, s ∈ T.map (·.1)

def genF : Fn := fnIn PySem.Challenge.pw_bf5016_01 38 3
def genPs : List Str := ["self", "text", "stack"]
def genXs : List Str := ["pos", "tokendefs", "statestack", "statetokens", "rexmatch", "action", "new_state", "m", "state"]
theorem overF {n : Nat} {A : Around} {b : List Stmt} {e : Env} (a : AOk (n + 1) A) : AOk n (A.over (.func b e) []) :=
  ⟨by show (marksOver [] (A.handled, A.handled)).1 = none; exact a.handled, by
    have := a.depth
    show A.depth + 0 + 1 + n ≤ 890; omega, by
    have := a.units
    show A.units + 0 + 3 + 8 * n + 100 ≤ 9000; omega⟩
theorem overW {n : Nat} {A : Around} {b : List Stmt} {e : Env} {K H gd lv} {p : Pos} {t : Expr} {body : List Stmt} (a : AOk (n + 1) A) : AOk n (A.over (.whileLoop t body [] e) [loopFrame e K H gd lv (.func b e) p]) :=
  ⟨by show (marksOver [loopFrame e K H gd lv (.func b e) p] (A.handled, A.handled)).1 = none; rw [a.handled]; rfl, by
    have := a.depth
    show A.depth + (1 + 0) + 0 + n ≤ 890; omega, by
    have := a.units
    show A.units + (3 + 0) + 0 + 8 * n + 100 ≤ 9000; omega⟩
theorem overFor {n : Nat} {A : Around} {b : List Stmt} {e : Env} {K H gd lv K' H' gd' lv'} {p p' : Pos} {t : Expr} {body : List Stmt} {tg : Expr} {it : Value} {body' orelse : List Stmt} (a : AOk (n + 1) A) :
    AOk n (A.over (.forLoop tg it body' orelse e) [loopFrame e K' H' gd' lv' (.whileLoop t body [] e) p', loopFrame e K H gd lv (.func b e) p]) :=
  ⟨by show (marksOver [loopFrame e K' H' gd' lv' (.whileLoop t body [] e) p', loopFrame e K H gd lv (.func b e) p] (A.handled, A.handled)).1 = none; rw [a.handled]; rfl, by
    have := a.depth
    show A.depth + (0 + (1 + 0)) + 0 + n ≤ 890; omega, by
    have := a.units
    show A.units + (0 + (3 + 0)) + 0 + 8 * n + 100 ≤ 9000; omega⟩
theorem overBlk {n : Nat} {A : Around} {b : List Stmt} {e : Env} {K H gd lv K' H' gd' lv'} {p p' : Pos} {t : Expr} {body : List Stmt} {orelse : List Stmt} (a : AOk (n + 1) A) :
    AOk n (A.over (.block orelse e) [loopFrame e K' H' gd' lv' (.whileLoop t body [] e) p', loopFrame e K H gd lv (.func b e) p]) :=
  ⟨by show (marksOver [loopFrame e K' H' gd' lv' (.whileLoop t body [] e) p', loopFrame e K H gd lv (.func b e) p] (A.handled, A.handled)).1 = none; rw [a.handled]; rfl, by
    have := a.depth
    show A.depth + (0 + (1 + 0)) + 0 + n ≤ 890; omega, by
    have := a.units
    show A.units + (0 + (3 + 0)) + 0 + 8 * n + 100 ≤ 9000; omega⟩

/-- what the generator's text leans on -/
structure Lex (C : Cx) where
  gType : C.glb "type" (.type "type")
  gLen : C.glb "len" (.builtin "len")
  gIs : C.glb "isinstance" (.builtin "isinstance")
  gTup : C.glb "tuple" (.type "tuple")
  gInt : C.glb "int" (.type "int")
  gStr : C.glb "str" (.type "str")
  gAbs : C.glb "abs" (.builtin "abs")
  gList : C.glb "list" (.type "list")
  kTok : Addr
  gTok : C.glb "_TokenType" (.ref kTok)
  vWs : Value
  gWs : C.glb "Whitespace" vWs
  rWs : Rep C C.h₀ (.ext (.tok ["Text", "Whitespace"])) vWs
  vErr : Value
  gErr : C.glb "Error" vErr
  rErr : Rep C C.h₀ (.ext (.tok ["Error"])) vErr
  typ : ∀ nm, CallJ C 0 (.type "type") [.ext (.tok nm)] (.ext (.gen kTok))
  tokens : ∀ T, GetJ C (.lexer T) "_tokens" (tokAV T)
  names : ∀ nm, GetJ C (.tok nm) "names" (.tup (nm.map .str))
  mat : ∀ l text (pos : Nat), pos ≤ 10000 → text.length ≤ 10000 → CallM C 4 (.mat l) [.str text, .int pos] (if (text.cps.toList[pos]?).map (fun c => (⟨#[c]⟩ : Str)) = some l then .ext (.pm pos l) else .none)
  matK : ∀ l, Keeps' C (.mat l)
  pmT : ∀ p l, TruJ C (.pm p l)
  grp : Addr
  grpM : ∀ p l, MetJ C (.pm p l) "group" grp
  grpF : IsFn C grp
  grpC : ∀ p l, l.length ≤ 10 → CallJ C 4 (.ref grp) [.ext (.pm p l)] (.str l)
  fin : Addr
  finM : ∀ p l, MetJ C (.pm p l) "end" fin
  finF : IsFn C fin
  finC : ∀ (p : Nat) l, l.length ≤ 10 → CallJ C 4 (.ref fin) [.ext (.pm p l)] (.int (p + l.length))

def GS (sf sk : AV) (text : Str) (pos : Nat) (T : Tab) (st : List Str) (rs : List Rule) (a7 a8 a9 a10 a11 : Slot) : List Slot :=
  [.fz sf, .fz (.str text), .fz sk, .fz (.int pos), .fz (tokAV T), .ol (st.map .str), .fz (.lst (rs.map ruleAV)), a7, a8, a9, a10, a11]
def Flat (sl : Slot) : Prop := sl = .un ∨ ∃ a, sl = .fz a

def whBody : Stmt → List Stmt
  | .While _ b _ _ => b
  | _ => []
def forBody : Stmt → List Stmt
  | .For _ _ b _ _ => b
  | _ => []
def ifBody : Stmt → List Stmt
  | .If _ b _ _ => b
  | _ => []
def nth (l : List Stmt) (i : Nat) : Stmt := (l[i]?).getD (.Pass ⟨0, 0, 0, 0⟩)
def mvStmt : Stmt := nth (ifBody (nth (forBody (nth (whBody (nth genF.body 4)) 0)) 1)) 2

section
variable {name qual : Str} {doc pm : Value} {an : Option Addr} {cdv ct : Value} {L a : Addr}
abbrev genFi (name qual : Str) (doc pm : Value) (an : Option Addr) (cdv ct dV : Value) (L a : Addr) : Fi := fiOf (fnOf name qual genF.params genF.body genF.scope dV .none doc pm an cdv ct) L a (genPs ++ genXs)
end

theorem last_map {st : List Str} : (st.map AV.str).getLast? = st.getLast?.map .str := by rw [List.getLast?_map]
theorem lessL_snoc {α : Type} {st : List α} {y : α} (h : 1 < (st ++ [y]).length) : lessL (st ++ [y]) = st := by
  unfold lessL; rw [if_pos h]; simp

theorem move_one {n : Nat} {fi : Fi} {name qual doc pm an cdv ct dV L a} (hfi : fi = genFi name qual doc pm an cdv ct dV L a) (F : fi.Ok) (X : Lex C) {sf sk : AV} {text : Str} {pos : Nat} {T : Tab} {st : List Str} {rs : List Rule} {a7 a8 a9 a10 : Slot} {s : Str} {G : Out → Prop}
    (hst : st ≠ []) (hz : st.length ≤ 100000) (h : G (.nxt (GS sf sk text pos T (moveOne st s) rs a7 a8 a9 a10 (.fz (.str s))))) :
    SW C n fi (forBody (nth (ifBody (nth (ifBody mvStmt) 0)) 0)) (GS sf sk text pos T st rs a7 a8 a9 a10 (.fz (.str s))) G := by
  subst hfi
  have zz := sz_eq
  apply SW.cons; apply S1.ifs
  · apply BJ.cmp
    · exact EJ.var F at11 at11
    · exact EJ.str _
    · rfl
    · rfl
  · intro e
    have e : s = "#pop" := by simpa using e
    unfold moveOne at h; rw [if_pos e] at h
    apply SW.cons; apply S1.ifs
    · apply BJ.cmp
      · apply EJ.lenO F X.gLen at5 at5
        · simp; omega
        · rfl
      · exact EJ.int _
      · rfl
      · rfl
    · intro e2
      have e2 : 1 < st.length := by simp at e2; omega
      obtain ⟨st', y, rfl⟩ : ∃ st' y, st = st' ++ [y] := ⟨st.dropLast, st.getLast hst, (List.dropLast_concat_getLast hst).symm⟩
      rw [lessL_snoc (by simpa using e2)] at h
      refine SW.cons (S1.pop (l := st'.map .str) (y := y) F at5 (by simp [GS]) (by simp at hz ⊢; omega) ?_ rfl (fun _ => rfl) (fun env h => by unfold interactive; rw [h]; rfl))
      exact SW.nil (SW.nil (SW.nil h))
    · intro e2
      have e2 : ¬ 1 < st.length := by simp at e2; omega
      unfold lessL at h; rw [if_neg e2] at h
      exact SW.nil (SW.nil (SW.nil h))
  · intro e
    have e : ¬ s = "#pop" := by simpa using e
    unfold moveOne at h; rw [if_neg e] at h
    apply SW.cons; apply S1.ifs
    · apply BJ.cmp
      · exact EJ.var F at11 at11
      · exact EJ.str _
      · rfl
      · rfl
    · intro e2
      have e2 : s = "#push" := by simpa using e2
      rw [if_pos e2] at h
      obtain ⟨y, hy⟩ : ∃ y, st.getLast? = some y := ⟨_, List.getLast?_eq_some_getLast hst⟩
      unfold lastL at h; rw [hy] at h
      refine SW.cons (S1.append (l := st.map .str) (a := .str y) F at5 at5 (EJ.lastO F at5 at5 (EJ.neg (EJ.int _)) (by rw [last_map, hy]; rfl) (by simp; omega)) ?_ (by simp; omega) rfl (fun _ => rfl) (fun _ => rfl) (fun env h => by unfold interactive; rw [h]; rfl))
      refine SW.nil (SW.nil ?_)
      have : (GS sf sk text pos T st rs a7 a8 a9 a10 (.fz (.str s))).set 5 (.ol (st.map .str ++ [.str y])) = GS sf sk text pos T (st ++ [y]) rs a7 a8 a9 a10 (.fz (.str s)) := by simp [GS]
      rw [this]; exact SW.nil h
    · intro e2
      have e2 : ¬ s = "#push" := by simpa using e2
      rw [if_neg e2] at h
      refine SW.cons (S1.append (l := st.map .str) (a := .str s) F at5 at5 (EJ.var F at11 at11) ?_ (by simp; omega) rfl (fun _ => rfl) (fun _ => rfl) (fun env h => by unfold interactive; rw [h]; rfl))
      refine SW.nil (SW.nil ?_)
      have : (GS sf sk text pos T st rs a7 a8 a9 a10 (.fz (.str s))).set 5 (.ol (st.map .str ++ [.str s])) = GS sf sk text pos T (st ++ [s]) rs a7 a8 a9 a10 (.fz (.str s)) := by simp [GS]
      rw [this]; exact SW.nil h

theorem find_tok {T : Tab} {s : Str} (h : s ∈ T.map (·.1)) : findK s (T.map (·.1)) (T.map fun p => AV.lst (p.2.map ruleAV)) = some (.lst ((look T s).map ruleAV)) := by
  induction T with
  | nil => cases h
  | cons p T ih =>
    unfold look
    simp only [List.map_cons, findK, List.find?_cons]
    by_cases e : p.1 = s
    · simp [e]
    · rw [if_neg e]
      simp only [e, decide_false]
      have h' : s ∈ T.map (·.1) := by
        rcases List.mem_cons.mp h with z | z
        · exact absurd z.symm e
        · exact z
      exact ih h'
theorem lessL_good {T : Tab} {st : List Str} (g : Good T st) : Good T (lessL st) := by
  unfold lessL
  split
  · rename_i h
    refine ⟨fun z => ?_, fun s hs => g.2 s (List.mem_of_mem_take hs)⟩
    have := congrArg List.length z
    simp at this; omega
  · exact g
theorem lastL_good {T : Tab} {st : List Str} (g : Good T st) : Good T (st ++ lastL st) := by
  refine ⟨by simp [g.1], fun s hs => ?_⟩
  rcases List.mem_append.mp hs with z | z
  · exact g.2 s z
  · unfold lastL at z
    split at z
    · rename_i y hy
      rw [List.mem_singleton.mp z]
      exact g.2 y (List.mem_of_getLast? hy)
    · cases z
theorem moveOne_good {T : Tab} {st : List Str} {s : Str} (g : Good T st) (h : s = "#pop" ∨ s = "#push" ∨ s ∈ T.map (·.1)) : Good T (moveOne st s) := by
  unfold moveOne
  split
  · exact lessL_good g
  split
  · exact lastL_good g
  · rename_i h1 h2
    have h3 := (h.resolve_left h1).resolve_left h2
    refine ⟨by simp, fun x hx => ?_⟩
    rcases List.mem_append.mp hx with z | z
    · exact g.2 x z
    · rw [List.mem_singleton.mp z]; exact h3
theorem lastL_len {α : Type} (st : List α) : (lastL st).length ≤ 1 := by unfold lastL; split <;> simp
theorem moveOne_len (st : List Str) (s : Str) : (moveOne st s).length ≤ st.length + 1 := by
  unfold moveOne
  have := lessL_len st
  have := lastL_len st
  split
  · omega
  split
  · rw [List.length_append]; omega
  · simp
theorem strsOf_map : ∀ l : List Str, strsOf (l.map .str) = l
  | [] => rfl
  | s :: l => by simp [strsOf, strsOf_map l]
theorem foldl_good {T : Tab} : ∀ (l : List Str) (st : List Str), Good T st → (∀ s ∈ l, s = "#pop" ∨ s = "#push" ∨ s ∈ T.map (·.1)) → Good T (l.foldl moveOne st) ∧ (l.foldl moveOne st).length ≤ st.length + l.length
  | [], st, g, _ => ⟨g, Nat.le_refl _⟩
  | s :: l, st, g, h => by
    have := foldl_good l (moveOne st s) (moveOne_good g (h s (.head _))) fun x hx => h x (.tail _ hx)
    have := moveOne_len st s
    exact ⟨(foldl_good l _ (moveOne_good g (h s (.head _))) fun x hx => h x (.tail _ hx)).1, by simp only [List.foldl_cons, List.length_cons]; omega⟩
theorem take_good {T : Tab} {st : List Str} {k : Nat} (g : Good T st) (h : 0 < k) : Good T (st.take k) := by
  refine ⟨fun z => ?_, fun s hs => g.2 s (List.mem_of_mem_take hs)⟩
  have e := congrArg List.length z
  have := List.length_pos_iff.mpr g.1
  rw [List.length_take, List.length_nil] at e; omega
theorem moveL_good {T : Tab} {mv : PyData} {st : List Str} (m : MoveOk T mv) (g : Good T st) : Good T (moveL mv st) ∧ (moveL mv st).length ≤ st.length + 4 := by
  have pos := List.length_pos_iff.mpr g.1
  cases m with
  | none => exact ⟨g, by simp [moveL]⟩
  | push => exact ⟨lastL_good g, by have := lastL_len st; simp only [moveL, List.length_append]; omega⟩
  | pop i hi =>
    unfold moveL
    dsimp only
    split
    · exact ⟨take_good g (by omega), by simp; omega⟩
    · refine ⟨take_good g ?_, by simp; omega⟩
      unfold clipN
      rcases hi with rfl | rfl <;> simp at * <;> omega
  | tup l hl hv =>
    unfold moveL
    dsimp only
    rw [strsOf_map]
    have := foldl_good l st g hv
    exact ⟨this.1, by omega⟩

theorem move_block {n : Nat} {fi : Fi} {name qual doc pm an cdv ct dV L a} (hfi : fi = genFi name qual doc pm an cdv ct dV L a) (F : fi.Ok) (X : Lex C) {sf sk : AV} {text : Str} {pos : Nat} {T : Tab} {st : List Str} {rs : List Rule} {a7 a8 a10 a11 : Slot} {mv : PyData} {G : Out → Prop}
    (m : MoveOk T mv) (g : Good T st) (hz : st.length ≤ 90000) (hrs : rs = look T ((st.getLast?).getD ⟨#[]⟩)) (h11 : Flat a11)
    (h : ∀ a11', Flat a11' → G (.nxt (GS sf sk text pos T (moveL mv st) (look T (((moveL mv st).getLast?).getD ⟨#[]⟩)) a7 a8 (.fz (moveAV mv)) a10 a11'))) :
    S1 C n fi mvStmt (GS sf sk text pos T st rs a7 a8 (.fz (moveAV mv)) a10 a11) G := by
  have zz := sz_eq
  have hF := F
  have hfi' := hfi
  subst hfi
  -- the last step
  have fin : ∀ {st' : List Str} {a11' : Slot} {st2 : Stmt}, st' = moveL mv st → Flat a11' → st2 = nth (ifBody mvStmt) 1 →
      SW C n (genFi name qual doc pm an cdv ct dV L a) [st2] (GS sf sk text pos T st' rs a7 a8 (.fz (moveAV mv)) a10 a11') G := by
    intro st' a11' st2 hst hfl hst2
    subst hst2
    have gg := moveL_good m g
    rw [← hst] at gg
    obtain ⟨y, hy⟩ : ∃ y, st'.getLast? = some y := ⟨_, List.getLast?_eq_some_getLast gg.1.1⟩
    have hyk := gg.1.2 y (List.mem_of_getLast? hy)
    refine SW.cons (S1.assign (a := .lst ((look T y).map ruleAV)) F at6 ?_ ?_ (.inl rfl) rfl)
    · apply EJ.idx
      · exact EJ.var F at4 at4
      · exact EJ.lastO F at5 at5 (EJ.neg (EJ.int _)) (by rw [last_map, hy]; rfl) (by simp; omega)
      · exact find_tok hyk
      · intro _ _ _ _ h; cases h
    · refine SW.nil ?_
      have := h a11' hfl
      rw [← hst, hy] at this
      exact this
  apply S1.ifs
  · apply BJ.cmp
    · exact EJ.var F at9 at9
    · exact EJ.none
    · rfl
    · rfl
  · intro e
    have gg := moveL_good m g
    apply SW.cons; apply S1.ifs
    · apply BJ.isinst F X.gIs (EJ.var F at9 at9) X.gTup (b := match mv with | .tuple _ => true | _ => false)
      · cases m with
        | none => cases e
        | pop i hi => rfl
        | push => rfl
        | tup l h1 h2 => rfl
      · rfl
      · rfl
      · decide
      · exact fun _ => rfl
    · intro e2
      cases m with
      | none => cases e2
      | pop i hi => cases e2
      | push => cases e2
      | tup l hl hv =>
        apply SW.cons
        refine S1.for_ F (EJ.var F at9 at9) rfl (fun rest ℓ => ∃ (l' : List Str) (st' : List Str) (b : Slot), rest = l'.map .str ∧ l'.foldl moveOne st' = moveL (.tuple (l.map .str)) st ∧ Good T st' ∧ st'.length + l'.length ≤ 95000 ∧ (∀ s ∈ l', s = "#pop" ∨ s = "#push" ∨ s ∈ T.map (·.1)) ∧ Flat b ∧
          ℓ = GS sf sk text pos T st' rs a7 a8 (.fz (moveAV (.tuple (l.map .str)))) a10 b) ⟨l, st, a11, ?_, ?_, g, by omega, hv, h11, rfl⟩ (fun x rest ℓ hP => ?_) (fun ℓ hP => ?_) (fun _ _ => rfl)
        · show (strsOf (l.map .str)).map AV.str = _; rw [strsOf_map]
        · unfold moveL; dsimp only; rw [strsOf_map]
        · obtain ⟨l', st', b, h1, h2, h3, h4, h5, h6, rfl⟩ := hP
          cases l' with
          | nil => cases h1
          | cons s l' =>
            simp only [List.map_cons, List.cons.injEq] at h1
            obtain ⟨rfl, rfl⟩ := h1
            refine ⟨_, TJ.name F (i := 11) rfl, ?_⟩
            simp only [List.length_cons] at h4
            refine move_one rfl F X h3.1 (by omega) ?_
            have := moveOne_len st' s
            exact ⟨l', moveOne st' s, _, rfl, h2, moveOne_good h3 (h5 s (.head _)), by omega, fun x hx => h5 x (.tail _ hx), .inr ⟨_, rfl⟩, rfl⟩
        · obtain ⟨l', st', b, h1, h2, h3, h4, h5, h6, rfl⟩ := hP
          cases l' with
          | cons s l' => cases h1
          | nil =>
            exact SW.nil (fin h2 h6 rfl)
    · intro e2
      have e3 : ∀ l, mv ≠ .tuple l := fun l z => by subst z; cases e2
      apply SW.cons; apply S1.ifs
      · apply BJ.isinst F X.gIs (EJ.var F at9 at9) X.gInt (b := match mv with | .int _ => true | _ => false)
        · cases m with
          | none => cases e
          | pop i hi => rfl
          | push => rfl
          | tup l h1 h2 => exact absurd rfl (e3 _)
        · rfl
        · rfl
        · decide
        · exact fun _ => rfl
      · intro e4
        cases m with
        | none => cases e4
        | push => cases e4
        | tup l h1 h2 => exact absurd rfl (e3 _)
        | pop i hi =>
          have absJ : CallJ C n (.builtin "abs") [.int i] (.int (if i < 0 then -i else i)) := fun A M s vs ak h0 hM hM0 rl Q E q => by
            obtain ⟨v, rfl, r⟩ := rl.one
            obtain ⟨t, rfl⟩ := r.int_
            exact call_abs_int fun u tk => q _ _ (.toks _) (.int _ _)
          have pos' := List.length_pos_iff.mpr g.1
          have hml : moveL (.int i) st = if st.length ≤ i.natAbs then st.take 1 else st.take (clipN (some i) 0 st.length) := rfl
          apply SW.cons; apply S1.ifs
          · apply BJ.cmp
            · exact EJ.callB F X.gAbs (LJ.cons (EJ.var F at9 at9) LJ.nil (fun _ => rfl)) absJ rfl (by decide) (fun _ => rfl) (fun _ _ => rfl)
            · apply EJ.lenO F X.gLen at5 at5
              · rw [List.length_map]; omega
              · rfl
            · rfl
            · rfl
          · intro e5
            have e5 : st.length ≤ i.natAbs := by simp at e5; rcases hi with rfl | rfl <;> simp at e5 ⊢ <;> omega
            refine SW.cons (S1.delFrom F at5 at5 (EJ.int 1) (by simp; omega) ?_)
            refine SW.nil (SW.nil (SW.nil ?_))
            have ee : (GS sf sk text pos T st rs a7 a8 (.fz (moveAV (.int i))) a10 a11).set 5 (.ol ((st.map AV.str).take (clipN (some 1) 0 (st.map AV.str).length))) = GS sf sk text pos T (moveL (.int i) st) rs a7 a8 (.fz (moveAV (.int i))) a10 a11 := by
              rw [hml, if_pos e5]
              have : clipN (some 1) 0 (st.map AV.str).length = 1 := by unfold clipN; simp; omega
              rw [this]; simp [GS]
            rw [ee]
            exact fin rfl h11 rfl
          · intro e5
            have e5 : ¬ st.length ≤ i.natAbs := by simp at e5; rcases hi with rfl | rfl <;> simp at e5 ⊢ <;> omega
            refine SW.cons (S1.delFrom F at5 at5 (EJ.var F at9 at9) (by simp; omega) ?_)
            refine SW.nil (SW.nil (SW.nil ?_))
            have ee : (GS sf sk text pos T st rs a7 a8 (.fz (moveAV (.int i))) a10 a11).set 5 (.ol ((st.map AV.str).take (clipN (some i) 0 (st.map AV.str).length))) = GS sf sk text pos T (moveL (.int i) st) rs a7 a8 (.fz (moveAV (.int i))) a10 a11 := by
              rw [hml, if_neg e5]
              simp [GS]
            rw [ee]
            exact fin rfl h11 rfl
      · intro e4
        have e5 : ∀ l, mv ≠ .int l := fun l z => by subst z; cases e4
        cases m with
        | none => cases e
        | pop i hi => exact absurd rfl (e5 _)
        | tup l h1 h2 => exact absurd rfl (e3 _)
        | push =>
          apply SW.cons; apply S1.ifT
          · apply BJ.to
            · apply BJ.cmp
              · exact EJ.var F at9 at9
              · exact EJ.str _
              · rfl
              · rfl
            · decide
          · obtain ⟨y, hy⟩ : ∃ y, st.getLast? = some y := ⟨_, List.getLast?_eq_some_getLast g.1⟩
            refine SW.cons (S1.append (l := st.map .str) (a := .str y) F at5 at5 (EJ.lastO F at5 at5 (EJ.neg (EJ.int _)) (by rw [last_map, hy]; rfl) (by simp; omega)) ?_ (by simp; omega) rfl (fun _ => rfl) (fun _ => rfl) (fun env h => by unfold interactive; rw [h]; rfl))
            refine SW.nil (SW.nil (SW.nil ?_))
            have ee : (GS sf sk text pos T st rs a7 a8 (.fz (moveAV (.str "#push"))) a10 a11).set 5 (.ol (st.map .str ++ [.str y])) = GS sf sk text pos T (moveL (.str "#push") st) rs a7 a8 (.fz (moveAV (.str "#push"))) a10 a11 := by
              have : moveL (.str "#push") st = st ++ [y] := by show st ++ lastL st = _; unfold lastL; rw [hy]
              rw [this]; simp [GS]
            rw [ee]
            exact fin rfl h11 rfl
  · intro e
    have : mv = .none := by cases m <;> first | rfl | cases e
    subst this
    refine SW.nil ?_
    have := h a11 h11
    rw [hrs]
    exact this
end
section
variable {C : Cx}
def hitA (text : Str) (pos : Nat) : AV → Bool
  | .tup (.ext (.mat l) :: _) => decide ((text.cps.toList[pos]?).map (fun c => (⟨#[c]⟩ : Str)) = some l)
  | _ => false
theorem find_rule {text : Str} {pos : Nat} : ∀ {rs : List Rule}, (rs.map ruleAV).find? (hitA text pos) = (rs.find? (hitR text pos)).map ruleAV
  | [] => rfl
  | r :: rs => by
    simp only [List.map_cons, List.find?_cons]
    have : hitA text pos (ruleAV r) = hitR text pos r := rfl
    rw [this]
    cases hitR text pos r
    · exact find_rule
    · rfl
def genRE (LG : Addr) : GenEnd := fun n s₀ r s₁ => r = .ok (.ret .none) ∧ PE LG "statestack" n s₀ s₁
def wTest : Stmt → Expr
  | .While t _ _ _ => t
  | _ => .Constant .none 0 ⟨0, 0, 0, 0⟩
abbrev gW : Stmt := nth genF.body 4

theorem gs_lone {fi : Fi} {name qual doc pm an cdv ct dV L a} (hfi : fi = genFi name qual doc pm an cdv ct dV L a) {sf sk : AV} {text : Str} {pos : Nat} {T : Tab} {st : List Str} {rs : List Rule} {a7 a8 a9 a10 a11 : Slot} (h7 : Flat a7) (h8 : Flat a8) (h9 : Flat a9) (h10 : Flat a10) (h11 : Flat a11) :
    Lone fi (GS sf sk text pos T st rs a7 a8 a9 a10 a11) 5 "statestack" := by
  subst hfi
  refine ⟨fun j y c e => ?_, rfl, ⟨_, rfl⟩, fun j sl hj e => ?_⟩
  · have : (genFi name qual doc pm an cdv ct dV L a).vs = (["self", "text", "stack", "pos", "tokendefs", "statestack", "statetokens", "rexmatch", "action", "new_state", "m", "state"] : List Str).map fun (x : Str) => (x, Loc.loc) := rfl
    rw [this, List.getElem?_map] at e
    simp at e
  · have hlt := (List.getElem?_eq_some_iff.mp e).1
    have hlt : j < 12 := hlt
    have hc : j = 0 ∨ j = 1 ∨ j = 2 ∨ j = 3 ∨ j = 4 ∨ j = 6 ∨ j = 7 ∨ j = 8 ∨ j = 9 ∨ j = 10 ∨ j = 11 := by omega
    rcases hc with rfl | rfl | rfl | rfl | rfl | rfl | rfl | rfl | rfl | rfl | rfl <;> cases e <;> first | exact .inr ⟨_, rfl⟩ | assumption

theorem look_ok {T : Tab} (hT : TabOk T) {s : Str} {r : Rule} (h : r ∈ look T s) : MoveOk T r.2.2 := by
  unfold look at h
  cases e : T.find? fun p => decide (p.1 = s) with
  | none => rw [e] at h; cases h
  | some p => rw [e] at h; exact (hT.rules p (List.mem_of_find?_eq_some e)).2 r h
theorem drop_next {α : Type} {l : List α} {n : Nat} {a : α} {m : List α} (h : l.drop n = a :: m) : l.drop (n + 1) = m := by
  rw [← List.drop_drop, h]; rfl
theorem CallM.less {n k : Nat} {x : Ext} {as : List AV} {r : AV} (h : CallM C k x as r) (le : k ≤ n) : CallM C n x as r := fun A M s v vs ak => h A M s v vs (ak.less le)
theorem g_leaveF {A : Around} {RE : GenEnd} {Y : Protocol} {k : Nat} {s₀ : Shared} {c c' : Code} {fs : List Frame} {s : Shared} {K : Flow → Sem Fin} {H : Value → Sem Fin} {gd lv} {p : Pos} {env : Env} (f : Flow) (h : GSeg C A RE Y k s₀ c (K f) fs s) :
    GSeg C A RE Y k s₀ c' (.pure (.done f)) (loopFrame env K H gd lv c p :: fs) s := seg_leaf (.ok f) h
theorem gen_loop {A : Around} {fi : Fi} {name qual doc pm an cdv ct dV L a} (hfi : fi = genFi name qual doc pm an cdv ct dV L a) (F : fi.Ok) (X : Lex C) (ak : AOk 12 A) {LT : Addr} {MoL : List Addr} {sf sk : AV} {text : Str} {T : Tab} {toks : List AV} {K : Flow → Sem Fin} {H : Value → Sem Fin} {p : Pos}
    (hT : TabOk T) (hlen : text.length ≤ 5000) (htoks : toks.length = text.length)
    (hend : ∀ s₀ s ℓ, GI C "statestack" LT "told" MoL fi s₀ s ℓ → GSeg C A (genRE L) (YG C toks fi.env.locals "statestack" LT "told" MoL) 0 s₀ (.func genF.body fi.env) (K .next) [] s) :
    ∀ (k pos : Nat) (st : List Str) (rs : List Rule) (a7 a8 a9 a10 a11 : Slot) (s₀ s : Shared), pos + k = text.length → Good T st → st.length + 4 * k ≤ 80000 → rs = look T ((st.getLast?).getD ⟨#[]⟩) → Flat a7 → Flat a8 → Flat a9 → Flat a10 → Flat a11 →
      toks.drop pos = lexS T text k pos st → GI C "statestack" LT "told" MoL fi s₀ s (GS sf sk text pos T st rs a7 a8 a9 a10 a11) →
      GSeg C A (genRE L) (YG C toks fi.env.locals "statestack" LT "told" MoL) k s₀ (.whileLoop (wTest gW) (whBody gW) [] fi.env) ((model C.prog C.w).den (.whileLoop (wTest gW) (whBody gW) [] fi.env)) [loopFrame fi.env K H id id (.func genF.body fi.env) p] s := by
  have zz := sz_eq
  intro k
  induction k with
  | zero =>
    intro pos st rs a7 a8 a9 a10 a11 s₀ s hpk hg hsz hrs h7 h8 h9 h10 h11 htk G
    have hnone : text.cps.toList[pos]? = none := by
      apply List.getElem?_eq_none
      rw [Array.length_toList]; show text.length ≤ pos; omega
    have hno : ∀ x ∈ rs.map ruleAV, hitA text pos x = false := fun x hx => by
      obtain ⟨r, hr, rfl⟩ := List.mem_map.mp hx
      show decide _ = false
      rw [hnone]; simp
    refine g_turn (n := 11) G (overW ak) ?_ fun s1 G1 => ?_
    · subst hfi
      exact BJ.val (EJ.int 1) rfl (fun _ _ => rfl)
    refine seg_execs_cons ?_
    refine g_for (n := 10) G1 (overW (ak.less (by omega))) (a := .lst (rs.map ruleAV)) ?_ rfl (fun _ _ => rfl) (hitA text pos) (fun ℓ => ∃ a7 a8 a9 a10 a11, Flat a7 ∧ Flat a8 ∧ Flat a9 ∧ Flat a10 ∧ Flat a11 ∧ ℓ = GS sf sk text pos T st rs a7 a8 a9 a10 a11) ⟨a7, a8, a9, a10, a11, h7, h8, h9, h10, h11, rfl⟩
      (fun it p' => overFor (ak.less (by omega))) (fun x ℓ hx hm hI => ?_) (fun x ℓ hx hI => ?_) (fun hn ℓ p' s' hI G' => ?_)
    · subst hfi; exact EJ.var F at6 at6
    · -- no hit
      obtain ⟨b7, b8, b9, b10, b11, g7, g8, g9, g10, g11, rfl⟩ := hI
      obtain ⟨r, hr, rfl⟩ := List.mem_map.mp hx
      have hm' : ¬ ((text.cps.toList[pos]?).map (fun c => (⟨#[c]⟩ : Str)) = some r.1) := by
        have : hitA text pos (ruleAV r) = decide ((text.cps.toList[pos]?).map (fun c => (⟨#[c]⟩ : Str)) = some r.1) := rfl
        rw [this] at hm
        simpa using hm
      subst hfi
      refine ⟨GS sf sk text pos T st rs (.fz (.ext (.mat r.1))) (.fz (.ext (.tok r.2.1))) (.fz (moveAV r.2.2)) b10 b11, (show TJ C 10 _ _ (.tup [.ext (.mat r.1), .ext (.tok r.2.1), moveAV r.2.2]) _ _ from
        TJ.tup (TL.cons (TJ.name F (i := 7) rfl) (TL.cons (TJ.name F (i := 8) rfl) (TL.cons (TJ.name F (i := 9) rfl) TL.nil)))), ?_⟩
      refine SW.cons (S1.assign (a := .none) F at10 (EJ.to (EJ.callVar F at7 at7 (LJ.cons (EJ.var F at1 at1) (LJ.cons (EJ.var F at3 at3) LJ.nil (fun _ => rfl)) (fun _ => rfl)) ((X.mat r.1 text pos (by omega) (by omega)).less (by omega)) (X.matK _)) (if_neg hm')) ?_ (.inl rfl) rfl)
      refine SW.cons (S1.ifF (BJ.val (EJ.var F at10 at10) rfl (fun _ _ => rfl)) (SW.nil (SW.nil ?_)))
      exact ⟨_, _, _, _, _, .inr ⟨_, rfl⟩, .inr ⟨_, rfl⟩, .inr ⟨_, rfl⟩, .inr ⟨_, rfl⟩, g11, rfl⟩
    · have h1 := hno x (List.mem_of_find?_eq_some hx)
      have h2 := List.find?_some hx
      rw [h1] at h2; cases h2
    · obtain ⟨b7, b8, b9, b10, b11, g7, g8, g9, g10, g11, rfl⟩ := hI
      subst hfi
      refine g_block ?_
      refine g_st (n := 10) (F := fun o => o = .brk (GS sf sk text pos T st rs b7 b8 b9 b10 b11)) G' (overBlk (ak.less (by omega)))
        (S1.ifT (BJ.to (BJ.cmp (EJ.var F at3 at3) (EJ.lenS F X.gLen (EJ.var F at1 at1) (by omega) rfl (fun _ => rfl)) rfl rfl) (by simp; omega)) (SW.cons (S1.brk rfl)))
        (fun _ _ e => nomatch e) (fun ℓ' s2 e G2 => ?_) (fun _ _ e => nomatch e) (fun _ e => nomatch e)
      cases e
      refine g_leaveF .brk ?_
      refine g_leaveF .next ?_
      exact hend s₀ s2 _ G2
  | succ k ih =>
    intro pos st rs a7 a8 a9 a10 a11 s₀ s hpk hg hsz hrs h7 h8 h9 h10 h11 htk G
    have hpos : pos < text.cps.toList.length := by rw [Array.length_toList]; show pos < text.length; omega
    obtain ⟨c, hc⟩ : ∃ c, text.cps.toList[pos]? = some c := ⟨_, List.getElem?_eq_getElem hpos⟩
    refine g_turn (n := 11) G (overW ak) ?_ fun s1 G1 => ?_
    · subst hfi
      exact BJ.val (EJ.int 1) rfl (fun _ _ => rfl)
    refine seg_execs_cons ?_
    refine g_for (n := 10) G1 (overW (ak.less (by omega))) (a := .lst (rs.map ruleAV)) ?_ rfl (fun _ _ => rfl) (hitA text pos) (fun ℓ => ∃ a7 a8 a9 a10 a11, Flat a7 ∧ Flat a8 ∧ Flat a9 ∧ Flat a10 ∧ Flat a11 ∧ ℓ = GS sf sk text pos T st rs a7 a8 a9 a10 a11) ⟨a7, a8, a9, a10, a11, h7, h8, h9, h10, h11, rfl⟩
      (fun it p' => overFor (ak.less (by omega))) (fun x ℓ hx hm hI => ?_) (fun x ℓ hx hI => ?_) (fun hn ℓ p' s' hI G' => ?_)
    · subst hfi; exact EJ.var F at6 at6
    · -- no hit
      obtain ⟨b7, b8, b9, b10, b11, g7, g8, g9, g10, g11, rfl⟩ := hI
      obtain ⟨r, hr, rfl⟩ := List.mem_map.mp hx
      have hm' : ¬ ((text.cps.toList[pos]?).map (fun c => (⟨#[c]⟩ : Str)) = some r.1) := by
        have : hitA text pos (ruleAV r) = decide ((text.cps.toList[pos]?).map (fun c => (⟨#[c]⟩ : Str)) = some r.1) := rfl
        rw [this] at hm
        simpa using hm
      subst hfi
      refine ⟨GS sf sk text pos T st rs (.fz (.ext (.mat r.1))) (.fz (.ext (.tok r.2.1))) (.fz (moveAV r.2.2)) b10 b11, (show TJ C 10 _ _ (.tup [.ext (.mat r.1), .ext (.tok r.2.1), moveAV r.2.2]) _ _ from
        TJ.tup (TL.cons (TJ.name F (i := 7) rfl) (TL.cons (TJ.name F (i := 8) rfl) (TL.cons (TJ.name F (i := 9) rfl) TL.nil)))), ?_⟩
      refine SW.cons (S1.assign (a := .none) F at10 (EJ.to (EJ.callVar F at7 at7 (LJ.cons (EJ.var F at1 at1) (LJ.cons (EJ.var F at3 at3) LJ.nil (fun _ => rfl)) (fun _ => rfl)) ((X.mat r.1 text pos (by omega) (by omega)).less (by omega)) (X.matK _)) (if_neg hm')) ?_ (.inl rfl) rfl)
      refine SW.cons (S1.ifF (BJ.val (EJ.var F at10 at10) rfl (fun _ _ => rfl)) (SW.nil (SW.nil ?_)))
      exact ⟨_, _, _, _, _, .inr ⟨_, rfl⟩, .inr ⟨_, rfl⟩, .inr ⟨_, rfl⟩, .inr ⟨_, rfl⟩, g11, rfl⟩
    · -- a hit
      obtain ⟨b7, b8, b9, b10, b11, g7, g8, g9, g10, g11, rfl⟩ := hI
      rw [find_rule] at hx
      obtain ⟨r, hr, rfl⟩ := Option.map_eq_some_iff.mp hx
      have hrm := List.mem_of_find?_eq_some hr
      have hhit : (text.cps.toList[pos]?).map (fun c => (⟨#[c]⟩ : Str)) = some r.1 := by
        have := List.find?_some hr
        unfold hitR at this
        simpa using this
      have hl : r.1 = ⟨#[c]⟩ := by rw [hc] at hhit; simpa using hhit.symm
      have hlex : lexS T text (k + 1) pos st = tokOne pos r.2.1 c :: lexS T text k (pos + 1) (moveL r.2.2 st) := by
        simp only [lexS, hc]; rw [← hrs, hr]
      have hfi' := hfi
      subst hfi
      refine ⟨GS sf sk text pos T st rs (.fz (.ext (.mat r.1))) (.fz (.ext (.tok r.2.1))) (.fz (moveAV r.2.2)) b10 b11, (show TJ C 10 _ _ (.tup [.ext (.mat r.1), .ext (.tok r.2.1), moveAV r.2.2]) _ _ from
        TJ.tup (TL.cons (TJ.name F (i := 7) rfl) (TL.cons (TJ.name F (i := 8) rfl) (TL.cons (TJ.name F (i := 9) rfl) TL.nil)))), fun it p' s' G' => ?_⟩
      refine g_st (n := 10) (F := fun o => o = .nxt (GS sf sk text pos T st rs (.fz (.ext (.mat r.1))) (.fz (.ext (.tok r.2.1))) (.fz (moveAV r.2.2)) (.fz (.ext (.pm pos r.1))) b11)) G' (overFor (ak.less (by omega)))
        (S1.assign (a := .ext (.pm pos r.1)) F at10 (EJ.to (EJ.callVar F at7 at7 (LJ.cons (EJ.var F at1 at1) (LJ.cons (EJ.var F at3 at3) LJ.nil (fun _ => rfl)) (fun _ => rfl)) ((X.mat r.1 text pos (by omega) (by omega)).less (by omega)) (X.matK _)) (if_pos hhit)) rfl (.inl rfl) rfl)
        (fun ℓ' s2 e G2 => ?_) (fun _ _ e => nomatch e) (fun _ _ e => nomatch e) (fun _ e => nomatch e)
      cases e
      refine seg_execs_cons (g_if (n := 10) G2 (overFor (ak.less (by omega))) (BJ.ext (EJ.var F at10 at10) (X.pmT _ _) (fun _ _ => rfl)) (fun _ s3 G3 => ?_) (fun e => nomatch e))
      refine seg_execs_cons (g_if (n := 10) (b := true) G3 (overFor (ak.less (by omega))) (BJ.cmp (EJ.var F at8 at8) EJ.none rfl rfl) (fun _ s4 G4 => ?_) (fun e => nomatch e))
      refine seg_execs_cons (g_if (n := 10) (b := true) G4 (overFor (ak.less (by omega))) (BJ.same (EJ.callT F X.gType (LJ.cons (EJ.var F at8 at8) LJ.nil (fun _ => rfl)) ((X.typ r.2.1).less (by omega)) rfl (by decide) (fun _ => rfl) (fun _ _ => rfl))
        (EJ.glb F X.gTok (.ext (C.gen.mpr rfl)) rfl (by decide)) rfl) (fun _ s5 G5 => ?_) (fun e => nomatch e))
      have htok : toks[toks.length - 1 - k]? = some (tokOne pos r.2.1 c) := by
        have e0 : toks.length - 1 - k = pos := by omega
        have := congrArg (fun l => l[0]?) (htk.trans hlex)
        simpa [e0] using this
      have hrl : r.1.length = 1 := by rw [hl]; rfl
      refine seg_execs_cons (g_yield (n := 10) (i := 5) G5 (gs_lone hfi' (.inr ⟨_, rfl⟩) (.inr ⟨_, rfl⟩) (.inr ⟨_, rfl⟩) (.inr ⟨_, rfl⟩) g11) (overFor (ak.less (by omega)))
        (a := tokOne pos r.2.1 c) ?_ htok (by omega) rfl rfl rfl rfl rfl (fun s6 G6 => ?_))
      · have : tokOne pos r.2.1 c = .tup [.int pos, .ext (.tok r.2.1), .str r.1] := by rw [hl]; rfl
        rw [this]
        exact EJ.tup (LJ.cons (EJ.var F at3 at3) (LJ.cons (EJ.var F at8 at8) (LJ.cons (EJ.meth0 (EJ.var F at10 at10) (X.grpM _ _) X.grpF ((X.grpC _ _ (by omega)).less (by omega)) (fun _ => rfl) rfl) LJ.nil (fun _ => rfl)) (fun _ => rfl)) (fun _ => rfl)) (by simp [sz])
      show GSeg C A (genRE L) _ k s6 _ ((execs (_ :: _) _).wrap _ _ _ _) _ s6
      refine g_st (n := 10) (F := fun o => o = .nxt (GS sf sk text (pos + 1) T st rs (.fz (.ext (.mat r.1))) (.fz (.ext (.tok r.2.1))) (.fz (moveAV r.2.2)) (.fz (.ext (.pm pos r.1))) b11)) G6 (overFor (ak.less (by omega)))
        (S1.assign (a := .int ((pos + 1 : Nat) : Int)) F at3 (EJ.to (EJ.meth0 (EJ.var F at10 at10) (X.finM _ _) X.finF ((X.finC pos r.1 (by omega)).less (by omega)) (fun _ => rfl) rfl) (by rw [hrl]; simp)) rfl (.inl rfl) rfl)
        (fun ℓ' s7 e G7 => ?_) (fun _ _ e => nomatch e) (fun _ _ e => nomatch e) (fun _ e => nomatch e)
      cases e
      refine g_st (n := 10) (F := fun o => ∃ b, Flat b ∧ o = .nxt (GS sf sk text (pos + 1) T (moveL r.2.2 st) (look T (((moveL r.2.2 st).getLast?).getD ⟨#[]⟩)) (.fz (.ext (.mat r.1))) (.fz (.ext (.tok r.2.1))) (.fz (moveAV r.2.2)) (.fz (.ext (.pm pos r.1))) b)) G7 (overFor (ak.less (by omega)))
        (move_block hfi' F X (look_ok hT (hrs ▸ hrm)) hg (by omega) hrs g11 fun b hb => ⟨b, hb, rfl⟩)
        (fun ℓ' s8 e G8 => ?_) (fun _ _ e => by obtain ⟨_, _, e⟩ := e; cases e) (fun _ _ e => by obtain ⟨_, _, e⟩ := e; cases e) (fun _ e => by obtain ⟨_, _, e⟩ := e; cases e)
      obtain ⟨b, hb, e⟩ := e
      cases e
      refine g_st (n := 10) (F := fun o => o = .brk _) G8 (overFor (ak.less (by omega))) (S1.brk rfl) (fun _ _ e => nomatch e) (fun ℓ' s9 e G9 => ?_) (fun _ _ e => nomatch e) (fun _ e => nomatch e)
      cases e
      refine g_leave ?_
      refine g_again ?_
      have mg := moveL_good (look_ok hT (hrs ▸ hrm)) hg
      exact ih (pos + 1) _ _ _ _ _ _ _ s6 s9 (by omega) mg.1 (by omega) rfl (.inr ⟨_, rfl⟩) (.inr ⟨_, rfl⟩) (.inr ⟨_, rfl⟩) (.inr ⟨_, rfl⟩) hb (drop_next (htk.trans hlex)) G9
    · -- no rule
      obtain ⟨b7, b8, b9, b10, b11, g7, g8, g9, g10, g11, rfl⟩ := hI
      rw [find_rule] at hn
      have hn' : rs.find? (hitR text pos) = none := by
        cases e : rs.find? (hitR text pos) with
        | none => rfl
        | some r => rw [e] at hn; cases hn
      have hlex : lexS T text (k + 1) pos st = if c = 10 then tokOne pos ["Text", "Whitespace"] c :: lexS T text k (pos + 1) ["root"] else tokOne pos ["Error"] c :: lexS T text k (pos + 1) st := by
        simp only [lexS, hc]; rw [← hrs, hn']
      have hfi' := hfi
      subst hfi
      have e0 : toks.length - 1 - k = pos := by omega
      have idxJ : ∀ {ℓ : List Slot} {p1 p2 p3 : Pos}, ℓ[1]? = some (.fz (.str text)) → ℓ[3]? = some (.fz (.int pos)) → EJ C 10 (genFi name qual doc pm an cdv ct dV L a) ℓ (.Subscript (.Name "text" p1) (.Name "pos" p2) p3) (.str ⟨#[c]⟩) := fun h1 h3 =>
        EJ.idx (EJ.var F at1 h1) (EJ.var F at3 h3) (by
          show (if decide (text.length ≤ sz) then (at? text.cps.toList pos).map fun c => AV.str ⟨#[c]⟩ else none) = _
          rw [if_pos (by simp; omega), at_nat, hc]; rfl) (fun _ _ _ _ h => by cases h)
      have augJ : ∀ (A : Around) (M : List Addr) (s : Shared) va vb, AOk 10 A → (∀ a ∈ M, a < s.heap.objs.size) → Rep C (hid s.heap M) (.int (pos : Int)) va → Rep C (hid s.heap M) (.int 1) vb →
          Ev C A (inplaceOp .Add va vb) s (fun v s' => Rep C (hid s'.heap M) (.int ((pos + 1 : Nat) : Int)) v) := fun A M s va vb _ _ ra rb Q E q => by
        obtain ⟨t, rfl⟩ := ra.int_
        obtain ⟨u, rfl⟩ := rb.int_
        exact P.iadd_int (q _ _ (.toks _) (.int _ _))
      refine g_block ?_
      refine g_st (n := 10) (F := fun o => o = .nxt (GS sf sk text pos T st rs b7 b8 b9 b10 b11)) G' (overBlk (ak.less (by omega)))
        (S1.ifF (BJ.to (BJ.cmp (EJ.var F at3 at3) (EJ.lenS F X.gLen (EJ.var F at1 at1) (by omega) rfl (fun _ => rfl)) rfl rfl) (by simp; omega)) (SW.nil rfl))
        (fun ℓ' s2 e G2 => ?_) (fun _ _ e => nomatch e) (fun _ _ e => nomatch e) (fun _ e => nomatch e)
      cases e
      refine seg_execs_cons (g_if (n := 10) G2 (overBlk (ak.less (by omega))) (BJ.cmp (idxJ rfl rfl) (EJ.str _) rfl rfl) (fun e s3 G3 => ?_) (fun e s3 G3 => ?_))
      · -- a line's end
        have hc10 : c = 10 := by
          have e : (⟨#[c]⟩ : Str) = "\n" := by simpa using e
          have : (⟨#[c]⟩ : Str) = ⟨#[10]⟩ := e
          simpa using this
        rw [if_pos hc10] at hlex
        have htok : toks[toks.length - 1 - k]? = some (tokOne pos ["Text", "Whitespace"] c) := by
          have := congrArg (fun l => l[0]?) (htk.trans hlex)
          simpa [e0] using this
        refine g_st (n := 10) (F := fun o => o = .nxt (GS sf sk text pos T ["root"] rs b7 b8 b9 b10 b11)) G3 (overBlk (ak.less (by omega)))
          (S1.own (l := [.str "root"]) F at5 (NJ.lst (LJ.cons (EJ.str _) LJ.nil (fun _ => rfl)) (by simp [sz])) rfl (.inl rfl) rfl)
          (fun ℓ' s4 e G4 => ?_) (fun _ _ e => nomatch e) (fun _ _ e => nomatch e) (fun _ e => nomatch e)
        cases e
        refine g_st (n := 10) (F := fun o => o = .nxt (GS sf sk text pos T ["root"] (look T "root") b7 b8 b9 b10 b11)) G4 (overBlk (ak.less (by omega)))
          (S1.assign (a := .lst ((look T "root").map ruleAV)) F at6 (EJ.idx (EJ.var F at4 at4) (EJ.str _) (find_tok hT.root) (fun _ _ _ _ h => by cases h)) rfl (.inl rfl) rfl)
          (fun ℓ' s5 e G5 => ?_) (fun _ _ e => nomatch e) (fun _ _ e => nomatch e) (fun _ e => nomatch e)
        cases e
        refine seg_execs_cons (g_yield (n := 10) (i := 5) G5 (gs_lone hfi' g7 g8 g9 g10 g11) (overBlk (ak.less (by omega)))
          (a := tokOne pos ["Text", "Whitespace"] c) ?_ htok (by omega) rfl rfl rfl rfl rfl (fun s6 G6 => ?_))
        · have : tokOne pos ["Text", "Whitespace"] c = .tup [.int pos, .ext (.tok ["Text", "Whitespace"]), .str "\n"] := by rw [hc10]; rfl
          rw [this]
          exact EJ.tup (LJ.cons (EJ.var F at3 at3) (LJ.cons (EJ.glb F X.gWs X.rWs rfl (by decide)) (LJ.cons (EJ.str _) LJ.nil (fun _ => rfl)) (fun _ => rfl)) (fun _ => rfl)) (by simp [sz])
        show GSeg C A (genRE L) _ k s6 _ ((execs (_ :: _) _).wrap _ _ _ _) _ s6
        refine g_st (n := 10) (F := fun o => o = .nxt (GS sf sk text (pos + 1) T ["root"] (look T "root") b7 b8 b9 b10 b11)) G6 (overBlk (ak.less (by omega)))
          (S1.aug F at3 at3 (EJ.int 1) augJ rfl (.inl rfl)) (fun ℓ' s7 e G7 => ?_) (fun _ _ e => nomatch e) (fun _ _ e => nomatch e) (fun _ e => nomatch e)
        cases e
        refine g_st (n := 10) (F := fun o => o = .cnt _) G7 (overBlk (ak.less (by omega))) (S1.cnt rfl) (fun _ _ e => nomatch e) (fun _ _ e => nomatch e) (fun ℓ' s8 e G8 => ?_) (fun _ e => nomatch e)
        cases e
        refine g_leaveF .cont ?_
        refine g_again ?_
        exact ih (pos + 1) ["root"] _ _ _ _ _ _ s6 s8 (by omega) ⟨by simp, fun s hs => by rw [List.mem_singleton.mp hs]; exact hT.root⟩ (by simp; omega) rfl g7 g8 g9 g10 g11 (drop_next (htk.trans hlex)) G8
      · -- an error
        have hc10 : ¬ c = 10 := fun z => by subst z; cases e
        rw [if_neg hc10] at hlex
        have htok : toks[toks.length - 1 - k]? = some (tokOne pos ["Error"] c) := by
          have := congrArg (fun l => l[0]?) (htk.trans hlex)
          simpa [e0] using this
        refine seg_execs_nil ?_
        show GSeg C A (genRE L) _ (k + 1) s₀ _ ((execs (_ :: _) _).wrap _ _ _ _) _ s3
        refine seg_execs_cons (g_yield (n := 10) (i := 5) G3 (gs_lone hfi' g7 g8 g9 g10 g11) (overBlk (ak.less (by omega)))
          (a := tokOne pos ["Error"] c) ?_ htok (by omega) rfl rfl rfl rfl rfl (fun s6 G6 => ?_))
        · exact EJ.tup (LJ.cons (EJ.var F at3 at3) (LJ.cons (EJ.glb F X.gErr X.rErr rfl (by decide)) (LJ.cons (idxJ rfl rfl) LJ.nil (fun _ => rfl)) (fun _ => rfl)) (fun _ => rfl)) (by simp [sz])
        show GSeg C A (genRE L) _ k s6 _ ((execs (_ :: _) _).wrap _ _ _ _) _ s6
        refine g_st (n := 10) (F := fun o => o = .nxt (GS sf sk text (pos + 1) T st rs b7 b8 b9 b10 b11)) G6 (overBlk (ak.less (by omega)))
          (S1.aug F at3 at3 (EJ.int 1) augJ rfl (.inl rfl)) (fun ℓ' s7 e G7 => ?_) (fun _ _ e => nomatch e) (fun _ _ e => nomatch e) (fun _ e => nomatch e)
        cases e
        refine seg_execs_nil ?_
        refine g_leaveF .next ?_
        refine g_again ?_
        exact ih (pos + 1) st _ _ _ _ _ _ s6 s7 (by omega) hg (by omega) hrs g7 g8 g9 g10 g11 (drop_next (htk.trans hlex)) G7
end
section
variable {C : Cx}
theorem NJ.list1 {n : Nat} {fi : Fi} {ℓ : List Slot} {p pos : Pos} (F : fi.Ok) (g : C.glb "list" (.type "list")) {e : Expr} {x : AV} {l : List AV} (he : EJ C n fi ℓ e x) (hx' : x = .lst l ∨ x = .tup l) (hz : l.length ≤ sz) (hx : fi.env.kindOf "list" = some .globalImplicit) (hq : ∀ env, starEach [e] env = [(false, eval e env)]) :
    NJ C n fi ℓ (.Call (.Name "list" p) [e] [] pos) l := fun A hb Mo M m cv ad s ak R Q E q => by
  refine Call_ (glb_at F R g hx (by decide) ?_)
  rw [hq]
  refine PyProof.Rows.callWith_type rfl (Calls.evalArgs_plain (Calls.spliced_cons (he A hb Mo M m cv ad s ak R _ _ fun v s' g rv => Calls.spliced_nil ?_)))
  refine list_at hx' hz (R.grow g).has rv _ _ fun v' s'' g' h => ?_
  obtain ⟨a, vs, rfl, hn, la, rl⟩ := h
  exact q _ _ (g.trans g') ⟨a, vs, rfl, Sub.none g.keep hn, la, rl⟩

theorem lexS_len {T : Tab} {text : Str} : ∀ (k pos : Nat) (st : List Str), pos + k ≤ text.length → (lexS T text k pos st).length = k
  | 0, _, _, _ => rfl
  | k + 1, pos, st, h => by
    have hpos : pos < text.cps.toList.length := by rw [Array.length_toList]; show pos < text.length; omega
    have hc : text.cps.toList[pos]? = some text.cps.toList[pos] := List.getElem?_eq_getElem hpos
    simp only [lexS, hc]
    have ih : ∀ st, (lexS T text k (pos + 1) st).length = k := fun st => lexS_len (T := T) (text := text) k (pos + 1) st (by omega)
    split
    · rw [List.length_cons, ih]
    · split <;> rw [List.length_cons, ih]

def gen0 (T : Tab) (text : Str) (st : List Str) : List Slot := [.fz (.ext (.lexer T)), .fz (.str text), .fz (.lst (st.map .str)), .un, .un, .un, .un, .un, .un, .un, .un, .un]

theorem gen_start {A : Around} {fi : Fi} {name qual doc pm an cdv ct dV L a} (hfi : fi = genFi name qual doc pm an cdv ct dV L a) (F : fi.Ok) (X : Lex C) (ak : AOk 13 A) {LT : Addr} {MoL : List Addr} {text : Str} {T : Tab} {st : List Str} {s₀ : Shared}
    (hT : TabOk T) (hlen : text.length ≤ 5000) (hg : Good T st) (hst : st.length ≤ 1000)
    (G : GI C "statestack" LT "told" MoL fi s₀ s₀ (gen0 T text st)) :
    GSeg C A (genRE L) (YG C (lexS T text text.length 0 st) fi.env.locals "statestack" LT "told" MoL) text.length s₀ (.func genF.body fi.env) ((model C.prog C.w).den (.func genF.body fi.env)) [] s₀ := by
  have zz := sz_eq
  have hfi' := hfi
  refine seg_func ?_
  have hLoc : fi.env.locals = L := by subst hfi; rfl
  obtain ⟨y, hy⟩ : ∃ y, st.getLast? = some y := ⟨_, List.getLast?_eq_some_getLast hg.1⟩
  have hyk := hg.2 y (List.mem_of_getLast? hy)
  subst hfi
  show GSeg C A (genRE L) _ _ s₀ _ ((execs (_ :: _) _).wrap _ _ _ _) _ s₀
  refine g_st (n := 12) (F := fun o => o = .nxt ((gen0 T text st).set 3 (.fz (.int ((0 : Nat) : Int))))) G (overF (ak.less (by omega))) (S1.assign F at3 (EJ.int 0) rfl (.inl rfl) rfl)
    (fun ℓ' s1 e G1 => ?_) (fun _ _ e => nomatch e) (fun _ _ e => nomatch e) (fun _ e => nomatch e)
  cases e
  refine g_st (n := 12) (F := fun o => o = .nxt (((gen0 T text st).set 3 (.fz (.int ((0 : Nat) : Int)))).set 4 (.fz (tokAV T)))) G1 (overF (ak.less (by omega))) (S1.assign F at4 (EJ.attr (EJ.var F at0 at0) (X.tokens T) (fun _ => rfl)) rfl (.inl rfl) rfl)
    (fun ℓ' s2 e G2 => ?_) (fun _ _ e => nomatch e) (fun _ _ e => nomatch e) (fun _ e => nomatch e)
  cases e
  refine g_st (n := 12) (F := fun o => o = .nxt ((((gen0 T text st).set 3 (.fz (.int ((0 : Nat) : Int)))).set 4 (.fz (tokAV T))).set 5 (.ol (st.map .str)))) G2 (overF (ak.less (by omega)))
    (S1.own F at5 (NJ.list1 F X.gList (EJ.var F at2 at2) (.inl rfl) (by simp; omega) rfl (fun _ => rfl)) rfl (.inl rfl) rfl)
    (fun ℓ' s3 e G3 => ?_) (fun _ _ e => nomatch e) (fun _ _ e => nomatch e) (fun _ e => nomatch e)
  cases e
  refine g_st (n := 12) (F := fun o => o = .nxt (GS (.ext (.lexer T)) (.lst (st.map .str)) text 0 T st (look T y) .un .un .un .un .un)) G3 (overF (ak.less (by omega)))
    (S1.assign (a := .lst ((look T y).map ruleAV)) F at6 (EJ.idx (y := .str y) (EJ.var F at4 at4) (EJ.lastO F at5 at5 (EJ.neg (EJ.int _)) (by rw [last_map, hy]; rfl) (by simp; omega)) (find_tok hyk) (fun _ _ _ _ h => by cases h)) rfl (.inl rfl) rfl)
    (fun ℓ' s4 e G4 => ?_) (fun _ _ e => nomatch e) (fun _ _ e => nomatch e) (fun _ e => nomatch e)
  cases e
  refine seg_execs_cons (g_While fun p => ?_)
  have hlook : look T y = look T ((st.getLast?).getD ⟨#[]⟩) := by rw [hy]; rfl
  refine gen_loop rfl F X (ak.less (by omega)) hT hlen (lexS_len _ _ _ (by omega)) (fun s₀ s ℓ G' => ?_) text.length 0 st (look T y) .un .un .un .un .un s₀ s4 (by omega) hg (by omega) hlook (.inl rfl) (.inl rfl) (.inl rfl) (.inl rfl) (.inl rfl) rfl G4
  refine seg_end (.ok (.ret .none)) ⟨rfl, rfl, fun b o nb e => ?_, G'.mv⟩
  obtain ⟨DT, h1, h2, h3, M, m, cv, ad, R⟩ := G'.get
  exact R.base b o ⟨e, nb⟩
end
section
variable {C : Cx}
def toldF : Fn := fnTop PySem.Challenge.pw_bf5016_01 49
abbrev Piece := List Str × Nat
def lexN (T : Tab) (text : Str) : Nat → Nat → List Str → List Piece
  | 0, _, _ => []
  | k + 1, pos, st => match text.cps.toList[pos]? with
    | none => []
    | some c => match (look T ((st.getLast?).getD ⟨#[]⟩)).find? (hitR text pos) with
      | some r => (r.2.1, c) :: lexN T text k (pos + 1) (moveL r.2.2 st)
      | none => if c = 10 then (["Text", "Whitespace"], c) :: lexN T text k (pos + 1) ["root"] else (["Error"], c) :: lexN T text k (pos + 1) st
def pieceAV (p : Piece) : AV := .tup [.tup (p.1.map .str), .str ⟨#[p.2]⟩]
theorem lex_step {T : Tab} {text : Str} {k pos : Nat} (h : pos < text.length) (st : List Str) : ∃ names c st', lexS T text (k + 1) pos st = tokOne pos names c :: lexS T text k (pos + 1) st' ∧ lexN T text (k + 1) pos st = (names, c) :: lexN T text k (pos + 1) st' := by
  have hpos : pos < text.cps.toList.length := by rw [Array.length_toList]; exact h
  have hc : text.cps.toList[pos]? = some text.cps.toList[pos] := List.getElem?_eq_getElem hpos
  simp only [lexS, lexN, hc]
  cases List.find? (hitR text pos) (look T ((st.getLast?).getD ⟨#[]⟩)) with
  | some r => exact ⟨_, _, _, rfl, rfl⟩
  | none =>
    by_cases h10 : text.cps.toList[pos] = 10
    · simp only [if_pos h10]; exact ⟨_, _, _, rfl, rfl⟩
    · simp only [if_neg h10]; exact ⟨_, _, _, rfl, rfl⟩
theorem lexN_len {T : Tab} {text : Str} : ∀ (k pos : Nat) (st : List Str), (lexN T text k pos st).length ≤ k
  | 0, _, _ => Nat.le_refl _
  | k + 1, pos, st => by
    have ih := fun st => lexN_len (T := T) (text := text) k (pos + 1) st
    simp only [lexN]
    split
    · simp
    split
    · rw [List.length_cons]; have := ih; exact Nat.succ_le_succ (ih _)
    · split <;> (rw [List.length_cons]; exact Nat.succ_le_succ (ih _))

def toldS (ag : Addr) (done : List AV) (pos : Nat) (a3 a4 a5 : Slot) : List Slot := [.fz (.ext (.gen ag)), .ol done, .fz (.int pos), a3, a4, a5]
def toldFor : Stmt := nth toldF.body 2
abbrev toldFi (name qual : Str) (doc pm : Value) (an : Option Addr) (cdv ct : Value) (L a : Addr) : Fi := fiOf (fnOf name qual toldF.params toldF.body toldF.scope .none .none doc pm an cdv ct) L a ((["stream"] : List Str) ++ (["told", "at", "place", "kind", "value"] : List Str))

/-- one token is told -/
theorem told_turn {n : Nat} {name qual doc pm an cdv ct L a} (F : (toldFi name qual doc pm an cdv ct L a).Ok) (X : Lex C) {ag : Addr} {done : List AV} {pos : Nat} {a3 a4 a5 : Slot} {names : List Str} {c : Nat} {G : Out → Prop} (hz : done.length ≤ 100000)
    (h : ∀ b3 b4 b5, Flat b3 → Flat b4 → Flat b5 → G (.nxt (toldS ag (done ++ [pieceAV (names, c)]) (pos + 1) b3 b4 b5))) :
    ∃ ℓ', TJ C n (toldFi name qual doc pm an cdv ct L a) (match toldFor with | .For t _ _ _ _ => t | _ => .Constant .none 0 ⟨0, 0, 0, 0⟩) (tokOne pos names c) (toldS ag done pos a3 a4 a5) ℓ' ∧
      SW C n (toldFi name qual doc pm an cdv ct L a) (forBody toldFor) ℓ' G := by
  have zz := sz_eq
  refine ⟨toldS ag done pos (.fz (.int pos)) (.fz (.ext (.tok names))) (.fz (.str ⟨#[c]⟩)), (show TJ C n _ _ (.tup [.int pos, .ext (.tok names), .str ⟨#[c]⟩]) _ _ from
    TJ.tup (TL.cons (TJ.name F (i := 3) rfl) (TL.cons (TJ.name F (i := 4) rfl) (TL.cons (TJ.name F (i := 5) rfl) TL.nil)))), ?_⟩
  refine SW.cons (S1.ifF (BJ.to (BJ.or (BJ.typeIsNot F X.gType (EJ.var F at3 at3) rfl X.gInt rfl rfl (by decide) (fun _ => rfl)) fun _ => BJ.or (BJ.cmp (EJ.var F at3 at3) (EJ.var F at2 at2) rfl rfl) fun _ =>
    BJ.or (BJ.sameNot (EJ.callT F X.gType (LJ.cons (EJ.var F at4 at4) LJ.nil (fun _ => rfl)) ((X.typ names).less (by omega)) rfl (by decide) (fun _ => rfl) (fun _ _ => rfl)) (EJ.glb F X.gTok (.ext (C.gen.mpr rfl)) rfl (by decide)) rfl) fun _ =>
    BJ.or (BJ.typeIsNot F X.gType (EJ.var F at5 at5) rfl X.gStr rfl rfl (by decide) (fun _ => rfl)) fun _ => BJ.or_nil) (by simp)) (SW.nil ?_))
  refine SW.cons (S1.append (l := done) (a := pieceAV (names, c)) F at1 at1 (EJ.tup (LJ.cons (EJ.attr (EJ.var F at4 at4) (X.names names) (fun _ => rfl)) (LJ.cons (EJ.var F at5 at5) LJ.nil (fun _ => rfl)) (fun _ => rfl)) (by simp [sz])) ?_ (by omega) rfl (fun _ => rfl) (fun _ => rfl) (fun env h => by unfold interactive; rw [h]; rfl))
  refine SW.cons (S1.aug F at2 at2 (b := .int 1) (r := .int ((pos + 1 : Nat) : Int)) (EJ.to (EJ.lenS F X.gLen (EJ.var F at5 at5) (by simp [Str.length, sz]) rfl (fun _ => rfl)) rfl) (fun A M s va vb _ _ ra rb Q E q => by
    obtain ⟨t, rfl⟩ := ra.int_
    obtain ⟨u, rfl⟩ := rb.int_
    exact P.iadd_int (q _ _ (.toks _) (.int _ _))) ?_ (.inl rfl))
  exact SW.nil (h _ _ _ (.inr ⟨_, rfl⟩) (.inr ⟨_, rfl⟩) (.inr ⟨_, rfl⟩))
end
section
variable {C : Cx}
theorem told_lone {name qual doc pm an cdv ct L a} {ag : Addr} {done : List AV} {pos : Nat} {a3 a4 a5 : Slot} (h3 : Flat a3) (h4 : Flat a4) (h5 : Flat a5) : Lone (toldFi name qual doc pm an cdv ct L a) (toldS ag done pos a3 a4 a5) 1 "told" := by
  refine ⟨fun j y c e => ?_, rfl, ⟨_, rfl⟩, fun j sl hj e => ?_⟩
  · have : (toldFi name qual doc pm an cdv ct L a).vs = (["stream", "told", "at", "place", "kind", "value"] : List Str).map fun (x : Str) => (x, Loc.loc) := rfl
    rw [this, List.getElem?_map] at e
    simp at e
  · have hlt := (List.getElem?_eq_some_iff.mp e).1
    have hlt : j < 6 := hlt
    have hc : j = 0 ∨ j = 2 ∨ j = 3 ∨ j = 4 ∨ j = 5 := by omega
    rcases hc with rfl | rfl | rfl | rfl | rfl <;> cases e <;> first | exact .inr ⟨_, rfl⟩ | assumption

theorem AOk.in1 {n : Nat} {A : Around} (a : AOk (n + 1) A) : AOk n A.in1 := ⟨a.handled, by have := a.depth; show A.depth + n ≤ 890; omega, by have := a.units; show A.units + 1 + 8 * n + 100 ≤ 9000; omega⟩
theorem told_kind : ∀ x ∈ ((["stream"] : List Str) ++ (["told", "at", "place", "kind", "value"] : List Str)), toldF.scope.names.lookup x = some .local ∨ toldF.scope.names.lookup x = some .cell := by decide
theorem told_call {aT : Addr} (hf : FnAt C toldF aT) (X : Lex C) {A : Around} (ak : AOk 20 A) {M : List Addr} {s : Shared} {LG ag aG : Addr} {g : Nat} {T : Tab} {text : Str} {st : List Str} {fiG : Fi} {name qual doc pm an cdv ct dV} {hbG : Base} {mG cvG}
    (hT : TabOk T) (hlen : text.length ≤ 5000) (hg : Good T st) (hst : st.length ≤ 1000)
    (hfi : fiG = genFi name qual doc pm an cdv ct dV LG aG) (FG : fiG.Ok) (RG : Rel C hbG M fiG ([LG] ++ M) mG cvG (fun _ => []) (gen0 T text st) s) (hmG : mG "statestack" = none)
    (isgen : s.heap.IsGen ag g) (hag : ag ∉ M) (hgs : s.gens[g]? = some (.fresh (.func genF.body fiG.env)))
    {Q : Value → Shared → Prop} {E : Value → Shared → Prop}
    (q : ∀ v s', (∀ b o, b ≠ LG → s.heap.get? b = some o → s'.heap.get? b = some o) → (∀ j gs, j ≠ g → s.gens[j]? = some gs → s'.gens[j]? = some gs) → (AllBare s.gens → AllBare s'.gens) → s'.os = s.os →
      Rep C (hid s'.heap M) (.lst ((lexN T text text.length 0 st).map pieceAV)) v → Q v s') :
    wpAny (model C.prog C.w) A (call (.ref aT) [.ref ag]) Q E s := by
  obtain ⟨nameT, qualT, oc, od, osl, docT, pmT, anT, cdvT, ctT, ho, hcd⟩ := hf
  have hLoc : fiG.env.locals = LG := by subst hfi; rfl
  have nocelG : ∀ (j : Nat) y c, fiG.vs[j]? ≠ some (y, .cel c) := fun j y c e => by
    subst hfi
    have : (genFi name qual doc pm an cdv ct dV LG aG).vs = (["self", "text", "stack", "pos", "tokendefs", "statestack", "statetokens", "rexmatch", "action", "new_state", "m", "state"] : List Str).map fun (x : Str) => (x, Loc.loc) := rfl
    rw [this, List.getElem?_map] at e
    simp at e
  have hLGM : LG ∉ M := hLoc ▸ RG.mL.2
  have agLG : ag ≠ LG := fun z => by
    obtain ⟨o, nm, qn, e, hc, hd, hs⟩ := isgen
    obtain ⟨o', es, ep, e', hd', _⟩ := RG.ns
    rw [hLoc, ← z, e] at e'
    cases e'
    rw [hd] at hd'; cases hd'
  refine call_start (n := 19) (ps := ["stream"]) (xs := ["told", "at", "place", "kind", "value"]) (as := [.ext (.gen ag)]) (M := LG :: M) (fd := fnOf nameT qualT toldF.params toldF.body toldF.scope .none .none docT pmT anT cdvT ctT) ho rfl hcd rfl rfl rfl rfl rfl rfl rfl
    (fun vs hv => by obtain ⟨v, rfl⟩ := one_of hv; rfl) rfl (by decide) told_kind (by decide) ak RG.glob RG.has RG.new0 (.cons (.ext (C.gen.mpr rfl)) .nil) fun LT s₁ M' m cv F ow gr eg ak' R E' => ?_
  -- told = [], at = 0
  refine wpAny_execs_cons (S1.own (F := fun o => o = .nxt ([.fz (.ext (.gen ag)), .ol [], .un, .un, .un, .un])) (l := []) F at1 (NJ.lst LJ.nil (by simp)) rfl (.inl rfl) rfl _ _ _ M' m cv _ s₁ ak' ow R _ _ fun o f s2 ho2 af => ?_)
  subst ho2
  cases f <;> first | exact af.elim | skip
  obtain ⟨mv2, M2, m2, cv2, ad2, R2⟩ := af
  refine wpAny_execs_cons (S1.assign (F := fun o => o = .nxt (toldS ag [] 0 .un .un .un)) (a := .int ((0 : Nat) : Int)) F at2 (EJ.int 0) rfl (.inl rfl) rfl _ _ _ M2 m2 cv2 ad2 s2 ak' ow R2 _ _ fun o f s3 ho3 af => ?_)
  subst ho3
  cases f <;> first | exact af.elim | skip
  obtain ⟨mv3, M3, m3, cv3, ad3, R3⟩ := af
  have lone3 : Lone (toldFi nameT qualT docT pmT anT cdvT ctT LT aT) (toldS ag [] 0 .un .un .un) 1 "told" := told_lone (.inl rfl) (.inl rfl) (.inl rfl)
  obtain ⟨D, hcv, had, hads, hTwo, hDM, hDMo, hDL, hDo⟩ := lone3.at R3
  have keep3 : ∀ b o, s.heap.get? b = some o → s3.heap.get? b = some o := fun b o e => R3.base b o e
  have nTs : s.heap.get? LT = none := by
    cases e : s.heap.get? LT with
    | none => rfl
    | some o =>
      rcases R3.new LT R3.mL.1 with z | z
      · exact absurd z R3.mL.2
      · exact absurd e (z o)
  have nDs : s.heap.get? D = none := by
    cases e : s.heap.get? D with
    | none => rfl
    | some o =>
      rcases R3.new D hDM with z | z
      · exact absurd z hDMo
      · exact absurd e (z o)
  have nsG3 : s3.heap.Ns LG mG := by
    obtain ⟨o, es, ep, e, r⟩ := RG.ns
    exact ⟨o, es, ep, keep3 _ _ (hLoc ▸ e), r⟩
  have owG : ∀ b, OW LG "statestack" s3.heap b → b = LG := fun b hb => by
    rcases hb with z | ⟨m', n', e'⟩
    · exact z
    · rw [Ns.uniq n' nsG3, hmG] at e'; cases e'
  have gs3 : s3.gens[g]? = some (.fresh (.func genF.body fiG.env)) := mv3.gens g _ (mv2.gens g _ (by rw [eg]; exact hgs))
  have RG3 : Rel C (fun b o => (s3.setGen g .running).heap.get? b = some o ∧ ¬ OW fiG.env.locals "statestack" (s3.setGen g .running).heap b) ([LT, D] ++ M) fiG _ mG cvG (fun _ => []) (gen0 T text st) (s3.setGen g .running) := RG.shift (s' := s3.setGen g .running) (fun b o _ e => keep3 b o e)
    (fun b hb => by
      simp only [List.cons_append, List.nil_append, List.mem_cons] at hb
      rcases hb with rfl | rfl | z
      · exact .inr nTs
      · exact .inr nDs
      · exact .inl z)
    (fun b hb => by
      simp only [List.cons_append, List.nil_append, List.mem_cons] at hb
      rcases hb with rfl | rfl | z
      · obtain ⟨o, _, _, e, _⟩ := R3.ns; exact ⟨o, e⟩
      · exact hDo
      · obtain ⟨o, e⟩ := RG.has b (by simp [z]); exact ⟨o, keep3 _ _ e⟩)
    (fun b o h => h.1) (fun b hb nb o h => by
      simp only [List.cons_append, List.nil_append, List.mem_cons] at hb
      rcases hb with rfl | z
      · exact h.2 (.inl hLoc.symm)
      · exact nb z) (fun j y c e => absurd e (nocelG j y c))
  have GI3 : GI C "statestack" LT "told" M fiG (s3.setGen g .running) (s3.setGen g .running) (gen0 T text st) :=
    ⟨⟨D, hTwo, hDo, fun b hb z => by
      have z := owG b (hLoc ▸ z)
      subst z
      simp only [List.cons_append, List.nil_append, List.mem_cons] at hb
      obtain ⟨o, es, ep, e, r⟩ := RG.ns
      rcases hb with w | w | w
      · rw [hLoc, w, nTs] at e; cases e
      · rw [hLoc, w, nDs] at e; cases e
      · exact hLGM w, _, _, _, _, RG3⟩, .refl _, nocelG⟩
  have K : Ask C (A.deeper (callEnvC (fnOf nameT qualT toldF.params toldF.body toldF.scope .none .none docT pmT anT cdvT ctT) LT aT)) (lexS T text text.length 0 st) LG "statestack" "told" M ag g (fun b o => s.heap.get? b = some o ∧ b ≠ LG) (toldFi nameT qualT docT pmT anT cdvT ctT LT aT) 1 [LG] (lexS T text text.length 0 st).length (toldS ag [] 0 .un .un .un) s3 := {
    rel := ⟨M3, m3, cv3, ad3, R3.back (fun b o h => h.1) (fun _ h => h) fun b h => .inl h⟩
    lone := lone3
    isgen := isgen.keeps keep3
    notT := fun z => by
      obtain ⟨o, nm, qn, e, _⟩ := isgen
      rw [z] at e
      have e : s.heap.get? LT = some o := e
      rw [nTs] at e; cases e
    aW := by simpa using agLG
    aM := hag
    st := ⟨_, gs3, rfl, by
      rw [lexS_len _ _ _ (by omega)]
      have := gen_start (A := (A.deeper (callEnvC (fnOf nameT qualT toldF.params toldF.body toldF.scope .none .none docT pmT anT cdvT ctT) LT aT)).in1) hfi FG X (ak'.less (by omega)).in1 hT hlen hg hst GI3
      rw [hLoc] at this
      exact this⟩
    own := fun b hb => by simpa using owG b hb
    own' := fun b hb => .inl (by simpa using hb)
    hd := fun b hb o h => h.2 (by simpa using hb)
    hba := by obtain ⟨o, nm, qn, e, _⟩ := isgen; exact ⟨o, e, agLG⟩
    sep := fun b hb => by have : b = LG := by simpa using hb
                          subst this; exact hLGM }
  let total : List AV := (lexN T text text.length 0 st).map pieceAV
  refine wpAny_execs_cons (forGen (n := 19) (P := fun rest ℓ => ∃ k pos st' a3 a4 a5 done, rest = lexS T text k pos st' ∧ pos + k = text.length ∧ Flat a3 ∧ Flat a4 ∧ Flat a5 ∧ ℓ = toldS ag done pos a3 a4 a5 ∧ done ++ (lexN T text k pos st').map pieceAV = total ∧ done.length ≤ pos)
    ak' (fun rest ℓ hP => ?_) (fun x rest ℓ hP => ?_) ⟨text.length, 0, st, .un, .un, .un, [], rfl, by omega, .inl rfl, .inl rfl, .inl rfl, rfl, rfl, by simp⟩ K (fun _ _ => rfl) (fun Q E h => ?_) (fun ℓ' s4 hP hgens hbare hos hh => ?_))
  · obtain ⟨k, pos, st', a3, a4, a5, done, _, _, h3, h4, h5, rfl, _⟩ := hP
    exact told_lone h3 h4 h5
  · obtain ⟨k, pos, st', a3, a4, a5, done, h1, h2, h3, h4, h5, rfl, h6, h7⟩ := hP
    cases k with
    | zero => cases h1
    | succ k =>
      obtain ⟨names, c, st2, e1, e2⟩ := lex_step (T := T) (text := text) (k := k) (pos := pos) (by omega) st'
      rw [e1] at h1
      simp only [List.cons.injEq] at h1
      obtain ⟨rfl, rfl⟩ := h1
      refine told_turn F X (by omega) fun b3 b4 b5 g3 g4 g5 => ?_
      refine ⟨k, pos + 1, st2, b3, b4, b5, _, rfl, by omega, g3, g4, g5, rfl, ?_, by simp; omega⟩
      rw [← h6, e2]; simp
  · have z := R3.slot 0 (.fz (.ext (.gen ag))) rfl
    generalize ez : cv3 0 = w at z
    generalize ad3 0 = ds at z
    cases z with
    | @fz _ v rx =>
      have := C.gen.mp rx.ext_
      subst this
      exact R3.var F at0 ez h
  · obtain ⟨k, pos, st', a3, a4, a5, done, h1, h2, h3, h4, h5, rfl, h6, h7⟩ := hP
    have hk : k = 0 := by
      have := congrArg List.length h1
      rw [lexS_len k pos st' (by omega)] at this
      simpa using this.symm
    subst hk
    have h6 : done = total := by simpa [lexN] using h6
    subst h6
    obtain ⟨M4, m4, cv4, ad4, R4⟩ := hh
    refine (SW.freeze (ℓ := toldS ag total pos a3 a4 a5) (i := 1) (l := total) rfl (SW.cons (S1.ret (a := .lst total) (EJ.var F at1 at1) rfl)) : SW C 19 (toldFi nameT qualT docT pmT anT cdvT ctT LT aT) _ _ (fun o => o = .ret (.lst total))) _ _ M M4 m4 cv4 ad4 s4 ak' (fun _ j y c e => absurd e (lone3.nocel j y c)) R4 _ _ fun o f s5 ho af => ?_
    subst ho
    cases f <;> first | exact af.elim | skip
    obtain ⟨mv5, G5⟩ := af
    refine q _ _ (fun b o nb e => G5.base b o ⟨e, nb⟩) (fun j gg hj e => mv5.gens j gg (hgens j gg hj (mv3.gens j gg (mv2.gens j gg (by rw [eg]; exact e))))) (fun hb => mv5.bare (hbare (mv3.bare (mv2.bare (by rw [eg]; exact hb))))) (mv5.os.trans (hos.trans (mv3.os.trans (mv2.os.trans gr.os)))) G5.val
end
section
variable {C : Cx}
/-- the generator's function, with its one default -/
def GenAt (C : Cx) (a : Addr) : Prop := ∃ name qual oc od osl doc pm an cdv ct dT oT x n,
  C.h₀.get? a = some ⟨oc, od, .func (fnOf name qual genF.params genF.body genF.scope (.ref dT) .none doc pm an cdv ct), osl⟩ ∧ C.h₀.CodeRec cdv qual ∧ C.h₀.get? dT = some oT ∧ oT.data = .seq #[x] n
theorem gen_kind : ∀ x ∈ genPs ++ genXs, genF.scope.names.lookup x = some .local ∨ genF.scope.names.lookup x = some .cell := by decide

theorem EJ.lex {n : Nat} {fi : Fi} {ℓ : List Slot} (F : fi.Ok) (X : Lex C) {aT aG : Addr} (hn : 24 ≤ n) (hfT : FnAt C toldF aT) (gT : C.glb "_law_told" (.ref aT)) (hfG : GenAt C aG) {T : Tab} {text : Str} {st : List Str} (hm : MetJ C (.lexer T) "get_tokens_unprocessed" aG)
    (hT : TabOk T) (hlen : text.length ≤ 5000) (hg : Good T st) (hst : st.length ≤ 1000) {lx e1 e2 : Expr} {p1 p3 p4 p5 : Pos} (hlx : EJ C n fi ℓ lx (.ext (.lexer T))) (he1 : EJ C n fi ℓ e1 (.str text)) (he2 : EJ C n fi ℓ e2 (.lst (st.map .str)))
    (hx : fi.env.kindOf "_law_told" = some .globalImplicit) (hline : (p3.endLine == p4.line) = true)
    (hbase : ∀ env, attributeBase lx "get_tokens_unprocessed" env (eval lx env) = eval lx env)
    (hq1 : ∀ env, starEach [e1, e2] env = (false, eval e1 env) :: starEach [e2] env) (hq2 : ∀ env, starEach [e2] env = (false, eval e2 env) :: starEach [] env) :
    EJ C n fi ℓ (.Call (.Name "_law_told" p1) [.Call (.Attribute lx "get_tokens_unprocessed" p3) [e1, e2] [] p4] [] p5) (.lst ((lexN T text text.length 0 st).map pieceAV)) := fun A hb Mo M m cv ad s ak R Q E q => by
  have hfT' := hfT
  obtain ⟨nameT, qualT, ocT, odT, oslT, docT, pmT, anT, cdvT, ctT, hoT, hcdT⟩ := hfT'
  obtain ⟨name, qual, oc, od, osl, doc, pm, an, cdv, ct, dT, oT, xT, nT, ho, hcd, hoD, hoS⟩ := hfG
  refine Call_ (glb_at F R gT hx (by decide) ?_)
  refine Calls.callWith_function (o := ⟨ocT, odT, .func (fnOf nameT qualT toldF.params toldF.body toldF.scope .none .none docT pmT anT cdvT ctT), oslT⟩) (fd := fnOf nameT qualT toldF.params toldF.body toldF.scope .none .none docT pmT anT cdvT ctT) (Calls.evalArgs_plain (Calls.spliced_cons ?_))
  have hfew : ((backTo p4 (starEach [e1, e2] fi.env)).all (fun x => !x.1) && (backToKw p4 (keywordEach [] fi.env)).all (fun x => x.1.isSome)
      && decide (([e1, e2] : List Expr).length + ([] : List Keyword).length + (if ([] : List Keyword).isEmpty then 0 else 1) < 30)) = true := by rw [hq1, hq2]; rfl
  refine meth_core (hbase _) hfew hline (hlx A hb Mo M m cv ad s ak R _ _ fun v s1 g1 rv => ⟨.ref aG, fun pl Q E q => hm A M s1 v pl Q E (R.grow g1).glob rv.ext_ q, ?_⟩)
  have R1 := R.grow g1
  refine Calls.callWith_function (o := ⟨oc, od, .func (fnOf name qual genF.params genF.body genF.scope (.ref dT) .none doc pm an cdv ct), osl⟩) (fd := fnOf name qual genF.params genF.body genF.scope (.ref dT) .none doc pm an cdv ct)
    (args_ok (LJ.cons he1 (LJ.cons he2 LJ.nil hq2) hq1) ak R1 hq1 _ _ fun a s2 g2 ra => ⟨⟨((R1.grow g2).base0 _ _ ho), rfl⟩, ?_⟩)
  have R2 := R1.grow g2
  obtain ⟨hkw, rl⟩ := ra
  rw [hkw]
  obtain ⟨v1, v2, hv, r1, r2⟩ := rl.two
  rw [hv]
  have rl3 : RepL C (hid s2.heap M) [.ext (.lexer T), .str text, .lst (st.map .str)] [v, v1, v2] := .cons (rv.mono (hid_grow g2.keep)) (.cons r1 (.cons r2 .nil))
  have k0 := R2.base0
  refine wpAny_call (codeAny_call_generator (body := genF.body) (fd := fnOf name qual genF.params genF.body genF.scope (.ref dT) .none doc pm an cdv ct) ak.room (k0 _ _ ho) rfl rfl rfl rfl (hcd.keeps k0) ?_)
  refine BindsTo.of_defaults (binds := genPs.zip [v, v1, v2]) rfl (k0 _ _ hoD) hoS rfl rfl _ _ _ _ ?_
  refine wpAny_newFunctionEnv_cells rfl (fun x hx => ?_) fun env he s3 I => ?_
  · have hx' : x.1 ∈ genPs ++ genXs := List.mem_append_left _ ((List.of_mem_zip hx).1)
    rcases gen_kind _ hx' with z | z
    · exact .inl z
    · exact .inr ⟨z, cells_mem _ _ _ _ (.inl z)⟩
  · subst he
    obtain ⟨FG, ow, g3, eg, M', mG, cvG, RG, hmG⟩ := frame_rel (C := C) (fd := fnOf name qual genF.params genF.body genF.scope (.ref dT) .none doc pm an cdv ct) (a := aG) (ps := genPs) (xs := genXs) (as := [.ext (.lexer T), .str text, .lst (st.map .str)]) rfl rfl rfl rfl (by decide) gen_kind (by decide) R2.glob R2.has R2.new0 rl3 rfl I
    refine ⟨C.nolim.keeps (k0.trans g3.keep), ?_⟩
    generalize hLG : s2.heap.objs.size = LG at *
    have nLG2 : s2.heap.get? LG = Option.none := hLG ▸ get_new
    have g4 : Grow s3 { s3 with gens := s3.gens.push (.fresh (.func genF.body (callEnvC (fnOf name qual genF.params genF.body genF.scope (.ref dT) .none doc pm an cdv ct) LG aG))), toks := s3.toks + 1 + 1, heap := s3.heap.push { cls := .type "generator", data := .fields #[.int s3.gens.size 0, .str name s3.toks, .str qual (s3.toks + 1)] } } :=
      ⟨rep_push, fun i gg e => by
        show (s3.gens.push _)[i]? = some gg
        rw [Array.getElem?_push_lt (Array.getElem?_eq_some_iff.mp e).1]
        exact (Array.getElem?_eq_getElem (Array.getElem?_eq_some_iff.mp e).1).symm.trans e, fun h => h.push rfl, rfl⟩
    have RG4 := RG.grow g4
    have RG5 := RG4.trim (M' := [LG] ++ M) (fun b hb => by
        simp only [List.cons_append, List.nil_append, List.mem_cons] at hb
        rcases hb with rfl | z
        · exact RG4.mL.1
        · exact RG4.mO b z) (by simp; exact .inl rfl) (fun i x c e => by
          have : (genFi name qual doc pm an cdv ct (.ref dT) LG aG).vs = (["self", "text", "stack", "pos", "tokendefs", "statestack", "statetokens", "rexmatch", "action", "new_state", "m", "state"] : List Str).map fun (x : Str) => (x, Loc.loc) := rfl
          have e : (genFi name qual doc pm an cdv ct (.ref dT) LG aG).vs[i]? = some (x, .cel c) := e
          rw [this, List.getElem?_map] at e
          simp at e) (fun i hi a ha => nomatch ha) (fun b hb => by simp [hb])
    refine Calls.spliced_nil ⟨⟨(R2.grow g3).grow g4 |>.base0 _ _ hoT, rfl⟩, ?_⟩
    refine told_call hfT X (ak.less (by omega)) (name := name) (qual := qual) (doc := doc) (pm := pm) (an := an) (cdv := cdv) (ct := ct) (dV := .ref dT) hT hlen hg hst rfl FG RG5 (hmG _ (by decide)) (g := s3.gens.size) ⟨_, _, _, Heap.get?_push_size _ rfl, rfl, rfl, rfl⟩ (fun z => ?_) Array.getElem?_push_size fun v s5 hk hgens hbare hos rep => q v s5 ⟨fun b o e => ?_, fun i gg e => ?_, fun h => ?_, ?_⟩ rep
    · have := ((R2.grow g3)).lt _ z
      exact Nat.lt_irrefl _ this
    · have e2 := g2.keep _ _ (g1.keep _ _ e)
      exact hk b o (fun z => by rw [z, nLG2] at e2; cases e2) (g4.keep _ _ (g3.keep _ _ e2))
    · have e3 : s3.gens[i]? = some gg := g3.gens i gg (g2.gens i gg (g1.gens i gg e))
      exact hgens i gg (Nat.ne_of_lt (Array.getElem?_eq_some_iff.mp e3).1) (g4.gens i gg e3)
    · exact hbare (g4.bare (g3.bare (g2.bare (g1.bare h))))
    · exact hos.trans (g4.os.trans (g3.os.trans (g2.os.trans g1.os)))
end
section
variable {C : Cx}
/-- the part of a stack that lies below is neither seen nor changed, while the stack stays as high -/
theorem lessL_app {α : Type} (base r : List α) (hr : r ≠ []) (hb : 1 ≤ base.length) : lessL (base ++ r) = base ++ r.dropLast := by
  unfold lessL
  have : 0 < r.length := List.length_pos_iff.mpr hr
  rw [if_pos (by simp; omega)]
  first
    | rw [List.dropLast_append_of_ne_nil hr]
    | (rw [← List.dropLast_eq_take, List.dropLast_append_of_ne_nil hr])
theorem stepL_app {α : Type} (base r : List α) (k : Nat) (one two : α) (hb : 2 ≤ base.length) (hr : r ≠ []) (hk : base.length ≤ (stepL (base ++ r) k one two).length) :
    ∃ r', ∀ base' : List α, 2 ≤ base'.length → stepL (base' ++ r) k one two = base' ++ r' := by
  have l1 : ∀ b : List α, 2 ≤ b.length → lessL (b ++ r) = b ++ r.dropLast := fun b h => lessL_app b r hr (by omega)
  by_cases h3 : k = 3
  · subst h3
    have e : stepL (base ++ r) 3 one two = lessL (lessL (base ++ r)) := by simp [stepL]
    rw [e, l1 base hb] at hk
    have hd : r.dropLast ≠ [] := by
      intro z
      rw [z, List.append_nil, lessL, if_pos (by omega)] at hk
      simp at hk; omega
    refine ⟨r.dropLast.dropLast, fun b h => ?_⟩
    have e : stepL (b ++ r) 3 one two = lessL (lessL (b ++ r)) := by simp [stepL]
    rw [e, l1 b h, lessL_app b _ hd (by omega)]
  · refine ⟨if k = 0 then r ++ [one] else if k = 1 ∨ k = 8 then r.dropLast else if k = 2 then r.dropLast ++ [one] else if k = 4 then r ++ [one, two] else if k = 5 then r ++ r.drop (r.length - 1) else if k = 9 then r ++ [one, one] else r, fun b h => ?_⟩
    unfold stepL
    rw [l1 b h]
    have pr : 0 < r.length := List.length_pos_iff.mpr hr
    have hd : (b ++ r).drop ((b ++ r).length - 1) = r.drop (r.length - 1) := by
      rw [List.drop_append, List.drop_eq_nil_of_le (by simp; omega), List.nil_append]
      congr 1
      simp; omega
    rw [hd]
    repeat' split
    all_goals first | rfl | simp | omega

section
variable {α β : Type} (cell : α → β → Nat × α × α)
def mstep (st : List α) (c : β) : List α :=
  match st.getLast? with
  | some t => stepL st (cell t c).1 (cell t c).2.1 (cell t c).2.2
  | none => st
def mrun (st : List α) (w : List β) : List α := w.foldl (mstep cell) st
def mtold (st : List α) : List β → List (Option α × β)
  | [] => []
  | c :: w => (st.getLast?, c) :: mtold (mstep cell st c) w
theorem mrun_app (st : List α) (v w : List β) : mrun cell st (v ++ w) = mrun cell (mrun cell st v) w := List.foldl_append ..
theorem mtold_app : ∀ (v : List β) (st : List α) (w : List β), mtold cell st (v ++ w) = mtold cell st v ++ mtold cell (mrun cell st v) w
  | [], _, _ => rfl
  | c :: v, st, w => by
    show _ :: mtold cell _ (v ++ w) = _
    rw [mtold_app v]; rfl
theorem last_app (b r : List α) (hr : r ≠ []) : (b ++ r).getLast? = r.getLast? := by
  rw [List.getLast?_append]
  obtain ⟨t, ht⟩ : ∃ t, r.getLast? = some t := ⟨_, List.getLast?_eq_some_getLast hr⟩
  rw [ht]; rfl
/-- a walk that never sees below `base` goes alike on any other base -/
theorem mseg (base : List α) (hb : 2 ≤ base.length) : ∀ (w : List β) (r : List α), (∀ n, n < w.length → base.length < (mrun cell (base ++ r) (w.take n)).length) → base.length ≤ (mrun cell (base ++ r) w).length →
    ∃ r' ts, ∀ base' : List α, 2 ≤ base'.length → mrun cell (base' ++ r) w = base' ++ r' ∧ mtold cell (base' ++ r) w = ts
  | [], r, _, _ => ⟨r, [], fun _ _ => ⟨rfl, rfl⟩⟩
  | c :: w, r, h1, h2 => by
    have h0 := h1 0 (by simp)
    have hr : r ≠ [] := by
      intro z
      rw [z] at h0
      simp [mrun] at h0
    obtain ⟨t, ht⟩ : ∃ t, r.getLast? = some t := ⟨_, List.getLast?_eq_some_getLast hr⟩
    have st : ∀ b : List α, mstep cell (b ++ r) c = stepL (b ++ r) (cell t c).1 (cell t c).2.1 (cell t c).2.2 := fun b => by
      unfold mstep
      rw [last_app b r hr, ht]
    have hk : base.length ≤ (mstep cell (base ++ r) c).length := by
      cases w with
      | nil => exact h2
      | cons d w => exact Nat.le_of_lt (h1 1 (by simp))
    rw [st] at hk
    obtain ⟨r1, e1⟩ := stepL_app base r _ _ _ hb hr hk
    have e2 : ∀ b : List α, 2 ≤ b.length → mstep cell (b ++ r) c = b ++ r1 := fun b h => by rw [st, e1 b h]
    obtain ⟨r', ts, e3⟩ := mseg base hb w r1 (fun n hn => by
      have := h1 (n + 1) (by simp; omega)
      rw [List.take_succ_cons] at this
      rw [← e2 base hb]; exact this) (by rw [← e2 base hb]; exact h2)
    refine ⟨r', (some t, c) :: ts, fun b h => ?_⟩
    have := e3 b h
    rw [← e2 b h] at this
    refine ⟨this.1, ?_⟩
    show ((b ++ r).getLast?, c) :: mtold cell _ w = _
    rw [this.2, last_app b r hr, ht]
end
def repL {γ : Type} (u : List γ) : Nat → List γ
  | 0 => []
  | t + 1 => u ++ repL u t
theorem repL_last {γ : Type} (u : List γ) : ∀ t, repL u (t + 1) = repL u t ++ u
  | 0 => by simp [repL]
  | t + 1 => by
    show u ++ repL u (t + 1) = (u ++ repL u t) ++ u
    rw [repL_last u t, List.append_assoc]
section
variable {α β : Type} (cell : α → β → Nat × α × α)
theorem mring {st : List α} {u : List β} (h : mrun cell st u = st) : ∀ t, mrun cell st (repL u t) = st ∧ mtold cell st (repL u t) = repL (mtold cell st u) t
  | 0 => ⟨rfl, rfl⟩
  | t + 1 => by
    have := mring h t
    refine ⟨by rw [repL, mrun_app, h, this.1], ?_⟩
    rw [repL, mtold_app, h, this.2]; rfl
/-- in and out of one ring, as often as wanted -/
theorem mpump {u v x : List β} {r mid : List α} {tu tv tx : List (Option α × β)} (hu : ∀ b : List α, 2 ≤ b.length → mrun cell (b ++ r) u = b ++ (mid ++ r) ∧ mtold cell (b ++ r) u = tu)
    (hv : ∀ b : List α, 2 ≤ b.length → mrun cell (b ++ r) v = b ∧ mtold cell (b ++ r) v = tv) (hx : ∀ b : List α, 2 ≤ b.length → mrun cell (b ++ mid) x = b ∧ mtold cell (b ++ mid) x = tx) :
    ∀ t (b : List α), 2 ≤ b.length → mrun cell (b ++ r) (repL u t ++ v ++ repL x t) = b ∧ mtold cell (b ++ r) (repL u t ++ v ++ repL x t) = repL tu t ++ tv ++ repL tx t
  | 0, b, h => by simpa [repL] using hv b h
  | t + 1, b, h => by
    have e : repL u (t + 1) ++ v ++ repL x (t + 1) = u ++ ((repL u t ++ v ++ repL x t) ++ x) := by
      rw [repL_last x]; simp [repL]
    have e' : repL tu (t + 1) ++ tv ++ repL tx (t + 1) = tu ++ ((repL tu t ++ tv ++ repL tx t) ++ tx) := by
      rw [repL_last tx]; simp [repL]
    have i := mpump hu hv hx t (b ++ mid) (by simp; omega)
    have a := hu b h
    rw [← List.append_assoc] at a
    have z := hx b h
    rw [e, e']
    constructor
    · rw [mrun_app, a.1, mrun_app, i.1, z.1]
    · rw [mtold_app, a.1, a.2, mtold_app, i.1, i.2, z.2]
end
section
variable {α β : Type} (cell : α → β → Nat × α × α)
theorem mrun_seg (st : List α) (w : List β) {i j n : Nat} (h : i + n ≤ j) : mrun cell (mrun cell st (w.take i)) (((w.take j).drop i).take n) = mrun cell st (w.take (i + n)) := by
  rw [← mrun_app]
  congr 1
  rw [List.drop_take, List.take_take, Nat.min_eq_left (by omega), List.take_add]
end
section
variable {α β : Type} (cell : α → β → Nat × α × α)
theorem mseg_at (st : List α) (w : List β) {i j b : Nat} (hij : i ≤ j) (hjw : j ≤ w.length) (hb : 2 ≤ b) (hi : b ≤ (mrun cell st (w.take i)).length) (hlow : ∀ m, i ≤ m → m < j → b < (mrun cell st (w.take m)).length) (hend : b ≤ (mrun cell st (w.take j)).length) :
    ∃ r' ts, mrun cell st (w.take j) = (mrun cell st (w.take i)).take b ++ r' ∧ ∀ base' : List α, 2 ≤ base'.length → mrun cell (base' ++ (mrun cell st (w.take i)).drop b) ((w.take j).drop i) = base' ++ r' ∧ mtold cell (base' ++ (mrun cell st (w.take i)).drop b) ((w.take j).drop i) = ts := by
  have lb : ((mrun cell st (w.take i)).take b).length = b := by rw [List.length_take]; omega
  have ls : ((w.take j).drop i).length = j - i := by rw [List.length_drop, List.length_take]; omega
  have full : mrun cell (mrun cell st (w.take i)) ((w.take j).drop i) = mrun cell st (w.take j) := by
    have := mrun_seg cell st w (i := i) (j := j) (n := j - i) (by omega)
    rwa [List.take_of_length_le (l := (w.take j).drop i) (by omega), show i + (j - i) = j by omega] at this
  obtain ⟨r', ts, h⟩ := mseg cell ((mrun cell st (w.take i)).take b) (by omega) ((w.take j).drop i) ((mrun cell st (w.take i)).drop b) (fun n hn => by
    rw [List.take_append_drop, mrun_seg cell st w (by omega), lb]
    exact hlow _ (by omega) (by omega)) (by rw [List.take_append_drop, full, lb]; exact hend)
  refine ⟨r', ts, ?_, h⟩
  have := (h ((mrun cell st (w.take i)).take b) (by omega)).1
  rwa [List.take_append_drop, full] at this
end
theorem oneElem {α : Type} {l : List α} (h : l.length = 1) : ∃ x, l = [x] := by
  match l, h with
  | [x], _ => exact ⟨x, rfl⟩
theorem same_top {α : Type} {s s' r : List α} {b : Nat} (h : s' = s.take b ++ r) (l1 : s.length = b + 1) (l2 : s'.length = b + 1) (ht : s'.getLast? = s.getLast?) : s' = s := by
  have lr : r.length = 1 := by
    have := congrArg List.length h
    rw [List.length_append, List.length_take] at this; omega
  obtain ⟨x, rfl⟩ := oneElem lr
  obtain ⟨y, hy⟩ := oneElem (l := s.drop b) (by rw [List.length_drop]; omega)
  have e : s = s.take b ++ [y] := by rw [← hy, List.take_append_drop]
  have t1 : s'.getLast? = some x := by rw [h]; simp
  have t2 : s.getLast? = some y := by rw [e]; simp
  rw [t1, t2] at ht
  cases ht
  rw [h]; exact e.symm
section
variable {α β : Type} (cell : α → β → Nat × α × α)
theorem mtold_take : ∀ (w : List β) (st : List α) (n : Nat), (mtold cell st w).take n = mtold cell st (w.take n)
  | [], st, n => by simp [mtold]
  | c :: w, st, 0 => rfl
  | c :: w, st, n + 1 => by
    show (_ :: mtold cell _ w).take (n + 1) = _ :: mtold cell _ (w.take n)
    rw [List.take_succ_cons, mtold_take w]
theorem mtold_drop : ∀ (w : List β) (st : List α) (n : Nat), (mtold cell st w).drop n = mtold cell (mrun cell st (w.take n)) (w.drop n)
  | [], st, n => by simp [mtold]
  | c :: w, st, 0 => rfl
  | c :: w, st, n + 1 => by
    show (_ :: mtold cell _ w).drop (n + 1) = mtold cell (mrun cell _ (w.take n)) (w.drop n)
    rw [List.drop_succ_cons, mtold_drop w]
end
end
section
variable {C : Cx}
theorem belowL_in {hs : List Int} {least : Int} : ∀ (k a m : Nat), a ≤ m → m < belowL hs least k a → ∃ v, hs[m]? = some v ∧ least ≤ v
  | 0, a, m, h1, h2 => by simp [belowL] at h2; omega
  | k + 1, a, m, h1, h2 => by
    unfold belowL at h2
    split at h2
    · rename_i h e
      split at h2
      · by_cases q : m = a
        · subst q; exact ⟨_, e, by assumption⟩
        · exact belowL_in k (a + 1) m (by omega) h2
      · omega
    · omega
/-- what a quad of _law_pumps says -/
structure Ring (hs : List Int) (tops : List Str) (q : Quad) (h : Int) (least : Int) : Prop where
  lt : q.1 < q.2.1
  len : q.2.1 < tops.length
  low : 2 < least
  at_i : hs[q.1]? = some least
  at_j : hs[q.2.1]? = some h
  le : least ≤ h
  top : tops[q.2.1]? = tops[q.1]?
  up : ∀ m, q.1 ≤ m → m ≤ q.2.1 → ∃ v, hs[m]? = some v ∧ least ≤ v
def GoodQ (hs : List Int) (tops : List Str) (q : Quad) : Prop :=
  (∃ h, Ring hs tops q h h ∧ q.2.2.1 = q.2.1 ∧ q.2.2.2 = q.2.1) ∨
  (∃ h least, Ring hs tops q h least ∧ least < h ∧ q.2.1 ≤ q.2.2.1 ∧ q.2.2.1 ≤ q.2.2.2 ∧ q.2.2.2 < tops.length ∧ hs[q.2.2.1]? = some (h - 1) ∧ hs[q.2.2.2]? = some (least - 1) ∧
    (∀ m, q.2.1 ≤ m → m < q.2.2.1 → ∃ v, hs[m]? = some v ∧ h ≤ v) ∧ (∀ m, q.2.2.1 ≤ m → m < q.2.2.2 → ∃ v, hs[m]? = some v ∧ least ≤ v))
theorem pumpHit_good {hs : List Int} {tops : List Str} {i j : Nat} {least h : Int} {s : List Quad × List Quad} (hl : hs.length = tops.length) (hij : i < j) (hj : j < tops.length) (hlow : 2 < least) (ei : hs[i]? = some least) (ej : hs[j]? = some h) (hle : least ≤ h)
    (up : ∀ m, i ≤ m → m ≤ j → ∃ v, hs[m]? = some v ∧ least ≤ v) (g : ∀ q ∈ s.1 ++ s.2, GoodQ hs tops q) : ∀ q ∈ (pumpHit hs tops i j least h s).1 ++ (pumpHit hs tops i j least h s).2, GoodQ hs tops q := by
  unfold pumpHit
  split
  · rename_i et
    split
    · rename_i e
      intro q hq
      simp only [List.mem_append, List.mem_singleton] at hq
      rcases hq with hq | hq | hq
      · exact g q (by simp [hq])
      · exact g q (by simp [hq])
      · subst hq; subst e
        exact .inl ⟨h, ⟨hij, hj, hlow, ei, ej, hle, et, up⟩, rfl, rfl⟩
    · rename_i ne
      split
      · split
        · rename_i c
          intro q hq
          simp only [List.mem_append, List.mem_singleton] at hq
          rcases hq with hq | hq
          · subst hq
            have b1 := belowL_le (hs := hs) (least := h) (hs.length - j) j (by omega)
            have b2 := belowL_le (hs := hs) (least := least) (hs.length - belowL hs h (hs.length - j) j) (belowL hs h (hs.length - j) j) (by omega)
            exact .inr ⟨h, least, ⟨hij, hj, hlow, ei, ej, hle, et, up⟩, by omega, b1.2, b2.2, c.1, c.2.1, c.2.2, fun m h1 h2 => belowL_in _ _ m h1 h2, fun m h1 h2 => belowL_in _ _ m h1 h2⟩
          · exact g q (by simp [hq])
        · exact g
      · exact g
  · exact g
theorem pumpIn_good {hs : List Int} {tops : List Str} {i : Nat} {least : Int} (hl : hs.length = tops.length) (ei : hs[i]? = some least) : ∀ (n j : Nat) (s : List Quad × List Quad), i < j → (∀ m, i ≤ m → m < j → ∃ v, hs[m]? = some v ∧ least ≤ v) →
    (∀ q ∈ s.1 ++ s.2, GoodQ hs tops q) → ∀ q ∈ (pumpIn hs tops i least n j s).1 ++ (pumpIn hs tops i least n j s).2, GoodQ hs tops q
  | 0, j, s, _, _, g => g
  | n + 1, j, s, hij, up, g => by
    unfold pumpIn
    split
    · rename_i h e
      split
      · rename_i c
        have hj : j < tops.length := by rw [← hl]; exact (List.getElem?_eq_some_iff.mp e).1
        have up' : ∀ m, i ≤ m → m ≤ j → ∃ v, hs[m]? = some v ∧ least ≤ v := fun m h1 h2 => by
          by_cases q : m = j
          · subst q; exact ⟨h, e, c.2⟩
          · exact up m h1 (by omega)
        exact pumpIn_good hl ei n (j + 1) _ (by omega) (fun m h1 h2 => up' m h1 (by omega)) (pumpHit_good hl hij hj c.1 ei e c.2 up' g)
      · exact g
    · exact g
theorem pumpAll_good {hs : List Int} {tops : List Str} (hl : hs.length = tops.length) : ∀ (n i : Nat) (s : List Quad × List Quad), i + n ≤ tops.length → (∀ q ∈ s.1 ++ s.2, GoodQ hs tops q) → ∀ q ∈ (pumpAll hs tops n i s).1 ++ (pumpAll hs tops n i s).2, GoodQ hs tops q
  | 0, i, s, _, g => g
  | n + 1, i, s, h, g => by
    obtain ⟨v, hv⟩ : ∃ v, hs[i]? = some v := ⟨_, List.getElem?_eq_getElem (by omega)⟩
    unfold pumpAll
    refine pumpAll_good hl n (i + 1) _ (by omega) (pumpIn_good hl (by rw [hv]; rfl) _ _ s (by omega) (fun m h1 h2 => ?_) g)
    have : m = i := by omega
    subst this
    exact ⟨v, hv, by rw [hv]; exact Int.le_refl _⟩
end
section
variable {C : Cx}
section
variable {α β : Type} (cell : α → β → Nat × α × α)
theorem mtold_part (st : List α) (w : List β) {i j : Nat} (h : i ≤ j) : ((mtold cell st w).take j).drop i = mtold cell (mrun cell st (w.take i)) ((w.take j).drop i) := by
  rw [mtold_take, mtold_drop, List.take_take, Nat.min_eq_left h]
theorem take_app_part {γ : Type} (w : List γ) {i j : Nat} (h : i ≤ j) : w.take j = w.take i ++ (w.take j).drop i := by
  have := (List.take_append_drop i (w.take j)).symm
  rwa [List.take_take, Nat.min_eq_left h] at this
theorem mring_at {st : List α} {w : List β} {i j h : Nat} (hij : i < j) (hj : j ≤ w.length) (hh : 2 < h) (hi : (mrun cell st (w.take i)).length = h) (hje : (mrun cell st (w.take j)).length = h)
    (up : ∀ m, i ≤ m → m < j → h ≤ (mrun cell st (w.take m)).length) (tp : (mrun cell st (w.take j)).getLast? = (mrun cell st (w.take i)).getLast?) (t : Nat) :
    mrun cell st (w.take i ++ repL ((w.take j).drop i) t) = mrun cell st (w.take j) ∧
    mtold cell st (w.take i ++ repL ((w.take j).drop i) t) = (mtold cell st w).take i ++ repL (((mtold cell st w).take j).drop i) t := by
  obtain ⟨r', ts, e, hs⟩ := mseg_at cell st w (i := i) (j := j) (b := h - 1) (by omega) hj (by omega) (by omega) (fun m h1 h2 => by have := up m h1 h2; omega) (by omega)
  have es := same_top e (by omega) (by omega) tp
  have full : mrun cell (mrun cell st (w.take i)) ((w.take j).drop i) = mrun cell st (w.take i) := by
    rw [← mrun_app, ← take_app_part w (by omega), es]
  have r := mring cell full t
  rw [mrun_app, r.1, es, mtold_app, r.2, mtold_part cell st w (by omega), mtold_take]
  exact ⟨rfl, rfl⟩
theorem mpump_at {st : List α} {w : List β} {i j k l h least : Nat} (hij : i < j) (hjk : j ≤ k) (hkl : k ≤ l) (hl : l ≤ w.length) (hl2 : 2 < least) (hlt : least < h)
    (ei : (mrun cell st (w.take i)).length = least) (ej : (mrun cell st (w.take j)).length = h) (ek : (mrun cell st (w.take k)).length = h - 1) (el : (mrun cell st (w.take l)).length = least - 1)
    (up1 : ∀ m, i ≤ m → m < j → least ≤ (mrun cell st (w.take m)).length) (up2 : ∀ m, j ≤ m → m < k → h ≤ (mrun cell st (w.take m)).length) (up3 : ∀ m, k ≤ m → m < l → least ≤ (mrun cell st (w.take m)).length)
    (tp : (mrun cell st (w.take j)).getLast? = (mrun cell st (w.take i)).getLast?) (t : Nat) :
    mrun cell st (w.take i ++ (repL ((w.take j).drop i) t ++ (w.take k).drop j ++ repL ((w.take l).drop k) t)) = mrun cell st (w.take l) ∧
    mtold cell st (w.take i ++ (repL ((w.take j).drop i) t ++ (w.take k).drop j ++ repL ((w.take l).drop k) t)) =
      (mtold cell st w).take i ++ (repL (((mtold cell st w).take j).drop i) t ++ ((mtold cell st w).take k).drop j ++ repL (((mtold cell st w).take l).drop k) t) := by
  obtain ⟨r1, tu, e1, s1⟩ := mseg_at cell st w (i := i) (j := j) (b := least - 1) (by omega) (by omega) (by omega) (by omega) (fun m h1 h2 => by have := up1 m h1 h2; omega) (by omega)
  obtain ⟨r2, tv, e2, s2⟩ := mseg_at cell st w (i := j) (j := k) (b := h - 1) (by omega) (by omega) (by omega) (by omega) (fun m h1 h2 => by have := up2 m h1 h2; omega) (by omega)
  obtain ⟨r3, tx, e3, s3⟩ := mseg_at cell st w (i := k) (j := l) (b := least - 1) (by omega) (by omega) (by omega) (by omega) (fun m h1 h2 => by have := up3 m h1 h2; omega) (by omega)
  have fu : mrun cell (mrun cell st (w.take i)) ((w.take j).drop i) = mrun cell st (w.take j) := by rw [← mrun_app, ← take_app_part w (by omega)]
  have fv : mrun cell (mrun cell st (w.take j)) ((w.take k).drop j) = mrun cell st (w.take k) := by rw [← mrun_app, ← take_app_part w (by omega)]
  have fx : mrun cell (mrun cell st (w.take k)) ((w.take l).drop k) = mrun cell st (w.take l) := by rw [← mrun_app, ← take_app_part w (by omega)]
  have lt := mtold_part cell st w (i := i) (j := j) (by omega)
  have lv := mtold_part cell st w (i := j) (j := k) (by omega)
  have lx := mtold_part cell st w (i := k) (j := l) (by omega)
  rw [mtold_take, lt, lv, lx]
  generalize hSi : mrun cell st (w.take i) = Si at *
  generalize hSj : mrun cell st (w.take j) = Sj at *
  generalize hSk : mrun cell st (w.take k) = Sk at *
  generalize hSl : mrun cell st (w.take l) = Sl at *
  have n2 : r2 = [] := by
    have := congrArg List.length e2
    rw [List.length_append, List.length_take] at this
    exact List.length_eq_zero_iff.mp (by omega)
  have n3 : r3 = [] := by
    have := congrArg List.length e3
    rw [List.length_append, List.length_take] at this
    exact List.length_eq_zero_iff.mp (by omega)
  subst n2; subst n3
  rw [List.append_nil] at e2 e3
  obtain ⟨y, hy⟩ := oneElem (l := Si.drop (least - 1)) (by rw [List.length_drop]; omega)
  obtain ⟨z, hz⟩ := oneElem (l := Sj.drop (h - 1)) (by rw [List.length_drop]; omega)
  have di : Si = Si.take (least - 1) ++ [y] := by rw [← hy, List.take_append_drop]
  have dj : Sj = Sj.take (h - 1) ++ [z] := by rw [← hz, List.take_append_drop]
  have yz : z = y := by
    have t1 : Si.getLast? = some y := by rw [di]; simp
    have t2 : Sj.getLast? = some z := by rw [dj]; simp
    rw [t1, t2] at tp
    exact Option.some.inj tp
  subst yz
  have lb : (Si.take (least - 1)).length = least - 1 := by rw [List.length_take]; omega
  -- the middle
  have hmid : Sk.drop (least - 1) ++ [z] = r1 := by
    have a : Sj = Sk ++ [z] := by rw [e2]; exact dj
    have b : Sk.take (least - 1) = Si.take (least - 1) := by
      have c := congrArg (List.take (least - 1)) (a.symm.trans e1)
      rw [List.take_append_of_le_length (by omega), List.take_append_of_le_length (by omega), List.take_take, Nat.min_self] at c
      exact c
    have c : Si.take (least - 1) ++ (Sk.drop (least - 1) ++ [z]) = Si.take (least - 1) ++ r1 := by
      rw [← List.append_assoc, ← b, List.take_append_drop, ← a, b]; exact e1
    exact List.append_cancel_left c
  have sl : Sl = Si.take (least - 1) := by
    have a : Sj = Sk ++ [z] := by rw [e2]; exact dj
    have c := congrArg (List.take (least - 1)) (a.symm.trans e1)
    rw [List.take_append_of_le_length (by omega), List.take_append_of_le_length (by omega), List.take_take, Nat.min_self] at c
    rw [e3, c]
  have hu : ∀ b : List α, 2 ≤ b.length → mrun cell (b ++ [z]) ((w.take j).drop i) = b ++ (Sk.drop (least - 1) ++ [z]) ∧ mtold cell (b ++ [z]) ((w.take j).drop i) = tu := fun b hb => by
    have := s1 b hb; rwa [hy, ← hmid] at this
  have hv : ∀ b : List α, 2 ≤ b.length → mrun cell (b ++ [z]) ((w.take k).drop j) = b ∧ mtold cell (b ++ [z]) ((w.take k).drop j) = tv := fun b hb => by
    have := s2 b hb; rwa [hz, List.append_nil] at this
  have hx : ∀ b : List α, 2 ≤ b.length → mrun cell (b ++ Sk.drop (least - 1)) ((w.take l).drop k) = b ∧ mtold cell (b ++ Sk.drop (least - 1)) ((w.take l).drop k) = tx := fun b hb => by
    have := s3 b hb; rwa [List.append_nil] at this
  have P := mpump cell (r := [z]) hu hv hx t (Si.take (least - 1)) (by omega)
  have tu' : mtold cell Si ((w.take j).drop i) = tu := by rw [di]; exact (hu _ (by omega)).2
  have tv' : mtold cell Sj ((w.take k).drop j) = tv := by rw [dj]; exact (hv _ (by rw [List.length_take]; omega)).2
  have tx' : mtold cell Sk ((w.take l).drop k) = tx := by
    rw [show Sk = Sk.take (least - 1) ++ Sk.drop (least - 1) from (List.take_append_drop _ _).symm]
    have := (hx (Sk.take (least - 1)) (by rw [List.length_take]; omega)).2
    rwa [List.take_append_drop] at this ⊢
  rw [mrun_app, hSi, mtold_app, hSi, tu', tv', tx']
  rw [← di] at P
  exact ⟨P.1.trans sl.symm, by rw [P.2]⟩
end
theorem repL_flat {γ : Type} (u : List γ) : ∀ t, repL u t = (List.replicate t u).flatten
  | 0 => rfl
  | t + 1 => by rw [repL, repL_flat u t, List.replicate_succ, List.flatten_cons]
/-- the heights and the tops of a walk -/
structure Tops (cell : Str → Nat → Nat × Str × Str) (st : List Str) (w : List Nat) (hs : List Int) (tops : List Str) : Prop where
  lh : hs.length = w.length + 1
  lt : tops.length = w.length + 1
  h : ∀ m, m ≤ w.length → hs[m]? = some ((mrun cell st (w.take m)).length : Int)
  t : ∀ m, m ≤ w.length → tops[m]? = (mrun cell st (w.take m)).getLast?
theorem good_pump {cell : Str → Nat → Nat × Str × Str} {st : List Str} {w : List Nat} {hs : List Int} {tops : List Str} (T : Tops cell st w hs tops) {q : Quad} (g : GoodQ hs tops q) (t : Nat) :
    q.1 ≤ q.2.1 ∧ q.2.1 ≤ q.2.2.1 ∧ q.2.2.1 ≤ q.2.2.2 ∧ q.2.2.2 ≤ w.length ∧
    mrun cell st (w.take q.1 ++ (repL ((w.take q.2.1).drop q.1) t ++ (w.take q.2.2.1).drop q.2.1 ++ repL ((w.take q.2.2.2).drop q.2.2.1) t)) = mrun cell st (w.take q.2.2.2) ∧
    mtold cell st (w.take q.1 ++ (repL ((w.take q.2.1).drop q.1) t ++ (w.take q.2.2.1).drop q.2.1 ++ repL ((w.take q.2.2.2).drop q.2.2.1) t)) =
      (mtold cell st w).take q.1 ++ (repL (((mtold cell st w).take q.2.1).drop q.1) t ++ ((mtold cell st w).take q.2.2.1).drop q.2.1 ++ repL (((mtold cell st w).take q.2.2.2).drop q.2.2.1) t) := by
  obtain ⟨i, j, k, l⟩ := q
  have hl := T.lt
  have len : ∀ {m : Nat} {v : Int}, m ≤ w.length → hs[m]? = some v → ((mrun cell st (w.take m)).length : Int) = v := fun hm e => by
    rw [T.h _ hm] at e; exact Option.some.inj e
  rcases g with ⟨h, R, e1, e2⟩ | ⟨h, least, R, c1, c2, c3, c4, c5, c6, c7, c8⟩
  · dsimp only at e1 e2
    subst e1; subst e2
    have r1 := R.lt; have r2 := R.len
    dsimp only at r1 r2
    have hi := len (m := i) (by omega) R.at_i
    have hj := len (m := l) (by omega) R.at_j
    have hlow := R.low
    have nil : ∀ n, repL ([] : List Nat) n = [] := fun n => by rw [repL_flat]; simp
    have nil' : ∀ n, repL ([] : List (Option Str × Nat)) n = [] := fun n => by rw [repL_flat]; simp
    have z := mring_at cell (st := st) (w := w) (i := i) (j := l) (h := h.toNat) r1 (by omega) (by omega) (by omega) (by omega) (fun m h1 h2 => by
      obtain ⟨v, hv, hle⟩ := R.up m h1 (Nat.le_of_lt h2)
      have := len (m := m) (by omega) hv
      omega) (by rw [← T.t _ (by omega), ← T.t _ (by omega)]; exact R.top) t
    dsimp only
    have d1 : (w.take l).drop l = [] := List.drop_eq_nil_of_le (by rw [List.length_take]; omega)
    have d2 : ((mtold cell st w).take l).drop l = [] := List.drop_eq_nil_of_le (by rw [List.length_take]; omega)
    rw [d1, d2, nil, nil', List.append_nil, List.append_nil, List.append_nil, List.append_nil]
    exact ⟨by omega, by omega, by omega, by omega, z.1, z.2⟩
  · have r1 := R.lt; have r2 := R.len
    dsimp only at r1 r2 c1 c2 c3 c4 c5 c6 c7 c8
    have hi := len (m := i) (by omega) R.at_i
    have hj := len (m := j) (by omega) R.at_j
    have hk := len (m := k) (by omega) c5
    have hl' := len (m := l) (by omega) c6
    have hlow := R.low
    have z := mpump_at cell (st := st) (w := w) (i := i) (j := j) (k := k) (l := l) (h := h.toNat) (least := least.toNat) r1 (by omega) (by omega) (by omega) (by omega) (by omega) (by omega) (by omega) (by omega) (by omega)
      (fun m h1 h2 => by
        obtain ⟨v, hv, hle⟩ := R.up m h1 (Nat.le_of_lt h2)
        have := len (m := m) (by omega) hv
        omega)
      (fun m h1 h2 => by
        obtain ⟨v, hv, hle⟩ := c7 m h1 h2
        have := len (m := m) (by omega) hv
        omega)
      (fun m h1 h2 => by
        obtain ⟨v, hv, hle⟩ := c8 m h1 h2
        have := len (m := m) (by omega) hv
        omega) (by rw [← T.t _ (by omega), ← T.t _ (by omega)]; exact R.top) t
    exact ⟨Nat.le_of_lt r1, c2, c3, (by show l ≤ _; omega), z.1, z.2⟩
end
section
variable {C : Cx}
def topOf (st : List Str) : Str := (st.getLast?).getD ⟨#[]⟩
section
variable (cell : Str → Nat → Nat × Str × Str) (nm : Str → Nat → List Str)
/-- what a plain walk over stacks tells -/
def ptold : List Str → List Nat → List Piece
  | _, [] => []
  | st, c :: w => if c = 10 then (["Text", "Whitespace"], c) :: ptold ["root"] w else (nm (topOf st) c, c) :: ptold (mstep cell st c) w
def nmOf (x : Option Str × Nat) : Piece := (nm (x.1.getD ⟨#[]⟩) x.2, x.2)
theorem ptold_app : ∀ (w : List Nat) (st : List Str) (z : List Nat), (∀ c ∈ w, c ≠ 10) → ptold cell nm st (w ++ z) = (mtold cell st w).map (nmOf nm) ++ ptold cell nm (mrun cell st w) z
  | [], _, _, _ => rfl
  | c :: w, st, z, h => by
    show (if c = 10 then _ else (nm (topOf st) c, c) :: ptold cell nm (mstep cell st c) (w ++ z)) = _
    rw [if_neg (h c (.head _)), ptold_app w _ z fun x hx => h x (.tail _ hx)]
    rfl
theorem ptold_chars : ∀ (w : List Nat) (st : List Str), (ptold cell nm st w).map (·.2) = w
  | [], _ => rfl
  | c :: w, st => by
    unfold ptold
    split
    · rw [List.map_cons, ptold_chars w]
    · rw [List.map_cons, ptold_chars w]
theorem ptold_len (w : List Nat) (st : List Str) : (ptold cell nm st w).length = w.length := by
  have := congrArg List.length (ptold_chars cell nm w st)
  rwa [List.length_map] at this
end
theorem map_repL {γ δ : Type} (f : γ → δ) (u : List γ) : ∀ t, (repL u t).map f = repL (u.map f) t
  | 0 => rfl
  | t + 1 => by rw [repL, List.map_append, map_repL f u t]; rfl
/-- the told pieces of a pumped text -/
def pumpL {γ : Type} (l : List γ) (q : Quad) (t : Nat) : List γ := l.take q.1 ++ repL ((l.take q.2.1).drop q.1) t ++ (l.take q.2.2.1).drop q.2.1 ++ repL ((l.take q.2.2.2).drop q.2.2.1) t ++ l.drop q.2.2.2
theorem pumpL_map {γ δ : Type} (f : γ → δ) (l : List γ) (q : Quad) (t : Nat) : (pumpL l q t).map f = pumpL (l.map f) q t := by
  unfold pumpL
  simp only [List.map_append, List.map_take, List.map_drop, map_repL]
theorem mem_repL {γ : Type} {u : List γ} {x : γ} : ∀ {t}, x ∈ repL u t → x ∈ u
  | 0, h => nomatch h
  | t + 1, h => (List.mem_append.mp h).elim id fun h => mem_repL h
theorem mem_pumpL {γ : Type} {l : List γ} {q : Quad} {t : Nat} {x : γ} (h : x ∈ pumpL l q t) : x ∈ l := by
  unfold pumpL at h
  simp only [List.mem_append] at h
  rcases h with (((h | h) | h) | h) | h
  · exact List.mem_of_mem_take h
  · exact List.mem_of_mem_take (List.mem_of_mem_drop (mem_repL h))
  · exact List.mem_of_mem_take (List.mem_of_mem_drop h)
  · exact List.mem_of_mem_take (List.mem_of_mem_drop (mem_repL h))
  · exact List.mem_of_mem_drop h
theorem part_app {γ : Type} {a b : List γ} {i j : Nat} (h : j ≤ a.length) : ((a ++ b).take j).drop i = (a.take j).drop i := by rw [List.take_append_of_le_length h]
theorem pump_told {cell : Str → Nat → Nat × Str × Str} {nm : Str → Nat → List Str} {st : List Str} {w z : List Nat} {hs : List Int} {tops : List Str} (h10 : ∀ c ∈ w, c ≠ 10) (T : Tops cell st w hs tops) {q : Quad} (g : GoodQ hs tops q) (t : Nat) :
    ptold cell nm st (pumpL (w ++ z) q t) = pumpL (ptold cell nm st (w ++ z)) q t := by
  obtain ⟨h1, h2, h3, h4, e1, e2⟩ := good_pump T g t
  have lm : (mtold cell st w).length = w.length := by
    have : ∀ (w : List Nat) (st : List Str), (mtold cell st w).length = w.length := fun w => by
      induction w with
      | nil => intro _; rfl
      | cons c w ih => intro st; show _ + 1 = _; rw [ih]; rfl
    exact this w st
  have expand : ∀ {γ : Type} (a b : List γ), q.2.2.2 ≤ a.length → pumpL (a ++ b) q t = (a.take q.1 ++ (repL ((a.take q.2.1).drop q.1) t ++ (a.take q.2.2.1).drop q.2.1 ++ repL ((a.take q.2.2.2).drop q.2.2.1) t)) ++ (a.drop q.2.2.2 ++ b) := fun a b ha => by
    unfold pumpL
    rw [part_app (by omega), part_app (by omega), part_app (by omega), List.take_append_of_le_length (by omega), List.drop_append_of_le_length (by omega)]
    simp only [List.append_assoc]
  rw [expand w z h4, ptold_app cell nm w st z h10, expand _ _ (by rw [List.length_map, lm]; exact h4)]
  rw [ptold_app cell nm _ st _ (fun c hc => h10 c (by
    have := mem_pumpL (l := w) (q := q) (t := t) (x := c) (by
      have := expand w [] h4
      rw [List.append_nil] at this
      rw [this]
      exact List.mem_append_left _ hc)
    exact this)), e1, e2]
  rw [ptold_app cell nm _ _ z fun c hc => h10 c (List.mem_of_mem_drop hc)]
  simp only [List.map_append, List.map_take, List.map_drop, map_repL, List.append_assoc]
  have d1 : (mtold cell st w).drop q.2.2.2 = mtold cell (mrun cell st (w.take q.2.2.2)) (w.drop q.2.2.2) := mtold_drop cell w st _
  have d2 : mrun cell (mrun cell st (w.take q.2.2.2)) (w.drop q.2.2.2) = mrun cell st w := by rw [← mrun_app, List.take_append_drop]
  rw [← List.map_drop, d1, d2]

/-! ## the told of the lexer -/
structure TabIs (T : Tab) (cell : Str → Nat → Nat × Str × Str) (nm : Str → Nat → List Str) (let3 : List Nat) : Prop where
  hit : ∀ s ∈ T.map (·.1), ∀ c ∈ let3, match (look T s).find? (fun r => decide (some (⟨#[c]⟩ : Str) = some r.1)) with
    | some r => r.2.1 = nm s c ∧ ∀ st : List Str, moveL r.2.2 st = stepL st (cell s c).1 (cell s c).2.1 (cell s c).2.2
    | none => nm s c = (["Error"] : List Str) ∧ ∀ st : List Str, stepL st (cell s c).1 (cell s c).2.1 (cell s c).2.2 = st
  nl : ∀ s ∈ T.map (·.1), (look T s).find? (fun r => decide (some (⟨#[10]⟩ : Str) = some r.1)) = none
  no10 : ∀ c ∈ let3, c ≠ 10
theorem lexN_ptold {T : Tab} {cell : Str → Nat → Nat × Str × Str} {nm : Str → Nat → List Str} {let3 : List Nat} (hT : TabOk T) (H : TabIs T cell nm let3) {text : Str} : ∀ (w : List Nat) (pos : Nat) (st : List Str), text.cps.toList.drop pos = w → (∀ c ∈ w, c ∈ let3 ∨ c = 10) → Good T st →
    lexN T text w.length pos st = ptold cell nm st w
  | [], _, _, _, _, _ => rfl
  | c :: w, pos, st, hd, hw, g => by
    have hc : text.cps.toList[pos]? = some c := by
      have := congrArg (·[0]?) hd
      rw [List.getElem?_drop] at this
      simpa using this
    have hd' : text.cps.toList.drop (pos + 1) = w := by rw [← List.drop_drop, hd]; rfl
    obtain ⟨y, hy⟩ : ∃ y, st.getLast? = some y := ⟨_, List.getLast?_eq_some_getLast g.1⟩
    have hyk := g.2 y (List.mem_of_getLast? hy)
    have ih := fun st => lexN_ptold hT H w (pos + 1) st hd' fun x hx => hw x (.tail _ hx)
    have hitE : hitR text pos = fun r : Rule => decide (some (⟨#[c]⟩ : Str) = some r.1) := by
      funext r; unfold hitR; rw [hc]; rfl
    show lexN T text (w.length + 1) pos st = _
    unfold lexN ptold
    simp only [hc, hy, Option.getD_some, hitE, topOf]
    by_cases h10 : c = 10
    · subst h10
      rw [H.nl y hyk]
      simp only [if_true]
      rw [ih _ ⟨by simp, fun s hs => by rw [List.mem_singleton.mp hs]; exact hT.root⟩]
    · rw [if_neg h10, if_neg h10]
      have z := H.hit y hyk c ((hw c (.head _)).resolve_right h10)
      have ms : mstep cell st c = stepL st (cell y c).1 (cell y c).2.1 (cell y c).2.2 := by unfold mstep; rw [hy]
      cases hf : (look T y).find? (fun r => decide (some (⟨#[c]⟩ : Str) = some r.1)) with
      | none =>
        rw [hf] at z
        dsimp only at z ⊢
        rw [← z.1, ms, z.2, ih st g]
      | some r =>
        rw [hf] at z
        dsimp only at z ⊢
        have hr := List.mem_of_find?_eq_some hf
        have hp : ∃ p ∈ T, r ∈ p.2 := by
          unfold look at hr
          cases e : T.find? fun p => decide (p.1 = y) with
          | none => rw [e] at hr; cases hr
          | some p => rw [e] at hr; exact ⟨p, List.mem_of_find?_eq_some e, hr⟩
        obtain ⟨p, hp, hrp⟩ := hp
        rw [z.1, ms, ← z.2, ih _ (moveL_good ((hT.rules p hp).2 r hrp) g).1]
end
section
variable {C : Cx}
/-! ## tables, raw and processed -/
abbrev RawTab := List (Str × List Rule)
def procMove : PyData → PyData
  | .str s => if s = "#pop" then .int (-1) else if s = "#push" then .str s else if s = "#pop:2" then .int (-2) else .tuple [.str s]
  | x => x
def procRule (r : Rule) : Rule := (r.1, r.2.1, procMove r.2.2)
def procTab (T : RawTab) : Tab := T.map fun p => (p.1, p.2.map procRule)
/-- a move as it is written in a table -/
inductive RawMove (ks : List Str) : PyData → Prop
  | none : RawMove ks .none
  | pop : RawMove ks (.str "#pop")
  | pop2 : RawMove ks (.str "#pop:2")
  | push : RawMove ks (.str "#push")
  | to (s : Str) : s ∈ ks → RawMove ks (.str s)
  | tup (l : List Str) : l.length ≤ 4 → (∀ s ∈ l, s = "#pop" ∨ s = "#push" ∨ s ∈ ks) → RawMove ks (.tuple (l.map .str))
structure RawOk (T : RawTab) : Prop where
  root : ("root" : Str) ∈ T.map (·.1)
  few : T.length ≤ 100
  nd : (T.map (·.1)).Nodup
  plain : ∀ s ∈ T.map (·.1), s = ("root" : Str) ∨ s = ("p" : Str) ∨ s = ("q" : Str)
  rules : ∀ p ∈ T, p.2.length ≤ 100 ∧ ∀ r ∈ p.2, RawMove (T.map (·.1)) r.2.2
theorem procTab_keys (T : RawTab) : (procTab T).map (·.1) = T.map (·.1) := by unfold procTab; rw [List.map_map]; rfl
theorem proc_ok {T : RawTab} (h : RawOk T) : TabOk (procTab T) where
  root := by rw [procTab_keys]; exact h.root
  few := by unfold procTab; rw [List.length_map]; exact h.few
  rules := fun p hp => by
    obtain ⟨p0, hp0, rfl⟩ := List.mem_map.mp hp
    refine ⟨by rw [List.length_map]; exact (h.rules p0 hp0).1, fun r hr => ?_⟩
    obtain ⟨r0, hr0, rfl⟩ := List.mem_map.mp hr
    have m := (h.rules p0 hp0).2 r0 hr0
    show MoveOk _ (procMove r0.2.2)
    generalize r0.2.2 = mv at m
    have hk := procTab_keys T
    cases m with
    | none => exact .none
    | pop => exact .pop (-1) (.inl rfl)
    | pop2 => exact .pop (-2) (.inr rfl)
    | push => exact .push
    | to s hs =>
      have e : procMove (.str s) = .tuple ([s].map .str) := by
        rcases h.plain s hs with rfl | rfl | rfl <;> rfl
      rw [e]
      exact .tup [s] (show 1 ≤ 4 by decide) fun x hx => by rw [List.mem_singleton.mp hx, hk]; exact .inr (.inr hs)
    | tup l h1 h2 => exact .tup l h1 fun s hs => by rw [hk]; exact h2 s hs

/-! ## the data of law 01 -/
def gD (dr : List Int) (i : Nat) : Int := (dr[i]?).getD 0
def st3 : List Str := ["root", "p", "q"]
def tg3 : List Str := ["R", "P", "Q"]
def up4 : List Nat := [0, 4, 5, 2]
def dn4 : List Nat := [1, 1, 3, 2]
def md (x : Int) (m : Nat) : Nat := (x % (m : Int)).toNat
def sAt (i : Nat) : Str := (st3[i]?).getD ⟨#[]⟩
def tAt (i : Nat) : Str := (tg3[i]?).getD ⟨#[]⟩
def kindOf (dr : List Int) (s b : Nat) : Nat :=
  if b = 0 then (up4[md (gD dr (2 + 9 * s + 3 * b)) 4]?).getD 0 else if b = 1 then (dn4[md (gD dr (2 + 9 * s + 3 * b)) 4]?).getD 0 else md (gD dr (2 + 9 * s + 3 * b)) 10
def cellOf (dr : List Int) (s b : Nat) : Nat × Str × Str := (kindOf dr s b, sAt (md (gD dr (2 + 9 * s + 3 * b + 1)) 3), sAt (md (gD dr (2 + 9 * s + 3 * b + 2)) 3))
theorem md_lt {x : Int} {m : Nat} (h : 0 < m) : md x m < m := by
  have := Int.emod_lt_of_pos x (b := (m : Int)) (by omega)
  have := Int.emod_nonneg x (b := (m : Int)) (by omega)
  unfold md; omega
theorem opt_lt {l : List Nat} {i b : Nat} (h : ∀ x ∈ l, x < b) (hb : 0 < b) : (l[i]?).getD 0 < b := by
  cases e : l[i]? with
  | none => exact hb
  | some x => exact h x (List.mem_of_getElem? e)
theorem kind_lt (dr : List Int) (s b : Nat) : kindOf dr s b < 10 := by
  unfold kindOf
  split
  · exact opt_lt (by decide) (by decide)
  split
  · exact opt_lt (by decide) (by decide)
  · exact md_lt (by decide)
theorem sAt_cases {i : Nat} (h : i < 3) : sAt i = "root" ∨ sAt i = "p" ∨ sAt i = "q" := by
  match i, h with
  | 0, _ => exact .inl rfl
  | 1, _ => exact .inr (.inl rfl)
  | 2, _ => exact .inr (.inr rfl)
theorem sAt_mem {i : Nat} (h : i < 3) : sAt i ∈ st3 := by
  match i, h with
  | 0, _ => exact .head _
  | 1, _ => exact .tail _ (.head _)
  | 2, _ => exact .tail _ (.tail _ (.head _))
def mvRaw (k : Nat) (one two : Str) : PyData :=
  if k = 4 then .tuple (([one, two] : List Str).map .str) else if k = 2 then .tuple ((["#pop", one] : List Str).map .str) else if k = 9 then .tuple (([one, "#push"] : List Str).map .str) else if k = 0 then .str one
  else if k = 1 ∨ k = 8 then .str "#pop" else if k = 3 then .str "#pop:2" else if k = 5 then .str "#push" else .none
theorem lawMove_raw {k : Nat} (one two : Str) (h : k < 10) (h6 : k ≠ 6) (h7 : k ≠ 7) : lawMove k one two = moveAV (mvRaw k one two) := by
  rcases lt_ten h with rfl | rfl | rfl | rfl | rfl | rfl | rfl | rfl | rfl | rfl <;> first | rfl | exact absurd rfl h6 | exact absurd rfl h7
theorem raw_move {k : Nat} {one two : Str} (ho : one ∈ st3) (ht : two ∈ st3) : RawMove st3 (mvRaw k one two) := by
  unfold mvRaw
  repeat' split
  · exact .tup _ (show 2 ≤ 4 by decide) fun s hs => by
      rcases List.mem_cons.mp hs with rfl | hs
      · exact .inr (.inr ho)
      · rw [List.mem_singleton.mp hs]; exact .inr (.inr ht)
  · exact .tup _ (show 2 ≤ 4 by decide) fun s hs => by
      rcases List.mem_cons.mp hs with rfl | hs
      · exact .inl rfl
      · rw [List.mem_singleton.mp hs]; exact .inr (.inr ho)
  · exact .tup _ (show 2 ≤ 4 by decide) fun s hs => by
      rcases List.mem_cons.mp hs with rfl | hs
      · exact .inr (.inr ho)
      · rw [List.mem_singleton.mp hs]; exact .inr (.inl rfl)
  · exact .to _ ho
  · exact .pop
  · exact .pop2
  · exact .push
  · exact .none
def notHash (s : Str) : Prop := s ≠ "#pop" ∧ s ≠ "#push" ∧ s ≠ "#pop:2"
theorem st3_plain {s : Str} (h : s ∈ st3) : notHash s := by
  have : s = "root" ∨ s = "p" ∨ s = "q" := by simpa [st3] using h
  rcases this with rfl | rfl | rfl <;> exact ⟨by decide, by decide, by decide⟩
theorem moveOne_state {st : List Str} {s : Str} (h : notHash s) : moveOne st s = st ++ [s] := by unfold moveOne; rw [if_neg h.1, if_neg h.2.1]
theorem moveOne_pop (st : List Str) : moveOne st "#pop" = lessL st := by unfold moveOne; rw [if_pos rfl]
theorem moveOne_push (st : List Str) : moveOne st "#push" = st ++ lastL st := by unfold moveOne; rw [if_neg (by decide), if_pos rfl]
theorem lastL_drop {α : Type} (st : List α) : lastL st = st.drop (st.length - 1) := by
  unfold lastL
  cases e : st.getLast? with
  | none => rw [List.getLast?_eq_none_iff.mp e]; rfl
  | some x =>
    obtain ⟨ys, rfl⟩ := List.getLast?_eq_some_iff.mp e
    simp
theorem pop_one {α : Type} (st : List α) : (if st.length ≤ (-1 : Int).natAbs then st.take 1 else st.take (clipN (some (-1)) 0 st.length)) = lessL st := by
  rw [show (-1 : Int).natAbs = 1 from rfl]
  unfold lessL clipN
  by_cases h : 1 < st.length
  · rw [if_pos h, if_neg (show ¬ st.length ≤ 1 by omega)]
    congr 1
    simp; omega
  · rw [if_neg h, if_pos (show st.length ≤ 1 by omega), List.take_of_length_le (by omega)]
theorem pop_two {α : Type} (st : List α) : (if st.length ≤ (-2 : Int).natAbs then st.take 1 else st.take (clipN (some (-2)) 0 st.length)) = lessL (lessL st) := by
  rw [show (-2 : Int).natAbs = 2 from rfl]
  unfold lessL clipN
  by_cases h : 2 < st.length
  · rw [if_neg (show ¬ st.length ≤ 2 by omega), if_pos (show 1 < st.length by omega), if_pos (by rw [List.length_take]; omega), List.take_take]
    congr 1
    simp only [List.length_take]
    have : (-2 : Int) < 0 := by decide
    simp; omega
  · rw [if_pos (show st.length ≤ 2 by omega)]
    by_cases h1 : 1 < st.length
    · rw [if_pos h1, if_neg (by rw [List.length_take]; omega)]
      congr 1; omega
    · rw [if_neg h1, if_neg h1, List.take_of_length_le (by omega)]
theorem move_step {k : Nat} {one two : Str} (ho : one ∈ st3) (ht : two ∈ st3) (hk : k < 10) (st : List Str) : moveL (procMove (mvRaw k one two)) st = stepL st k one two := by
  have n1 := st3_plain ho
  have n2 := st3_plain ht
  rcases lt_ten hk with rfl | rfl | rfl | rfl | rfl | rfl | rfl | rfl | rfl | rfl
  · show moveL (procMove (.str one)) st = st ++ [one]
    show moveL (if one = "#pop" then _ else if one = "#push" then _ else if one = "#pop:2" then _ else _) st = _
    rw [if_neg n1.1, if_neg n1.2.1, if_neg n1.2.2]
    exact moveOne_state n1
  · exact pop_one st
  · show moveOne (moveOne st "#pop") one = lessL st ++ [one]
    rw [moveOne_pop, moveOne_state n1]
  · exact pop_two st
  · show moveOne (moveOne st one) two = st ++ [one, two]
    rw [moveOne_state n1, moveOne_state n2, List.append_assoc]; rfl
  · show st ++ lastL st = st ++ st.drop (st.length - 1)
    rw [lastL_drop]
  · rfl
  · rfl
  · exact pop_one st
  · show moveOne (moveOne st one) "#push" = st ++ [one, one]
    rw [moveOne_state n1, moveOne_push]
    simp [lastL]
def ltr (b : Nat) : Str := ⟨#[97 + b]⟩
def rawRule (dr : List Int) (s b : Nat) : Option Rule := if kindOf dr s b = 7 then none else some (ltr b, ["Name", tAt s], mvRaw (kindOf dr s b) (cellOf dr s b).2.1 (cellOf dr s b).2.2)
def rawRules (dr : List Int) (s n : Nat) : List Rule := (List.range n).filterMap (rawRule dr s)
def rawTab (dr : List Int) (n : Nat) : RawTab := (List.range n).map fun s => (sAt s, rawRules dr s 3)
theorem rawRules_succ (dr : List Int) (s n : Nat) : rawRules dr s (n + 1) = rawRules dr s n ++ (rawRule dr s n).toList := by
  unfold rawRules
  rw [List.range_succ, List.filterMap_append]
  cases e : rawRule dr s n <;> simp [e]
theorem rawRules_len (dr : List Int) (s n : Nat) : (rawRules dr s n).length ≤ n := by
  have := List.length_filterMap_le (rawRule dr s) (List.range n)
  rwa [List.length_range] at this
theorem raw_ok (dr : List Int) : RawOk (rawTab dr 3) where
  root := .head _
  few := (show 3 ≤ 100 by decide)
  nd := by show (st3).Nodup; decide
  plain := fun s hs => by have : s ∈ st3 := hs; simpa [st3] using this
  rules := fun p hp => by
    obtain ⟨s, hs, rfl⟩ := List.mem_map.mp hp
    refine ⟨Nat.le_trans (rawRules_len dr s 3) (by decide), fun r hr => ?_⟩
    obtain ⟨b, hb, e⟩ := List.mem_filterMap.mp hr
    unfold rawRule at e
    split at e
    · cases e
    · cases e
      exact raw_move (sAt_mem (md_lt (by decide))) (sAt_mem (md_lt (by decide)))
def sIx (s : Str) : Nat := if s = "root" then 0 else if s = "p" then 1 else 2
def cellF (dr : List Int) (s : Str) (c : Nat) : Nat × Str × Str := cellOf dr (sIx s) (c - 97)
def nmF (dr : List Int) (s : Str) (c : Nat) : List Str := if (cellF dr s c).1 = 7 then ["Error"] else ["Name", tAt (sIx s)]
theorem ltr_inj {a b : Nat} (h : a ≠ b) : ltr a ≠ ltr b := fun e => h (by unfold ltr at e; simpa using e)
theorem find_rules (dr : List Int) (s : Nat) (x : Str) : ((rawRules dr s 3).map procRule).find? (fun r => decide (some x = some r.1)) =
    (if x = ltr 0 then (rawRule dr s 0).map procRule else if x = ltr 1 then (rawRule dr s 1).map procRule else if x = ltr 2 then (rawRule dr s 2).map procRule else none) := by
  have key : ∀ b, ((rawRule dr s b).toList.map procRule).find? (fun r => decide (some x = some r.1)) = if x = ltr b then (rawRule dr s b).map procRule else none := fun b => by
    unfold rawRule
    split
    · simp
    · by_cases e : x = ltr b
      · rw [if_pos e]; simp [procRule, e]
      · rw [if_neg e]; simp [procRule, e]
  have e3 : rawRules dr s 3 = (rawRule dr s 0).toList ++ ((rawRule dr s 1).toList ++ (rawRule dr s 2).toList) := by
    rw [rawRules_succ, rawRules_succ, rawRules_succ]; simp [rawRules]
  rw [e3, List.map_append, List.map_append, List.find?_append, List.find?_append, key, key, key]
  by_cases h0 : x = ltr 0
  · subst h0
    rw [if_pos rfl, if_pos rfl, if_neg (ltr_inj (by decide)), if_neg (ltr_inj (by decide))]
    simp
  · rw [if_neg h0, if_neg h0]
    by_cases h1 : x = ltr 1
    · subst h1
      rw [if_pos rfl, if_pos rfl, if_neg (ltr_inj (by decide))]
      simp
    · rw [if_neg h1, if_neg h1]
      by_cases h2 : x = ltr 2
      · rw [if_pos h2]; rfl
      · rw [if_neg h2]; rfl
theorem look_raw (dr : List Int) {s : Str} (h : s ∈ st3) : look (procTab (rawTab dr 3)) s = (rawRules dr (sIx s) 3).map procRule := by
  have : s = "root" ∨ s = "p" ∨ s = "q" := by simpa [st3] using h
  rcases this with rfl | rfl | rfl <;> rfl
theorem tab_is (dr : List Int) : TabIs (procTab (rawTab dr 3)) (cellF dr) (nmF dr) [97, 98, 99] where
  hit := fun s hs c hc => by
    have hs : s ∈ st3 := by rw [procTab_keys] at hs; exact hs
    have hc : c = 97 + (c - 97) ∧ c - 97 < 3 := by
      simp only [List.mem_cons, List.not_mem_nil, or_false] at hc; omega
    have hx : (⟨#[c]⟩ : Str) = ltr (c - 97) := by unfold ltr; rw [← hc.1]
    generalize hb : c - 97 = b at hx hc
    have main : ((rawRules dr (sIx s) 3).map procRule).find? (fun r => decide (some (⟨#[c]⟩ : Str) = some r.1)) = (rawRule dr (sIx s) b).map procRule := by
      rw [find_rules, hx]
      have hc2 := hc.2
      match b, hc2 with
      | 0, _ => rw [if_pos rfl]
      | 1, _ => rw [if_neg (ltr_inj (by decide)), if_pos rfl]
      | 2, _ => rw [if_neg (ltr_inj (by decide)), if_neg (ltr_inj (by decide)), if_pos rfl]
    rw [look_raw dr hs, main]
    have cf : cellF dr s c = cellOf dr (sIx s) b := by unfold cellF; rw [hb]
    have kf : (cellF dr s c).1 = kindOf dr (sIx s) b := by rw [cf]; rfl
    unfold rawRule nmF
    rw [kf, cf]
    by_cases h7 : kindOf dr (sIx s) b = 7
    · rw [if_pos h7, if_pos h7]
      refine ⟨rfl, fun st => ?_⟩
      rw [h7]; rfl
    · rw [if_neg h7, if_neg h7]
      refine ⟨rfl, fun st => ?_⟩
      exact move_step (sAt_mem (md_lt (by decide))) (sAt_mem (md_lt (by decide))) (kind_lt dr _ _) st
  nl := fun s hs => by
    have hs : s ∈ st3 := by rw [procTab_keys] at hs; exact hs
    rw [look_raw dr hs, find_rules, if_neg (by unfold ltr; decide), if_neg (by unfold ltr; decide), if_neg (by unfold ltr; decide)]
  no10 := by decide
end
section
variable {C : Cx}
def mvTail : PyData → List AV
  | .none => []
  | m => [moveAV m]
def rawRuleAV (r : Rule) : AV := .tup ([.ext (.plain r.1), .ext (.tok r.2.1)] ++ mvTail r.2.2)
def rawAV (T : RawTab) : AV := .dS (T.map (·.1)) (T.map fun p => .lst (p.2.map rawRuleAV))
/-- what both laws lean on -/
structure Lawy (C : Cx) where
  lex : Lex C
  gRange : C.glb "range" (.type "range")
  vName : Value
  gName : C.glb "Name" vName
  rName : Rep C C.h₀ (.ext (.tok ["Name"])) vName
  child : Addr
  childM : MetJ C (.tok ["Name"]) "child" child
  childF : IsFn C child
  childC : ∀ t : Str, t ∈ tg3 → CallJ C 8 (.ref child) [.ext (.tok ["Name"]), .str t] (.ext (.tok ["Name", t]))
  cPlain : Addr
  gPlain : C.glb "Plain" (.ref cPlain)
  kPlain : ClsK C cPlain
  plainC : ∀ c : Nat, CallJ C 8 (.ref cPlain) [.lst [.lst [.str ⟨#[c]⟩]]] (.ext (.plain ⟨#[c]⟩))
  cLex : Addr
  gLex : C.glb "PlainLexer" (.ref cLex)
  kLex : ClsK C cLex
  lexC : ∀ T, RawOk T → CallJ C 40 (.ref cLex) [rawAV T] (.ext (.lexer (procTab T)))
  aGen : Addr
  hGen : GenAt C aGen
  genM : ∀ T, MetJ C (.lexer T) "get_tokens_unprocessed" aGen
  aTold : Addr
  hTold : FnAt C toldF aTold
  gTold : C.glb "_law_told" (.ref aTold)
  aDraws : Addr
  hDraws : FnAt C drawsF aDraws
  gDraws : C.glb "_law_draws" (.ref aDraws)
  vStates : Value
  gStates : C.glb "_law_states" vStates
  rStates : Rep C C.h₀ (.tup (st3.map .str)) vStates
theorem items3 : items (.rng 0 3 1) = some [.int 0, .int 1, .int 2] := by
  rw [items_rng (by decide) (by decide) (by decide) (by decide)]; rfl
theorem fmod_md (x : Int) {m : Nat} (h : 0 < m) : x.fmod (m : Int) = (md x m : Nat) := by
  rw [Int.fmod_eq_emod_of_nonneg _ (by omega)]
  have := Int.emod_nonneg x (b := (m : Int)) (by omega)
  unfold md; omega
theorem idx_draws {dr : List Int} {k : Nat} (hz : dr.length ≤ 1000) (h : k < dr.length) : opIdx (.lst (dr.map .int)) (.int (k : Int)) = some (.int (gD dr k)) := by
  have := sz_eq
  rw [idx_lst (by simp; omega), at_nat, List.getElem?_map]
  unfold gD
  rw [List.getElem?_eq_getElem h]; rfl
theorem idx_states {k : Nat} (h : k < 3) : opIdx (.tup (st3.map .str)) (.int (k : Int)) = some (.str (sAt k)) := by
  match k, h with
  | 0, _ => rfl
  | 1, _ => rfl
  | 2, _ => rfl
theorem EJ.mod {n : Nat} {fi : Fi} {ℓ : List Slot} {pos p : Pos} {k : Nat} {e : Expr} {x : Int} (he : EJ C n fi ℓ e (.int x)) (m : Nat) (h : 0 < m) : EJ C n fi ℓ (.BinOp e .Mod (.Constant (.int (m : Int)) k p) pos) (.int (md x m : Nat)) := by
  refine EJ.bin he (EJ.int _) ?_
  rw [← fmod_md x h]
  exact if_pos (by omega)
def chAV (c : Nat) : AV := .str ⟨#[c]⟩
theorem asStrs_ch : ∀ l : List Nat, asStrs (l.map chAV) = some (l.map fun k => (⟨#[k]⟩ : Str))
  | [] => rfl
  | c :: l => by simp only [List.map_cons, asStrs, asStrs_ch l]; rfl
theorem sum_ones : ∀ l : List Nat, ((l.map fun k => (⟨#[k]⟩ : Str)).map (·.length)).sum = l.length
  | [] => rfl
  | c :: l => by
    simp only [List.map_cons, List.sum_cons, List.length_cons]
    have := sum_ones l
    rw [this, Nat.add_comm]; rfl
theorem joinOk_ones (l : List Nat) (h : l.length ≤ 100000) : JoinOk ⟨#[]⟩ (l.map fun k => (⟨#[k]⟩ : Str)) = true := by
  unfold JoinOk
  rw [StrLaws.joinTotal, sum_ones, List.length_map]
  have : (⟨#[]⟩ : Str).length = 0 := rfl
  rw [this, Nat.mul_zero, Nat.add_zero]
  unfold Builtin.Str.tooLong
  have : sizeLine = 2 ^ 24 := rfl
  simp; omega
theorem join_ch {n : Nat} {l : List Nat} (h : l.length ≤ 100000) : CallJ C n (.builtin "str.join") [.str ⟨#[]⟩, .lst (l.map chAV)] (.str ⟨l.toArray⟩) := by
  have := join_ok (C := C) (n := n) (x := ⟨#[]⟩) (asStrs_ch l) (joinOk_ones l h)
  rwa [show Txt.join ⟨#[]⟩ (l.map fun k => (⟨#[k]⟩ : Str)) = ⟨l.toArray⟩ from (StrLaws.glued_eq_join _ _).trans (join_ones l)] at this
theorem EJ.joinCh {n : Nat} {fi : Fi} {ℓ : List Slot} {pos p p2 : Pos} {k : Nat} {e : Expr} {l : List Nat} (he : EJ C n fi ℓ e (.lst (l.map chAV))) (h : l.length ≤ 100000) (hline : (p.endLine == pos.line) = true)
    (hq : ∀ env, starEach [e] env = [(false, eval e env)]) : EJ C n fi ℓ (.Call (.Attribute (.Constant (.str "") k p2) "join" p) [e] [] pos) (.str ⟨l.toArray⟩) :=
  EJ.strMeth F.slot_str_join F.type_str_join (EJ.to (EJ.str _) (by rfl)) (LJ.cons he LJ.nil hq) (join_ch h) (fun _ => rfl) hline (fun env => by rw [hq]; rfl) hq (fun env pos => by rw [hq]; rfl)

end
section
variable {C : Cx}
def lawF : Fn := fnTop PySem.Challenge.pw_bf5016_01 54
def moveFa : Fn := moveF
def lawXs : List Str := "states" :: "tags" :: "ups" :: "downs" :: "draws" :: "table" :: "cells" :: "s" :: "state" :: "ttype" :: "rules" :: "b" :: "letter" :: "at" :: "kind" :: "one" :: "two" :: "begun" :: "text" :: "stack" :: "heights" :: "tops" :: "right" :: "lexer" :: "handed" :: "told" :: "more" :: "counts" :: "i" :: "j" :: "k" :: "l" :: "times" :: "pumped" :: "anew" :: []
abbrev statesAV : AV := .tup (st3.map .str)
abbrev tagsAV : AV := .dS st3 (tg3.map .str)
def natsAV (l : List Nat) : AV := .tup (l.map fun (k : Nat) => AV.int (k : Int))
structure Law1 (C : Cx) where
  y : Lawy C
  vTags : Value
  gTags : C.glb "_law_tags" vTags
  rTags : Rep C C.h₀ tagsAV vTags
  vUps : Value
  gUps : C.glb "_law_ups" vUps
  rUps : Rep C C.h₀ (natsAV up4) vUps
  vDowns : Value
  gDowns : C.glb "_law_downs" vDowns
  rDowns : Rep C C.h₀ (natsAV dn4) vDowns
  aMove : Addr
  hMove : FnAt C moveF aMove
  gMove : C.glb "_law_move" (.ref aMove)
  aStep : Addr
  hStep : FnAt C stepF aStep
  gStep : C.glb "_law_step" (.ref aStep)
  aBelow : Addr
  hBelow : FnAt C belowF aBelow
  gBelow : C.glb "_law_below" (.ref aBelow)
  aPumps : Addr
  hPumps : FnAt C pumpsF aPumps
  gPumps : C.glb "_law_pumps" (.ref aPumps)
abbrev lawFi (name qual : Str) (doc pm : Value) (an : Option Addr) (cdv ct : Value) (L a : Addr) : Fi := fiOf (fnOf name qual lawF.params lawF.body lawF.scope .none .none doc pm an cdv ct) L a ((["script"] : List Str) ++ lawXs)
def cellAV (c : Nat × Str × Str) : AV := .tup [.int (c.1 : Int), .str c.2.1, .str c.2.2]
def cellKeys (m : Nat) : List (List Str) := (List.range m).map fun i => [sAt (i / 3), ltr (i % 3)]
def cellVals (dr : List Int) (m : Nat) : List AV := (List.range m).map fun i => cellAV (cellOf dr (i / 3) (i % 3))
def lawB (sc : AV) (dr : List Int) (t6 : Slot) (s m : Nat) (rs : List Rule) (a12 a13 a14 a15 a16 a17 : Slot) (U : List Slot) : List Slot :=
  .fz sc :: .fz statesAV :: .fz tagsAV :: .fz (natsAV up4) :: .fz (natsAV dn4) :: .fz (.lst (dr.map .int)) :: t6 :: .oTS (cellKeys m) (cellVals dr m) :: .fz (.int (s : Int)) :: .fz (.str (sAt s)) :: .fz (.ext (.tok ["Name", tAt s])) ::
    .ol (rs.map rawRuleAV) :: a12 :: a13 :: a14 :: a15 :: a16 :: a17 :: U
theorem cellKeys_succ (m : Nat) : cellKeys (m + 1) = cellKeys m ++ [[sAt (m / 3), ltr (m % 3)]] := by unfold cellKeys; rw [List.range_succ, List.map_append]; rfl
theorem cellVals_succ (dr : List Int) (m : Nat) : cellVals dr (m + 1) = cellVals dr m ++ [cellAV (cellOf dr (m / 3) (m % 3))] := by unfold cellVals; rw [List.range_succ, List.map_append]; rfl
theorem cell_new {s b : Nat} (hs : s < 3) (hb : b < 3) : [sAt s, ltr b] ∉ cellKeys (3 * s + b) := by
  have : (s = 0 ∨ s = 1 ∨ s = 2) ∧ (b = 0 ∨ b = 1 ∨ b = 2) := by omega
  rcases this with ⟨rfl | rfl | rfl, rfl | rfl | rfl⟩ <;> decide
theorem div3 {s b : Nat} (hb : b < 3) : (3 * s + b) / 3 = s ∧ (3 * s + b) % 3 = b := by omega
theorem idx_nats {l : List Nat} {k : Nat} (hl : l.length ≤ 1000) (h : k < l.length) : opIdx (natsAV l) (.int (k : Int)) = some (.int ((l[k]?).getD 0 : Nat)) := by
  have := sz_eq
  unfold natsAV
  rw [idx_tup (by simp; omega), at_nat, List.getElem?_map, List.getElem?_eq_getElem h]; rfl
theorem idx_abc {b : Nat} (h : b < 3) : opIdx (.str "abc") (.int (b : Int)) = some (.str (ltr b)) := by
  match b, h with
  | 0, _ => rfl
  | 1, _ => rfl
  | 2, _ => rfl

theorem law_b {n : Nat} {name qual doc pm an cdv ct L a} (F : (lawFi name qual doc pm an cdv ct L a).Ok) (X : Law1 C) (hn : 10 ≤ n) {sc : AV} {dr : List Int} {t6 a13 a14 a15 a16 a17 : Slot} {s b : Nat} {U : List Slot} {G : Out → Prop} (hdr : dr.length = 40) (hs : s < 3) (hb : b < 3)
    (h : ∀ b13 b14 b15 b16 b17, G (.nxt (lawB sc dr t6 s (3 * s + b + 1) (rawRules dr s (b + 1)) (.fz (.int (b : Int))) b13 b14 b15 b16 b17 U))) :
    SW C n (lawFi name qual doc pm an cdv ct L a) (forBody (nth (forBody (nth lawF.body 7)) 3)) (lawB sc dr t6 s (3 * s + b) (rawRules dr s b) (.fz (.int (b : Int))) a13 a14 a15 a16 a17 U) G := by
  have zz := sz_eq
  have hm : ∀ x : Int, md x 4 < 4 := fun x => md_lt (by decide)
  have hm3 : ∀ x : Int, md x 3 < 3 := fun x => md_lt (by decide)
  refine SW.cons (S1.assign (a := .str (ltr b)) F at13 (EJ.idx (EJ.str _) (EJ.var F at12 at12) (idx_abc hb) (fun _ _ _ _ h => by cases h)) ?_ (.inl rfl) rfl)
  refine SW.cons (S1.assign (a := .int ((2 + 9 * s + 3 * b : Nat) : Int)) F at14 (EJ.to (EJ.bin (EJ.bin (EJ.int 2) (EJ.bin (EJ.int 9) (EJ.var F at8 at8) (if_pos (by simp))) rfl) (EJ.bin (EJ.int 3) (EJ.var F at12 at12) (if_pos (by simp))) rfl) (by congr 1)) ?_ (.inl rfl) rfl)
  refine SW.cons (S1.assign (a := .int (kindOf dr s b : Nat)) F at15 (EJ.idx (EJ.tup (LJ.cons (EJ.idx (EJ.var F at3 at3) (EJ.mod (EJ.idx (EJ.var F at5 at5) (EJ.var F at14 at14) (idx_draws (by omega) (by omega)) (fun _ _ _ _ h => by cases h)) 4 (by decide)) (idx_nats (by decide) (hm _)) (fun _ _ _ _ h => by cases h))
    (LJ.cons (EJ.idx (EJ.var F at4 at4) (EJ.mod (EJ.idx (EJ.var F at5 at5) (EJ.var F at14 at14) (idx_draws (by omega) (by omega)) (fun _ _ _ _ h => by cases h)) 4 (by decide)) (idx_nats (by decide) (hm _)) (fun _ _ _ _ h => by cases h))
    (LJ.cons (EJ.mod (EJ.idx (EJ.var F at5 at5) (EJ.var F at14 at14) (idx_draws (by omega) (by omega)) (fun _ _ _ _ h => by cases h)) 10 (by decide)) LJ.nil (fun _ => rfl)) (fun _ => rfl)) (fun _ => rfl)) (by simp [sz])) (EJ.var F at12 at12) ?_ (fun _ _ _ _ h => by cases h)) ?_ (.inl rfl) rfl)
  · match b, hb with
    | 0, _ => rfl
    | 1, _ => rfl
    | 2, _ => rfl
  refine SW.cons (S1.assign (a := .str (cellOf dr s b).2.1) F at16 (EJ.idx (EJ.var F at1 at1) (EJ.mod (EJ.idx (EJ.var F at5 at5) (EJ.to (EJ.bin (EJ.var F at14 at14) (EJ.int 1) rfl) (show _ = AV.int ((2 + 9 * s + 3 * b + 1 : Nat) : Int) from rfl)) (idx_draws (by omega) (by omega)) (fun _ _ _ _ h => by cases h)) 3 (by decide)) (idx_states (hm3 _)) (fun _ _ _ _ h => by cases h)) ?_ (.inl rfl) rfl)
  refine SW.cons (S1.assign (a := .str (cellOf dr s b).2.2) F at17 (EJ.idx (EJ.var F at1 at1) (EJ.mod (EJ.idx (EJ.var F at5 at5) (EJ.to (EJ.bin (EJ.var F at14 at14) (EJ.int 2) rfl) (show _ = AV.int ((2 + 9 * s + 3 * b + 2 : Nat) : Int) from rfl)) (idx_draws (by omega) (by omega)) (fun _ _ _ _ h => by cases h)) 3 (by decide)) (idx_states (hm3 _)) (fun _ _ _ _ h => by cases h)) ?_ (.inl rfl) rfl)
  refine SW.cons (S1.setT (C := C) (knd := sK C) (k := [sAt s, ltr b]) (a := cellAV (cellOf dr s b)) (ks := cellKeys (3 * s + b)) (l := cellVals dr (3 * s + b)) (mk := .oTS) F at7 at7 slotTS (fun y0 y1 d y r => .oTS y0 y1 d y r)
    (EJ.tup (LJ.cons (EJ.var F at15 at15) (LJ.cons (EJ.var F at16 at16) (LJ.cons (EJ.var F at17 at17) LJ.nil (fun _ => rfl)) (fun _ => rfl)) (fun _ => rfl)) (by simp [sz]))
    (EJ.tup (LJ.cons (EJ.var F at9 at9) (LJ.cons (EJ.var F at13 at13) LJ.nil (fun _ => rfl)) (fun _ => rfl)) (by simp [sz])) (fun r => keyS rfl r) (cell_new hs hb) (by unfold cellKeys; rw [List.length_map, List.length_range]; omega) ?_ rfl)
  have hk : ∀ x : Slot, List.set (lawB sc dr t6 s (3 * s + b) (rawRules dr s b) (.fz (.int (b : Int))) (.fz (.str (ltr b))) x (.fz (.int (kindOf dr s b : Nat))) (.fz (.str (cellOf dr s b).2.1)) (.fz (.str (cellOf dr s b).2.2)) U) 7 (.oTS (cellKeys (3 * s + b) ++ [[sAt s, ltr b]]) (cellVals dr (3 * s + b) ++ [cellAV (cellOf dr s b)])) =
      lawB sc dr t6 s (3 * s + b + 1) (rawRules dr s b) (.fz (.int (b : Int))) (.fz (.str (ltr b))) x (.fz (.int (kindOf dr s b : Nat))) (.fz (.str (cellOf dr s b).2.1)) (.fz (.str (cellOf dr s b).2.2)) U := fun x => by
    unfold lawB
    rw [cellKeys_succ, cellVals_succ, (div3 hb).1, (div3 hb).2]; rfl
  show SW C n _ _ (List.set (lawB sc dr t6 s (3 * s + b) (rawRules dr s b) (.fz (.int (b : Int))) (.fz (.str (ltr b))) _ (.fz (.int (kindOf dr s b : Nat))) (.fz (.str (cellOf dr s b).2.1)) (.fz (.str (cellOf dr s b).2.2)) U) 7 (.oTS (cellKeys (3 * s + b) ++ [[sAt s, ltr b]]) (cellVals dr (3 * s + b) ++ [cellAV (cellOf dr s b)]))) _
  rw [hk]
  have rl := rawRules_len dr s b
  have app : ∀ r : Rule, rawRule dr s b = some r → lawB sc dr t6 s (3 * s + b + 1) (rawRules dr s b ++ [r]) = lawB sc dr t6 s (3 * s + b + 1) (rawRules dr s (b + 1)) := fun r e => by rw [rawRules_succ, e]; rfl
  refine SW.cons (S1.ifs (BJ.cmp (EJ.var F at15 at15) (EJ.int 6) rfl rfl) (fun e => ?_) fun e => ?_)
  · have e : kindOf dr s b = 6 := by simp at e; omega
    have hr : rawRule dr s b = some (ltr b, (["Name", tAt s] : List Str), PyData.none) := by unfold rawRule; rw [e]; rfl
    refine SW.cons (S1.append (l := (rawRules dr s b).map rawRuleAV) (a := rawRuleAV (ltr b, (["Name", tAt s] : List Str), PyData.none)) F at11 at11
      (EJ.tup (LJ.cons (EJ.callC F X.y.gPlain X.y.kPlain (LJ.cons (EJ.lst (LJ.cons (EJ.lst (LJ.cons (EJ.var F at13 at13) LJ.nil (fun _ => rfl)) (by simp [sz])) LJ.nil (fun _ => rfl)) (by simp [sz])) LJ.nil (fun _ => rfl)) ((X.y.plainC _).less (by omega)) rfl (by decide) (fun _ => rfl) (fun _ _ => rfl))
        (LJ.cons (EJ.var F at10 at10) LJ.nil (fun _ => rfl)) (fun _ => rfl)) (show 2 ≤ sz by decide)) ?_ (by rw [List.length_map]; omega) rfl (fun _ => rfl) (fun _ => rfl) (fun env h => by unfold interactive; rw [h]; rfl))
    refine SW.nil (SW.nil ?_)
    have z := h (.fz (.str (ltr b))) (.fz (.int ((2 + 9 * s + 3 * b : Nat) : Int))) (.fz (.int (kindOf dr s b : Nat))) (.fz (.str (cellOf dr s b).2.1)) (.fz (.str (cellOf dr s b).2.2))
    rw [← app _ hr] at z
    rw [show (rawRules dr s b).map rawRuleAV ++ [rawRuleAV (ltr b, (["Name", tAt s] : List Str), PyData.none)] = (rawRules dr s b ++ [(ltr b, (["Name", tAt s] : List Str), PyData.none)]).map rawRuleAV by simp]
    exact z
  · have e6 : kindOf dr s b ≠ 6 := by simp at e; omega
    refine SW.cons (S1.ifs (BJ.cmp (EJ.var F at15 at15) (EJ.int 7) rfl rfl) (fun e => ?_) fun e => ?_)
    · have e7 : kindOf dr s b ≠ 7 := by simp at e; omega
      have hr : rawRule dr s b = some (ltr b, (["Name", tAt s] : List Str), mvRaw (kindOf dr s b) (cellOf dr s b).2.1 (cellOf dr s b).2.2) := by unfold rawRule; rw [if_neg e7]
      have ht : mvTail (mvRaw (kindOf dr s b) (cellOf dr s b).2.1 (cellOf dr s b).2.2) = [lawMove (kindOf dr s b) (cellOf dr s b).2.1 (cellOf dr s b).2.2] := by
        rw [lawMove_raw _ _ (kind_lt dr s b) e6 e7]
        have := kind_lt dr s b
        rcases lt_ten this with k | k | k | k | k | k | k | k | k | k <;> first | exact absurd k e6 | exact absurd k e7 | (rw [k]; rfl)
      refine SW.cons (S1.append (l := (rawRules dr s b).map rawRuleAV) (a := rawRuleAV (ltr b, (["Name", tAt s] : List Str), mvRaw (kindOf dr s b) (cellOf dr s b).2.1 (cellOf dr s b).2.2)) F at11 at11 (EJ.to
        (EJ.tup (LJ.cons (EJ.callC F X.y.gPlain X.y.kPlain (LJ.cons (EJ.lst (LJ.cons (EJ.lst (LJ.cons (EJ.var F at13 at13) LJ.nil (fun _ => rfl)) (by simp [sz])) LJ.nil (fun _ => rfl)) (by simp [sz])) LJ.nil (fun _ => rfl)) ((X.y.plainC _).less (by omega)) rfl (by decide) (fun _ => rfl) (fun _ _ => rfl))
          (LJ.cons (EJ.var F at10 at10) (LJ.cons (EJ.callFn F X.hMove X.gMove (LJ.cons (EJ.var F at15 at15) (LJ.cons (EJ.var F at16 at16) (LJ.cons (EJ.var F at17 at17) LJ.nil (fun _ => rfl)) (fun _ => rfl)) (fun _ => rfl)) ((move_ok (n := 0) X.hMove (kind_lt dr s b)).less (by omega)) rfl (by decide) (fun _ => rfl)) LJ.nil (fun _ => rfl)) (fun _ => rfl)) (fun _ => rfl)) (by simp [sz]))
          (by unfold rawRuleAV; rw [ht]; rfl)) ?_ (by rw [List.length_map]; omega) rfl (fun _ => rfl) (fun _ => rfl) (fun env h => by unfold interactive; rw [h]; rfl))
      refine SW.nil (SW.nil (SW.nil ?_))
      have z := h (.fz (.str (ltr b))) (.fz (.int ((2 + 9 * s + 3 * b : Nat) : Int))) (.fz (.int (kindOf dr s b : Nat))) (.fz (.str (cellOf dr s b).2.1)) (.fz (.str (cellOf dr s b).2.2))
      rw [← app _ hr] at z
      rw [show ∀ r : Rule, (rawRules dr s b).map rawRuleAV ++ [rawRuleAV r] = (rawRules dr s b ++ [r]).map rawRuleAV from fun r => by simp]
      exact z
    · have e7 : kindOf dr s b = 7 := by simp at e; omega
      have hr : rawRule dr s b = none := by unfold rawRule; rw [if_pos e7]
      refine SW.nil (SW.nil (SW.nil ?_))
      have z := h (.fz (.str (ltr b))) (.fz (.int ((2 + 9 * s + 3 * b : Nat) : Int))) (.fz (.int (kindOf dr s b : Nat))) (.fz (.str (cellOf dr s b).2.1)) (.fz (.str (cellOf dr s b).2.2))
      rw [rawRules_succ, hr, Option.toList_none, List.append_nil] at z
      exact z
end
section
variable {C : Cx}
def three : List AV := [.int 0, .int 1, .int 2]
theorem three_cons {b : Nat} {x : AV} {rest : List AV} (h : three.drop b = x :: rest) : b < 3 ∧ x = .int (b : Int) ∧ rest = three.drop (b + 1) := by
  match b, h with
  | 0, h => cases h; exact ⟨by decide, rfl, rfl⟩
  | 1, h => cases h; exact ⟨by decide, rfl, rfl⟩
  | 2, h => cases h; exact ⟨by decide, rfl, rfl⟩
  | b + 3, h => unfold three at h; simp at h
theorem three_nil {b : Nat} (hb : b ≤ 3) (h : three.drop b = []) : b = 3 := by
  match b, h, hb with
  | 0, h, _ => cases h
  | 1, h, _ => cases h
  | 2, h, _ => cases h
  | 3, _, _ => rfl
def lawG (sc : AV) (dr : List Int) (t6 t7 t8 t9 t10 t11 a12 a13 a14 a15 a16 a17 : Slot) (U : List Slot) : List Slot :=
  .fz sc :: .fz statesAV :: .fz tagsAV :: .fz (natsAV up4) :: .fz (natsAV dn4) :: .fz (.lst (dr.map .int)) :: t6 :: t7 :: t8 :: t9 :: t10 :: t11 :: a12 :: a13 :: a14 :: a15 :: a16 :: a17 :: U
theorem tag_at {s : Nat} (h : s < 3) : opIdx tagsAV (.str (sAt s)) = some (.str (tAt s)) := by
  match s, h with
  | 0, _ => rfl
  | 1, _ => rfl
  | 2, _ => rfl
theorem tAt_mem {i : Nat} (h : i < 3) : tAt i ∈ tg3 := by
  match i, h with
  | 0, _ => exact .head _
  | 1, _ => exact .tail _ (.head _)
  | 2, _ => exact .tail _ (.tail _ (.head _))
def tabS (dr : List Int) (m : Nat) : Slot := .oS ((rawTab dr m).map (·.1)) ((rawTab dr m).map fun p => .lst (p.2.map rawRuleAV))
theorem rawTab_succ (dr : List Int) (m : Nat) : rawTab dr (m + 1) = rawTab dr m ++ [(sAt m, rawRules dr m 3)] := by unfold rawTab; rw [List.range_succ, List.map_append]; rfl
theorem tabS_succ (dr : List Int) (m : Nat) : tabS dr (m + 1) = .oS ((rawTab dr m).map (·.1) ++ [sAt m]) ((rawTab dr m).map (fun p => AV.lst (p.2.map rawRuleAV)) ++ [.lst ((rawRules dr m 3).map rawRuleAV)]) := by
  unfold tabS
  rw [rawTab_succ, List.map_append, List.map_append]; rfl
theorem state_new {dr : List Int} {s : Nat} (h : s < 3) : sAt s ∉ (rawTab dr s).map (·.1) := by
  have e : (rawTab dr s).map (·.1) = (List.range s).map sAt := by unfold rawTab; rw [List.map_map]; rfl
  rw [e]
  match s, h with
  | 0, _ => decide
  | 1, _ => decide
  | 2, _ => decide
section
variable {n : Nat} {name qual : Str} {doc pm : Value} {an : Option Addr} {cdv ct : Value} {L a : Addr}
theorem law_s (F : (lawFi name qual doc pm an cdv ct L a).Ok) (X : Law1 C) (hn : 10 ≤ n) {sc : AV} {dr : List Int} {t9 t10 t11 a12 a13 a14 a15 a16 a17 : Slot} {s : Nat} {U : List Slot} {G : Out → Prop} (hdr : dr.length = 40) (hs : s < 3)
    (h : ∀ b9 b10 b11 b12 b13 b14 b15 b16 b17, G (.nxt (lawG sc dr (tabS dr (s + 1)) (.oTS (cellKeys (3 * (s + 1))) (cellVals dr (3 * (s + 1)))) (.fz (.int (s : Int))) b9 b10 b11 b12 b13 b14 b15 b16 b17 U))) :
    SW C n (lawFi name qual doc pm an cdv ct L a) (forBody (nth lawF.body 7)) (lawG sc dr (tabS dr s) (.oTS (cellKeys (3 * s)) (cellVals dr (3 * s))) (.fz (.int (s : Int))) t9 t10 t11 a12 a13 a14 a15 a16 a17 U) G := by
  have zz := sz_eq
  refine SW.cons (S1.assign (a := .str (sAt s)) F at9 (EJ.idx (EJ.var F at1 at1) (EJ.var F at8 at8) (idx_states hs) (fun _ _ _ _ h => by cases h)) ?_ (.inl rfl) rfl)
  refine SW.cons (S1.assign (a := .ext (.tok ["Name", tAt s])) F at10 (EJ.meth (EJ.glb F X.y.gName X.y.rName rfl (by decide)) X.y.childM X.y.childF
    (LJ.cons (EJ.idx (EJ.var F at2 at2) (EJ.var F at9 at9) (tag_at hs) (fun _ _ _ _ h => by cases h)) LJ.nil (fun _ => rfl)) ((X.y.childC _ (tAt_mem hs)).less (by omega)) (fun _ => rfl) rfl (fun _ => rfl) (fun _ => rfl)) ?_ (.inl rfl) rfl)
  refine SW.cons (S1.own (l := []) F at11 (NJ.lst LJ.nil (by decide)) ?_ (.inl rfl) rfl)
  refine SW.cons (S1.for_ (a := .rng 0 3 1) (l := three) F (EJ.callT F X.y.gRange (LJ.cons (EJ.int 3) LJ.nil (fun _ => rfl)) range1 rfl (by decide) (fun _ => rfl) (fun _ _ => rfl)) items3
    (fun rest ℓ => ∃ b, b ≤ 3 ∧ rest = three.drop b ∧ ∃ a12 a13 a14 a15 a16 a17, ℓ = lawB sc dr (tabS dr s) s (3 * s + b) (rawRules dr s b) a12 a13 a14 a15 a16 a17 U)
    ⟨0, by decide, rfl, _, _, _, _, _, _, rfl⟩ (fun x rest ℓ hP => ?_) (fun ℓ hP => ?_) (fun _ _ => rfl))
  · obtain ⟨b, hb, hr, b12, b13, b14, b15, b16, b17, rfl⟩ := hP
    obtain ⟨hb3, rfl, rfl⟩ := three_cons hr.symm
    exact ⟨_, TJ.name F (i := 12) rfl, law_b F X hn hdr hs hb3 fun c13 c14 c15 c16 c17 => ⟨b + 1, hb3, rfl, _, _, _, _, _, _, rfl⟩⟩
  · obtain ⟨b, hb, hr, b12, b13, b14, b15, b16, b17, rfl⟩ := hP
    have hb3 := three_nil hb hr.symm
    subst hb3
    refine SW.freeze (i := 11) (l := (rawRules dr s 3).map rawRuleAV) rfl ?_
    refine SW.cons (S1.setS (k := sAt s) (a := .lst ((rawRules dr s 3).map rawRuleAV)) (ks := (rawTab dr s).map Prod.fst) (l := (rawTab dr s).map fun (p : Str × List Rule) => AV.lst (p.2.map rawRuleAV)) F at6 rfl (EJ.var F at11 at11) (EJ.var F at9 at9) (state_new hs)
      (by unfold rawTab; rw [List.length_map, List.length_map, List.length_range]; omega) ?_ rfl)
    refine SW.nil ?_
    have z := h (.fz (.str (sAt s))) (.fz (.ext (.tok ["Name", tAt s]))) (.fz (.lst ((rawRules dr s 3).map rawRuleAV))) b12 b13 b14 b15 b16 b17
    rw [tabS_succ] at z
    exact z
end
end
section
variable {C : Cx}
def begunL (dr : List Int) : List Str := [39, 0, 1].map fun k => sAt (md (gD dr k) 3)
def menu4 (k : Nat) : List Nat := if k < 4 then [97, 97, 99, 98] else [98, 98, 99, 97]
def chOf (dr : List Int) (k : Nat) : Nat := ((menu4 k)[md (gD dr (29 + k)) 4]?).getD 0
def wordL (dr : List Int) : List Nat := (List.range 9).map (chOf dr)
theorem chOf_mem (dr : List Int) (k : Nat) : chOf dr k ∈ [97, 98, 99] := by
  have h : md (gD dr (29 + k)) 4 < 4 := md_lt (by decide)
  unfold chOf menu4
  generalize md (gD dr (29 + k)) 4 = m at h
  split
  all_goals
    match m, h with
    | 0, _ => decide
    | 1, _ => decide
    | 2, _ => decide
    | 3, _ => decide
theorem wordL_mem {dr : List Int} {c : Nat} (h : c ∈ wordL dr) : c ∈ [97, 98, 99] := by
  obtain ⟨k, _, rfl⟩ := List.mem_map.mp h
  exact chOf_mem dr k
theorem wordL_len (dr : List Int) : (wordL dr).length = 9 := by unfold wordL; simp

section
variable {n : Nat} {name qual : Str} {doc pm : Value} {an : Option Addr} {cdv ct : Value} {L a : Addr}
theorem law_begin (F : (lawFi name qual doc pm an cdv ct L a).Ok) (X : Law1 C) {sc : AV} {dr : List Int} {t6 t7 t8 t9 t10 t11 a12 a13 a14 a15 a16 a17 t18 : Slot} {U : List Slot} {G : Out → Prop} (hdr : dr.length = 40)
    (h : G (.nxt (lawG sc dr t6 t7 t8 t9 t10 t11 a12 a13 a14 a15 a16 a17 (.fz (.lst ((begunL dr).map .str)) :: U)))) :
    S1 C n (lawFi name qual doc pm an cdv ct L a) (nth lawF.body 8) (lawG sc dr t6 t7 t8 t9 t10 t11 a12 a13 a14 a15 a16 a17 (t18 :: U)) G := by
  have zz := sz_eq
  have r : ([.int 39, .int 0, .int 1] : List AV).map (onInt fun k => .str (sAt (md (gD dr k.toNat) 3))) = (begunL dr).map .str := rfl
  refine S1.assignComp (r := (begunL dr).map .str) F at18 ?_ h (.inl rfl) rfl
  rw [← r]
  apply CompOk.each (a := .tup [.int 39, .int 0, .int 1]) (l := [.int 39, .int 0, .int 1]) (ls := ["k"]) (caps := [("draws", 5, L + 1 + 1), ("states", 1, L + 1)]) (b := fun a => [.fz a])
  · exact EJ.tup (LJ.cons (EJ.int 39) (LJ.cons (EJ.int 0) (LJ.cons (EJ.int 1) LJ.nil (fun _ => rfl)) (fun _ => rfl)) (fun _ => rfl)) (by decide)
  · rfl
  · exact .cons rfl rfl (.cons rfl rfl .nil)
  · rfl
  · intro L' D
    exact Fi.Ok.of rfl rfl rfl ⟨rfl, rfl, ⟨rfl, rfl⟩, rfl, ⟨rfl, rfl⟩, rfl, trivial⟩ (by show (["k", "draws", "states"] : List Str).Nodup; decide)
  · decide
  · intro L' D F2 x hx vs acc hv
    obtain ⟨v0, rfl⟩ : ∃ v0, vs = [v0] := match vs, hv with | [v], _ => ⟨v, rfl⟩
    refine ⟨rfl, TJ.name (i := 0) F2 rfl, ?_⟩
    have hk : ∃ k : Nat, x = .int (k : Int) ∧ k < 40 := by
      simp only [List.mem_cons, List.not_mem_nil, or_false] at hx
      rcases hx with rfl | rfl | rfl
      · exact ⟨39, rfl, by decide⟩
      · exact ⟨0, rfl, by decide⟩
      · exact ⟨1, rfl, by decide⟩
    obtain ⟨k, rfl, hk⟩ := hk
    exact EJ.idx (EJ.var F2 at2 at2) (EJ.mod (EJ.idx (EJ.var F2 at1 at1) (EJ.var F2 at0 at0) (idx_draws (by omega) (by omega)) (fun _ _ _ _ h => by cases h)) 3 (by decide)) (idx_states (md_lt (by decide))) (fun _ _ _ _ h => by cases h)
  · decide
  · rfl
  · decide
  · intro _ _; rfl
theorem idx_menu {k : Nat} (x : Int) : opIdx (.str (if k < 4 then "aacb" else "bbca")) (.int (md x 4 : Nat)) = some (chAV (((menu4 k)[md x 4]?).getD 0)) := by
  have h : md x 4 < 4 := md_lt (by decide)
  generalize md x 4 = m at h
  unfold menu4
  split
  all_goals
    match m, h with
    | 0, _ => rfl
    | 1, _ => rfl
    | 2, _ => rfl
    | 3, _ => rfl
theorem law_text (F : (lawFi name qual doc pm an cdv ct L a).Ok) (X : Law1 C) {sc : AV} {dr : List Int} {t6 t7 t8 t9 t10 t11 a12 a13 a14 a15 a16 a17 t18 t19 : Slot} {U : List Slot} {G : Out → Prop} (hdr : dr.length = 40)
    (h : G (.nxt (lawG sc dr t6 t7 t8 t9 t10 t11 a12 a13 a14 a15 a16 a17 (t18 :: .fz (.str ⟨(wordL dr).toArray⟩) :: U)))) :
    S1 C n (lawFi name qual doc pm an cdv ct L a) (nth lawF.body 9) (lawG sc dr t6 t7 t8 t9 t10 t11 a12 a13 a14 a15 a16 a17 (t18 :: t19 :: U)) G := by
  have zz := sz_eq
  have r : ((List.range 9).map fun (k : Nat) => AV.int (k : Int)).map (onInt fun k => chAV (chOf dr k.toNat)) = (wordL dr).map chAV := by unfold wordL; simp [onInt]
  refine S1.assign (a := .str ⟨(wordL dr).toArray⟩) F at19 ?_ h (.inl rfl) rfl
  apply EJ.joinCh (l := wordL dr) ?_ (by rw [wordL_len]; decide) rfl (fun _ => rfl)
  rw [← r]
  apply EJ.comp
  apply CompOk.each (a := .rng 0 9 1) (l := (List.range 9).map fun (k : Nat) => AV.int (k : Int)) (ls := ["k"]) (caps := [("draws", 5, L + 1 + 1)]) (b := fun a => [.fz a])
  · exact EJ.callT F X.y.gRange (LJ.cons (EJ.int 9) LJ.nil (fun _ => rfl)) range1 rfl (by decide) (fun _ => rfl) (fun _ _ => rfl)
  · rw [items_rng (by omega) (by omega) (by omega) (by omega)]; simp
  · exact .cons rfl rfl .nil
  · rfl
  · intro L' D
    exact Fi.Ok.of rfl rfl rfl ⟨rfl, rfl, ⟨rfl, rfl⟩, rfl, trivial⟩ (by show (["k", "draws"] : List Str).Nodup; decide)
  · simp [sz]
  · intro L' D F2 x hx vs acc hv
    obtain ⟨v0, rfl⟩ : ∃ v0, vs = [v0] := match vs, hv with | [v], _ => ⟨v, rfl⟩
    refine ⟨rfl, TJ.name (i := 0) F2 rfl, ?_⟩
    obtain ⟨k, hk, rfl⟩ := List.mem_map.mp hx
    have hk : k < 9 := List.mem_range.mp hk
    refine EJ.idx (x := .str (if k < 4 then "aacb" else "bbca")) (EJ.to (EJ.ite (BJ.cmp (EJ.var F2 at0 at0) (EJ.int 4) rfl rfl) (EJ.str _) (EJ.str _)) ?_) (EJ.mod (EJ.idx (EJ.var F2 at1 at1) (EJ.to (EJ.bin (EJ.int 29) (EJ.var F2 at0 at0) rfl) (show _ = AV.int ((29 + k : Nat) : Int) from by congr 1)) (idx_draws (by omega) (by omega)) (fun _ _ _ _ h => by cases h)) 4 (by decide)) (idx_menu _) (fun _ _ _ _ h => by cases h)
    by_cases q : k < 4
    · rw [if_pos q, if_pos (by simp; omega)]
    · rw [if_neg q, if_neg (by simp; omega)]
  · decide
  · rfl
  · decide
  · intro _ _; rfl
end
end
section
variable {C : Cx}
/-! ## the plain walk of law 01, read as a loop -/
def fullL (dr : List Int) : List Nat := wordL dr ++ [10, 97, 99]
theorem fullL_len (dr : List Int) : (fullL dr).length = 12 := by unfold fullL; rw [List.length_append, wordL_len]; rfl
theorem full_at (dr : List Int) {m : Nat} (h : m < 12) : ∃ c, (fullL dr)[m]? = some c ∧ (fullL dr).drop m = c :: (fullL dr).drop (m + 1) ∧ (c = 10 ↔ m = 9) ∧ (c ≠ 10 → c ∈ [97, 98, 99]) ∧ (m < 9 → (wordL dr)[m]? = some c) := by
  have hl := wordL_len dr
  have hf := fullL_len dr
  obtain ⟨c, hc⟩ : ∃ c, (fullL dr)[m]? = some c := ⟨_, List.getElem?_eq_getElem (by omega)⟩
  have hd : (fullL dr).drop m = c :: (fullL dr).drop (m + 1) := by
    have h1 : m < (fullL dr).length := by omega
    rw [List.getElem?_eq_getElem h1] at hc
    rw [List.drop_eq_getElem_cons h1, Option.some.inj hc]
  refine ⟨c, hc, hd, ?_⟩
  by_cases h9 : m < 9
  · have hw : (wordL dr)[m]? = some c := by
      unfold fullL at hc
      rwa [List.getElem?_append_left (by omega)] at hc
    have hm := wordL_mem (List.mem_of_getElem? hw)
    refine ⟨⟨fun e => ?_, fun e => by omega⟩, fun _ => hm, fun _ => hw⟩
    subst e; exact absurd hm (by decide)
  · have : m = 9 ∨ m = 10 ∨ m = 11 := by omega
    unfold fullL at hc
    rw [List.getElem?_append_right (by omega), hl] at hc
    rcases this with rfl | rfl | rfl <;> cases hc <;> exact ⟨by decide, by decide, fun h => absurd h h9⟩
theorem stepL_good {dr : List Int} {st : List Str} {k : Nat} {one two : Str} (ho : one ∈ st3) (ht : two ∈ st3) (g : st ≠ [] ∧ ∀ s ∈ st, s ∈ st3) : (stepL st k one two ≠ [] ∧ ∀ s ∈ stepL st k one two, s ∈ st3) ∧ (stepL st k one two).length ≤ st.length + 2 := by
  have lg : ∀ st : List Str, (st ≠ [] ∧ ∀ s ∈ st, s ∈ st3) → lessL st ≠ [] ∧ ∀ s ∈ lessL st, s ∈ st3 := fun st g => by
    unfold lessL
    split
    · rename_i h
      refine ⟨fun z => ?_, fun s hs => g.2 s (List.mem_of_mem_take hs)⟩
      have := congrArg List.length z
      rw [List.length_take, List.length_nil] at this; omega
    · exact g
  have ap : ∀ (a b : List Str), (∀ s ∈ a, s ∈ st3) → (∀ s ∈ b, s ∈ st3) → b ≠ [] → a ++ b ≠ [] ∧ ∀ s ∈ a ++ b, s ∈ st3 := fun a b ha hb hn => ⟨by simp [hn], fun s hs => (List.mem_append.mp hs).elim (ha s) (hb s)⟩
  have one1 : ∀ s ∈ [one], s ∈ st3 := fun s hs => by rw [List.mem_singleton.mp hs]; exact ho
  have l1 := lessL_len st
  have l2 := lessL_len (lessL st)
  unfold stepL
  split
  · exact ⟨ap _ _ g.2 one1 (by simp), by simp⟩
  split
  · exact ⟨lg _ g, by omega⟩
  split
  · exact ⟨ap _ _ (lg _ g).2 one1 (by simp), by rw [List.length_append]; show _ + 1 ≤ _; omega⟩
  split
  · exact ⟨lg _ (lg _ g), by omega⟩
  split
  · exact ⟨ap _ _ g.2 (fun s hs => by
      rcases List.mem_cons.mp hs with rfl | hs
      · exact ho
      · rw [List.mem_singleton.mp hs]; exact ht) (by simp), by simp⟩
  split
  · refine ⟨⟨by simp [g.1], fun s hs => (List.mem_append.mp hs).elim (g.2 s) fun h => g.2 s (List.mem_of_mem_drop h)⟩, ?_⟩
    rw [List.length_append, List.length_drop]; omega
  split
  · exact ⟨ap _ _ g.2 (fun s hs => by
      rcases List.mem_cons.mp hs with rfl | hs
      · exact ho
      · rw [List.mem_singleton.mp hs]; exact ho) (by simp), by simp⟩
  · exact ⟨g, by omega⟩
structure RI (dr : List Int) (m : Nat) (st : List Str) (done : List Piece) (hs : List Int) (tops : List Str) : Prop where
  le : m ≤ 12
  good : st ≠ [] ∧ ∀ s ∈ st, s ∈ st3
  len : st.length ≤ 3 + 2 * m
  told : done ++ ptold (cellF dr) (nmF dr) st ((fullL dr).drop m) = ptold (cellF dr) (nmF dr) (begunL dr) (fullL dr)
  dl : done.length = m
  stw : m ≤ 9 → st = mrun (cellF dr) (begunL dr) ((wordL dr).take m)
  hl : hs.length = min m 9 + 1
  tl : tops.length = min m 9 + 1
  hh : ∀ j, j ≤ min m 9 → hs[j]? = some ((mrun (cellF dr) (begunL dr) ((wordL dr).take j)).length : Int)
  tt : ∀ j, j ≤ min m 9 → tops[j]? = (mrun (cellF dr) (begunL dr) ((wordL dr).take j)).getLast?
  hb : ∀ h ∈ hs, 0 ≤ h ∧ h ≤ 100
theorem begun_good (dr : List Int) : begunL dr ≠ [] ∧ ∀ s ∈ begunL dr, s ∈ st3 := by
  refine ⟨by unfold begunL; simp, fun s hs => ?_⟩
  obtain ⟨k, _, rfl⟩ := List.mem_map.mp hs
  exact sAt_mem (md_lt (by decide))
theorem begun_len (dr : List Int) : (begunL dr).length = 3 := rfl
theorem RI.start (dr : List Int) : RI dr 0 (begunL dr) [] [3] [topOf (begunL dr)] where
  le := by decide
  good := begun_good dr
  len := by rw [begun_len]; decide
  told := rfl
  dl := rfl
  stw := fun _ => rfl
  hl := rfl
  tl := rfl
  hh := fun j hj => by
    have : j = 0 := by omega
    subst this
    rw [List.take_zero]
    show _ = some (((begunL dr).length : Nat) : Int)
    rw [begun_len]; rfl
  tt := fun j hj => by
    have : j = 0 := by omega
    subst this
    rw [List.take_zero]
    rfl
  hb := fun h hh => by rw [List.mem_singleton.mp hh]; decide
theorem cell_states {dr : List Int} (s : Str) (c : Nat) : (cellF dr s c).2.1 ∈ st3 ∧ (cellF dr s c).2.2 ∈ st3 := ⟨sAt_mem (md_lt (by decide)), sAt_mem (md_lt (by decide))⟩
theorem RI.nl {dr : List Int} {st done hs tops} (R : RI dr 9 st done hs tops) : RI dr 10 ["root"] (done ++ [((["Text", "Whitespace"] : List Str), 10)]) hs tops where
  le := by decide
  good := ⟨by simp, fun s h => by rw [List.mem_singleton.mp h]; exact .head _⟩
  len := by decide
  told := by
    rw [← R.told]
    obtain ⟨c, _, hd, h10, _⟩ := full_at dr (m := 9) (by decide)
    have : c = 10 := h10.mpr rfl
    subst this
    rw [hd, ptold, if_pos rfl, List.append_assoc]; rfl
  dl := by rw [List.length_append, R.dl]; rfl
  stw := fun h => absurd h (by decide)
  hl := R.hl
  tl := R.tl
  hh := R.hh
  tt := R.tt
  hb := R.hb
theorem RI.ltr {dr : List Int} {m st done hs tops} (R : RI dr m st done hs tops) {c : Nat} (hm : m < 12) (h9 : m ≠ 9) (hc : (fullL dr)[m]? = some c) {y : Str} (hy : st.getLast? = some y) {st' : List Str} (hst : st' = stepL st (cellF dr y c).1 (cellF dr y c).2.1 (cellF dr y c).2.2) {y' : Str} (hy' : st'.getLast? = some y') :
    RI dr (m + 1) st' (done ++ [(nmF dr y c, c)]) (if m < 9 then hs ++ [(st'.length : Int)] else hs) (if m < 9 then tops ++ [y'] else tops) := by
  obtain ⟨c', hc', hd, h10, hmem, hw⟩ := full_at dr hm
  rw [hc] at hc'; cases hc'
  have c10 : c ≠ 10 := fun e => h9 (h10.mp e)
  have ms : mstep (cellF dr) st c = st' := by unfold mstep; rw [hy, hst]
  have sg := stepL_good (dr := dr) (k := (cellF dr y c).1) (cell_states (dr := dr) y c).1 (cell_states (dr := dr) y c).2 R.good
  rw [← hst] at sg
  have rl := R.len
  have run : m < 9 → st' = mrun (cellF dr) (begunL dr) ((wordL dr).take (m + 1)) := fun h => by
    rw [List.take_succ, hw h, mrun_app, ← R.stw (by omega)]
    exact ms.symm
  refine ⟨by omega, sg.1, by omega, ?_, by rw [List.length_append, R.dl]; rfl, fun h => run (by omega), ?_, ?_, fun j hj => ?_, fun j hj => ?_, ?_⟩
  · rw [← R.told, hd, ptold, if_neg c10, ms, List.append_assoc]
    unfold topOf
    rw [hy]; rfl
  · have := R.hl
    split
    · rw [List.length_append, this]; show _ + 1 = _; omega
    · rw [this]; omega
  · have := R.tl
    split
    · rw [List.length_append, this]; show _ + 1 = _; omega
    · rw [this]; omega
  · by_cases h : m < 9
    · rw [if_pos h]
      by_cases e : j = m + 1
      · subst e
        have := R.hl
        rw [List.getElem?_append_right (by omega), show m + 1 - hs.length = 0 by omega, ← run h]; rfl
      · have := R.hl
        rw [List.getElem?_append_left (by omega)]
        exact R.hh j (by omega)
    · rw [if_neg h]; exact R.hh j (by omega)
  · by_cases h : m < 9
    · rw [if_pos h]
      by_cases e : j = m + 1
      · subst e
        have := R.tl
        rw [List.getElem?_append_right (by omega), show m + 1 - tops.length = 0 by omega, ← run h, hy']; rfl
      · have := R.tl
        rw [List.getElem?_append_left (by omega)]
        exact R.tt j (by omega)
    · rw [if_neg h]; exact R.tt j (by omega)
  · intro x hx
    split at hx
    · rcases List.mem_append.mp hx with z | z
      · exact R.hb x z
      · rw [List.mem_singleton.mp z]; omega
    · exact R.hb x hx
theorem RI.tops {dr : List Int} {st done hs tops} (R : RI dr 12 st done hs tops) : Tops (cellF dr) (begunL dr) (wordL dr) hs tops where
  lh := by rw [R.hl, wordL_len]; rfl
  lt := by rw [R.tl, wordL_len]; rfl
  h := fun m hm => R.hh m (by rw [wordL_len] at hm; omega)
  t := fun m hm => R.tt m (by rw [wordL_len] at hm; omega)
theorem RI.done {dr : List Int} {st done hs tops} (R : RI dr 12 st done hs tops) : done = ptold (cellF dr) (nmF dr) (begunL dr) (fullL dr) := by
  have := R.told
  rwa [List.drop_eq_nil_of_le (by rw [fullL_len]; exact Nat.le_refl _), ptold, List.append_nil] at this
theorem find_cell {dr : List Int} {s : Str} {c : Nat} (hs : s ∈ st3) (hc : c ∈ [97, 98, 99]) : findK [s, (⟨#[c]⟩ : Str)] (cellKeys 9) (cellVals dr 9) = some (cellAV (cellF dr s c)) := by
  have h1 : s = "root" ∨ s = "p" ∨ s = "q" := by simpa [st3] using hs
  have h2 : c = 97 ∨ c = 98 ∨ c = 99 := by simpa using hc
  rcases h1 with rfl | rfl | rfl <;> rcases h2 with rfl | rfl | rfl <;> rfl
end
section
variable {C : Cx}
def cellsAV (dr : List Int) : AV := .dTS (cellKeys 9) (cellVals dr 9)
def lawR (sc : AV) (dr : List Int) (t6 t8 t9 t10 t11 a12 a13 a14 a15 a16 a17 : Slot) (st : List Str) (hs : List Int) (tops : List Str) (done : List Piece) (V : List Slot) : List Slot :=
  lawG sc dr t6 (.fz (cellsAV dr)) t8 t9 t10 t11 a12 a13 a14 a15 a16 a17 (.fz (.lst ((begunL dr).map .str)) :: .fz (.str ⟨(wordL dr).toArray⟩) :: .fz (.lst (st.map .str)) :: .ol (hs.map .int) :: .ol (tops.map .str) :: .ol (done.map pieceAV) :: V)
theorem full_str (dr : List Int) : (⟨(wordL dr).toArray⟩ : Str) ++ ("\nac" : Str) = ⟨(fullL dr).toArray⟩ := by
  apply congrArg Str.mk
  apply Array.toList_inj.mp
  unfold fullL
  simp
  rfl
theorem nl_eq (c : Nat) : ((⟨#[c]⟩ : Str) == ("\n" : Str)) = decide (c = 10) := by
  by_cases h : c = 10
  · subst h; rfl
  · rw [decide_eq_false h]
    refine beq_eq_false_iff_ne.mpr fun e => h ?_
    have : (⟨#[c]⟩ : Str).cps.toList = ("\n" : Str).cps.toList := by rw [e]
    have e2 : ("\n" : Str).cps.toList = [10] := rfl
    rw [e2] at this
    simpa using this
theorem last_idx {st : List Str} {y : Str} (hy : st.getLast? = some y) (hz : st.length ≤ 1000) : opIdx (.lst (st.map .str)) (.int (-1)) = some (.str y) := by
  have zz := sz_eq
  have hn : st.map AV.str ≠ [] := by
    intro z
    rw [List.map_eq_nil_iff] at z
    subst z; cases hy
  rw [idx_lst (by simp; omega), at_last hn, List.getLast?_map, hy]; rfl
theorem tag_of {y : Str} (h : y ∈ st3) : opIdx tagsAV (.str y) = some (.str (tAt (sIx y))) := by
  have : y = "root" ∨ y = "p" ∨ y = "q" := by simpa [st3] using h
  rcases this with rfl | rfl | rfl <;> rfl
def walkBody : List Stmt := forBody (nth lawF.body 14)
section
variable {n : Nat} {name qual : Str} {doc pm : Value} {an : Option Addr} {cdv ct : Value} {L a : Addr}
theorem law_letter (F : (lawFi name qual doc pm an cdv ct L a).Ok) (X : Law1 C) (hn : 10 ≤ n) {sc : AV} {dr : List Int} {t6 t8 t9 t10 t11 a12 a14 a15 a16 a17 : Slot} {V : List Slot} {G : Out → Prop} {m : Nat} {st : List Str} {done : List Piece} {hs : List Int} {tops : List Str} {c : Nat}
    (R : RI dr m st done hs tops) (hm : m < 12) (hc : (fullL dr)[m]? = some c)
    (h : ∀ st' done' hs' tops' b15 b16 b17, RI dr (m + 1) st' done' hs' tops' → G (.nxt (lawR sc dr t6 t8 t9 t10 t11 a12 (.fz (chAV c)) a14 b15 b16 b17 st' hs' tops' done' V)) ∧ G (.cnt (lawR sc dr t6 t8 t9 t10 t11 a12 (.fz (chAV c)) a14 b15 b16 b17 st' hs' tops' done' V))) :
    SW C n (lawFi name qual doc pm an cdv ct L a) walkBody (lawR sc dr t6 t8 t9 t10 t11 a12 (.fz (chAV c)) a14 a15 a16 a17 st hs tops done V) G := by
  have zz := sz_eq
  obtain ⟨c', hc', hd, h10, hmem, hw⟩ := full_at dr hm
  rw [hc] at hc'; cases hc'
  have rl := R.len
  have rd := R.dl
  have rh := R.hl
  have rt := R.tl
  refine SW.cons (S1.ifs (BJ.cmp (EJ.var F at13 at13) (EJ.str _) rfl rfl) (fun e => ?_) fun e => ?_)
  · have e : c = 10 := by
      rw [nl_eq] at e; exact of_decide_eq_true e
    subst e
    have hm9 := h10.mp rfl
    subst hm9
    refine SW.cons (S1.append (l := done.map pieceAV) (a := pieceAV ((["Text", "Whitespace"] : List Str), 10)) F at23 at23 (EJ.tup (LJ.cons (EJ.tup (LJ.cons (EJ.str _) (LJ.cons (EJ.str _) LJ.nil (fun _ => rfl)) (fun _ => rfl)) (by decide)) (LJ.cons (EJ.var F at13 at13) LJ.nil (fun _ => rfl)) (fun _ => rfl)) (show 2 ≤ sz by decide))
      ?_ (by rw [List.length_map]; omega) rfl (fun _ => rfl) (fun _ => rfl) (fun env h => by unfold interactive; rw [h]; rfl))
    refine SW.cons (S1.assign (a := .lst ((["root"] : List Str).map .str)) F at20 (EJ.lst (LJ.cons (EJ.str _) LJ.nil (fun _ => rfl)) (by decide)) ?_ (.inl rfl) rfl)
    refine SW.cons (S1.cnt ?_)
    have z := (h _ _ _ _ a15 a16 a17 R.nl).2
    unfold lawR at z
    rw [List.map_append] at z
    exact z
  · have e : c ≠ 10 := by
      rw [nl_eq] at e; exact of_decide_eq_false e
    have h9 : m ≠ 9 := fun z => e (h10.mpr z)
    have hc3 := hmem e
    obtain ⟨y, hy⟩ : ∃ y, st.getLast? = some y := ⟨_, List.getLast?_eq_some_getLast R.good.1⟩
    have hyk := R.good.2 y (List.mem_of_getLast? hy)
    have lidx := last_idx hy (by omega)
    refine SW.nil ?_
    refine SW.cons (S1.unpack (a := cellAV (cellF dr y c)) (EJ.idx (x := cellsAV dr) (y := .tup [.str y, .str ⟨#[c]⟩]) (EJ.var F at7 at7) (EJ.tup (LJ.cons (EJ.idx (EJ.var F at20 at20) (EJ.neg (EJ.int 1)) lidx (fun _ _ _ _ h => by cases h)) (LJ.cons (EJ.var F at13 at13) LJ.nil (fun _ => rfl)) (fun _ => rfl)) (show 2 ≤ sz by decide)) (find_cell hyk hc3) (fun _ _ _ _ h => by cases h))
      (TJ.tup (TL.cons (TJ.name F (i := 15) rfl) (TL.cons (TJ.name F (i := 16) rfl) (TL.cons (TJ.name F (i := 17) rfl) TL.nil)))) ?_ rfl rfl)
    have k10 : (cellF dr y c).1 < 10 := kind_lt _ _ _
    have pa : pieceAV (nmF dr y c, c) = .tup [(if decide (((cellF dr y c).1 : Int) = 7) then AV.tup [.str "Error"] else .tup [.str "Name", .str (tAt (sIx y))]), .str ⟨#[c]⟩] := by
      unfold pieceAV nmF
      by_cases q : (cellF dr y c).1 = 7
      · rw [if_pos q, if_pos (by simp; omega)]; rfl
      · rw [if_neg q, if_neg (by simp; omega)]; rfl
    refine SW.cons (S1.append (l := done.map pieceAV) (a := pieceAV (nmF dr y c, c)) F at23 at23 (EJ.to (EJ.tup (LJ.cons (EJ.ite (BJ.cmp (EJ.var F at15 at15) (EJ.int 7) rfl rfl) (EJ.tup (LJ.cons (EJ.str _) LJ.nil (fun _ => rfl)) (by decide))
      (EJ.tup (LJ.cons (EJ.str _) (LJ.cons (EJ.idx (EJ.var F at2 at2) (EJ.idx (EJ.var F at20 at20) (EJ.neg (EJ.int 1)) lidx (fun _ _ _ _ h => by cases h)) (tag_of hyk) (fun _ _ _ _ h => by cases h)) LJ.nil (fun _ => rfl)) (fun _ => rfl)) (by simp [sz]))) (LJ.cons (EJ.var F at13 at13) LJ.nil (fun _ => rfl)) (fun _ => rfl)) (by simp [sz])) pa.symm)
      ?_ (by rw [List.length_map]; omega) rfl (fun _ => rfl) (fun _ => rfl) (fun env h => by unfold interactive; rw [h]; rfl))
    generalize hst : stepL st (cellF dr y c).1 (cellF dr y c).2.1 (cellF dr y c).2.2 = st'
    refine SW.cons (S1.assign (a := .lst (st'.map .str)) F at20 (EJ.to (EJ.callFn F X.hStep X.gStep (LJ.cons (EJ.var F at20 at20) (LJ.cons (EJ.var F at15 at15) (LJ.cons (EJ.var F at16 at16) (LJ.cons (EJ.var F at17 at17) LJ.nil (fun _ => rfl)) (fun _ => rfl)) (fun _ => rfl)) (fun _ => rfl))
      ((step_ok (n := 0) (k := (cellF dr y c).1) X.hStep X.y.lex.gLen (by rw [List.length_map]; omega)).less (by omega)) rfl (by decide) (fun _ => rfl)) (by rw [stepL_map, hst])) ?_ (.inl rfl) rfl)
    have sg := stepL_good (dr := dr) (k := (cellF dr y c).1) (cell_states (dr := dr) y c).1 (cell_states (dr := dr) y c).2 R.good
    rw [hst] at sg
    obtain ⟨y', hy'⟩ : ∃ y, st'.getLast? = some y := ⟨_, List.getLast?_eq_some_getLast sg.1.1⟩
    have lidx' := last_idx hy' (by omega)
    have R' := R.ltr hm h9 hc hy hst.symm hy'
    have z := h _ _ _ _ (.fz (.int ((cellF dr y c).1 : Int))) (.fz (.str (cellF dr y c).2.1)) (.fz (.str (cellF dr y c).2.2)) R'
    have wl := wordL_len dr
    refine SW.cons (S1.ifs (BJ.cmp (EJ.lenO F X.y.lex.gLen (l := done.map pieceAV ++ [pieceAV (nmF dr y c, c)]) at23 at23 (by rw [List.length_append, List.length_map]; show _ + 1 ≤ _; omega) rfl) (EJ.lenS F X.y.lex.gLen (EJ.var F at19 at19) (by show (wordL dr).toArray.size ≤ _; rw [List.size_toArray]; omega) rfl (fun _ => rfl)) rfl rfl) (fun e2 => ?_) fun e2 => ?_)
    · have lt : m < 9 := by
        have e2 := of_decide_eq_true e2
        rw [List.length_append, List.length_map, rd] at e2
        have e3 : ((⟨(wordL dr).toArray⟩ : Str).length : Int) = 9 := by show (((wordL dr).toArray.size : Nat) : Int) = 9; rw [List.size_toArray, wl]; rfl
        rw [e3] at e2
        have : (([pieceAV (nmF dr y c, c)] : List AV).length) = 1 := rfl
        omega
      rw [if_pos lt, if_pos lt] at z
      refine SW.cons (S1.append (l := hs.map .int) (a := .int (st'.length : Int)) F at21 at21 (EJ.to (EJ.lenL F X.y.lex.gLen (EJ.var F at20 at20) (by rw [List.length_map]; omega) rfl (fun _ => rfl)) (by rw [List.length_map])) ?_ (by rw [List.length_map]; omega) rfl (fun _ => rfl) (fun _ => rfl) (fun env h => by unfold interactive; rw [h]; rfl))
      refine SW.cons (S1.append (l := tops.map .str) (a := .str y') F at22 at22 (EJ.idx (EJ.var F at20 at20) (EJ.neg (EJ.int 1)) lidx' (fun _ _ _ _ h => by cases h)) ?_ (by rw [List.length_map]; omega) rfl (fun _ => rfl) (fun _ => rfl) (fun env h => by unfold interactive; rw [h]; rfl))
      refine SW.nil (SW.nil ?_)
      have z1 := z.1
      unfold lawR at z1
      rw [List.map_append, List.map_append, List.map_append] at z1
      exact z1
    · have lt : ¬ m < 9 := by
        have e2 := of_decide_eq_false e2
        rw [List.length_append, List.length_map, rd] at e2
        have e3 : ((⟨(wordL dr).toArray⟩ : Str).length : Int) = 9 := by show (((wordL dr).toArray.size : Nat) : Int) = 9; rw [List.size_toArray, wl]; rfl
        rw [e3] at e2
        have : (([pieceAV (nmF dr y c, c)] : List AV).length) = 1 := rfl
        omega
      rw [if_neg lt, if_neg lt] at z
      refine SW.nil (SW.nil ?_)
      have z1 := z.1
      unfold lawR at z1
      rw [List.map_append] at z1
      exact z1
end
end
section
variable {C : Cx}
theorem toPyL_strs : ∀ l : List Str, toPyL (l.map .str) = some (l.map .str)
  | [] => rfl
  | s :: l => by simp only [List.map_cons, toPyL, toPy, toPyL_strs l]
def pieceD (p : Piece) : PyData := .tuple [.tuple (p.1.map .str), .str ⟨#[p.2]⟩]
theorem toPy_piece (p : Piece) : toPy (pieceAV p) = some (pieceD p) := by
  unfold pieceAV pieceD
  simp only [toPy, toPyL, toPyL_strs, Option.map_some]
theorem toPyL_pieces : ∀ l : List Piece, toPyL (l.map pieceAV) = some (l.map pieceD)
  | [] => rfl
  | p :: l => by simp only [List.map_cons, toPyL, toPy_piece, toPyL_pieces l]
theorem lay_strs : ∀ {l : List Str}, (∀ s ∈ l, PyData.strOk s = true) → PyData.canLayAll0 (l.map .str) = true ∧ PyData.depthAll (l.map .str) = 0
  | [], _ => ⟨rfl, rfl⟩
  | s :: l, h => by
    have ih := lay_strs (l := l) fun x hx => h x (.tail _ hx)
    simp only [List.map_cons, PyData.canLayAll0, PyData.canLay0, PyData.depthAll, PyData.depth, ih.1, ih.2, h s (.head _)]
    exact ⟨rfl, rfl⟩
def PieceOk (p : Piece) : Prop := (∀ s ∈ p.1, PyData.strOk s = true) ∧ PyData.strOk ⟨#[p.2]⟩ = true
theorem lay_pieces : ∀ {l : List Piece}, (∀ p ∈ l, PieceOk p) → PyData.canLayAll0 (l.map pieceD) = true ∧ PyData.depthAll (l.map pieceD) ≤ 2
  | [], _ => ⟨rfl, by simp [PyData.depthAll]⟩
  | p :: l, h => by
    have ih := lay_pieces (l := l) fun x hx => h x (.tail _ hx)
    have hp := h p (.head _)
    have hs := lay_strs hp.1
    simp only [List.map_cons, PyData.canLayAll0, PyData.depthAll, ih.1]
    unfold pieceD
    simp only [PyData.canLay0, PyData.canLayAll0, PyData.depth, PyData.depthAll, hs.1, hs.2, hp.2]
    refine ⟨rfl, ?_⟩
    have := ih.2
    unfold pieceD at this
    omega
theorem deep_list {l : List AV} {ds : List PyData} (h : toPyL l = some ds) (hc : PyData.canLayAll0 ds = true) (hd : PyData.depthAll ds ≤ 40) : deepEq (.lst l) (.lst l) = some true := by
  have c : PyData.canLay0 (.list ds) = true := by simpa [PyData.canLay0] using hc
  refine deep_same (d := .list ds) (by simp [toPy, h]) ?_ (PySem.SeqAt.eqv_refl _ c)
  unfold PySem.SeqAt.shaped
  rw [c, decide_eq_true (by simp only [PyData.depth]; omega)]; rfl
theorem deep_strs {l : List Str} (h : ∀ s ∈ l, PyData.strOk s = true) : deepEq (.lst (l.map .str)) (.lst (l.map .str)) = some true :=
  deep_list (toPyL_strs l) (lay_strs h).1 (by rw [(lay_strs h).2]; decide)
theorem deep_pieces {l : List Piece} (h : ∀ p ∈ l, PieceOk p) : deepEq (.lst (l.map pieceAV)) (.lst (l.map pieceAV)) = some true :=
  deep_list (toPyL_pieces l) (lay_pieces h).1 (by have := (lay_pieces h).2; omega)
theorem ne_lst {l : List AV} (h : deepEq (.lst l) (.lst l) = some true) : opCmp .NotEq (.lst l) (.lst l) = some (.bool false) := by
  have : eqB (.lst l) (.lst l) = deepEq (.lst l) (.lst l) := rfl
  simp only [opCmp, this, h]; rfl
theorem eq_lst {l : List AV} (h : deepEq (.lst l) (.lst l) = some true) : opCmp .Eq (.lst l) (.lst l) = some (.bool true) := by
  have : eqB (.lst l) (.lst l) = deepEq (.lst l) (.lst l) := rfl
  simp only [opCmp, this, h]; rfl
theorem st3_ok {s : Str} (h : s ∈ st3) : PyData.strOk s = true := by
  have : s = "root" ∨ s = "p" ∨ s = "q" := by simpa [st3] using h
  rcases this with rfl | rfl | rfl <;> decide +kernel
theorem nm_ok {dr : List Int} (s : Str) (c : Nat) : ∀ x ∈ nmF dr s c, PyData.strOk x = true := fun x hx => by
  unfold nmF at hx
  split at hx
  · rw [List.mem_singleton.mp hx]; decide +kernel
  · rcases List.mem_cons.mp hx with rfl | hx
    · decide +kernel
    · rw [List.mem_singleton.mp hx]
      have : sIx s < 3 := by unfold sIx; split; decide; split <;> decide
      generalize sIx s = i at this
      match i, this with
      | 0, _ => decide +kernel
      | 1, _ => decide +kernel
      | 2, _ => decide +kernel
theorem ptold_ok {dr : List Int} : ∀ (w : List Nat) (st : List Str), (∀ c ∈ w, c ∈ [97, 98, 99] ∨ c = 10) → ∀ p ∈ ptold (cellF dr) (nmF dr) st w, PieceOk p
  | [], _, _, p, hp => nomatch hp
  | c :: w, st, h, p, hp => by
    have hc : PyData.strOk ⟨#[c]⟩ = true := by
      have : c = 97 ∨ c = 98 ∨ c = 99 ∨ c = 10 := by have := h c (.head _); simpa [or_assoc] using this
      rcases this with rfl | rfl | rfl | rfl <;> decide +kernel
    unfold ptold at hp
    split at hp
    · rcases List.mem_cons.mp hp with rfl | hp
      · exact ⟨fun s hs => by
          rcases List.mem_cons.mp hs with rfl | hs
          · decide +kernel
          · rw [List.mem_singleton.mp hs]; decide +kernel, hc⟩
      · exact ptold_ok w _ (fun x hx => h x (.tail _ hx)) p hp
    · rcases List.mem_cons.mp hp with rfl | hp
      · exact ⟨nm_ok _ _, hc⟩
      · exact ptold_ok w _ (fun x hx => h x (.tail _ hx)) p hp
theorem repL_len {γ : Type} (u : List γ) : ∀ t, (repL u t).length = t * u.length
  | 0 => by simp [repL]
  | t + 1 => by rw [repL, List.length_append, repL_len u t, Nat.succ_mul, Nat.add_comm]
theorem pumpL_len {γ : Type} {l : List γ} {q : Quad} {t : Nat} (ht : t ≤ 3) : (pumpL l q t).length ≤ 9 * l.length := by
  unfold pumpL
  simp only [List.length_append, repL_len, List.length_take, List.length_drop]
  have h1 : t * (min q.2.1 l.length - q.1) ≤ 3 * l.length := Nat.mul_le_mul ht (by omega)
  have h2 : t * (min q.2.2.2 l.length - q.2.2.1) ≤ 3 * l.length := Nat.mul_le_mul ht (by omega)
  omega
theorem full_mem {dr : List Int} {c : Nat} (h : c ∈ fullL dr) : c ∈ [97, 98, 99] ∨ c = 10 := by
  unfold fullL at h
  rcases List.mem_append.mp h with z | z
  · exact .inl (wordL_mem z)
  · simp only [List.mem_cons, List.not_mem_nil, or_false] at z
    rcases z with rfl | rfl | rfl
    · exact .inr rfl
    · exact .inl (by decide)
    · exact .inl (by decide)
theorem begun_goodT (dr : List Int) : Good (procTab (rawTab dr 3)) (begunL dr) := ⟨(begun_good dr).1, fun s hs => by rw [procTab_keys]; exact (begun_good dr).2 s hs⟩
/-- what the lexer tells is what the plain walk tells -/
theorem lex_told (dr : List Int) {w : List Nat} (h : ∀ c ∈ w, c ∈ [97, 98, 99] ∨ c = 10) : lexN (procTab (rawTab dr 3)) ⟨w.toArray⟩ (⟨w.toArray⟩ : Str).length 0 (begunL dr) = ptold (cellF dr) (nmF dr) (begunL dr) w := by
  have hl : (⟨w.toArray⟩ : Str).length = w.length := by show w.toArray.size = _; simp
  rw [hl]
  exact lexN_ptold (proc_ok (raw_ok dr)) (tab_is dr) w 0 _ (by simp) h (begun_goodT dr)
theorem pump_law (dr : List Int) {st done hs tops} (R : RI dr 12 st done hs tops) {q : Quad} (hq : q ∈ (pumpAll hs tops tops.length 0 ([], [])).1 ++ (pumpAll hs tops tops.length 0 ([], [])).2.take 1) (t : Nat) :
    ptold (cellF dr) (nmF dr) (begunL dr) (pumpL (fullL dr) q t) = pumpL (ptold (cellF dr) (nmF dr) (begunL dr) (fullL dr)) q t := by
  have hlen : hs.length = tops.length := by rw [R.hl, R.tl]
  refine pump_told (fun c hc e => ?_) R.tops (pumpAll_good hlen tops.length 0 ([], []) (by omega) (fun q h => nomatch h) q ?_) t
  · subst e; exact absurd (wordL_mem hc) (by decide)
  · rcases List.mem_append.mp hq with z | z
    · exact List.mem_append_left _ z
    · exact List.mem_append_right _ (List.mem_of_mem_take z)
end
section
variable {C : Cx}
theorem at24 {α : Type} {a0 a1 a2 a3 a4 a5 a6 a7 a8 a9 a10 a11 a12 a13 a14 a15 a16 a17 a18 a19 a20 a21 a22 a23 a24 : α} {l : List α} : (a0 :: a1 :: a2 :: a3 :: a4 :: a5 :: a6 :: a7 :: a8 :: a9 :: a10 :: a11 :: a12 :: a13 :: a14 :: a15 :: a16 :: a17 :: a18 :: a19 :: a20 :: a21 :: a22 :: a23 :: a24 :: l)[24]? = some a24 := rfl
theorem at25 {α : Type} {a0 a1 a2 a3 a4 a5 a6 a7 a8 a9 a10 a11 a12 a13 a14 a15 a16 a17 a18 a19 a20 a21 a22 a23 a24 a25 : α} {l : List α} : (a0 :: a1 :: a2 :: a3 :: a4 :: a5 :: a6 :: a7 :: a8 :: a9 :: a10 :: a11 :: a12 :: a13 :: a14 :: a15 :: a16 :: a17 :: a18 :: a19 :: a20 :: a21 :: a22 :: a23 :: a24 :: a25 :: l)[25]? = some a25 := rfl
theorem at26 {α : Type} {a0 a1 a2 a3 a4 a5 a6 a7 a8 a9 a10 a11 a12 a13 a14 a15 a16 a17 a18 a19 a20 a21 a22 a23 a24 a25 a26 : α} {l : List α} : (a0 :: a1 :: a2 :: a3 :: a4 :: a5 :: a6 :: a7 :: a8 :: a9 :: a10 :: a11 :: a12 :: a13 :: a14 :: a15 :: a16 :: a17 :: a18 :: a19 :: a20 :: a21 :: a22 :: a23 :: a24 :: a25 :: a26 :: l)[26]? = some a26 := rfl
theorem at27 {α : Type} {a0 a1 a2 a3 a4 a5 a6 a7 a8 a9 a10 a11 a12 a13 a14 a15 a16 a17 a18 a19 a20 a21 a22 a23 a24 a25 a26 a27 : α} {l : List α} : (a0 :: a1 :: a2 :: a3 :: a4 :: a5 :: a6 :: a7 :: a8 :: a9 :: a10 :: a11 :: a12 :: a13 :: a14 :: a15 :: a16 :: a17 :: a18 :: a19 :: a20 :: a21 :: a22 :: a23 :: a24 :: a25 :: a26 :: a27 :: l)[27]? = some a27 := rfl
theorem at28 {α : Type} {a0 a1 a2 a3 a4 a5 a6 a7 a8 a9 a10 a11 a12 a13 a14 a15 a16 a17 a18 a19 a20 a21 a22 a23 a24 a25 a26 a27 a28 : α} {l : List α} : (a0 :: a1 :: a2 :: a3 :: a4 :: a5 :: a6 :: a7 :: a8 :: a9 :: a10 :: a11 :: a12 :: a13 :: a14 :: a15 :: a16 :: a17 :: a18 :: a19 :: a20 :: a21 :: a22 :: a23 :: a24 :: a25 :: a26 :: a27 :: a28 :: l)[28]? = some a28 := rfl
theorem at29 {α : Type} {a0 a1 a2 a3 a4 a5 a6 a7 a8 a9 a10 a11 a12 a13 a14 a15 a16 a17 a18 a19 a20 a21 a22 a23 a24 a25 a26 a27 a28 a29 : α} {l : List α} : (a0 :: a1 :: a2 :: a3 :: a4 :: a5 :: a6 :: a7 :: a8 :: a9 :: a10 :: a11 :: a12 :: a13 :: a14 :: a15 :: a16 :: a17 :: a18 :: a19 :: a20 :: a21 :: a22 :: a23 :: a24 :: a25 :: a26 :: a27 :: a28 :: a29 :: l)[29]? = some a29 := rfl
theorem at30 {α : Type} {a0 a1 a2 a3 a4 a5 a6 a7 a8 a9 a10 a11 a12 a13 a14 a15 a16 a17 a18 a19 a20 a21 a22 a23 a24 a25 a26 a27 a28 a29 a30 : α} {l : List α} : (a0 :: a1 :: a2 :: a3 :: a4 :: a5 :: a6 :: a7 :: a8 :: a9 :: a10 :: a11 :: a12 :: a13 :: a14 :: a15 :: a16 :: a17 :: a18 :: a19 :: a20 :: a21 :: a22 :: a23 :: a24 :: a25 :: a26 :: a27 :: a28 :: a29 :: a30 :: l)[30]? = some a30 := rfl
theorem at31 {α : Type} {a0 a1 a2 a3 a4 a5 a6 a7 a8 a9 a10 a11 a12 a13 a14 a15 a16 a17 a18 a19 a20 a21 a22 a23 a24 a25 a26 a27 a28 a29 a30 a31 : α} {l : List α} : (a0 :: a1 :: a2 :: a3 :: a4 :: a5 :: a6 :: a7 :: a8 :: a9 :: a10 :: a11 :: a12 :: a13 :: a14 :: a15 :: a16 :: a17 :: a18 :: a19 :: a20 :: a21 :: a22 :: a23 :: a24 :: a25 :: a26 :: a27 :: a28 :: a29 :: a30 :: a31 :: l)[31]? = some a31 := rfl
theorem at32 {α : Type} {a0 a1 a2 a3 a4 a5 a6 a7 a8 a9 a10 a11 a12 a13 a14 a15 a16 a17 a18 a19 a20 a21 a22 a23 a24 a25 a26 a27 a28 a29 a30 a31 a32 : α} {l : List α} : (a0 :: a1 :: a2 :: a3 :: a4 :: a5 :: a6 :: a7 :: a8 :: a9 :: a10 :: a11 :: a12 :: a13 :: a14 :: a15 :: a16 :: a17 :: a18 :: a19 :: a20 :: a21 :: a22 :: a23 :: a24 :: a25 :: a26 :: a27 :: a28 :: a29 :: a30 :: a31 :: a32 :: l)[32]? = some a32 := rfl
theorem at33 {α : Type} {a0 a1 a2 a3 a4 a5 a6 a7 a8 a9 a10 a11 a12 a13 a14 a15 a16 a17 a18 a19 a20 a21 a22 a23 a24 a25 a26 a27 a28 a29 a30 a31 a32 a33 : α} {l : List α} : (a0 :: a1 :: a2 :: a3 :: a4 :: a5 :: a6 :: a7 :: a8 :: a9 :: a10 :: a11 :: a12 :: a13 :: a14 :: a15 :: a16 :: a17 :: a18 :: a19 :: a20 :: a21 :: a22 :: a23 :: a24 :: a25 :: a26 :: a27 :: a28 :: a29 :: a30 :: a31 :: a32 :: a33 :: l)[33]? = some a33 := rfl
theorem at34 {α : Type} {a0 a1 a2 a3 a4 a5 a6 a7 a8 a9 a10 a11 a12 a13 a14 a15 a16 a17 a18 a19 a20 a21 a22 a23 a24 a25 a26 a27 a28 a29 a30 a31 a32 a33 a34 : α} {l : List α} : (a0 :: a1 :: a2 :: a3 :: a4 :: a5 :: a6 :: a7 :: a8 :: a9 :: a10 :: a11 :: a12 :: a13 :: a14 :: a15 :: a16 :: a17 :: a18 :: a19 :: a20 :: a21 :: a22 :: a23 :: a24 :: a25 :: a26 :: a27 :: a28 :: a29 :: a30 :: a31 :: a32 :: a33 :: a34 :: l)[34]? = some a34 := rfl
theorem at35 {α : Type} {a0 a1 a2 a3 a4 a5 a6 a7 a8 a9 a10 a11 a12 a13 a14 a15 a16 a17 a18 a19 a20 a21 a22 a23 a24 a25 a26 a27 a28 a29 a30 a31 a32 a33 a34 a35 : α} {l : List α} : (a0 :: a1 :: a2 :: a3 :: a4 :: a5 :: a6 :: a7 :: a8 :: a9 :: a10 :: a11 :: a12 :: a13 :: a14 :: a15 :: a16 :: a17 :: a18 :: a19 :: a20 :: a21 :: a22 :: a23 :: a24 :: a25 :: a26 :: a27 :: a28 :: a29 :: a30 :: a31 :: a32 :: a33 :: a34 :: a35 :: l)[35]? = some a35 := rfl
def cntAV (cnt : List Nat) : AV := .lst (cnt.map fun (k : Nat) => AV.int (k : Int))
def lawZ (dr : List Int) (y0 y1 y2 y3 y4 y5 y6 y7 y8 y9 y10 y11 y12 y13 y14 y15 y16 y17 y19 y20 y21 y22 y23 : Slot) (told : List Piece) (cnt : List Nat) (z27 z29 z30 z31 z32 z33 z34 z35 : Slot) : List Slot :=
  y0 :: y1 :: y2 :: y3 :: y4 :: y5 :: y6 :: y7 :: y8 :: y9 :: y10 :: y11 :: y12 :: y13 :: y14 :: y15 :: y16 :: y17 :: .fz (.lst ((begunL dr).map .str)) :: y19 :: y20 :: y21 :: y22 :: y23 :: .fz (.ext (.lexer (procTab (rawTab dr 3)))) :: .fz (.lst ((begunL dr).map .str)) :: .fz (.lst (told.map pieceAV)) :: z27 :: .fz (cntAV cnt) :: z29 :: z30 :: z31 :: z32 :: z33 :: z34 :: z35 :: []
def pumpBody : List Stmt := forBody (nth lawF.body 21)
def timesBody : List Stmt := forBody (nth pumpBody 0)
def sndAV : AV → AV
  | .tup [_, y] => y
  | _ => .none
def pairS : AV → List Slot
  | .tup [x, y] => [.fz x, .fz y]
  | _ => [.un, .un]
theorem mult_lst {l : List AV} {t : Nat} (h : l.length ≤ 1000) (ht : t ≤ 3) : opBin .Mult (.lst l) (.int (t : Int)) = some (.lst (repL l t)) := by
  have zz := sz_eq
  rw [repL_flat]
  have h3 : l.length * t ≤ 1000 * 3 := Nat.mul_le_mul h ht
  exact (if_pos (by simp; omega)).trans (by rw [Int.toNat_natCast])
section
variable {n : Nat} {name qual : Str} {doc pm : Value} {an : Option Addr} {cdv ct : Value} {L a : Addr}
theorem law_times (F : (lawFi name qual doc pm an cdv ct L a).Ok) (X : Law1 C) (hn : 40 ≤ n) {dr : List Int} {y0 y1 y2 y3 y4 y5 y6 y7 y8 y9 y10 y11 y12 y13 y14 y15 y16 y17 y19 y20 y21 y22 y23 : Slot} {told : List Piece} {cnt : List Nat} {z27 z34 z35 : Slot} {G : Out → Prop} {q : Quad} {t : Nat} (ht : t ≤ 3)
    (hq : q.1 ≤ 12 ∧ q.2.1 ≤ 12 ∧ q.2.2.1 ≤ 12 ∧ q.2.2.2 ≤ 12)
    (htold : told = ptold (cellF dr) (nmF dr) (begunL dr) (fullL dr)) (hp : ptold (cellF dr) (nmF dr) (begunL dr) (pumpL (fullL dr) q t) = pumpL told q t)
    (h : ∀ b34 b35, G (.nxt (lawZ dr y0 y1 y2 y3 y4 y5 y6 y7 y8 y9 y10 y11 y12 y13 y14 y15 y16 y17 y19 y20 y21 y22 y23 told cnt z27 (.fz (.int (q.1 : Int))) (.fz (.int (q.2.1 : Int))) (.fz (.int (q.2.2.1 : Int))) (.fz (.int (q.2.2.2 : Int))) (.fz (.int (t : Int))) b34 b35))) :
    SW C n (lawFi name qual doc pm an cdv ct L a) timesBody (lawZ dr y0 y1 y2 y3 y4 y5 y6 y7 y8 y9 y10 y11 y12 y13 y14 y15 y16 y17 y19 y20 y21 y22 y23 told cnt z27 (.fz (.int (q.1 : Int))) (.fz (.int (q.2.1 : Int))) (.fz (.int (q.2.2.1 : Int))) (.fz (.int (q.2.2.2 : Int))) (.fz (.int (t : Int))) z34 z35) G := by
  have zz := sz_eq
  have tl : told.length = 12 := by rw [htold, ptold_len, fullL_len]
  have ml : (told.map pieceAV).length = 12 := by rw [List.length_map, tl]
  have pl : (pumpL told q t).length ≤ 108 := by have := pumpL_len (l := told) (q := q) ht; omega
  have e1 : ∀ i, ((told.map pieceAV).take i).length ≤ 12 := fun i => by rw [List.length_take]; omega
  have e2 : ∀ i j, (((told.map pieceAV).take j).drop i).length ≤ 12 := fun i j => by rw [List.length_drop, List.length_take]; omega
  have e3 : ∀ i j, (repL (((told.map pieceAV).take j).drop i) t).length ≤ 36 := fun i j => by
    rw [repL_len]
    have := Nat.mul_le_mul ht (e2 i j)
    omega
  have e4 : ∀ i, ((told.map pieceAV).drop i).length ≤ 12 := fun i => by rw [List.length_drop]; omega
  have pm' : pumpL (told.map pieceAV) q t = (pumpL told q t).map pieceAV := (pumpL_map pieceAV told q t).symm
  refine SW.cons (S1.assign (a := .lst ((pumpL told q t).map pieceAV)) F at34 ?_ ?_ (.inl rfl) rfl)
  · rw [← pm']
    refine EJ.bin (EJ.bin (EJ.bin (EJ.bin (x := .lst ((told.map pieceAV).take q.1)) (y := .lst (repL (((told.map pieceAV).take q.2.1).drop q.1) t))
        (EJ.to (EJ.slc (EJ.var F at26 at26) PJ.none (PJ.some (EJ.var F at29 at29)) (slc_lst (by omega))) (by rw [pick_to]))
        (EJ.bin (EJ.to (EJ.slc (EJ.var F at26 at26) (PJ.some (EJ.var F at29 at29)) (PJ.some (EJ.var F at30 at30)) (slc_lst (by omega))) (by rw [pick_mid])) (EJ.var F at33 at33) (mult_lst (by have := e2 q.1 q.2.1; omega) ht))
        (add_lst (by have := e1 q.1; have := e3 q.1 q.2.1; omega)))
      (EJ.to (EJ.slc (EJ.var F at26 at26) (PJ.some (EJ.var F at30 at30)) (PJ.some (EJ.var F at31 at31)) (slc_lst (by omega))) (by rw [pick_mid]))
      (add_lst (by have := e1 q.1; have := e3 q.1 q.2.1; have := e2 q.2.1 q.2.2.1; rw [List.length_append]; omega)))
      (EJ.bin (EJ.to (EJ.slc (EJ.var F at26 at26) (PJ.some (EJ.var F at31 at31)) (PJ.some (EJ.var F at32 at32)) (slc_lst (by omega))) (by rw [pick_mid])) (EJ.var F at33 at33) (mult_lst (by have := e2 q.2.2.1 q.2.2.2; omega) ht))
      (add_lst (by have := e1 q.1; have := e3 q.1 q.2.1; have := e2 q.2.1 q.2.2.1; have := e3 q.2.2.1 q.2.2.2; rw [List.length_append, List.length_append]; omega)))
      (EJ.to (EJ.slc (EJ.var F at26 at26) (PJ.some (EJ.var F at32 at32)) PJ.none (slc_lst (by omega))) (by rw [pick_from]))
      (add_lst (by have := e1 q.1; have := e3 q.1 q.2.1; have := e2 q.2.1 q.2.2.1; have := e3 q.2.2.1 q.2.2.2; have := e4 q.2.2.2; rw [List.length_append, List.length_append, List.length_append]; omega))
  have chars : (pumpL told q t).map (·.2) = pumpL (fullL dr) q t := by rw [pumpL_map, htold, ptold_chars]
  have r : ((pumpL told q t).map pieceAV).map sndAV = (pumpL (fullL dr) q t).map chAV := by rw [← chars, List.map_map, List.map_map]; rfl
  have cl : (pumpL (fullL dr) q t).length ≤ 108 := by rw [← chars, List.length_map]; exact pl
  refine SW.cons (S1.assign (a := .str ⟨(pumpL (fullL dr) q t).toArray⟩) F at35 ?_ ?_ (.inl rfl) rfl)
  · apply EJ.joinCh (l := pumpL (fullL dr) q t) ?_ (by omega) rfl (fun _ => rfl)
    rw [← r]
    apply EJ.comp
    apply CompOk.each (a := .lst ((pumpL told q t).map pieceAV)) (l := (pumpL told q t).map pieceAV) (ls := ["names", "value"]) (caps := []) (b := pairS)
    · exact EJ.var F at34 at34
    · rfl
    · exact .nil
    · rfl
    · intro L' D
      exact Fi.Ok.of rfl rfl rfl ⟨rfl, rfl, rfl, rfl, trivial⟩ (by show (["names", "value"] : List Str).Nodup; decide)
    · rw [List.length_map]; omega
    · intro L' D F2 x hx vs acc hv
      obtain ⟨v0, v1, rfl⟩ : ∃ v0 v1, vs = [v0, v1] := match vs, hv with | [v, w], _ => ⟨v, w, rfl⟩
      obtain ⟨p, _, rfl⟩ := List.mem_map.mp hx
      exact ⟨rfl, TJ.tup (TL.cons (TJ.name F2 (i := 0) rfl) (TL.cons (TJ.name F2 (i := 1) rfl) TL.nil)), EJ.var F2 at1 at1⟩
    · decide
    · rfl
    · decide
    · intro _ _; rfl
  have hmem : ∀ c ∈ pumpL (fullL dr) q t, c ∈ [97, 98, 99] ∨ c = 10 := fun c hc => full_mem (mem_pumpL hc)
  have lt := lex_told dr hmem
  have ok : ∀ p ∈ pumpL told q t, PieceOk p := fun p hp => ptold_ok (dr := dr) (fullL dr) (begunL dr) (fun c hc => full_mem hc) p (htold ▸ mem_pumpL hp)
  refine SW.cons (S1.ifF (BJ.cmp (x := .lst ((pumpL told q t).map pieceAV)) (EJ.to (EJ.lex F X.y.lex (by omega) X.y.hTold X.y.gTold X.y.hGen (X.y.genM _) (proc_ok (raw_ok dr)) (text := ⟨(pumpL (fullL dr) q t).toArray⟩)
    (by show (pumpL (fullL dr) q t).toArray.size ≤ _; rw [List.size_toArray]; omega) (begun_goodT dr) (by rw [begun_len]; decide) (EJ.var F at24 at24) (EJ.var F at35 at35) (EJ.var F at25 at25) rfl rfl (fun _ => rfl) (fun _ => rfl) (fun _ => rfl)) (by rw [lt, hp]))
    (EJ.var F at34 at34) (ne_lst (deep_pieces ok)) (by with_unfolding_all rfl)) (SW.nil ?_))
  exact SW.nil (h _ _)
end
end
section
variable {C : Cx}
theorem drawsL_len (s : List Int) : (drawsL s 40).length = 40 := by unfold drawsL; split <;> simp
section
variable {n : Nat} {name qual : Str} {doc pm : Value} {an : Option Addr} {cdv ct : Value} {L a : Addr}
theorem quad_le {hs : List Int} {tops : List Str} {q : Quad} (hl : hs.length = tops.length) (ht : tops.length = 10) (h : q ∈ (pumpAll hs tops tops.length 0 ([], [])).1 ++ (pumpAll hs tops tops.length 0 ([], [])).2.take 1) : q.1 ≤ 12 ∧ q.2.1 ≤ 12 ∧ q.2.2.1 ≤ 12 ∧ q.2.2.2 ≤ 12 := by
  have h' : q ∈ (pumpAll hs tops tops.length 0 ([], [])).1 ++ (pumpAll hs tops tops.length 0 ([], [])).2 := by
    rcases List.mem_append.mp h with z | z
    · exact List.mem_append_left _ z
    · exact List.mem_append_right _ (List.mem_of_mem_take z)
  obtain ⟨i, j, k, l⟩ := q
  dsimp only
  rcases pumpAll_good hl tops.length 0 ([], []) (by omega) (fun q h => nomatch h) _ h' with ⟨x, R, e1, e2⟩ | ⟨x, least, R, c1, c2, c3, c4, _⟩
  · have r1 := R.lt; have r2 := R.len
    dsimp only at r1 r2 e1 e2
    omega
  · have r1 := R.lt; have r2 := R.len
    dsimp only at r1 r2 c1 c2 c3 c4
    omega
/-- the loop over the pumps -/
theorem law_pumps (F : (lawFi name qual doc pm an cdv ct L a).Ok) (X : Law1 C) (hn : 40 ≤ n) {dr : List Int} {y0 y1 y2 y3 y4 y5 y6 y7 y8 y9 y10 y11 y12 y13 y14 y15 y16 y17 y19 y20 y21 y22 y23 : Slot} {told : List Piece} {z27 z29 z30 z31 z32 z33 z34 z35 : Slot} {G : Out → Prop} {st : List Str} {hs : List Int} {tops : List Str} {more : Nat} (hm : more ≤ 3)
    (R : RI dr 12 st told hs tops) (h21 : y21 = .fz (.lst (hs.map .int))) (h22 : y22 = .fz (.lst (tops.map .str)))
    (h : ∀ cnt b29 b30 b31 b32 b33 b34 b35, G (.nxt (lawZ dr y0 y1 y2 y3 y4 y5 y6 y7 y8 y9 y10 y11 y12 y13 y14 y15 y16 y17 y19 y20 y21 y22 y23 told cnt z27 b29 b30 b31 b32 b33 b34 b35))) :
    S1 C n (lawFi name qual doc pm an cdv ct L a) (nth lawF.body 21) (lawZ dr y0 y1 y2 y3 y4 y5 y6 y7 y8 y9 y10 y11 y12 y13 y14 y15 y16 y17 y19 y20 y21 y22 y23 told [0, more] z27 z29 z30 z31 z32 z33 z34 z35) G := by
  have zz := sz_eq
  subst h21; subst h22
  have hl : hs.length = tops.length := by rw [R.hl, R.tl]
  have ht : tops.length = 10 := R.tl
  refine S1.for_ (a := .lst (((pumpAll hs tops tops.length 0 ([], [])).1 ++ (pumpAll hs tops tops.length 0 ([], [])).2.take 1).map quadAV)) (l := ((pumpAll hs tops tops.length 0 ([], [])).1 ++ (pumpAll hs tops tops.length 0 ([], [])).2.take 1).map quadAV) F
    (EJ.callFn F X.hPumps X.gPumps (LJ.cons (EJ.var F at21 at21) (LJ.cons (EJ.var F at22 at22) LJ.nil (fun _ => rfl)) (fun _ => rfl)) ((pumps_ok (n := 0) X.hPumps X.hBelow X.gBelow X.y.lex.gLen X.y.gRange hl (by omega) (fun x hx => by have := R.hb x hx; omega)).less (by omega)) rfl (by decide) (fun _ => rfl)) rfl
    (fun rest ℓ => ∃ (qs : List Quad) (cnt : List Nat), rest = qs.map quadAV ∧ (∀ q ∈ qs, q ∈ (pumpAll hs tops tops.length 0 ([], [])).1 ++ (pumpAll hs tops tops.length 0 ([], [])).2.take 1) ∧ (∀ t ∈ cnt, t ≤ 3) ∧ ∃ b29 b30 b31 b32 b33 b34 b35, ℓ = lawZ dr y0 y1 y2 y3 y4 y5 y6 y7 y8 y9 y10 y11 y12 y13 y14 y15 y16 y17 y19 y20 (.fz (.lst (hs.map .int))) (.fz (.lst (tops.map .str))) y23 told cnt z27 b29 b30 b31 b32 b33 b34 b35)
    ⟨_, [0, more], rfl, fun q h => h, fun t ht => by
      simp only [List.mem_cons, List.not_mem_nil, or_false] at ht; omega, _, _, _, _, _, _, _, rfl⟩ (fun x rest ℓ hP => ?_) (fun ℓ hP => ?_) (fun _ _ => rfl)
  · obtain ⟨qs, cnt, hr, hqs, hcnt, b29, b30, b31, b32, b33, b34, b35, rfl⟩ := hP
    cases qs with
    | nil => cases hr
    | cons q qs =>
    rw [List.map_cons] at hr
    cases hr
    refine ⟨_, TJ.tup (TL.cons (TJ.name F (i := 29) rfl) (TL.cons (TJ.name F (i := 30) rfl) (TL.cons (TJ.name F (i := 31) rfl) (TL.cons (TJ.name F (i := 32) rfl) TL.nil)))), ?_⟩
    have hq := hqs q (.head _)
    have hql := quad_le hl ht hq
    show SW C n _ pumpBody (lawZ dr y0 y1 y2 y3 y4 y5 y6 y7 y8 y9 y10 y11 y12 y13 y14 y15 y16 y17 y19 y20 (.fz (.lst (hs.map .int))) (.fz (.lst (tops.map .str))) y23 told cnt z27 (.fz (.int (q.1 : Int))) (.fz (.int (q.2.1 : Int))) (.fz (.int (q.2.2.1 : Int))) (.fz (.int (q.2.2.2 : Int))) b33 b34 b35) _
    refine SW.cons (S1.for_ (a := cntAV cnt) (l := cnt.map fun (k : Nat) => AV.int (k : Int)) F (EJ.var F at28 at28) rfl
      (fun rest ℓ => ∃ (ts : List Nat), rest = ts.map (fun (k : Nat) => AV.int (k : Int)) ∧ (∀ t ∈ ts, t ≤ 3) ∧ ∃ b33 b34 b35, ℓ = lawZ dr y0 y1 y2 y3 y4 y5 y6 y7 y8 y9 y10 y11 y12 y13 y14 y15 y16 y17 y19 y20 (.fz (.lst (hs.map .int))) (.fz (.lst (tops.map .str))) y23 told cnt z27 (.fz (.int (q.1 : Int))) (.fz (.int (q.2.1 : Int))) (.fz (.int (q.2.2.1 : Int))) (.fz (.int (q.2.2.2 : Int))) b33 b34 b35)
      ⟨cnt, rfl, hcnt, _, _, _, rfl⟩ (fun x rest ℓ hP => ?_) (fun ℓ hP => ?_) (fun _ _ => rfl))
    · obtain ⟨ts, hr, hts, c33, c34, c35, rfl⟩ := hP
      cases ts with
      | nil => cases hr
      | cons t ts =>
      rw [List.map_cons] at hr
      cases hr
      refine ⟨_, TJ.name F (i := 33) rfl, ?_⟩
      have ht3 := hts t (.head _)
      have pl := pump_law dr R hq t
      rw [← R.done] at pl
      exact law_times F X hn ht3 hql R.done pl fun d34 d35 => ⟨ts, rfl, fun t ht => hts t (.tail _ ht), _, _, _, rfl⟩
    · obtain ⟨ts, hr, hts, c33, c34, c35, rfl⟩ := hP
      refine SW.cons (S1.assign (a := cntAV [2]) F at28 (EJ.lst (LJ.cons (EJ.int 2) LJ.nil (fun _ => rfl)) (by decide)) ?_ (.inl rfl) rfl)
      exact SW.nil ⟨qs, [2], rfl, fun q h => hqs q (.tail _ h), fun t ht => by rw [List.mem_singleton.mp ht]; decide, _, _, _, _, _, _, _, rfl⟩
  · obtain ⟨qs, cnt, hr, hqs, hcnt, b29, b30, b31, b32, b33, b34, b35, rfl⟩ := hP
    exact h _ _ _ _ _ _ _ _
/-- behind the plain walk -/
theorem law_tail (F : (lawFi name qual doc pm an cdv ct L a).Ok) (X : Law1 C) (hn : 40 ≤ n) {sc : AV} {dr : List Int} {t8 t9 t10 t11 a12 a13 a14 a15 a16 a17 : Slot} {st : List Str} {hs : List Int} {tops : List Str} {told : List Piece} (hdr : dr.length = 40)
    (R : RI dr 12 st told hs tops) {G : Out → Prop} (h : G (.ret (.bool true))) :
    SW C n (lawFi name qual doc pm an cdv ct L a) (lawF.body.drop 15) (lawR sc dr (tabS dr 3) t8 t9 t10 t11 a12 a13 a14 a15 a16 a17 st hs tops told [.un, .un, .un, .un, .un, .un, .un, .un, .un, .un, .un, .un]) G := by
  have zz := sz_eq
  have hl : hs.length = 10 := R.hl
  have ht : tops.length = 10 := R.tl
  have tl : told.length = 12 := R.dl
  have lt := lex_told dr (w := fullL dr) (fun c hc => full_mem hc)
  have ok : ∀ p ∈ told, PieceOk p := fun p hp => ptold_ok (dr := dr) (fullL dr) (begunL dr) (fun c hc => full_mem hc) p (R.done ▸ hp)
  refine SW.freezeD (i := 6) (a := rawAV (rawTab dr 3)) rfl (.inl ⟨_, _, rfl, rfl⟩) ?_
  refine SW.freeze (i := 21) (l := hs.map .int) rfl (SW.freeze (i := 22) (l := tops.map .str) rfl (SW.freeze (i := 23) (l := told.map pieceAV) rfl ?_))
  refine SW.cons (S1.assign (a := .ext (.lexer (procTab (rawTab dr 3)))) F at24 (EJ.callC F X.y.gLex X.y.kLex (LJ.cons (EJ.var F at6 at6) LJ.nil (fun _ => rfl)) ((X.y.lexC _ (raw_ok dr)).less (by omega)) rfl (by decide) (fun _ => rfl) (fun _ _ => rfl)) ?_ (.inl rfl) rfl)
  refine SW.cons (S1.assign (a := .lst ((begunL dr).map .str)) F at25 (EJ.list1 F X.y.lex.gList (EJ.var F at18 at18) (.inl rfl) (by rw [List.length_map, begun_len]; omega) rfl (fun _ => rfl)) ?_ (.inl rfl) rfl)
  refine SW.cons (S1.assign (a := .lst (told.map pieceAV)) F at26 (EJ.to (EJ.lex F X.y.lex (by omega) X.y.hTold X.y.gTold X.y.hGen (X.y.genM _) (proc_ok (raw_ok dr)) (text := ⟨(fullL dr).toArray⟩)
    (by show (fullL dr).toArray.size ≤ _; rw [List.size_toArray, fullL_len]; decide) (begun_goodT dr) (by rw [begun_len]; decide) (EJ.var F at24 at24) (EJ.to (EJ.bin (EJ.var F at19 at19) (EJ.str _) (add_str (by show (wordL dr).toArray.size + 3 ≤ _; rw [List.size_toArray, wordL_len]; omega))) (by rw [full_str])) (EJ.var F at25 at25) rfl rfl (fun _ => rfl) (fun _ => rfl) (fun _ => rfl)) (by rw [lt, R.done])) ?_ (.inl rfl) rfl)
  refine SW.cons (S1.ifF (BJ.cmp (EJ.var F at26 at26) (EJ.var F at23 at23) (ne_lst (deep_pieces ok)) (by with_unfolding_all rfl)) (SW.nil ?_))
  have m2 : md (gD dr 38) 2 < 2 := md_lt (by decide)
  refine SW.cons (S1.assign (a := .int ((2 + md (gD dr 38) 2 : Nat) : Int)) F at27 (EJ.to (EJ.bin (EJ.int 2) (EJ.mod (EJ.idx (EJ.var F at5 at5) (EJ.int ((38 : Nat) : Int)) (idx_draws (by omega) (by omega)) (fun _ _ _ _ h => by cases h)) 2 (by decide)) rfl) (by congr 1)) ?_ (.inl rfl) rfl)
  refine SW.cons (S1.assign (a := cntAV [0, 2 + md (gD dr 38) 2]) F at28 (EJ.lst (LJ.cons (EJ.int 0) (LJ.cons (EJ.var F at27 at27) LJ.nil (fun _ => rfl)) (fun _ => rfl)) (by show 2 ≤ sz; decide)) ?_ (.inl rfl) rfl)
  refine SW.cons (law_pumps F X hn (more := 2 + md (gD dr 38) 2) (by omega) R rfl rfl fun cnt b29 b30 b31 b32 b33 b34 b35 => ?_)
  exact SW.cons (S1.ret (EJ.cmp (EJ.var F at25 at25) (EJ.var F at18 at18) (eq_lst (deep_strs fun s hs => st3_ok ((begun_good dr).2 s hs))) (by with_unfolding_all rfl)) h)
end
end
section
variable {C : Cx}
theorem law_ok {n : Nat} {a : Addr} (hf : FnAt C lawF a) (X : Law1 C) (hn : 40 ≤ n) {s : List Int} (hs : s.length ≤ 1000) : CallJ C (n + 1) (.ref a) [.lst (s.map .int)] (.bool true) := by
  refine fn_ok (ps := ["script"]) (xs := lawXs) hf (fun name qual doc pm an cdv ct L F => ?_) (fun name qual doc pm an cdv ct vs hv => ?_)
  · have zz := sz_eq
    have hdr := drawsL_len s
    show SW C n (lawFi name qual doc pm an cdv ct L a) _ [.fz (.lst (s.map .int)), .un, .un, .un, .un, .un, .un, .un, .un, .un, .un, .un, .un, .un, .un, .un, .un, .un, .un, .un, .un, .un, .un, .un, .un, .un, .un, .un, .un, .un, .un, .un, .un, .un, .un, .un] _
    refine SW.cons (S1.assign (a := statesAV) F at1 (EJ.glb F X.y.gStates X.y.rStates rfl (by decide)) ?_ (.inr rfl) rfl)
    refine SW.cons (S1.assign (a := tagsAV) F at2 (EJ.glb F X.gTags X.rTags rfl (by decide)) ?_ (.inl rfl) rfl)
    refine SW.cons (S1.assign (a := natsAV up4) F at3 (EJ.glb F X.gUps X.rUps rfl (by decide)) ?_ (.inl rfl) rfl)
    refine SW.cons (S1.assign (a := natsAV dn4) F at4 (EJ.glb F X.gDowns X.rDowns rfl (by decide)) ?_ (.inl rfl) rfl)
    refine SW.cons (S1.assign (a := .lst ((drawsL s 40).map .int)) F at5 (EJ.callFn F X.y.hDraws X.y.gDraws (LJ.cons (EJ.var F at0 at0) (LJ.cons (EJ.int ((40 : Nat) : Int)) LJ.nil (fun _ => rfl)) (fun _ => rfl)) ((draws_ok (n := 0) X.y.hDraws X.y.lex.gLen X.y.gRange hs (by decide)).less (by omega)) rfl (by decide) (fun _ => rfl)) ?_ (.inr rfl) rfl)
    refine SW.cons (S1.dict0 F (.oS [] []) (.inl rfl) at6 ?_ (.inl rfl) rfl)
    refine SW.cons (S1.dict0 F (.oTS [] []) (.inr (.inl rfl)) at7 ?_ (.inl rfl) rfl)
    generalize drawsL s 40 = dr at hdr
    show SW C n _ _ (lawG (.lst (s.map .int)) dr (tabS dr 0) (.oTS (cellKeys (3 * 0)) (cellVals dr (3 * 0))) .un .un .un .un .un .un .un .un .un .un [.un, .un, .un, .un, .un, .un, .un, .un, .un, .un, .un, .un, .un, .un, .un, .un, .un, .un]) _
    refine SW.cons (S1.for_ (a := .rng 0 3 1) (l := three) F (EJ.callT F X.y.gRange (LJ.cons (EJ.int 3) LJ.nil (fun _ => rfl)) range1 rfl (by decide) (fun _ => rfl) (fun _ _ => rfl)) items3
      (fun rest ℓ => ∃ i, i ≤ 3 ∧ rest = three.drop i ∧ ∃ t8 t9 t10 t11 a12 a13 a14 a15 a16 a17, ℓ = lawG (.lst (s.map .int)) dr (tabS dr i) (.oTS (cellKeys (3 * i)) (cellVals dr (3 * i))) t8 t9 t10 t11 a12 a13 a14 a15 a16 a17 [.un, .un, .un, .un, .un, .un, .un, .un, .un, .un, .un, .un, .un, .un, .un, .un, .un, .un])
      ⟨0, by decide, rfl, _, _, _, _, _, _, _, _, _, _, rfl⟩ (fun x rest ℓ hP => ?_) (fun ℓ hP => ?_) (fun _ _ => rfl))
    · obtain ⟨i, hi, hr, t8, t9, t10, t11, a12, a13, a14, a15, a16, a17, rfl⟩ := hP
      obtain ⟨hi3, rfl, rfl⟩ := three_cons hr.symm
      exact ⟨_, TJ.name F (i := 8) rfl, law_s F X (by omega) hdr hi3 fun b9 b10 b11 b12 b13 b14 b15 b16 b17 => ⟨i + 1, hi3, rfl, _, _, _, _, _, _, _, _, _, _, rfl⟩⟩
    · obtain ⟨i, hi, hr, t8, t9, t10, t11, a12, a13, a14, a15, a16, a17, rfl⟩ := hP
      have hi3 := three_nil hi hr.symm
      subst hi3
      refine SW.freezeD (i := 7) (a := cellsAV dr) rfl (.inr (.inl ⟨_, _, rfl, rfl⟩)) ?_
      refine SW.cons (law_begin F X hdr ?_)
      refine SW.cons (law_text F X hdr ?_)
      have hbl : ((begunL dr).map AV.str).length = 3 := by rw [List.length_map, begun_len]
      obtain ⟨y, hy⟩ : ∃ y, (begunL dr).getLast? = some y := ⟨_, List.getLast?_eq_some_getLast (begun_good dr).1⟩
      have hy' : topOf (begunL dr) = y := by unfold topOf; rw [hy]; rfl
      refine SW.cons (S1.assign (a := .lst ((begunL dr).map .str)) F at20 (EJ.var F at18 at18) ?_ (.inl rfl) rfl)
      refine SW.cons (S1.own (l := ([3] : List Int).map .int) F at21 (NJ.lst (LJ.cons (EJ.to (EJ.lenL F X.y.lex.gLen (EJ.var F at20 at20) (by omega) rfl (fun _ => rfl)) (by rw [hbl]; rfl)) LJ.nil (fun _ => rfl)) (by decide)) ?_ (.inl rfl) rfl)
      refine SW.cons (S1.own (l := [topOf (begunL dr)].map .str) F at22 (NJ.lst (LJ.cons (EJ.idx (EJ.var F at20 at20) (EJ.neg (EJ.int 1)) (by rw [hy']; exact last_idx hy (by rw [begun_len]; decide)) (fun _ _ _ _ h => by cases h)) LJ.nil (fun _ => rfl)) (by show 1 ≤ sz; decide)) ?_ (.inl rfl) rfl)
      refine SW.cons (S1.own (l := []) F at23 (NJ.lst LJ.nil (by decide)) ?_ (.inl rfl) rfl)
      show SW C n _ _ (lawR (.lst (s.map .int)) dr (tabS dr 3) t8 t9 t10 t11 a12 a13 a14 a15 a16 a17 (begunL dr) [3] [topOf (begunL dr)] [] [.un, .un, .un, .un, .un, .un, .un, .un, .un, .un, .un, .un]) _
      have fl := fullL_len dr
      refine SW.cons (S1.for_ (a := .str ⟨(fullL dr).toArray⟩) (l := (fullL dr).map chAV) F (EJ.to (EJ.bin (EJ.var F at19 at19) (EJ.str _) (add_str (by show (wordL dr).toArray.size + 3 ≤ _; rw [List.size_toArray, wordL_len]; omega))) (by rw [full_str])) rfl
        (fun rest ℓ => ∃ m, rest = ((fullL dr).drop m).map chAV ∧ ∃ st done hs tops, RI dr m st done hs tops ∧ ∃ a13 a15 a16 a17, ℓ = lawR (.lst (s.map .int)) dr (tabS dr 3) t8 t9 t10 t11 a12 a13 a14 a15 a16 a17 st hs tops done [.un, .un, .un, .un, .un, .un, .un, .un, .un, .un, .un, .un])
        ⟨0, rfl, _, _, _, _, RI.start dr, _, _, _, _, rfl⟩ (fun x rest ℓ hP => ?_) (fun ℓ hP => ?_) (fun _ _ => rfl))
      · obtain ⟨m, hr, st, done, hs', tops, R, c13, c15, c16, c17, rfl⟩ := hP
        have hm : m < 12 := by
          have := R.le
          by_cases q : m = 12
          · subst q
            rw [List.drop_eq_nil_of_le (by omega)] at hr; cases hr
          · omega
        obtain ⟨c, hc, hd, _⟩ := full_at dr hm
        rw [hd, List.map_cons] at hr
        cases hr
        refine ⟨_, TJ.name F (i := 13) rfl, ?_⟩
        exact law_letter F X (by omega) R hm hc fun st' done' hs'' tops' b15 b16 b17 R' => ⟨⟨m + 1, rfl, _, _, _, _, R', _, _, _, _, rfl⟩, ⟨m + 1, rfl, _, _, _, _, R', _, _, _, _, rfl⟩⟩
      · obtain ⟨m, hr, st, done, hs', tops, R, c13, c15, c16, c17, rfl⟩ := hP
        have hm : m = 12 := by
          have := R.le
          have h2 := congrArg List.length hr
          rw [List.length_map, List.length_drop, fl] at h2
          have : (([] : List AV).length) = 0 := rfl
          omega
        subst hm
        exact law_tail F X hn hdr R rfl
  · obtain ⟨v1, rfl⟩ := one_of hv
    rfl
end
section
variable {C : Cx}
/-! ## what the things of the lexer are -/
def kTok : Addr := 83
def kPM : Addr := 621
def kPlain : Addr := 648
def kLex : Addr := 669
def fMatch : Addr := 645
abbrev methO (f x : Value) : Obj := { cls := .type "method", data := .fields #[f, x] }
inductive StrsV : List Str → List Value → Prop
  | nil : StrsV [] []
  | cons {s : Str} {t : Tok} {l vs} : StrsV l vs → StrsV (s :: l) (.str s t :: vs)
/-- a thing of a class with its attributes -/
def InstOf (h : Heap) (c x : Addr) (l : List (Str × Value)) : Prop := ∃ dx od, h.get? x = some (instObj c dx) ∧ h.get? dx = some od ∧ AttrsAre od l
theorem InstOf.mono {h h' : Heap} {c x l} (k : Sub h h') (i : InstOf h c x l) : InstOf h' c x l := let ⟨dx, od, a, b, d⟩ := i; ⟨dx, od, k _ _ a, k _ _ b, d⟩
def RTok (h : Heap) (nm : List Str) (v : Value) : Prop := ∃ x t vs, v = .ref x ∧ InstOf h kTok x [("names", .ref t)] ∧ TupAt h t vs ∧ StrsV nm vs
def RPlain (h : Heap) (l : Str) (v : Value) : Prop := (∃ c, l = ⟨#[c]⟩) ∧ ∃ x r1 r2 t, v = .ref x ∧ InstOf h kPlain x [("rows", .ref r1)] ∧ ListAt h r1 [.ref r2] ∧ ListAt h r2 [.str l t]
def RMat (h : Heap) (l : Str) (v : Value) : Prop := ∃ b p, v = .ref b ∧ h.get? b = some (methO (.ref fMatch) (.ref p)) ∧ RPlain h l (.ref p)
def RPm (h : Heap) (pos : Int) (txt : Str) (v : Value) : Prop := (∃ c, txt = ⟨#[c]⟩) ∧ ∃ x r t u, v = .ref x ∧ InstOf h kPM x [("place", .int pos t), ("pieces", .ref r)] ∧ ListAt h r [.str txt u]
theorem RTok.mono {h h' : Heap} (k : Sub h h') {nm v} (x : RTok h nm v) : RTok h' nm v := let ⟨a, t, vs, e, i, ta, s⟩ := x; ⟨a, t, vs, e, i.mono k, ta.mono k, s⟩
theorem RPlain.mono {h h' : Heap} (k : Sub h h') {l v} (x : RPlain h l v) : RPlain h' l v := let ⟨z, a, r1, r2, t, e, i, l1, l2⟩ := x; ⟨z, a, r1, r2, t, e, i.mono k, l1.mono k, l2.mono k⟩
theorem RMat.mono {h h' : Heap} (k : Sub h h') {l v} (x : RMat h l v) : RMat h' l v := let ⟨b, p, e, m, r⟩ := x; ⟨b, p, e, k _ _ m, r.mono k⟩
theorem RPm.mono {h h' : Heap} (k : Sub h h') {p l v} (x : RPm h p l v) : RPm h' p l v := let ⟨z, a, r, t, u, e, i, l1⟩ := x; ⟨z, a, r, t, u, e, i.mono k, l1.mono k⟩
def RX1 (h : Heap) : Ext → Value → Prop
  | .tok nm, v => RTok h nm v
  | .plain l, v => RPlain h l v
  | .mat l, v => RMat h l v
  | .pm p t, v => RPm h p t v
  | .lexer _, _ => False
  | .gen a, v => v = .ref a
theorem RX1.mono {h h' : Heap} (k : Sub h h') : ∀ {x v}, RX1 h x v → RX1 h' x v
  | .tok _, _, r => RTok.mono k r
  | .plain _, _, r => RPlain.mono k r
  | .mat _, _, r => RMat.mono k r
  | .pm _ _, _, r => RPm.mono k r
  | .lexer _, _, r => r.elim
  | .gen _, _, r => r
theorem RX1.isRef {h : Heap} : ∀ {x v}, RX1 h x v → ∃ a, v = .ref a
  | .tok _, _, ⟨x, _, _, e, _⟩ => ⟨x, e⟩
  | .plain _, _, ⟨_, x, _, _, _, e, _⟩ => ⟨x, e⟩
  | .mat _, _, ⟨x, _, e, _⟩ => ⟨x, e⟩
  | .pm _ _, _, ⟨_, x, _, _, _, e, _⟩ => ⟨x, e⟩
  | .lexer _, _, r => r.elim
  | .gen a, _, r => ⟨a, r⟩
/-- the world at the law's call, without the things of the lexer -/
structure Bx where
  prog : Program
  w : World
  h₀ : Heap
  mg : Str → Option Value
  mb : Str → Option Value
  hmg : h₀.Ns mainGlobals mg
  hmb : h₀.Ns builtinsNs mb
  nolim : h₀.NoLimit
def Bx.c1 (B : Bx) : Cx := { prog := B.prog, w := B.w, RX := RX1, mono := fun k r => RX1.mono k r, isRef := fun r => RX1.isRef r, gen := .rfl, h₀ := B.h₀, mg := B.mg, mb := B.mb, hmg := B.hmg, hmb := B.hmb, nolim := B.nolim }
def RX2 (B : Bx) (h : Heap) : Ext → Value → Prop
  | .lexer T, v => ∃ x l tv, v = .ref x ∧ InstOf h kLex x l ∧ l.lookup ("_tokens" : Str) = some tv ∧ l.lookup ("get_tokens_unprocessed" : Str) = none ∧ Rep B.c1 h (tokAV T) tv
  | x, v => RX1 h x v
theorem RX2.mono {B : Bx} {h h' : Heap} (k : Sub h h') : ∀ {x v}, RX2 B h x v → RX2 B h' x v
  | .lexer _, _, ⟨x, l, tv, e, i, e1, e2, r⟩ => ⟨x, l, tv, e, i.mono k, e1, e2, r.mono k⟩
  | .tok _, _, r => RTok.mono k r
  | .plain _, _, r => RPlain.mono k r
  | .mat _, _, r => RMat.mono k r
  | .pm _ _, _, r => RPm.mono k r
  | .gen _, _, r => r
theorem RX2.isRef {B : Bx} {h : Heap} : ∀ {x v}, RX2 B h x v → ∃ a, v = .ref a
  | .lexer _, _, ⟨x, _, _, e, _⟩ => ⟨x, e⟩
  | .tok nm, v, r => RX1.isRef (h := h) (x := .tok nm) r
  | .plain l, v, r => RX1.isRef (h := h) (x := .plain l) r
  | .mat l, v, r => RX1.isRef (h := h) (x := .mat l) r
  | .pm p t, v, r => RX1.isRef (h := h) (x := .pm p t) r
  | .gen a, _, r => ⟨a, r⟩
def Bx.c2 (B : Bx) : Cx := { prog := B.prog, w := B.w, RX := RX2 B, mono := fun k r => RX2.mono k r, isRef := fun r => RX2.isRef r, gen := .rfl, h₀ := B.h₀, mg := B.mg, mb := B.mb, hmg := B.hmg, hmb := B.hmb, nolim := B.nolim }
/-- the same world, later -/
def Bx.up (B : Bx) (h : Heap) (k : Sub B.h₀ h) : Bx := { B with h₀ := h, hmg := B.hmg.keeps k, hmb := B.hmb.keeps k, nolim := B.nolim.keeps k }

mutual
theorem Rep.lift {C C' : Cx} (hp : C.prog = C'.prog) (hw : C.w = C'.w) {H : Heap} (hx : ∀ x v, C.RX H x v → C'.RX H x v) : ∀ {a v}, Rep C H a v → Rep C' H a v
  | _, _, .none => .none
  | _, _, .bool b => .bool b
  | _, _, .int i t => .int i t
  | _, _, .str x t => .str x t
  | _, _, .tup t r => .tup t (RepL.lift hp hw hx r)
  | _, _, .lst t r => .lst t (RepL.lift hp hw hx r)
  | _, _, .dS y e d r => .dS y e (by obtain ⟨p, w, _⟩ := C; obtain ⟨p', w', _⟩ := C'; dsimp only at hp hw; subst hp; subst hw; exact d) (RepL.lift hp hw hx r)
  | _, _, .dTS y e d r => .dTS y e (by obtain ⟨p, w, _⟩ := C; obtain ⟨p', w', _⟩ := C'; dsimp only at hp hw; subst hp; subst hw; exact d) (RepL.lift hp hw hx r)
  | _, _, .dTI y e d r => .dTI y e (by obtain ⟨p, w, _⟩ := C; obtain ⟨p', w', _⟩ := C'; dsimp only at hp hw; subst hp; subst hw; exact d) (RepL.lift hp hw hx r)
  | _, _, .rng r => .rng r
  | _, _, .ext x => .ext (hx _ _ x)
theorem RepL.lift {C C' : Cx} (hp : C.prog = C'.prog) (hw : C.w = C'.w) {H : Heap} (hx : ∀ x v, C.RX H x v → C'.RX H x v) : ∀ {l vs}, RepL C H l vs → RepL C' H l vs
  | _, _, .nil => .nil
  | _, _, .cons r rs => .cons (Rep.lift hp hw hx r) (RepL.lift hp hw hx rs)
end
theorem RX12 {B : Bx} {h : Heap} : ∀ (x : Ext) v, RX1 h x v → RX2 B h x v
  | .tok _, _, r => r
  | .plain _, _, r => r
  | .mat _, _, r => r
  | .pm _ _, _, r => r
  | .lexer _, _, r => r.elim
  | .gen _, _, r => r
theorem RXup {B : Bx} {h₁ h : Heap} {k : Sub B.h₀ h₁} : ∀ (x : Ext) v, RX2 B h x v → RX2 (B.up h₁ k) h x v
  | .tok _, _, r => r
  | .plain _, _, r => r
  | .mat _, _, r => r
  | .pm _ _, _, r => r
  | .lexer _, _, ⟨x, l, tv, e, i, e1, e2, r⟩ => ⟨x, l, tv, e, i, e1, e2, Rep.lift (C := B.c1) (C' := (B.up h₁ k).c1) rfl rfl (fun _ _ z => z) r⟩
  | .gen _, _, r => r
theorem RXdn {B : Bx} {h₁ h : Heap} {k : Sub B.h₀ h₁} : ∀ (x : Ext) v, RX2 (B.up h₁ k) h x v → RX2 B h x v
  | .tok _, _, r => r
  | .plain _, _, r => r
  | .mat _, _, r => r
  | .pm _ _, _, r => r
  | .lexer _, _, ⟨x, l, tv, e, i, e1, e2, r⟩ => ⟨x, l, tv, e, i, e1, e2, Rep.lift (C := (B.up h₁ k).c1) (C' := B.c1) rfl rfl (fun _ _ z => z) r⟩
  | .gen _, _, r => r

/-! ## the told table does not hang on the dict of the lexer -/
section
variable {B B' : Bx} {H H' : Heap} {dx : Addr} {od : Obj} {la : List (Str × Value)}
theorem InstOf.move {c x : Addr} {l : List (Str × Value)} {nm : Str} (hd : H.get? dx = some od) (ha : AttrsAre od la) (hn : la.lookup nm = none) (hl : (l.lookup nm).isSome = true) (k : ∀ b o, b ≠ dx → H.get? b = some o → H'.get? b = some o) (i : InstOf H c x l) : InstOf H' c x l := by
  obtain ⟨d', o', a, b, e⟩ := i
  have n1 : x ≠ dx := fun z => by
    subst z; rw [hd] at a
    obtain ⟨es, n, e2, _⟩ := ha
    rw [e2] at a
    simp at a
  have n2 : d' ≠ dx := fun z => by
    subst z; rw [hd] at b; cases b
    have z1 := ha.look nm
    rw [e.look nm, hn] at z1
    cases z2 : l.lookup nm with
    | none => rw [z2] at hl; cases hl
    | some v => rw [z2] at z1; cases z1
  exact ⟨d', o', k _ _ n1 a, k _ _ n2 b, e⟩
theorem TupAt.move {a : Addr} {vs : List Value} (hd : H.get? dx = some od) (ha : AttrsAre od la) (k : ∀ b o, b ≠ dx → H.get? b = some o → H'.get? b = some o) (t : TupAt H a vs) : TupAt H' a vs := by
  obtain ⟨n, e⟩ := t
  exact ⟨n, k _ _ (fun z => by
    subst z; rw [hd] at e
    obtain ⟨es, n, e2, _⟩ := ha
    rw [e2] at e
    simp at e) e⟩
theorem ListAt.move {a : Addr} {vs : List Value} (hd : H.get? dx = some od) (ha : AttrsAre od la) (k : ∀ b o, b ≠ dx → H.get? b = some o → H'.get? b = some o) (t : ListAt H a vs) : ListAt H' a vs := by
  obtain ⟨n, e⟩ := t
  exact ⟨n, k _ _ (fun z => by
    subst z; rw [hd] at e
    obtain ⟨es, n, e2, _⟩ := ha
    rw [e2] at e
    simp at e) e⟩
variable (hd : H.get? dx = some od) (ha : AttrsAre od la) (k : ∀ b o, b ≠ dx → H.get? b = some o → H'.get? b = some o)
theorem strs_move : ∀ {l : List Str} {vs : List Value}, RepL B.c2 H (l.map .str) vs → RepL B'.c1 H' (l.map .str) vs
  | [], _, .nil => .nil
  | _ :: _, _, .cons r rs => .cons (by cases r; exact .str _ _) (strs_move rs)
include hd ha k
theorem move_move {m : PyData} {v : Value} (r : Rep B.c2 H (moveAV m) v) : Rep B'.c1 H' (moveAV m) v := by
  cases m with
  | int i => cases r; exact .int _ _
  | str s => cases r; exact .str _ _
  | tuple l =>
    obtain ⟨a, vs, rfl, t, rl⟩ := Rep.tup_ (l := (strsOf l).map .str) r
    exact Rep.tup (l := (strsOf l).map .str) (t.move hd ha k) (strs_move rl)
  | none => cases r; exact .none
  | bool b => cases r; exact .none
  | list l => cases r; exact .none
  | dict l => cases r; exact .none
theorem rule_move (hn : la.lookup ("names" : Str) = none) (hr : la.lookup ("rows" : Str) = none) {r : Rule} {v : Value} (x : Rep B.c2 H (ruleAV r) v) : Rep B'.c1 H' (ruleAV r) v := by
  obtain ⟨a, vs, rfl, t, rl⟩ := x.tup_
  refine .tup (t.move hd ha k) ?_
  cases rl with
  | cons r1 rl =>
  cases rl with
  | cons r2 rl =>
  cases rl with
  | cons r3 rl =>
  cases rl
  refine .cons (.ext ?_) (.cons (.ext ?_) (.cons (move_move hd ha k r3) .nil))
  · obtain ⟨b, p, rfl, m, zc, x, q1, q2, t1, e, i, l1, l2⟩ := (show RMat H _ _ from r1.ext_)
    refine ⟨b, p, rfl, k _ _ (fun z => by
      subst z; rw [hd] at m
      obtain ⟨es, n, e2, _⟩ := ha
      rw [e2] at m
      simp at m) m, zc, x, q1, q2, t1, e, i.move hd ha hr rfl k, l1.move hd ha k, l2.move hd ha k⟩
  · obtain ⟨x, t1, ws, rfl, i, ta, s⟩ := (show RTok H _ _ from r2.ext_)
    exact ⟨x, t1, ws, rfl, i.move hd ha hn rfl k, ta.move hd ha k, s⟩
theorem rules_move (hn : la.lookup ("names" : Str) = none) (hr : la.lookup ("rows" : Str) = none) : ∀ {l : List Rule} {vs : List Value}, RepL B.c2 H (l.map ruleAV) vs → RepL B'.c1 H' (l.map ruleAV) vs
  | [], _, .nil => .nil
  | _ :: _, _, .cons r rs => .cons (rule_move hd ha k hn hr r) (rules_move hn hr rs)
theorem lists_move (hn : la.lookup ("names" : Str) = none) (hr : la.lookup ("rows" : Str) = none) : ∀ {T : Tab} {vs : List Value}, RepL B.c2 H (T.map fun p => AV.lst (p.2.map ruleAV)) vs → RepL B'.c1 H' (T.map fun p => AV.lst (p.2.map ruleAV)) vs
  | [], _, .nil => .nil
  | _ :: _, _, .cons r rs => .cons (by
      obtain ⟨a, ws, rfl, l, rl⟩ := r.lst_
      exact .lst (l.move hd ha k) (rules_move hd ha k hn hr rl)) (lists_move hn hr rs)
theorem tok_move (hpw : B.prog = B'.prog ∧ B.w = B'.w) (hn : la.lookup ("names" : Str) = none) (hr : la.lookup ("rows" : Str) = none) (ho : la.lookup ("root" : Str) = none) {T : Tab} (hT : ("root" : Str) ∈ T.map (·.1)) {v : Value} (x : Rep B.c2 H (tokAV T) v) : Rep B'.c1 H' (tokAV T) v := by
  obtain ⟨p, w, h₀, mg, mb, g1, g2, g3⟩ := B
  obtain ⟨p', w', h₀', mg', mb', g1', g2', g3'⟩ := B'
  obtain ⟨rfl, rfl⟩ := hpw
  obtain ⟨a, vs, rfl, y, hl, d, rl⟩ := x.dS_
  obtain ⟨o, es, ep, e, ex, ed, ks, ps, nd⟩ := d
  have na : a ≠ dx := fun z => by
    subst z; rw [hd] at e; cases e
    obtain ⟨es', n, rfl, ea⟩ := id ha
    simp only [Data.dict.injEq] at ed
    obtain ⟨rfl, _⟩ := ed
    have hf := ps.find ("root" : Str)
    have h2 : valueAt ((T.map Prod.fst).zip vs) ("root" : Str) ≠ none := by
      intro z
      unfold valueAt at z
      rw [Option.map_eq_none_iff, List.find?_eq_none] at z
      obtain ⟨i, hi, ei⟩ := List.getElem_of_mem hT
      have hi1 : i < (T.map Prod.fst).length := hi
      have hi2 : i < vs.length := by rw [← hl]; exact hi
      have := z ((T.map Prod.fst)[i], vs[i]) (by
        rw [List.mem_iff_getElem]
        exact ⟨i, by rw [List.length_zip]; omega, by simp⟩)
      simp [ei] at this
    rw [← hf] at h2
    refine h2 ?_
    rw [Option.map_eq_none_iff, List.find?_eq_none]
    intro en hen z
    have ez := ea.find ("root" : Str)
    rw [ho, Option.map_eq_none_iff, List.find?_eq_none] at ez
    refine ez en hen ?_
    have z : Value.isStrOf ("root" : Str) en.key = true := z
    revert z
    cases en.key <;> simp [Value.isStrOf, Value.isStr]
  exact .dS y hl ⟨o, es, ep, k _ _ na e, ex, ed, ks, ps, nd⟩ (lists_move hd ha k hn hr rl)
end
end
section
variable {C : Cx}
/-! ## what stands written of a class of the text -/
structure Cls (K : Frag) (c : Addr) : Prop where
  ga : findIn K (.ref c) "__getattribute__" = some (some (.builtin "object.__getattribute__"))
  gt : findIn K (.ref c) "__getattr__" = some none
  sa : findIn K (.ref c) "__setattr__" = some (some (.builtin "object.__setattr__"))
  po : plainOver K c = true
  hd : (clsIn K c).any (·.hasDict) = true
  mks : makesIn K c = true
  cl : specialIn K (.ref c) "__call__" = some (some (.builtin "type.__call__"))
def FreeK (K : Frag) (c : Addr) (name : Str) : Prop := findIn K (.ref c) name = some none
def MethK (K : Frag) (c : Addr) (name : Str) (f : Addr) : Prop := findIn K (.ref c) name = some (some (.ref f)) ∧ typeIn K (.ref f) = some (.type "function")
theorem Cls.keys {K : Frag} {c : Addr} (h : Cls K c) : ∃ cd, clsIn K c = some cd ∧ cd.hasDict = true := any_some h.hd
theorem InstOf.at {h : Heap} {c x : Addr} {l : List (Str × Value)} (i : InstOf h c x l) : ∃ ox od, InstAt h x ox c (some od) ∧ AttrsAre od l ∧ ox = instObj c (ox.dict.getD 0) := by
  obtain ⟨dx, od, a, b, e⟩ := i
  exact ⟨instObj c dx, od, ⟨a, rfl, rfl, b⟩, e, rfl⟩
section
variable {prog : Program} {w : World} {A : Around} {E : Value → Shared → Prop} {s : Shared} {K : Frag} {c x : Addr} {l : List (Str × Value)} {name : Str}
theorem inst_get {v : Value} {Q : Value → Shared → Prop} (X : K.In s.heap) (hc : Cls K c) (hf : FreeK K c name) (i : InstOf s.heap c x l) (hl : l.lookup name = some v) (hh : handedIn v = true) (h : Q v { s with toks := s.toks + 1 }) :
    wpAny (model prog w) A (getAttr (.ref x) name true) Q E s := by
  obtain ⟨ox, od, I, ha, _⟩ := i.at
  obtain ⟨cd, hcd, hhd⟩ := hc.keys
  refine get_value X I hc.ga ?_ hh h
  have hf : findIn K (.ref c) name = some none := hf
  unfold findObj
  rw [hcd, hf]
  simp only [Option.bind_some]
  unfold PySem.W.ownOf
  rw [hhd, if_pos rfl]
  dsimp only
  rw [ha.look name, hl]
  rfl
theorem inst_meth {f : Addr} {pl : Sem Bool} {Q : Value × List Value → Shared → Prop} (X : K.In s.heap) (hc : Cls K c) (hm : MethK K c name f) (i : InstOf s.heap c x l) (hl : l.lookup name = none) (h : Q (.ref f, [.ref x]) s) :
    wpAny (model prog w) A (getMethod (.ref x) name pl) Q E s := by
  obtain ⟨ox, od, I, ha, _⟩ := i.at
  refine method_fn X I hc.ga hc.gt hm.1 hm.2 ?_ h
  unfold shadowIn
  dsimp only
  rw [ha.look name, hl]; rfl
theorem inst_true {Q : Bool → Shared → Prop} (X : K.In s.heap) (h1 : FreeK K c "__bool__") (h2 : FreeK K c "__len__") (i : InstOf s.heap c x l) (h : Q true s) : wpAny (model prog w) A (truthy (.ref x)) Q E s := by
  obtain ⟨ox, od, I, ha, _⟩ := i.at
  unfold truthy
  refine wpAny_bind (m := callSpecial? (.ref x) (Str.ofString "__bool__")) (wpAny_bind (wpAny_bind (I.type.here ((looks_findIn X h1).here (wpAny_pure ?_)))))
  refine wpAny_bind (wpAny_bind (I.type.here ((looks_findIn X h2).here ?_)))
  exact wpAny_pure h
end
variable {B : Bx}
theorem strs_rep {H : Heap} : ∀ {nm : List Str} {vs : List Value}, StrsV nm vs → RepL B.c2 H (nm.map .str) vs
  | [], _, .nil => .nil
  | _ :: _, _, .cons s => .cons (.str _ _) (strs_rep s)
theorem handed_ref (a : Addr) : handedIn (.ref a) = true := rfl
theorem handed_int (i : Int) (t : Tok) : handedIn (.int i t) = true := rfl
section
variable {K : Frag} (hK : K.In B.h₀)
include hK
theorem kAt {h : Heap} (k : Sub B.h₀ h) : K.In h := Frag.In.keeps hK k
theorem names_get (hc : Cls K kTok) (hf : FreeK K kTok "names") (nm : List Str) : GetJ B.c2 (.tok nm) "names" (.tup (nm.map .str)) := fun A M s v Q E h0 hx q => by
  obtain ⟨x, t, vs, rfl, i, ta, sv⟩ := (show RTok _ _ _ from hx)
  refine inst_get (kAt hK (h0.trans (hid_sub _ _))) hc hf (i.mono (hid_sub _ _)) (v := .ref t) rfl rfl (q _ _ (.toks _) ?_)
  exact .tup ta (strs_rep sv)
theorem rows_get (hc : Cls K kPlain) (hf : FreeK K kPlain "rows") (l : Str) : GetJ B.c2 (.plain l) "rows" (.lst [.lst [.str l]]) := fun A M s v Q E h0 hx q => by
  obtain ⟨_, x, r1, r2, t, rfl, i, l1, l2⟩ := (show RPlain _ _ _ from hx)
  refine inst_get (kAt hK (h0.trans (hid_sub _ _))) hc hf (i.mono (hid_sub _ _)) (v := .ref r1) rfl rfl (q _ _ (.toks _) ?_)
  exact .lst l1 (.cons (.lst l2 (.cons (.str _ _) .nil)) .nil)
theorem place_get (hc : Cls K kPM) (hf : FreeK K kPM "place") (p : Int) (l : Str) : GetJ B.c2 (.pm p l) "place" (.int p) := fun A M s v Q E h0 hx q => by
  obtain ⟨_, x, r, t, u, rfl, i, l1⟩ := (show RPm _ _ _ _ from hx)
  exact inst_get (kAt hK (h0.trans (hid_sub _ _))) hc hf (i.mono (hid_sub _ _)) (v := .int p t) rfl rfl (q _ _ (.toks _) (.int _ _))
theorem pieces_get (hc : Cls K kPM) (hf : FreeK K kPM "pieces") (p : Int) (l : Str) : GetJ B.c2 (.pm p l) "pieces" (.lst [.str l]) := fun A M s v Q E h0 hx q => by
  obtain ⟨_, x, r, t, u, rfl, i, l1⟩ := (show RPm _ _ _ _ from hx)
  exact inst_get (kAt hK (h0.trans (hid_sub _ _))) hc hf (i.mono (hid_sub _ _)) (v := .ref r) rfl rfl (q _ _ (.toks _) (.lst l1 (.cons (.str _ _) .nil)))
theorem lexer_get (hc : Cls K kLex) (hf : FreeK K kLex "_tokens") (T : Tab) : GetJ B.c2 (.lexer T) "_tokens" (tokAV T) := fun A M s v Q E h0 hx q => by
  obtain ⟨x, l, tv, rfl, i, e1, e2, r⟩ := (show ∃ _ _ _, _ from hx)
  have r2 : Rep B.c2 (hid s.heap M) (tokAV T) tv := Rep.lift (C := B.c1) (C' := B.c2) rfl rfl RX12 r
  obtain ⟨a, vs, rfl, _⟩ := Rep.dS_ r2
  exact inst_get (kAt hK (h0.trans (hid_sub _ _))) hc hf (i.mono (hid_sub _ _)) e1 rfl (q _ _ (.toks _) r2)
theorem pm_meth {name : Str} {f : Addr} (hc : Cls K kPM) (hm : MethK K kPM name f) (h1 : (name == ("place" : Str)) = false) (h2 : (name == ("pieces" : Str)) = false) (p : Int) (l : Str) : MetJ B.c2 (.pm p l) name f := fun A M s v pl Q E h0 hx q => by
  obtain ⟨_, x, r, t, u, rfl, i, l1⟩ := (show RPm _ _ _ _ from hx)
  exact inst_meth (kAt hK (h0.trans (hid_sub _ _))) hc hm (i.mono (hid_sub _ _)) (by simp only [List.lookup, h1, h2]) q
theorem tok_meth {name : Str} {f : Addr} (hc : Cls K kTok) (hm : MethK K kTok name f) (h1 : (name == ("names" : Str)) = false) (nm : List Str) : MetJ B.c2 (.tok nm) name f := fun A M s v pl Q E h0 hx q => by
  obtain ⟨x, t, vs, rfl, i, ta, sv⟩ := (show RTok _ _ _ from hx)
  exact inst_meth (kAt hK (h0.trans (hid_sub _ _))) hc hm (i.mono (hid_sub _ _)) (by simp only [List.lookup, h1]) q
theorem lexer_meth {f : Addr} (hc : Cls K kLex) (hm : MethK K kLex "get_tokens_unprocessed" f) (T : Tab) : MetJ B.c2 (.lexer T) "get_tokens_unprocessed" f := fun A M s v pl Q E h0 hx q => by
  obtain ⟨x, l, tv, rfl, i, e1, e2, r⟩ := (show ∃ _ _ _, _ from hx)
  exact inst_meth (kAt hK (h0.trans (hid_sub _ _))) hc hm (i.mono (hid_sub _ _)) e2 q
theorem pm_true (h1 : FreeK K kPM "__bool__") (h2 : FreeK K kPM "__len__") (p : Int) (l : Str) : TruJ B.c2 (.pm p l) := fun A M s v Q E h0 hx q => by
  obtain ⟨_, x, r, t, u, rfl, i, l1⟩ := (show RPm _ _ _ _ from hx)
  exact inst_true (kAt hK (h0.trans (hid_sub _ _))) h1 h2 (i.mono (hid_sub _ _)) (q _ (.refl _))
theorem cls_keeper {c : Addr} (hc : Cls K c) : ClsK B.c2 c := fun H h0 => by
  have X := kAt hK h0
  obtain ⟨cd, hcd, _⟩ := hc.keys
  refine ⟨.machine, .inr (.inl rfl), ?_⟩
  unfold clsIn at hcd
  split at hcd
  · rename_i oc od cd' sl ho
    cases hcd
    unfold keeperOf
    refine (Looks.ld (part := none) (X _ _ ho)).andThen ?_
    dsimp only
    refine (looks_specialIn X hc.cl).andThen ?_
    exact Looks.of_pure rfl
  · cases hcd
theorem mat_keeper (hf : isFn K (.ref fMatch) = true) (ho : ∃ oc od fd sl, K.lookup fMatch = some ⟨oc, od, .func fd, sl⟩) (l : Str) : Keeps' B.c2 (.mat l) := fun H v h0 hx => by
  obtain ⟨b, p, rfl, m, _⟩ := (show RMat _ _ _ from hx)
  obtain ⟨oc, od, fd, sl, e⟩ := ho
  refine ⟨.boundFrame, .inr (.inr rfl), ?_⟩
  unfold keeperOf
  refine (Looks.ld (part := none) m).andThen ?_
  refine (Looks.ld (part := none) (kAt hK h0 _ _ e)).andThen ?_
  exact Looks.of_pure rfl
theorem typ_tok (nm : List Str) : CallJ B.c2 0 (.type "type") [.ext (.tok nm)] (.ext (.gen kTok)) := fun A M s vs ak h0 hM hM0 rl Q E q => by
  obtain ⟨v, rfl, r⟩ := rl.one
  obtain ⟨x, t, ws, rfl, ⟨dx, od, a, _⟩, _⟩ := (show RTok _ _ _ from r.ext_)
  obtain ⟨h, g, d, tk, os⟩ := s
  exact call_type_obj (hid_sub _ _ _ _ a) rfl (q _ _ (.refl _) (.ext (show RX2 B (hid h M) (.gen kTok) _ from rfl)))
end
end
section
variable {C : Cx}
/-! ## instances that are made -/
theorem tc_weight (c : Addr) (vs : List Value) : (Code.builtin "type.__call__" ⟨.ref c :: vs, []⟩).weight ≤ 1 ∧ (Code.builtin "type.__call__" ⟨.ref c :: vs, []⟩).cUnits ≤ 8 := by
  first
    | exact ⟨Nat.le_of_eq (show _ = 1 from rfl), Nat.le_trans (Nat.le_of_eq (show _ = 1 from rfl)) (by decide)⟩
    | exact ⟨Nat.le_trans (Nat.le_of_eq (show _ = 0 from rfl)) (by decide), Nat.le_trans (Nat.le_of_eq (show _ = 1 from rfl)) (by decide)⟩
    | exact ⟨Nat.le_of_eq (show _ = 1 from rfl), Nat.le_trans (Nat.le_of_eq (show _ = 3 from rfl)) (by decide)⟩
    | exact ⟨Nat.le_of_eq (show _ = 1 from rfl), Nat.le_trans (Nat.le_of_eq (show _ = 2 from rfl)) (by decide)⟩
    | exact ⟨Nat.le_of_eq (show _ = 1 from rfl), Nat.le_trans (Nat.le_of_eq (show _ = 4 from rfl)) (by decide)⟩
theorem AOk.tc {n : Nat} {A : Around} {c : Addr} {vs : List Value} (a : AOk (n + 1) A) : AOk n (A.under (.builtin "type.__call__" ⟨.ref c :: vs, []⟩)) := by
  have w := tc_weight c vs
  exact ⟨a.handled, by have := a.depth; show A.depth + Code.weight _ + n ≤ 890; omega, by have := a.units; show A.units + Code.cUnits _ + 8 * n + 100 ≤ 9000; omega⟩
section
variable {B : Bx} {K : Frag} (hK : K.In B.h₀)
include hK
theorem make_inst {c fI : Addr} (hc : Cls K c) (hi : MethK K c "__init__" fI) {A : Around} {M : List Addr} {s : Shared} {vs : List Value} {R : Result → Shared → Prop} (h0 : Sub B.h₀ (hid s.heap M))
    (h : ∀ s1 x dx, Grow s s1 → s.heap.get? x = none → s.heap.get? dx = none → x ≠ dx → s1.heap.get? x = some (instObj c dx) → s1.heap.get? dx = some emptyDict →
      codeAny (model B.prog B.w) (A.under (.builtin "type.__call__" ⟨.ref c :: vs, []⟩)) (.call (.ref fI) ⟨.ref x :: vs, []⟩) (InitBack x R) s1) :
    codeAny (model B.prog B.w) A (.call (.ref c) ⟨vs, []⟩) R s := by
  have X := kAt hK (h0.trans (hid_sub _ _))
  obtain ⟨hh, g, d, t, os⟩ := s
  refine make_core (makes_of X hc.mks) (looks_findIn X hi.1) (fun self => bind_fn X self hi.2) (.inl rfl) (h _ (hh.objs.size + 1) hh.objs.size ⟨fun b o e => ?_, fun _ _ e => e, id, rfl⟩ ?_ get_new (Nat.succ_ne_self _) ?_ ?_)
  · exact Heap.get?_push_of_some _ (Heap.get?_push_of_some _ e)
  · cases e : hh.get? (hh.objs.size + 1) with
    | none => rfl
    | some o => exact absurd (Heap.lt_size e) (Nat.not_lt_of_le (Nat.le_succ _))
  · heap_get
  · exact Heap.get?_push_of_some _ (Heap.get?_push_size _ rfl)
end
section
variable {C : Cx} {hb : Base} {Mo : List Addr} {fi : Fi} {M : List Addr} {m : Str → Option Value} {cv : Nat → Option Value} {ad : Nat → List Addr} {ℓ : List Slot} {s : Shared} {n : Nat} {A : Around}
/-- the dict of the thing that is being made -/
structure IW (hb : Base) (Mo : List Addr) (x dx c : Addr) (l : List (Str × Value)) : Prop where
  inst : hb x (instObj c dx)
  at_ : ∃ od, hb dx od ∧ AttrsAre od l
  mo : dx ∈ Mo
  ne : x ≠ dx
def upd (hb : Base) (dx : Addr) (od : Obj) : Base := fun b o => if b = dx then o = od else hb b o
theorem IW.step {x dx c : Addr} {l l' : List (Str × Value)} {od : Obj} (i : IW hb Mo x dx c l) (ha : AttrsAre od l') : IW (upd hb dx od) Mo x dx c l' where
  inst := by unfold upd; rw [if_neg i.ne]; exact i.inst
  at_ := ⟨od, by unfold upd; rw [if_pos rfl], ha⟩
  mo := i.mo
  ne := i.ne
/-- self.name = e -/
theorem init_attr {K : Frag} (hK : K.In C.h₀) {x dx c : Addr} {l : List (Str × Value)} {i : Nat} {y name : Str} {lo : Loc} {a : AV} {e : Expr} {p1 p2 pos : Pos} {Q : Flow → Shared → Prop} {E : Value → Shared → Prop} (hc : Cls K c) (hf : FreeK K c name)
    (F : fi.Ok) (ak : AOk n A) (ow : Own fi Mo) (hown : fi.own = true) (R : Rel C hb Mo fi M m cv ad ℓ s) (I : IW hb Mo x dx c l) (hi : fi.vs[i]? = some (y, lo)) (hv : ℓ[i]? = some (.fz (.ext (.gen x)))) (he : EJ C n fi ℓ e a) (hn : l.lookup name = none) (hlen : l.length ≤ 900)
    (hs : swapsWith e (some (.Attribute (.Name y p1) name p2)) pos.line fi.env = pure false)
    (h : ∀ s' od' v, Mv s s' → Rel C (upd hb dx od') Mo fi M m cv ad ℓ s' → IW (upd hb dx od') Mo x dx c (l ++ [(name, v)]) → Rep C (hid s'.heap M) a v → (∀ b o, b ≠ dx → s.heap.get? b = some o → s'.heap.get? b = some o) → Q .next s') :
    wpAny (model C.prog C.w) A (exec (.Assign [.Attribute (.Name y p1) name p2] e pos) fi.env) Q E s := by
  refine plainObj_wpAny_Assign_Attribute (he A hb Mo M m cv ad s ak R _ _ fun v s1 g1 rv => ?_) hs
  have R1 := R.grow g1
  refine (EJ.var F hi hv) A hb Mo M m cv ad s1 ak R1 _ _ fun ov s2 g2 ro => ?_
  have R2 := R1.grow g2
  have eo := C.gen.mp ro.ext_
  subst eo
  obtain ⟨od, hod, ha⟩ := I.at_
  have X : K.In s2.heap := Frag.In.keeps hK R2.base0
  refine set_at X (R2.base _ _ I.inst) (R2.base _ _ hod) ha hn hlen hc.sa hc.po ?_ hc.hd fun h' od' tk hs' hod' ha' => ?_
  · unfold takerIn
    rw [show findIn K (.ref c) name = some none from hf]; rfl
  · have hcell : ∀ (i : Nat) z cc, fi.vs[i]? = some (z, .cel cc) → cc ≠ dx := fun i z cc e q => ow hown i z cc e (q ▸ I.mo)
    have R3 := R2.rebase (tk := tk) I.mo hcell hs' hod'
    have kk := hid_change (R2.mO _ I.mo) hs'
    exact h _ od' v ((g1.trans g2).mv.trans (.same rfl rfl)) R3 (I.step ha') ((rv.mono (hid_grow g2.keep)).mono kk) fun b o nb e => (hs'.2 b nb).trans (g2.keep _ _ (g1.keep _ _ e))
end
end
section
variable {C : Cx}
theorem gen_rep {B : Bx} {H : Heap} (x : Addr) : Rep B.c2 H (.ext (.gen x)) (.ref x) := .ext (show RX2 B H (.gen x) (.ref x) from rfl)
/-- the walk of an __init__ that stores attributes and does no more -/
def InitW (B : Bx) (n : Nat) (c : Addr) (fi : Fi) (body : List Stmt) (x dx : Addr) (ℓ : List Slot) (Fin : List (Str × Value) → Heap → Prop) : Prop :=
  ∀ (A : Around) (hb : Base) (Mo M : List Addr) (m : Str → Option Value) (cv : Nat → Option Value) (s : Shared), AOk n A → Own fi Mo → Rel B.c2 hb Mo fi M m cv (fun _ => []) ℓ s → IW hb Mo x dx c [] →
    ∀ (Q : Flow → Shared → Prop) (E : Value → Shared → Prop), (∀ s' hb' M' m' cv' ad' ℓ' l, Mv s s' → Rel B.c2 hb' Mo fi M' m' cv' ad' ℓ' s' → IW hb' Mo x dx c l → (∀ b o, b ≠ dx → hb b o → hb' b o) → Fin l (hid s'.heap M') → Q .next s') →
      wpAny (model B.prog B.w) A (execs body fi.env) Q E s
section
variable {B : Bx} {K : Frag} (hK : K.In B.h₀)
include hK
theorem make_by {n : Nat} {c fI : Addr} {f : Fn} {ps xs : List Str} {as : List AV} {as' : Addr → List AV} {e : Ext} {Fin : List (Str × Value) → Heap → Prop} (hc : Cls K c) (hi : MethK K c "__init__" fI) (hf : FnAt B.c2 f fI)
    (hbind : ∀ (name qual : Str) (doc pm : Value) (an : Option Addr) (cdv ct : Value) (M : List Addr) (s : Shared) (x : Addr) (vs : List Value), (∀ a ∈ M, ∃ o, s.heap.get? a = some o) → RepL B.c2 (hid s.heap M) as vs →
      BindJ B.c2 (fnOf name qual f.params f.body f.scope .none .none doc pm an cdv ct) ⟨.ref x :: vs, []⟩ M s ps (as' x))
    (hco : f.scope.isCoroutine = false) (hgen : f.scope.isGenerator = false) (hk : f.scope.kind = .function) (len : ∀ x, (as' x).length = ps.length)
    (nd : (ps ++ xs).Nodup) (hkind : ∀ x ∈ ps ++ xs, f.scope.names.lookup x = some .local ∨ f.scope.names.lookup x = some .cell) (hdbg : ∀ x ∈ ps ++ xs, (x == ("__debug__" : Str)) = false)
    (walk : ∀ (name qual : Str) (doc pm : Value) (an : Option Addr) (cdv ct : Value) (L x dx : Addr), (fiOf (fnOf name qual f.params f.body f.scope .none .none doc pm an cdv ct) L fI (ps ++ xs)).Ok →
      InitW B n c (fiOf (fnOf name qual f.params f.body f.scope .none .none doc pm an cdv ct) L fI (ps ++ xs)) f.body x dx ((as' x).map .fz ++ xs.map fun _ => .un) Fin)
    (hmono : ∀ l h h', Sub h h' → Fin l h → Fin l h') (fin : ∀ H x l, InstOf H c x l → Fin l H → RX2 B H e (.ref x)) :
    CallJ B.c2 (n + 2) (.ref c) as (.ext e) := fun A M s vs ak h0 hM hM0 rl Q E q => by
  obtain ⟨name, qual, oc, od, osl, doc, pm, an, cdv, ct, ho, hcd⟩ := hf
  refine wpAny_call (make_inst hK hc hi h0 fun s1 x dx g nx nd1 ne hx hdx => ?_)
  have hnx : x ∉ M := fun z => by obtain ⟨o, e⟩ := hM x z; rw [nx] at e; cases e
  have hnd : dx ∉ M := fun z => by obtain ⟨o, e⟩ := hM dx z; rw [nd1] at e; cases e
  have kk : Sub (hid s.heap M) (hid s1.heap (dx :: M)) := hid_cons g.keep nd1
  have hM1 : ∀ a ∈ dx :: M, ∃ o, s1.heap.get? a = some o := fun a h => by
    rcases List.mem_cons.mp h with rfl | h
    · exact ⟨_, hdx⟩
    · obtain ⟨o, e⟩ := hM a h; exact ⟨o, g.keep _ _ e⟩
  have hM10 : ∀ a ∈ dx :: M, B.c2.h₀.get? a = none := fun a h => by
    rcases List.mem_cons.mp h with rfl | h
    · exact Sub.none (h0.trans (hid_sub _ _)) nd1
    · exact hM0 a h
  refine call_begin (fd := fnOf name qual f.params f.body f.scope .none .none doc pm an cdv ct) ho rfl hcd rfl rfl rfl rfl hco hgen hk (hbind name qual doc pm an cdv ct (dx :: M) s1 x vs hM1 (rl.mono kk)) (len x) nd hkind hdbg
    (AOk.tc ak) (h0.trans kk) hM1 hM10 fun L s0 s2 M' m cv F ow g0 g1 ak' R E' => ?_
  refine walk name qual doc pm an cdv ct L x dx F _ _ (dx :: M) M' m cv s2 ak' ow R ⟨g0.keep _ _ hx, ⟨emptyDict, g0.keep _ _ hdx, AttrsAre.nil⟩, .head _, ne⟩ _ _ fun s' hb' M2 m2 cv2 ad2 ℓ2 l mv R2 I2 hbk hfin => ?_
  have hkeep : ∀ b o, b ≠ dx → s0.heap.get? b = some o → s'.heap.get? b = some o := fun b o nb e => R2.base b o (hbk b o nb e)
  have gg : Grow s s' := ⟨fun b o e => hkeep b o (fun z => by rw [z, nd1] at e; cases e) (g0.keep _ _ (g.keep _ _ e)), ((g.mv.trans g0.mv).trans (g1.mv.trans mv)).gens, ((g.mv.trans g0.mv).trans (g1.mv.trans mv)).bare, ((g.mv.trans g0.mv).trans (g1.mv.trans mv)).os⟩
  obtain ⟨od2, e1, e2⟩ := I2.at_
  have io : InstOf (hid s'.heap M) c x l := ⟨dx, od2, hid_get (R2.base _ _ I2.inst) hnx, hid_get (R2.base _ _ e1) hnd, e2⟩
  have sub : Sub (hid s'.heap M2) (hid s'.heap M) := hid_mono (fun _ _ _ e => e) fun b hb => R2.mO b (.tail _ hb)
  exact ⟨rfl, q _ _ gg (.ext (fin _ x l io (hmono _ _ _ sub hfin)))⟩
end

/-! ## Plain -/
def plainInitF : Fn := fnIn PySem.Challenge.pw_bf5016_01 41 0
def fPlainInit : Addr := 639
theorem two_l {vs : List Value} (h : vs.length = 2) : ∃ a b, vs = [a, b] := two_of h
section
variable {B : Bx} {K : Frag} (hK : K.In B.h₀)
include hK
theorem plain_make (hc : Cls K kPlain) (hi : MethK K kPlain "__init__" fPlainInit) (hf : FnAt B.c2 plainInitF fPlainInit) (h1 : FreeK K kPlain "rows") (c : Nat) : CallJ B.c2 8 (.ref kPlain) [.lst [.lst [.str ⟨#[c]⟩]]] (.ext (.plain ⟨#[c]⟩)) := by
  refine (make_by (n := 0) (ps := ["self", "rows"]) (xs := []) (as' := fun x => [.ext (.gen x), .lst [.lst [.str ⟨#[c]⟩]]]) (Fin := fun l h => ∃ v, l = [(("rows" : Str), v)] ∧ Rep B.c2 h (.lst [.lst [.str ⟨#[c]⟩]]) v) hK hc hi hf (fun name qual doc pm an cdv ct M s x vs hM rl => ?_) rfl rfl rfl (fun _ => rfl) (by decide) (by decide) (by decide)
    (fun name qual doc pm an cdv ct L x dx F => ?_) (fun l h h' k ⟨v, e, r⟩ => ⟨v, e, r.mono k⟩) (fun H x l io ⟨v, e, r⟩ => ?_)).less (by decide)
  · obtain ⟨v, rfl, r⟩ := rl.one
    exact BindJ.plain rfl (.cons (gen_rep x) (.cons r .nil))
  · intro A hb Mo M m cv s ak ow R I Q E q
    refine wpAny_execs_cons (init_attr hK hc h1 F ak ow rfl R I (i := 0) (a := .lst [.lst [.str ⟨#[c]⟩]]) rfl rfl (EJ.var F at1 at1) rfl (by decide) rfl fun s' od' v mv R' I' rv keep => wpAny_execs_nil ?_)
    exact q s' _ _ _ _ _ _ _ mv R' I' (fun b o nb e => by unfold upd; rw [if_neg nb]; exact e) ⟨v, rfl, rv⟩
  · subst e
    obtain ⟨r1, ws, rfl, l1, rl⟩ := r.lst_
    obtain ⟨w, rfl, r2⟩ := rl.one
    obtain ⟨r3, ws2, rfl, l2, rl2⟩ := r2.lst_
    obtain ⟨w2, rfl, r4⟩ := rl2.one
    obtain ⟨t, rfl⟩ := r4.str_
    exact ⟨⟨c, rfl⟩, x, r1, r3, t, rfl, io, l1, l2⟩
end
/-! ## PlainMatch -/
def pmInitF : Fn := fnIn PySem.Challenge.pw_bf5016_01 40 0
def fPMInit : Addr := 596
section
variable {B : Bx} {K : Frag} (hK : K.In B.h₀)
include hK
theorem pm_make (hc : Cls K kPM) (hi : MethK K kPM "__init__" fPMInit) (hf : FnAt B.c2 pmInitF fPMInit) (h1 : FreeK K kPM "place") (h2 : FreeK K kPM "pieces") (p : Int) (c : Nat) : CallJ B.c2 2 (.ref kPM) [.int p, .lst [.str ⟨#[c]⟩]] (.ext (.pm p ⟨#[c]⟩)) := by
  refine make_by (n := 0) (ps := ["self", "place", "pieces"]) (xs := []) (as' := fun x => [.ext (.gen x), .int p, .lst [.str ⟨#[c]⟩]]) (Fin := fun l h => ∃ v w, l = [(("place" : Str), v), (("pieces" : Str), w)] ∧ Rep B.c2 h (.int p) v ∧ Rep B.c2 h (.lst [.str ⟨#[c]⟩]) w) hK hc hi hf (fun name qual doc pm an cdv ct M s x vs hM rl => ?_) rfl rfl rfl (fun _ => rfl) (by decide) (by decide) (by decide)
    (fun name qual doc pm an cdv ct L x dx F => ?_) (fun l h h' k ⟨v, w, e, r, r2⟩ => ⟨v, w, e, r.mono k, r2.mono k⟩) (fun H x l io ⟨v, w, e, r, r2⟩ => ?_)
  · obtain ⟨v, w, rfl, r, r2⟩ := rl.two
    exact BindJ.plain rfl (.cons (gen_rep x) (.cons r (.cons r2 .nil)))
  · intro A hb Mo M m cv s ak ow R I Q E q
    refine wpAny_execs_cons (init_attr hK hc h1 F ak ow rfl R I (i := 0) (a := .int p) rfl rfl (EJ.var F at1 at1) rfl (by decide) rfl fun s' od' v mv R' I' rv keep => ?_)
    refine wpAny_execs_cons (init_attr hK hc h2 F ak ow rfl R' I' (i := 0) (a := .lst [.str ⟨#[c]⟩]) rfl rfl (EJ.var F at2 at2) (by rfl) (show 1 ≤ 900 by decide) rfl fun s2 od2 w mv2 R2 I2 rw2 keep2 => wpAny_execs_nil ?_)
    refine q s2 _ _ _ _ _ _ _ (mv.trans mv2) R2 I2 (fun b o nb e => by unfold upd; rw [if_neg nb, if_neg nb]; exact e) ⟨v, w, rfl, ?_, rw2⟩
    obtain ⟨t, rfl⟩ := rv.int_
    exact .int _ _
  · subst e
    obtain ⟨t, rfl⟩ := r.int_
    obtain ⟨r3, ws, rfl, l1, rl⟩ := r2.lst_
    obtain ⟨w2, rfl, r4⟩ := rl.one
    obtain ⟨u, rfl⟩ := r4.str_
    exact ⟨⟨c, rfl⟩, x, r3, t, u, rfl, io, l1⟩
end
end
section
variable {C : Cx}
/-! ## more rules -/
theorem EJ.orT {n : Nat} {fi : Fi} {ℓ : List Slot} {pos : Pos} {e e2 : Expr} {rest : List Expr} {a : AV} (h : EJ C n fi ℓ e a) (t : truth a = some true) : EJ C n fi ℓ (.BoolOp .Or (e :: e2 :: rest) pos) a := fun A hb Mo M m cv ad s ak R Q E q =>
  BoolOp_or (h A hb Mo M m cv ad s ak R _ _ fun v s' g rv => truth_ok t rv _ _ fun c s'' g' ec => by subst ec; exact q _ _ (g.trans g') (rv.mono (hid_grow g'.keep)))
theorem evalArgs_star2 {M : Model} {A : Around} {E : Value → Shared → Prop} {s : Shared} {f : Value} {x : Sem Value} {y : Bool × Sem Value} {rest : List (Bool × Sem Value)} {Q : Args → Shared → Prop}
    (h : wpAny M A (spliced ((true, x) :: y :: rest)) (fun vs s' => Q ⟨vs, []⟩ s') E s) : wpAny M A (evalArgs f true ((true, x) :: y :: rest) []) Q E s := by
  unfold evalArgs
  show wpAny M A (spliced ((true, x) :: y :: rest) >>= _) Q E s
  refine wpAny_bind (wpAny_mono h (fun vs s' h' => ?_) fun _ _ x => x)
  refine wpAny_holding ?_
  exact wpAny_bind (wpAny_pure (wpAny_bind (wpAny_pure (wpAny_pure h'))))
/-- f(*e, e2), a class of the text -/
theorem EJ.callStar {n : Nat} {fi : Fi} {ℓ : List Slot} {pos p sp : Pos} {y : Str} {a : Addr} {e e2 : Expr} {l : List AV} {x : AV} {r : AV} (F : fi.Ok) (g : C.glb y (.ref a)) (hk : ClsK C a) (he : EJ C n fi ℓ e (.tup l)) (hz : l.length ≤ sz) (he2 : EJ C n fi ℓ e2 x) (h : CallJ C n (.ref a) (l ++ [x]) r)
    (hy : fi.env.kindOf y = some .globalImplicit) (hdbg : (y == ("__debug__" : Str)) = false)
    (hq : ∀ env, starEach [.Starred e sp, e2] env = [(true, eval e env), (false, eval e2 env)]) (hq2 : ∀ env, starEach [e2] env = [(false, eval e2 env)]) :
    EJ C n fi ℓ (.Call (.Name y p) [.Starred e sp, e2] [] pos) r := fun A hb Mo M m cv ad s ak R Q E q => by
  refine Call_ (glb_at F R g hy hdbg ?_)
  refine ks_call (P := fun h => Sub (hid s.heap M) h) (by rw [hq]; rfl) (fun h kh => hk h (R.glob.trans kh)) ?_
  rw [hq]
  show wpAny _ _ (evalArgs (.ref a) true ((true, _) :: (false, _) :: []) []) _ _ _
  refine evalArgs_star2 (ks_spliced (he A hb Mo M m cv ad s ak R _ _ fun v s1 g1 rv => ?_))
  obtain ⟨t, vs, rfl, ta, rl⟩ := rv.tup_
  have R1 := R.grow g1
  have ta' := ta.mono (hid_sub _ _)
  obtain ⟨k0, et⟩ := id ta'
  unfold StarOf notIterableAtAll
  refine wpAny_bind (wpAny_specialOf (T := "tuple") ⟨_, et, rfl⟩ PySem.F.slot_tuple_iter.lookup (wpAny_pure ⟨rfl, ?_⟩))
  refine wpAny_collect_seq t (.inr rfl) et rfl rfl (fun h' hk' => ?_) (by rw [List.size_toArray, ← rl.length]; exact sz_le hz)
  have g2 : Grow s1 { s1 with heap := h' } := ⟨hk', fun _ _ e => e, id, rfl⟩
  have R2 := R1.grow g2
  refine Calls.spliced_cons (he2 A hb Mo M m cv ad _ ak R2 _ _ fun v2 s3 g3 rv2 => Calls.spliced_nil ⟨(hid_sub _ _).trans (g1.keep.trans (g2.keep.trans g3.keep)), ?_⟩)
  have R3 := R2.grow g3
  rw [List.nil_append]
  exact h A M s3 _ ak R3.glob R3.has R3.new0 ((rl.mono (hid_grow (g2.keep.trans g3.keep))).append (.cons rv2 .nil)) _ _ fun w s4 g4 rw_ => q _ _ (g1.trans (g2.trans (g3.trans g4))) rw_
/-- x.isupper() -/
theorem EJ.isupper {n : Nat} {fi : Fi} {ℓ : List Slot} {pos p : Pos} {o : Expr} {x : Str} (ho : EJ C n fi ℓ o (.str x)) (hline : (p.endLine == pos.line) = true) (hbase : ∀ env, attributeBase o "isupper" env (eval o env) = eval o env) :
    EJ C n fi ℓ (.Call (.Attribute o "isupper" p) [] [] pos) (.bool (Txt.isupper x)) := fun A hb Mo M m cv ad s ak R Q E q =>
  wpAny_Call_method_lateS (hbase _) rfl hline (ho A hb Mo M m cv ad s ak R _ _ fun v s' g rx => by
    obtain ⟨t, rfl⟩ := rx.str_
    exact SB.isupper (q _ _ g (.bool _)))

/-! ## functions with one default -/
def FnAtD (C : Cx) (f : Fn) (a : Addr) (d : AV) : Prop := ∃ name qual oc od osl doc pm an cdv ct dT oT dv n,
  C.h₀.get? a = some ⟨oc, od, .func (fnOf name qual f.params f.body f.scope (.ref dT) .none doc pm an cdv ct), osl⟩ ∧ C.h₀.CodeRec cdv qual ∧ C.h₀.get? dT = some oT ∧ oT.data = .seq #[dv] n ∧ Rep C C.h₀ d dv
def SWD (C : Cx) (n : Nat) (f : Fn) (a : Addr) (ps xs : List Str) (as : List AV) (F : Out → Prop) : Prop :=
  ∀ (name qual : Str) (dV doc pm : Value) (an : Option Addr) (cdv ct : Value) (L : Addr), (fiOf (fnOf name qual f.params f.body f.scope dV .none doc pm an cdv ct) L a (ps ++ xs)).Ok →
      SW C n (fiOf (fnOf name qual f.params f.body f.scope dV .none doc pm an cdv ct) L a (ps ++ xs)) f.body (as.map .fz ++ xs.map fun _ => .un) F
theorem fnD_code {n : Nat} {a : Addr} {f : Fn} {ps xs : List Str} {as : List AV} {d r : AV} {A : Around} {M : List Addr} {s : Shared} {vs : List Value} {R : Result → Shared → Prop} (hf : FnAtD C f a d) (h : SWD C n f a ps xs (as ++ [d]) (fun o => unfz o = some r))
    (hbind : ∀ (name qual : Str) (doc pm : Value) (an : Option Addr) (cdv ct : Value) (dT : Addr) (oT : Obj) (dv : Value) (k : Nat) (vs : List Value) (s : Shared), vs.length = as.length → s.heap.get? dT = some oT → oT.data = .seq #[dv] k →
      BindsTo s (fnOf name qual f.params f.body f.scope (.ref dT) .none doc pm an cdv ct) ⟨vs, []⟩ (ps.zip (vs ++ [dv])))
    (hco : f.scope.isCoroutine = false) (hgen : f.scope.isGenerator = false) (hk : f.scope.kind = .function) (len : (as ++ [d]).length = ps.length)
    (nd : (ps ++ xs).Nodup) (hkind : ∀ x ∈ ps ++ xs, f.scope.names.lookup x = some .local ∨ f.scope.names.lookup x = some .cell) (hdbg : ∀ x ∈ ps ++ xs, (x == ("__debug__" : Str)) = false)
    (ak : AOk (n + 1) A) (h0 : Sub C.h₀ (hid s.heap M)) (hM : ∀ a ∈ M, ∃ o, s.heap.get? a = some o) (hM0 : ∀ a ∈ M, C.h₀.get? a = none) (rl : RepL C (hid s.heap M) as vs) (q : ∀ v s', Grow s s' → Rep C (hid s'.heap M) r v → R (.ok (.ret v)) s') :
    codeAny (model C.prog C.w) A (.call (.ref a) ⟨vs, []⟩) R s := by
  obtain ⟨name, qual, oc, od, osl, doc, pm, an, cdv, ct, dT, oT, dv, k, ho, hcd, hoT, hdT, rd⟩ := hf
  refine call_okC (args := ⟨vs, []⟩) (fd := fnOf name qual f.params f.body f.scope (.ref dT) .none doc pm an cdv ct) ho rfl hcd rfl rfl rfl rfl hco hgen hk (fun A' Q' E' q' => ?_) len nd hkind hdbg ak h0 hM hM0 (fun L F => h name qual (.ref dT) doc pm an cdv ct L F) q
  exact hbind name qual doc pm an cdv ct dT oT dv k vs s rl.length.symm (hid_sub _ _ _ _ (h0 _ _ hoT)) hdT _ _ _ _ (q' _ _ (.refl _) ⟨_, rfl, rl.append (.cons (rd.mono h0) .nil)⟩)
theorem fnD_ok {n : Nat} {a : Addr} {f : Fn} {ps xs : List Str} {as : List AV} {d r : AV} (hf : FnAtD C f a d) (h : SWD C n f a ps xs (as ++ [d]) (fun o => unfz o = some r))
    (hbind : ∀ (name qual : Str) (doc pm : Value) (an : Option Addr) (cdv ct : Value) (dT : Addr) (oT : Obj) (dv : Value) (k : Nat) (vs : List Value) (s : Shared), vs.length = as.length → s.heap.get? dT = some oT → oT.data = .seq #[dv] k →
      BindsTo s (fnOf name qual f.params f.body f.scope (.ref dT) .none doc pm an cdv ct) ⟨vs, []⟩ (ps.zip (vs ++ [dv])))
    (hco : f.scope.isCoroutine = false := by rfl) (hgen : f.scope.isGenerator = false := by rfl) (hk : f.scope.kind = .function := by rfl) (len : (as ++ [d]).length = ps.length := by rfl)
    (nd : (ps ++ xs).Nodup := by decide) (hkind : ∀ x ∈ ps ++ xs, f.scope.names.lookup x = some .local ∨ f.scope.names.lookup x = some .cell := by decide) (hdbg : ∀ x ∈ ps ++ xs, (x == ("__debug__" : Str)) = false := by decide) : CallJ C (n + 1) (.ref a) as r :=
  fun A M s vs ak h0 hM hM0 rl Q E q => wpAny_call (fnD_code hf h hbind hco hgen hk len nd hkind hdbg ak h0 hM hM0 rl q)
end
section
variable {C : Cx}
/-! ## token types -/
def tokInitF : Fn := fnIn PySem.Challenge.pw_bf5016_01 3 0
def fTokInit : Addr := 52
def childF : Fn := fnIn PySem.Challenge.pw_bf5016_01 3 3
def fChild : Addr := 73
theorem strsV_of {B : Bx} {H : Heap} : ∀ {nm : List Str} {vs : List Value}, RepL B.c2 H (nm.map .str) vs → StrsV nm vs
  | [], _, .nil => .nil
  | _ :: _, _, .cons r rs => by
    obtain ⟨t, rfl⟩ := r.str_
    exact .cons (strsV_of rs)
theorem tuple_new {C : Cx} {A : Around} {M : List Addr} {s : Shared} {l : List AV} {vs : List Value} (hM : ∀ a ∈ M, ∃ o, s.heap.get? a = some o) (rl : RepL C (hid s.heap M) l vs) (hz : l.length ≤ sz) {Q : Value → Shared → Prop} {E : Value → Shared → Prop}
    (q : ∀ v s', Grow s s' → Rep C (hid s'.heap M) (.tup l) v → Q v s') : wpAny (model C.prog C.w) A (newTuple vs) Q E s := by
  refine wpAny_newTuple ?_ ?_
  · exact q _ _ (.push _) (rep_tup (fun a h => let ⟨o, e⟩ := hM a h; Heap.lt_size e) rl)
  · rw [← rl.length]; exact sz_le hz
section
variable {B : Bx} {K : Frag} (hK : K.In B.h₀)
include hK
theorem tok_make (hc : Cls K kTok) (hi : MethK K kTok "__init__" fTokInit) (hf : FnAt B.c2 tokInitF fTokInit) (h1 : FreeK K kTok "names") (n1 n2 : Str) : CallJ B.c2 2 (.ref kTok) [.str n1, .str n2] (.ext (.tok [n1, n2])) := by
  have zz := sz_eq
  refine make_by (n := 0) (ps := ["self", "names"]) (xs := []) (as' := fun x => [.ext (.gen x), .tup (([n1, n2] : List Str).map .str)]) (Fin := fun l h => ∃ v, l = [(("names" : Str), v)] ∧ Rep B.c2 h (.tup (([n1, n2] : List Str).map .str)) v) hK hc hi hf (fun name qual doc pm an cdv ct M s x vs hM rl => ?_) rfl rfl rfl (fun _ => rfl) (by decide) (by decide) (by decide)
    (fun name qual doc pm an cdv ct L x dx F => ?_) (fun l h h' k ⟨v, e, r⟩ => ⟨v, e, r.mono k⟩) (fun H x l io ⟨v, e, r⟩ => ?_)
  · intro A Q E q
    obtain ⟨w1, w2, rfl, _, _⟩ := rl.two
    show wpAny _ _ (newTuple [w1, w2] >>= fun t => pure [(("self" : Str), Value.ref x), (("names" : Str), t)]) _ _ _
    refine wpAny_bind (tuple_new hM (l := ([n1, n2] : List Str).map .str) rl (show 2 ≤ sz by decide) fun v s' g rv => wpAny_pure (q _ _ g ⟨[.ref x, v], rfl, .cons (gen_rep x) (.cons rv .nil)⟩))
  · intro A hb Mo M m cv s ak ow R I Q E q
    refine wpAny_execs_cons (init_attr hK hc h1 F ak ow rfl R I (i := 0) (a := .tup (([n1, n2] : List Str).map .str)) rfl rfl (EJ.var F at1 at1) rfl (by decide) rfl fun s' od' v mv R' I' rv keep => wpAny_execs_nil ?_)
    exact q s' _ _ _ _ _ _ _ mv R' I' (fun b o nb e => by unfold upd; rw [if_neg nb]; exact e) ⟨v, rfl, rv⟩
  · subst e
    obtain ⟨t, vs, rfl, ta, rl⟩ := r.tup_
    exact ⟨x, t, vs, rfl, io, ta, strsV_of (nm := [n1, n2]) rl⟩
theorem child_ok (hc : Cls K kTok) (hi : MethK K kTok "__init__" fTokInit) (hf : FnAt B.c2 tokInitF fTokInit) (h1 : FreeK K kTok "names") (hch : FnAt B.c2 childF fChild) (gT : B.c2.glb "_TokenType" (.ref kTok)) {t : Str} (ht : t ∈ tg3) :
    CallJ B.c2 8 (.ref fChild) [.ext (.tok ["Name"]), .str t] (.ext (.tok ["Name", t])) := by
  refine (fn_ok (n := 4) (ps := ["self", "val"]) (xs := ["new"]) hch (fun name qual doc pm an cdv ct L F => ?_) (fun name qual doc pm an cdv ct vs hv => ?_)).less (by decide)
  · have tl : truth (.str t) = some true := by
      have : t = "R" ∨ t = "P" ∨ t = "Q" := by simpa [tg3] using ht
      rcases this with rfl | rfl | rfl <;> rfl
    obtain ⟨c, hc0, hup⟩ : ∃ c : Nat, opIdx (.str t) (.int 0) = some (.str ⟨#[c]⟩) ∧ Txt.isupper ⟨#[c]⟩ = true := by
      have : t = "R" ∨ t = "P" ∨ t = "Q" := by simpa [tg3] using ht
      rcases this with rfl | rfl | rfl
      · exact ⟨82, rfl, by decide +kernel⟩
      · exact ⟨80, rfl, by decide +kernel⟩
      · exact ⟨81, rfl, by decide +kernel⟩
    refine SW.cons (S1.ifF (BJ.to (BJ.or (b := false) (BJ.to (BJ.not (BJ.val (EJ.var F at1 at1) tl (fun _ _ => rfl))) rfl) fun _ => BJ.or (b := false) (BJ.to (BJ.not (BJ.val (EJ.isupper (EJ.idx (EJ.var F at1 at1) (EJ.int 0) hc0 (fun _ _ _ _ h => by cases h)) rfl (fun _ => rfl)) (by rw [hup]; rfl) (fun _ _ => rfl))) rfl) fun _ => BJ.or_nil) rfl) (SW.nil ?_))
    have nm := names_get hK hc h1 ["Name"]
    refine SW.cons (S1.ifF (BJ.to (BJ.and (c := false) (BJ.to (BJ.not (BJ.val (EJ.attr (EJ.var F at0 at0) nm (fun _ => rfl)) (b := true) rfl (fun _ _ => rfl))) rfl) fun e => nomatch e) rfl) (SW.nil ?_))
    refine SW.cons (S1.assign (a := .ext (.tok ["Name", t])) F at2 (EJ.callStar F gT (cls_keeper hK hc) (EJ.attr (EJ.var F at0 at0) nm (fun _ => rfl)) (by decide) (EJ.var F at1 at1) ((tok_make hK hc hi hf h1 "Name" t).less (by decide)) rfl (by decide) (fun _ => rfl) (fun _ => rfl)) ?_ (.inl rfl) rfl)
    exact SW.cons (S1.ret (EJ.var F at2 at2) rfl)
  · obtain ⟨v1, v2, rfl⟩ := two_of hv
    rfl
end
/-! ## PlainMatch.group, .end, Plain.match -/
def groupF : Fn := fnIn PySem.Challenge.pw_bf5016_01 40 3
def fGroup : Addr := 618
def endF : Fn := fnIn PySem.Challenge.pw_bf5016_01 40 2
def fEnd : Addr := 612
def matchF : Fn := fnIn PySem.Challenge.pw_bf5016_01 41 1
section
variable {B : Bx} {K : Frag} (hK : K.In B.h₀)
include hK
theorem group_ok (hc : Cls K kPM) (h2 : FreeK K kPM "pieces") (hf : FnAtD B.c2 groupF fGroup (.int 0)) (p : Int) (c : Nat) : CallJ B.c2 3 (.ref fGroup) [.ext (.pm p ⟨#[c]⟩)] (.str ⟨#[c]⟩) := by
  refine (fnD_ok (n := 2) (ps := ["self", "arg"]) (xs := []) hf (fun name qual dV doc pm an cdv ct L F => ?_) (fun name qual doc pm an cdv ct dT oT dv k vs s hv hoT hdT => ?_)).less (by decide)
  · refine SW.cons (S1.ifF (BJ.val (EJ.var F at1 at1) rfl (fun _ _ => rfl)) (SW.nil ?_))
    refine SW.cons (S1.ret (a := .str ⟨[c].toArray⟩) ?_ rfl)
    apply EJ.joinCh (l := [c]) ?_ (show 1 ≤ 100000 by decide) rfl (fun _ => rfl)
    apply EJ.comp (r := [AV.str ⟨#[c]⟩])
    have z : ([AV.str ⟨#[c]⟩] : List AV).map id = [.str ⟨#[c]⟩] := rfl
    rw [← z]
    apply CompOk.each (a := .lst [.str ⟨#[c]⟩]) (l := [.str ⟨#[c]⟩]) (ls := ["piece"]) (caps := []) (b := fun a => [.fz a])
    · exact EJ.attr (EJ.var F at0 at0) (pieces_get hK hc h2 p _) (fun _ => rfl)
    · rfl
    · exact .nil
    · rfl
    · intro L' D
      exact Fi.Ok.of rfl rfl rfl ⟨rfl, rfl, trivial⟩ (by show (["piece"] : List Str).Nodup; decide)
    · show 1 ≤ sz; decide
    · intro L' D F2 x hx vs acc hv
      obtain ⟨v0, rfl⟩ : ∃ v0, vs = [v0] := match vs, hv with | [v], _ => ⟨v, rfl⟩
      rw [List.mem_singleton.mp hx]
      exact ⟨rfl, TJ.name (i := 0) F2 rfl, EJ.orT (EJ.var F2 at0 at0) rfl⟩
    · decide
    · rfl
    · decide
    · intro _ _; rfl
  · obtain ⟨v1, rfl⟩ := one_of hv
    exact BindsTo.of_defaults (binds := ([("self"), ("arg")] : List Str).zip ([v1] ++ [dv])) rfl hoT hdT rfl rfl
theorem end_ok (hc : Cls K kPM) (h1 : FreeK K kPM "place") (h2 : FreeK K kPM "pieces") (hm : MethK K kPM "group" fGroup) (hg : FnAtD B.c2 groupF fGroup (.int 0)) (hgf : IsFn B.c2 fGroup) (hf : FnAtD B.c2 endF fEnd (.int 0)) (gLen : B.c2.glb "len" (.builtin "len")) (p c : Nat) : CallJ B.c2 4 (.ref fEnd) [.ext (.pm p ⟨#[c]⟩)] (.int ((p + 1 : Nat) : Int)) := by
  refine (fnD_ok (n := 3) (ps := ["self", "arg"]) (xs := []) hf (fun name qual dV doc pm an cdv ct L F => ?_) (fun name qual doc pm an cdv ct dT oT dv k vs s hv hoT hdT => ?_)).less (by decide)
  · refine SW.cons (S1.ifF (BJ.val (EJ.var F at1 at1) rfl (fun _ _ => rfl)) (SW.nil ?_))
    refine SW.cons (S1.ret (a := .int ((p + 1 : Nat) : Int)) (EJ.to (EJ.bin (EJ.attr (EJ.var F at0 at0) (place_get hK hc h1 p _) (fun _ => rfl)) (EJ.lenS F gLen (EJ.meth0 (EJ.var F at0 at0) (pm_meth hK hc hm (by decide) (by decide) p _) hgf ((group_ok hK hc h2 hg p c).less (by decide)) (fun _ => rfl) rfl) (show 1 ≤ sz by decide) rfl (fun _ => rfl)) rfl) rfl) rfl)
  · obtain ⟨v1, rfl⟩ := one_of hv
    exact BindsTo.of_defaults (binds := ([("self"), ("arg")] : List Str).zip ([v1] ++ [dv])) rfl hoT hdT rfl rfl
theorem match_ok (hcP : Cls K kPlain) (hr : FreeK K kPlain "rows") (hc : Cls K kPM) (hi : MethK K kPM "__init__" fPMInit) (hfi : FnAt B.c2 pmInitF fPMInit) (h1 : FreeK K kPM "place") (h2 : FreeK K kPM "pieces") (hf : FnAtD B.c2 matchF fMatch .none) (gLen : B.c2.glb "len" (.builtin "len")) (gPM : B.c2.glb "PlainMatch" (.ref kPM))
    (c : Nat) (text : Str) (pos : Nat) (hp : pos ≤ 10000) (ht : text.length ≤ 10000) {A : Around} {M : List Addr} {s : Shared} {vs : List Value} {R : Result → Shared → Prop} (ak : AOk 4 A) (h0 : Sub B.h₀ (hid s.heap M)) (hM : ∀ a ∈ M, ∃ o, s.heap.get? a = some o) (hM0 : ∀ a ∈ M, B.h₀.get? a = none)
    (rl : RepL B.c2 (hid s.heap M) [.ext (.plain ⟨#[c]⟩), .str text, .int pos] vs) (q : ∀ v s', Grow s s' → Rep B.c2 (hid s'.heap M) (if (text.cps.toList[pos]?).map (fun c => (⟨#[c]⟩ : Str)) = some ⟨#[c]⟩ then .ext (.pm pos ⟨#[c]⟩) else .none) v → R (.ok (.ret v)) s') :
    codeAny (model B.prog B.w) A (.call (.ref fMatch) ⟨vs, []⟩) R s := by
  have zz := sz_eq
  refine (fnD_code (C := B.c2) (n := 3) (ps := ["self", "text", "pos", "endpos"]) (xs := ["pieces", "told"]) hf (fun name qual dV doc pm an cdv ct L F => ?_) (fun name qual doc pm an cdv ct dT oT dv k vs s hv hoT hdT => ?_) rfl rfl rfl rfl (by decide) (by decide) (by decide) ak h0 hM hM0 rl q)
  · refine SW.cons (S1.for_ (a := .lst [.lst [.str ⟨#[c]⟩]]) (l := [.lst [.str ⟨#[c]⟩]]) F (EJ.attr (EJ.var F at0 at0) (rows_get hK hcP hr _) (fun _ => rfl)) rfl
      (fun rest ℓ => ∃ a4 a5, ℓ = [.fz (.ext (.plain ⟨#[c]⟩)), .fz (.str text), .fz (.int (pos : Int)), .fz .none, a4, a5] ∧ (rest = [.lst [.str ⟨#[c]⟩]] ∨ (rest = [] ∧ ¬ (text.cps.toList[pos]?).map (fun c => (⟨#[c]⟩ : Str)) = some ⟨#[c]⟩)))
      ⟨.un, .un, rfl, .inl rfl⟩ (fun x rest ℓ hP => ?_) (fun ℓ hP => ?_) (fun _ _ => rfl))
    · obtain ⟨a4, a5, rfl, hr⟩ := hP
      have hr := hr.resolve_right (fun z => nomatch z.1)
      cases hr
      refine ⟨_, TJ.name F (i := 4) rfl, ?_⟩
      refine SW.cons (S1.assign (a := .str ⟨[c].toArray⟩) F at5 ?_ ?_ (.inl rfl) rfl)
      · apply EJ.joinCh (l := [c]) ?_ (show 1 ≤ 100000 by decide) rfl (fun _ => rfl)
        apply EJ.comp (r := [AV.str ⟨#[c]⟩])
        have z : ([AV.str ⟨#[c]⟩] : List AV).map id = [.str ⟨#[c]⟩] := rfl
        rw [← z]
        apply CompOk.each (a := .lst [.str ⟨#[c]⟩]) (l := [.str ⟨#[c]⟩]) (ls := ["piece"]) (caps := []) (b := fun a => [.fz a])
        · exact EJ.var F at4 at4
        · rfl
        · exact .nil
        · rfl
        · intro L' D
          exact Fi.Ok.of rfl rfl rfl ⟨rfl, rfl, trivial⟩ (by show (["piece"] : List Str).Nodup; decide)
        · show 1 ≤ sz; decide
        · intro L' D F2 x hx vs acc hv
          obtain ⟨v0, rfl⟩ : ∃ v0, vs = [v0] := match vs, hv with | [v], _ => ⟨v, rfl⟩
          rw [List.mem_singleton.mp hx]
          exact ⟨rfl, TJ.name (i := 0) F2 rfl, EJ.orT (EJ.var F2 at0 at0) rfl⟩
        · decide
        · rfl
        · decide
        · intro _ _; rfl
      · refine SW.cons (S1.ifs (b := decide ((text.cps.toList[pos]?).map (fun c => (⟨#[c]⟩ : Str)) = some ⟨#[c]⟩)) ?_ (fun e => ?_) fun e => ?_)
        · refine BJ.to (b := ((⟨((text.cps.toList.take (pos + 1)).drop pos).toArray⟩ : Str) == (⟨[c].toArray⟩ : Str)) && (true || false) && true) ?_ ?_
          · refine BJ.to (BJ.and (BJ.cmp (x := .str ⟨((text.cps.toList.take (pos + 1)).drop pos).toArray⟩) (y := .str ⟨[c].toArray⟩) ?_ (EJ.var F at5 at5) rfl rfl) fun _ => BJ.and (BJ.or (c := false) (BJ.cmp (EJ.var F at3 at3) EJ.none rfl (by with_unfolding_all rfl)) fun e => nomatch e) fun _ => BJ.and_nil) (by simp [AV.isNone])
            refine EJ.to (EJ.slc (EJ.var F at1 at1) (PJ.some (EJ.var F at2 at2)) (PJ.some (EJ.to (a' := .int ((pos + 1 : Nat) : Int)) (EJ.bin (EJ.var F at2 at2) (EJ.lenS F gLen (EJ.var F at5 at5) (show 1 ≤ sz by decide) rfl (fun _ => rfl)) rfl) rfl)) (slc_str (by omega))) (by rw [pick_mid])
          · have key : ((⟨((text.cps.toList.take (pos + 1)).drop pos).toArray⟩ : Str) == (⟨[c].toArray⟩ : Str)) = decide ((text.cps.toList[pos]?).map (fun c => (⟨#[c]⟩ : Str)) = some ⟨#[c]⟩) := by
              have e1 : (text.cps.toList.take (pos + 1)).drop pos = (text.cps.toList[pos]?).toList := by
                rw [List.drop_take, show pos + 1 - pos = 1 by omega]
                cases e : text.cps.toList[pos]? with
                | none => rw [List.drop_eq_nil_of_le (List.getElem?_eq_none_iff.mp e)]; rfl
                | some x =>
                  have hlt := (List.getElem?_eq_some_iff.mp e).1
                  rw [List.drop_eq_getElem_cons hlt]
                  have := (List.getElem?_eq_some_iff.mp e).2
                  rw [this]; rfl
              rw [e1]
              cases e : text.cps.toList[pos]? with
              | none => rfl
              | some x =>
                by_cases q : x = c
                · subst q; simp
                · rw [decide_eq_false (by simpa using q)]
                  refine beq_eq_false_iff_ne.mpr fun z => q ?_
                  simpa using z
            rw [key]
            simp
        · have e := of_decide_eq_true e
          rw [if_pos e]
          refine SW.cons (S1.ret (EJ.callC F gPM (cls_keeper hK hc) (LJ.cons (EJ.var F at2 at2) (LJ.cons (EJ.var F at4 at4) LJ.nil (fun _ => rfl)) (fun _ => rfl)) ((pm_make hK hc hi hfi h1 h2 pos c).less (by decide)) rfl (by decide) (fun _ => rfl) (fun _ _ => rfl)) rfl)
        · have e := of_decide_eq_false e
          exact SW.nil (SW.nil ⟨_, _, rfl, .inr ⟨rfl, e⟩⟩)
    · obtain ⟨a4, a5, rfl, hr | ⟨_, hr⟩⟩ := hP
      · cases hr
      rw [if_neg hr]
      exact SW.cons (S1.ret EJ.none rfl)
  · obtain ⟨v1, v2, v3, rfl⟩ := three_of hv
    exact BindsTo.of_defaults (binds := ([("self"), ("text"), ("pos"), ("endpos")] : List Str).zip ([v1, v2, v3] ++ [dv])) rfl hoT hdT rfl rfl
theorem mat_call (hcP : Cls K kPlain) (hr : FreeK K kPlain "rows") (hc : Cls K kPM) (hi : MethK K kPM "__init__" fPMInit) (hfi : FnAt B.c2 pmInitF fPMInit) (h1 : FreeK K kPM "place") (h2 : FreeK K kPM "pieces") (hf : FnAtD B.c2 matchF fMatch .none) (gLen : B.c2.glb "len" (.builtin "len")) (gPM : B.c2.glb "PlainMatch" (.ref kPM))
    (l : Str) (text : Str) (pos : Nat) (hp : pos ≤ 10000) (ht : text.length ≤ 10000) : CallM B.c2 4 (.mat l) [.str text, .int pos] (if (text.cps.toList[pos]?).map (fun c => (⟨#[c]⟩ : Str)) = some l then .ext (.pm pos l) else .none) := fun A M s v vs ak h0 hM hM0 hx rl Q E q => by
  obtain ⟨b, p, rfl, m, ⟨c, rfl⟩, hp'⟩ := (show RMat _ _ _ from hx)
  refine wpAny_call (ks_codeAny_call_bound (hid_sub _ _ _ _ m) ?_)
  exact match_ok hK hcP hr hc hi hfi h1 h2 hf gLen gPM c text pos hp ht (ak.less (by decide)) h0 hM hM0 (.cons (.ext (show RX2 B (hid s.heap M) (.plain ⟨#[c]⟩) (.ref p) from ⟨⟨c, rfl⟩, hp'⟩)) rl) fun v s' g r => q v s' g r
end
end
section
variable {C : Cx}
/-! ## merged_tokendefs -/
def inhF : Fn := fnTop PySem.Challenge.pw_bf5016_01 35
def fInh : Addr := 491
def mergedF : Fn := fnTop PySem.Challenge.pw_bf5016_01 36
def fMerged : Addr := 498
def getDefsF : Fn := fnIn PySem.Challenge.pw_bf5016_01 37 5
def fGetDefs : Addr := 548
def cInh : Addr := 342
theorem raw_tups (p : List Rule) : ∀ a ∈ p.map rawRuleAV, ∃ t, a = .tup t := fun a h => by
  obtain ⟨r, _, rfl⟩ := List.mem_map.mp h
  exact ⟨_, rfl⟩
/-- what is merged so far -/
structure MG (T : RawTab) (j : Nat) (ks : List Str) (l : List AV) : Prop where
  k : ks = (T.take j).map (·.1)
  l : l = (T.take j).map fun p => .lst (p.2.map rawRuleAV)
theorem zip_raw (T : RawTab) : (T.map (·.1)).zip (T.map fun p => AV.lst (p.2.map rawRuleAV)) = T.map fun p => (p.1, AV.lst (p.2.map rawRuleAV)) := by
  rw [List.zip_map']
section
variable {B : Bx} {K : Frag} (hK : K.In B.h₀)
include hK
theorem inh_ok (hf : FnAt B.c2 inhF fInh) (gEn : B.c2.glb "enumerate" (.type "enumerate")) (gIs : B.c2.glb "isinstance" (.builtin "isinstance")) (gI : B.c2.glb "_inherit" (.ref cInh)) (e0 : (clsIn K cInh).isSome = true) (e1 : typeIn K (.ref cInh) = some (.type "type"))
    (l : List AV) (hl : ∀ a ∈ l, ∃ t, a = .tup t) : CallJ B.c2 1 (.ref fInh) [.lst l] .none := by
  refine fn_ok (n := 0) (ps := ["items"]) (xs := ["k", "item"]) hf (fun name qual doc pm an cdv ct L F => ?_) (fun name qual doc pm an cdv ct vs hv => ?_)
  · refine SW.cons (S1.forEnum F rfl gEn (EJ.var F at0 at0) (fun _ rest ℓ => ∃ a1 a2, ℓ = [.fz (.lst l), a1, a2] ∧ ∀ a ∈ rest, ∃ t, a = .tup t) ⟨.un, .un, rfl, hl⟩ (fun j a rest ℓ hP => ?_) (fun j ℓ hP => ?_) rfl (fun _ => rfl))
    · obtain ⟨a1, a2, rfl, hr⟩ := hP
      obtain ⟨t, rfl⟩ := hr a (.head _)
      refine ⟨_, TJ.tup (TL.cons (TJ.name F (i := 1) rfl) (TL.cons (TJ.name F (i := 2) rfl) TL.nil (fun _ => rfl)) (fun _ => rfl)) (fun _ => rfl) (fun _ => rfl), ?_⟩
      refine SW.cons (S1.ifF (BJ.isinstC hK F gIs (EJ.var F at2 at2) gI e0 e1 rfl rfl (by decide) (fun _ => rfl)) (SW.nil (SW.nil ?_)))
      exact ⟨_, _, rfl, fun a h => hr a (.tail _ h)⟩
    · obtain ⟨a1, a2, rfl, _⟩ := hP
      exact SW.cons (S1.ret EJ.none rfl)
  · obtain ⟨v1, rfl⟩ := one_of hv
    rfl
theorem merged_ok (hf : FnAt B.c2 mergedF fMerged) (hfi : FnAt B.c2 inhF fInh) (gEn : B.c2.glb "enumerate" (.type "enumerate")) (gIs : B.c2.glb "isinstance" (.builtin "isinstance")) (gI : B.c2.glb "_inherit" (.ref cInh)) (e0 : (clsIn K cInh).isSome = true) (e1 : typeIn K (.ref cInh) = some (.type "type"))
    (gList : B.c2.glb "list" (.type "list")) (gInh : B.c2.glb "inherit_place" (.ref fInh)) (T : RawTab) (hT : RawOk T) : CallJ B.c2 3 (.ref fMerged) [.tup [rawAV T]] (rawAV T) := by
  have zz := sz_eq
  refine fn_ok (n := 2) (ps := ["tables"]) (xs := ["tokens", "inheritable", "toks", "state", "items", "curitems", "inherit_ndx", "new_inh_ndx"]) hf (fun name qual doc pm an cdv ct L F => ?_) (fun name qual doc pm an cdv ct vs hv => ?_)
  · refine SW.cons (S1.dict0 F (.oS [] []) (.inl rfl) at1 ?_ (.inl rfl) rfl)
    refine SW.cons (S1.dict0 F (.oS [] []) (.inl rfl) at2 ?_ (.inl rfl) rfl)
    refine SW.cons (S1.for_ (a := .tup [rawAV T]) (l := [rawAV T]) F (EJ.var F at0 at0) rfl
      (fun rest ℓ => ∃ ks l a3 a4 a5 a6 a7 a8, ℓ = [.fz (.tup [rawAV T]), .oS ks l, .oS [] [], a3, a4, a5, a6, a7, a8] ∧ ((rest = [rawAV T] ∧ ks = [] ∧ l = []) ∨ (rest = [] ∧ ks = T.map (·.1) ∧ l = T.map fun p => .lst (p.2.map rawRuleAV))))
      ⟨[], [], .un, .un, .un, .un, .un, .un, rfl, .inl ⟨rfl, rfl, rfl⟩⟩ (fun x rest ℓ hP => ?_) (fun ℓ hP => ?_) (fun _ _ => rfl))
    · obtain ⟨ks, l, a3, a4, a5, a6, a7, a8, rfl, hc⟩ := hP
      obtain ⟨hx, rfl, rfl⟩ := hc.resolve_right (fun z => nomatch z.1)
      injection hx with h1 h2
      subst h1; subst h2
      refine ⟨_, TJ.name F (i := 3) rfl, ?_⟩
      refine SW.cons (S1.forItems F (ks := T.map (·.1)) (l := T.map fun p => .lst (p.2.map rawRuleAV)) (i := 3) rfl rfl
        (fun rest ℓ => ∃ j ks l a4 a5 a6 a7 a8, ℓ = [.fz (.tup [rawAV T]), .oS ks l, .oS [] [], .fz (rawAV T), a4, a5, a6, a7, a8] ∧ rest = (T.drop j).map (fun p => (p.1, AV.lst (p.2.map rawRuleAV))) ∧ MG T j ks l ∧ j ≤ T.length)
        ⟨0, [], [], a4, a5, a6, a7, a8, rfl, zip_raw T, ⟨rfl, rfl⟩, Nat.zero_le _⟩ (fun k a rest ℓ hP => ?_) (fun ℓ hP => ?_) rfl)
      · obtain ⟨j, ks, l, a4, a5, a6, a7, a8, rfl, hr, ⟨rfl, rfl⟩, hj⟩ := hP
        obtain ⟨p, hp⟩ : ∃ p, T[j]? = some p := by
          cases e : T[j]? with
          | some p => exact ⟨p, rfl⟩
          | none => rw [List.drop_eq_nil_of_le (List.getElem?_eq_none_iff.mp e)] at hr; cases hr
        have hlt := (List.getElem?_eq_some_iff.mp hp).1
        have hpe := (List.getElem?_eq_some_iff.mp hp).2
        rw [List.drop_eq_getElem_cons hlt, hpe] at hr
        injection hr with hr1 hr2
        injection hr1 with hk ha
        subst hk; subst ha
        have hpm : p ∈ T := List.mem_of_getElem? hp
        have tk : T.take (j + 1) = T.take j ++ [p] := by rw [List.take_succ, hp]; rfl
        have hnew : p.1 ∉ (T.take j).map (·.1) := fun z => by
          have nd := hT.nd
          have e : T.map (·.1) = (T.take j).map (·.1) ++ p.1 :: (T.drop (j + 1)).map (·.1) := by
            rw [← List.map_cons, ← List.map_append]
            congr 1
            rw [← hpe, ← List.drop_eq_getElem_cons hlt, List.take_append_drop]
          rw [e] at nd
          exact (List.nodup_append.mp nd).2.2 _ z _ (.head _) rfl
        have few := hT.few
        have hp2 := (hT.rules p hpm).1
        refine ⟨_, TJ.tup (TL.cons (TJ.name F (i := 4) rfl) (TL.cons (TJ.name F (i := 5) rfl) TL.nil (fun _ => rfl)) (fun _ => rfl)) (fun _ => rfl) (fun _ => rfl), ?_⟩
        refine SW.cons (S1.assign (a := .none) F at6 (EJ.getO F at1 at1 (EJ.var F at4 at4) hnew rfl (fun _ => rfl) (fun _ => rfl) (fun _ => rfl)) ?_ (.inl rfl) rfl)
        refine SW.cons (S1.ifT (BJ.cmp (EJ.var F at6 at6) EJ.none rfl (by with_unfolding_all rfl)) ?_)
        refine SW.cons (S1.setS F (i := 1) (a := .lst (p.2.map rawRuleAV)) at1 at1 (EJ.list1 F gList (EJ.var F at5 at5) (.inl rfl) (by simp; omega) rfl (fun _ => rfl)) (EJ.var F at4 at4) hnew (by simp; omega) ?_ rfl)
        refine SW.cons (S1.assign (a := .none) F at7 (EJ.callFn F hfi gInh (LJ.cons (EJ.var F at5 at5) LJ.nil (fun _ => rfl)) ((inh_ok hK hfi gEn gIs gI e0 e1 _ (raw_tups _)).less (by decide))) ?_ (.inl rfl) rfl)
        refine SW.cons (S1.ifT (BJ.cmp (EJ.var F at7 at7) EJ.none rfl (by with_unfolding_all rfl)) ?_)
        refine SW.cons (S1.cnt ?_)
        refine ⟨j + 1, _, _, _, _, _, _, _, rfl, hr2, ⟨?_, ?_⟩, hlt⟩
        · rw [tk, List.map_append]; rfl
        · rw [tk, List.map_append]; rfl
      · obtain ⟨j, ks, l, a4, a5, a6, a7, a8, rfl, hr, ⟨rfl, rfl⟩, hj⟩ := hP
        have : T.length ≤ j := by
          have := congrArg List.length hr
          simp at this
          omega
        exact SW.nil ⟨_, _, _, _, _, _, _, _, rfl, .inr ⟨rfl, by rw [List.take_of_length_le this], by rw [List.take_of_length_le this]⟩⟩
    · obtain ⟨ks, l, a3, a4, a5, a6, a7, a8, rfl, hc⟩ := hP
      obtain ⟨_, rfl, rfl⟩ := hc.resolve_left (fun z => nomatch z.1)
      refine SW.freezeD (i := 1) rfl (.inl ⟨_, _, rfl, rfl⟩) ?_
      exact SW.cons (S1.ret (EJ.var F at1 at1) rfl)
  · obtain ⟨v1, rfl⟩ := one_of hv
    rfl
end
end
section
variable {C : Cx}
/-! ## the lexer that is being made: what it answers -/
/-- an attribute whose reading makes a new thing -/
def GetN (C : Cx) (x : Ext) (name : Str) (r : AV) : Prop := ∀ (A : Around) (M : List Addr) (s : Shared) (v : Value) (Q : Value → Shared → Prop) (E : Value → Shared → Prop), Sub C.h₀ (hid s.heap M) → (∀ a ∈ M, ∃ o, s.heap.get? a = some o) → C.RX (hid s.heap M) x v →
  (∀ w s', Grow s s' → Rep C (hid s'.heap M) r w → Q w s') → wpAny (model C.prog C.w) A (getAttr v name true) Q E s
theorem EJ.attrN {n : Nat} {fi : Fi} {ℓ : List Slot} {pos : Pos} {x : Ext} {e : Expr} {name : Str} {r : AV} (he : EJ C n fi ℓ e (.ext x)) (g : GetN C x name r) (hbase : ∀ env, attributeBase e name env (eval e env) = eval e env) : EJ C n fi ℓ (.Attribute e name pos) r := fun A hb Mo M m cv ad s ak R Q E q => by
  have arm : eval (.Attribute e name pos) fi.env = (do
    let o ← attributeBase e name fi.env (eval e fi.env)
    standAt pos.atName
    let r ← holding [o] (getAttr o name true)
    letTemporaryGo e o r
    pure r) := rfl
  rw [arm, hbase]
  refine wpAny_bind (he A hb Mo M m cv ad s ak R _ _ fun v s' g' rx => wpAny_bind (wpAny_standAt (wpAny_bind (wpAny_holding (g A M s' v _ _ (R.grow g').glob (R.grow g').has rx.ext_ fun w s'' g'' rw_ => ?_)))))
  exact wpAny_bind (wpAny_letTemporaryGo (wpAny_pure (q _ _ (g'.trans g'') rw_)))
section
variable {B : Bx} {K : Frag} (hK : K.In B.h₀)
include hK
theorem gen_get {x : Addr} {l : List (Str × Value)} {name : Str} {v : Value} {a : AV} (hc : Cls K kLex) (hf : FreeK K kLex name) (i : InstOf B.h₀ kLex x l) (hl : l.lookup name = some v) (hh : handedIn v = true) (rv : Rep B.c2 B.h₀ a v) : GetJ B.c2 (.gen x) name a := fun A M s v' Q E h0 hx q => by
  have e : v' = .ref x := hx
  subst e
  exact inst_get (kAt hK (h0.trans (hid_sub _ _))) hc hf (i.mono (h0.trans (hid_sub _ _))) hl hh (q _ _ (.toks _) (rv.mono h0))
theorem gen_meth {x f : Addr} {l : List (Str × Value)} {name : Str} (hc : Cls K kLex) (hm : MethK K kLex name f) (i : InstOf B.h₀ kLex x l) (hl : l.lookup name = none) : MetJ B.c2 (.gen x) name f := fun A M s v' pl Q E h0 hx q => by
  have e : v' = .ref x := hx
  subst e
  exact inst_meth (kAt hK (h0.trans (hid_sub _ _))) hc hm (i.mono (h0.trans (hid_sub _ _))) hl q
/-- an int that stands in the class -/
theorem gen_int {x : Addr} {l : List (Str × Value)} {name : Str} {k : Int} {t : Tok} (hc : Cls K kLex) (hi : findIn K (.ref kLex) name = some (some (.int k t))) (hg : specialIn K (.int k t) "__get__" = some none) (hcn : copiedNames.contains name = false) (i : InstOf B.h₀ kLex x l) (hl : l.lookup name = none) : GetJ B.c2 (.gen x) name (.int k) := fun A M s v' Q E h0 hx q => by
  have e : v' = .ref x := hx
  subst e
  obtain ⟨ox, od, I, ha, _⟩ := (i.mono (h0.trans (hid_sub _ _))).at
  obtain ⟨cd, hcd, hhd⟩ := hc.keys
  refine get_value (kAt hK (h0.trans (hid_sub _ _))) I hc.ga (v := .int k t) ?_ rfl (q _ _ (.toks _) (.int _ _))
  unfold findObj
  rw [hcd, hi]
  simp only [Option.bind_some]
  rw [hg]
  simp only [Option.bind_some]
  unfold PySem.W.ownOf
  rw [hhd, if_pos rfl]
  dsimp only
  rw [ha.look name, hl]
  simp only [Option.bind_some]
  rw [hcn]
  rfl
theorem match_get (hc : Cls K kPlain) (hm : MethK K kPlain "match" fMatch) (hg : specialIn K (.ref fMatch) "__get__" = some (some (.builtin "function.__get__"))) (ht : takesIn K (.ref fMatch) = some false) (l : Str) : GetN B.c2 (.plain l) "match" (.ext (.mat l)) := fun A M s v Q E h0 hM hx q => by
  obtain ⟨zc, x, r1, r2, t, rfl, i, l1, l2⟩ := (show RPlain _ _ _ from hx)
  have X := kAt hK (h0.trans (hid_sub _ _))
  obtain ⟨ox, od, I, ha, _⟩ := (i.mono (hid_sub _ _)).at
  obtain ⟨cd, hcd, hhd⟩ := hc.keys
  have hf : findObj K kPlain (some od) "match" = some (.bind (.builtin "function.__get__") (.ref fMatch)) := by
    unfold findObj
    rw [hcd, hm.1]
    simp only [Option.bind_some]
    rw [hg]
    simp only [Option.bind_some]
    rw [ht]
    simp only [Option.bind_some]
    unfold PySem.W.ownOf
    rw [hhd, if_pos rfl]
    dsimp only
    rw [ha.look "match"]
    rfl
  refine get_bind X I hc.ga hf hc.gt (wpAny_call (fn_get (s := { s with toks := s.toks + 1 }) X hm.2 (handed_on rfl ?_)))
  have g : Grow s { s with heap := s.heap.push (methodObj (.ref fMatch) (.ref x)), toks := s.toks + 1 } := .heap (n := s.toks + 1) fun b o e => Heap.get?_push_of_some _ e
  refine q _ _ g (.ext ?_)
  refine (show RMat (hid (s.heap.push (methodObj (.ref fMatch) (.ref x))) M) l (.ref s.heap.objs.size) from ⟨s.heap.objs.size, x, rfl, hid_get (Heap.get?_push_size _ rfl) fun z => ?_, (show RPlain _ l (.ref x) from ⟨zc, x, r1, r2, t, rfl, i, l1, l2⟩).mono (hid_grow g.keep)⟩)
  obtain ⟨o, e⟩ := hM _ z
  rw [get_new] at e; cases e
end
/-! ## the functions that make a rule -/
def regexF : Fn := fnIn PySem.Challenge.pw_bf5016_01 42 0
def fRegex : Addr := 666
def tokenF : Fn := fnIn PySem.Challenge.pw_bf5016_01 37 1
def fToken : Addr := 519
def newStateF : Fn := fnIn PySem.Challenge.pw_bf5016_01 37 2
def fNewState : Addr := 526
def cComb : Addr := 363
section
variable {B : Bx} {K : Frag} (hK : K.In B.h₀)
include hK
theorem defs_ok (hg : FnAt B.c2 getDefsF fGetDefs) (hf : FnAt B.c2 mergedF fMerged) (hfi : FnAt B.c2 inhF fInh) (gEn : B.c2.glb "enumerate" (.type "enumerate")) (gIs : B.c2.glb "isinstance" (.builtin "isinstance")) (gI : B.c2.glb "_inherit" (.ref cInh)) (e0 : (clsIn K cInh).isSome = true) (e1 : typeIn K (.ref cInh) = some (.type "type"))
    (gList : B.c2.glb "list" (.type "list")) (gInh : B.c2.glb "inherit_place" (.ref fInh)) (gM : B.c2.glb "merged_tokendefs" (.ref fMerged)) (T : RawTab) (hT : RawOk T) (x : Addr) (gt : GetJ B.c2 (.gen x) "tables" (.tup [rawAV T])) : CallJ B.c2 4 (.ref fGetDefs) [.ext (.gen x)] (rawAV T) := by
  refine fn_ok (n := 3) (ps := ["cls"]) (xs := []) hg (fun name qual doc pm an cdv ct L F => ?_) (fun name qual doc pm an cdv ct vs hv => ?_)
  · exact SW.cons (S1.ret (EJ.callFn F hf gM (LJ.cons (EJ.attr (EJ.var F at0 at0) gt (fun _ => rfl)) LJ.nil (fun _ => rfl)) (merged_ok hK hf hfi gEn gIs gI e0 e1 gList gInh T hT)) rfl)
  · obtain ⟨v1, rfl⟩ := one_of hv
    rfl
theorem regex_ok (hf : FnAt B.c2 regexF fRegex) (hc : Cls K kPlain) (hm : MethK K kPlain "match" fMatch) (hg : specialIn K (.ref fMatch) "__get__" = some (some (.builtin "function.__get__"))) (ht : takesIn K (.ref fMatch) = some false) (x : Addr) (l : Str) (k : Int) (st : Str) :
    CallJ B.c2 1 (.ref fRegex) [.ext (.gen x), .ext (.plain l), .int k, .str st] (.ext (.mat l)) := by
  refine fn_ok (n := 0) (ps := ["cls", "regex", "rflags", "state"]) (xs := []) hf (fun name qual doc pm an cdv ct L F => ?_) (fun name qual doc pm an cdv ct vs hv => ?_)
  · exact SW.cons (S1.ret (EJ.attrN (EJ.var F at1 at1) (match_get hK hc hm hg ht l) (fun _ => rfl)) rfl)
  · obtain ⟨v1, v2, v3, v4, rfl⟩ : ∃ a b c d, vs = [a, b, c, d] := match vs, hv with | [a, b, c, d], _ => ⟨a, b, c, d, rfl⟩
    rfl
theorem token_ok (hf : FnAt B.c2 tokenF fToken) (gType : B.c2.glb "type" (.type "type")) (gTok : B.c2.glb "_TokenType" (.ref kTok)) (x : Addr) (nm : List Str) :
    CallJ B.c2 1 (.ref fToken) [.ext (.gen x), .ext (.tok nm)] (.ext (.tok nm)) := by
  refine fn_ok (n := 0) (ps := ["cls", "token"]) (xs := []) hf (fun name qual doc pm an cdv ct L F => ?_) (fun name qual doc pm an cdv ct vs hv => ?_)
  · refine SW.cons (S1.assertT ?_ (SW.cons (S1.ret (EJ.var F at1 at1) rfl)))
    refine BJ.to (BJ.or (c := false) (BJ.same (a := kTok) (EJ.callT F gType (LJ.cons (EJ.var F at1 at1) LJ.nil (fun _ => rfl)) (typ_tok hK nm) rfl (by decide) (fun _ => rfl) (fun _ _ => rfl)) (EJ.glb F gTok ?_ rfl (by decide)) (by with_unfolding_all rfl)) fun e => nomatch e) rfl
    exact gen_rep _
  · obtain ⟨v1, v2, rfl⟩ := two_of hv
    rfl
end
end
section
variable {C : Cx}
theorem BJ.inPops {n : Nat} {fi : Fi} {ℓ : List Slot} {pos : Pos} {l r : Expr} {s : Str} (hs : s = "#pop" ∨ s = "#push") (hl : EJ C n fi ℓ l (.str s)) (hr : EJ C n fi ℓ r (.tup [.str "#pop", .str "#push"])) (hm : behindInMarks .In r = false) : BJ C n fi ℓ (.Compare l [.In] [r] pos) true :=
  fun A hb Mo M m cv ad s0 ak R Q E q => wpAny_isTrue_Compare1 (hl A hb Mo M m cv ad s0 ak R _ _ fun v s' g rx => hr A hb Mo M m cv ad s' ak (R.grow g) _ _ fun v' s'' g' ry => by
    obtain ⟨as, ra⟩ := ((rx.mono (hid_grow g'.keep)).mono (hid_sub _ _)).reads (d := .str s) rfl
    obtain ⟨bs, rb⟩ := (ry.mono (hid_sub _ _)).reads (d := .tuple [.str "#pop", .str "#push"]) rfl
    refine PySem.SeqAt.in_tuple_reads rb ra (by decide +kernel) (by rcases hs with rfl | rfl <;> decide +kernel) ?_ (wpAny_truthy_bool (q _ _ (g.trans g') ?_))
    · have := ak.u64
      have z : (PyData.str s).depth = 0 := rfl
      rw [z, Nat.min_zero]
      exact Nat.lt_of_le_of_lt (by omega) this
    · rcases hs with rfl | rfl <;> decide +kernel) hm
section
variable {B : Bx} {K : Frag} (hK : K.In B.h₀)
include hK
theorem new_state_ok (hf : FnAt B.c2 newStateF fNewState) (gIs : B.c2.glb "isinstance" (.builtin "isinstance")) (gStr : B.c2.glb "str" (.type "str")) (gInt : B.c2.glb "int" (.type "int")) (gTup : B.c2.glb "tuple" (.type "tuple")) (gC : B.c2.glb "combined" (.ref cComb)) (e0 : (clsIn K cComb).isSome = true) (e1 : typeIn K (.ref cComb) = some (.type "type"))
    (T : RawTab) (hT : RawOk T) (x d : Addr) (mv : PyData) (hm : RawMove (T.map (·.1)) mv) (hn : mv ≠ .none) : CallJ B.c2 3 (.ref fNewState) [.ext (.gen x), moveAV mv, rawAV T, .ext (.gen d)] (moveAV (procMove mv)) := by
  refine fn_ok (n := 2) (ps := ["cls", "new_state", "unprocessed", "processed"]) (xs := ["tmp_state", "itokens", "istate"]) hf (fun name qual doc pm an cdv ct L F => ?_) (fun name qual doc pm an cdv ct vs hv => ?_)
  · have str : ∀ s : Str, (s = "#pop" ∨ s ∈ T.map (·.1) ∨ s = "#push" ∨ s = "#pop:2") → mv = .str s → SW B.c2 2 (fiOf (fnOf name qual newStateF.params newStateF.body newStateF.scope .none .none doc pm an cdv ct) L fNewState ((["cls", "new_state", "unprocessed", "processed"] : List Str) ++ (["tmp_state", "itokens", "istate"] : List Str))) newStateF.body
        (List.map Slot.fz [.ext (.gen x), .str s, rawAV T, .ext (.gen d)] ++ List.map (fun _ => Slot.un) (["tmp_state", "itokens", "istate"] : List Str)) (fun o => unfz o = some (moveAV (procMove (.str s)))) := fun s hs _ => by
      refine SW.cons (S1.ifT (BJ.isinst F gIs (EJ.var F at1 at1) gStr (T := "str") rfl rfl rfl (by decide) (fun _ => rfl)) ?_)
      refine SW.cons (S1.ifs (b := s == "#pop") (BJ.cmp (EJ.var F at1 at1) (EJ.str _) rfl (by with_unfolding_all rfl)) (fun e => ?_) fun e => ?_)
      · have e : s = "#pop" := by simpa using e
        subst e
        exact SW.cons (S1.ret (EJ.neg (EJ.int _)) rfl)
      have n1 : s ≠ "#pop" := by simpa using e
      refine SW.cons (S1.ifs (b := decide (s ∈ T.map (·.1))) (BJ.inS (ks := T.map fun p : Str × List Rule => p.1) (vs := T.map fun p : Str × List Rule => AV.lst (p.2.map rawRuleAV)) (EJ.var F at1 at1) (EJ.var F at2 at2) (by with_unfolding_all rfl)) (fun e => ?_) fun e => ?_)
      · have hk := of_decide_eq_true e
        refine SW.cons (S1.ret (EJ.tup (LJ.cons (EJ.var F at1 at1) LJ.nil (fun _ => rfl)) (show 1 ≤ sz by decide)) ?_)
        rcases hT.plain s hk with rfl | rfl | rfl <;> rfl
      have n2 := of_decide_eq_false e
      refine SW.cons (S1.ifs (b := s == "#push") (BJ.cmp (EJ.var F at1 at1) (EJ.str _) rfl (by with_unfolding_all rfl)) (fun e => ?_) fun e => ?_)
      · have e : s = "#push" := by simpa using e
        subst e
        exact SW.cons (S1.ret (EJ.var F at1 at1) rfl)
      have n3 : s ≠ "#push" := by simpa using e
      have e : s = "#pop:2" := by
        rcases hs with h | h | h | h
        · exact absurd h n1
        · exact absurd h n2
        · exact absurd h n3
        · exact h
      subst e
      refine SW.cons (S1.ifT (BJ.cmp (x := .str "#pop:") (EJ.slc (EJ.var F at1 at1) PJ.none (PJ.some (EJ.int _)) (by with_unfolding_all rfl)) (EJ.str _) (by with_unfolding_all rfl) (by with_unfolding_all rfl)) ?_)
      refine SW.cons (S1.ret (EJ.neg (EJ.callT F gInt (LJ.cons (EJ.slc (z := .str "2") (EJ.var F at1 at1) (PJ.some (EJ.int _)) PJ.none (by with_unfolding_all rfl)) LJ.nil (fun _ => rfl)) (int_text (k := 2) (by decide +kernel) (by decide +kernel)) rfl (by decide) (fun _ => rfl) (fun _ _ => rfl))) rfl)
    cases hm with
    | none => exact absurd rfl hn
    | pop => exact str _ (.inl rfl) rfl
    | pop2 => exact str _ (.inr (.inr (.inr rfl))) rfl
    | push => exact str _ (.inr (.inr (.inl rfl))) rfl
    | to s hs => exact str s (.inr (.inl hs)) rfl
    | tup l hl hs =>
      have em : moveAV (.tuple (l.map .str)) = .tup (l.map .str) := by
        show AV.tup ((strsOf (l.map .str)).map .str) = _
        rw [strsOf_map]
      show SW _ _ _ _ (List.map Slot.fz [.ext (.gen x), moveAV (.tuple (l.map .str)), rawAV T, .ext (.gen d)] ++ _) (fun o => unfz o = some (moveAV (.tuple (l.map .str))))
      rw [em]
      refine SW.cons (S1.ifF (BJ.isinst F gIs (EJ.var F at1 at1) gStr (T := "str") rfl rfl rfl (by decide) (fun _ => rfl)) ?_)
      refine SW.cons (S1.ifF (BJ.isinstC hK F gIs (EJ.var F at1 at1) gC e0 e1 rfl rfl (by decide) (fun _ => rfl)) ?_)
      refine SW.cons (S1.ifT (BJ.isinst F gIs (EJ.var F at1 at1) gTup (T := "tuple") rfl rfl rfl (by decide) (fun _ => rfl)) ?_)
      refine SW.cons (S1.for_ (a := .tup (l.map .str)) (l := l.map .str) F (EJ.var F at1 at1) rfl
        (fun rest ℓ => ∃ a6 r, ℓ = [.fz (.ext (.gen x)), .fz (.tup (l.map .str)), .fz (rawAV T), .fz (.ext (.gen d)), .un, .un, a6] ∧ rest = r.map .str ∧ ∀ s : Str, s ∈ r → s = "#pop" ∨ s = "#push" ∨ s ∈ T.map (·.1))
        ⟨.un, l, rfl, rfl, hs⟩ (fun a rest ℓ hP => ?_) (fun ℓ hP => ?_) (fun _ _ => rfl))
      · obtain ⟨a6, r, rfl, hr, hrs⟩ := hP
        cases r with
        | nil => cases hr
        | cons s r =>
          injection hr with h1 h2
          subst h1; subst h2
          refine ⟨_, TJ.name F (i := 6) rfl, SW.cons (S1.assertT ?_ (SW.nil ⟨_, r, rfl, rfl, fun s hs => hrs s (.tail _ hs)⟩))⟩
          have h := hrs s (.head _)
          by_cases hk : s ∈ T.map (·.1)
          · exact BJ.to (BJ.or (c := false) (BJ.inS (ks := T.map fun p : Str × List Rule => p.1) (vs := T.map fun p : Str × List Rule => AV.lst (p.2.map rawRuleAV)) (EJ.var F at6 at6) (EJ.var F at2 at2) (by with_unfolding_all rfl)) fun e => by rw [decide_eq_true hk] at e; cases e) (by rw [decide_eq_true hk]; rfl)
          · refine BJ.to (BJ.or (c := true) (BJ.inS (ks := T.map fun p : Str × List Rule => p.1) (vs := T.map fun p : Str × List Rule => AV.lst (p.2.map rawRuleAV)) (EJ.var F at6 at6) (EJ.var F at2 at2) (by with_unfolding_all rfl)) fun _ => BJ.to (BJ.or (c := false) (BJ.inPops ?_ (EJ.var F at6 at6) (EJ.tup (LJ.cons (EJ.str _) (LJ.cons (EJ.str _) LJ.nil (fun _ => rfl)) (fun _ => rfl)) (by decide)) (by with_unfolding_all rfl)) fun e => nomatch e) rfl) (by rw [decide_eq_false hk]; rfl)
            rcases h with h | h | h
            · exact .inl h
            · exact .inr h
            · exact absurd h hk
      · obtain ⟨a6, r, rfl, hr, hrs⟩ := hP
        exact SW.cons (S1.ret (EJ.var F at1 at1) rfl)
  · obtain ⟨v1, v2, v3, v4, rfl⟩ : ∃ a b c d, vs = [a, b, c, d] := match vs, hv with | [a, b, c, d], _ => ⟨a, b, c, d, rfl⟩
    rfl
end
end
section
variable {C : Cx}
/-! ## _process_state -/
def pstateF : Fn := fnIn PySem.Challenge.pw_bf5016_01 37 3
def fPState : Addr := 533
def cIncl : Addr := 321
def cDeft : Addr := 443
theorem BJ.typeIsTup {n : Nat} {fi : Fi} {ℓ : List Slot} {pos p1 p2 p3 : Pos} (F : fi.Ok) (g1 : C.glb "type" (.type "type")) {e : Expr} {l : List AV} (he : EJ C n fi ℓ e (.tup l)) (g2 : C.glb "tuple" (.type "tuple")) (hx : fi.env.kindOf "type" = some .globalImplicit) (hy : fi.env.kindOf "tuple" = some .globalImplicit)
    (hq : ∀ env, starEach [e] env = [(false, eval e env)]) (hm : behindInMarks .Is (.Name "tuple" p2) = false := by with_unfolding_all rfl) : BJ C n fi ℓ (.Compare (.Call (.Name "type" p1) [e] [] p3) [.Is] [.Name "tuple" p2] pos) true :=
  fun A hb Mo M m cv ad s ak R Q E q => by
  refine wpAny_isTrue_Compare1 (Call_ (glb_at F R g1 hx (by decide) ?_)) hm
  rw [hq]
  refine PyProof.Rows.callWith_type rfl (Calls.evalArgs_plain (Calls.spliced_cons (he A hb Mo M m cv ad s ak R _ _ fun v s' g rv => Calls.spliced_nil ?_)))
  obtain ⟨a, vs, rfl, ⟨k, ea⟩, _⟩ := rv.tup_
  refine call_type_of (Tx := "tuple") ⟨_, hid_sub _ _ _ _ ea, rfl⟩ (by decide) ?_
  refine glb_at F (R.grow g) g2 hy (by decide) ?_
  have e : (Value.type "tuple" == Value.type "tuple") = true := by simp
  exact wpAny_pure (a := Value.bool (Value.type "tuple" == Value.type "tuple")) (by rw [e]; exact wpAny_truthy_bool (q _ _ g rfl))
theorem EJ.lenT {n : Nat} {fi : Fi} {ℓ : List Slot} {p pos : Pos} (F : fi.Ok) (g : C.glb "len" (.builtin "len")) {e : Expr} {l : List AV} (he : EJ C n fi ℓ e (.tup l)) (hz : l.length ≤ sz) (hx : fi.env.kindOf "len" = some .globalImplicit) (hq : ∀ env, starEach [e] env = [(false, eval e env)]) :
    EJ C n fi ℓ (.Call (.Name "len" p) [e] [] pos) (.int l.length) := EJ.callB F g (LJ.cons he LJ.nil hq) (len_tup hz) hx (by decide) hq (fun env pos => by rw [hq]; rfl)
theorem SX.st {n : Nat} {fi : Fi} {ℓ : List Slot} {t : Addr} {σ : Type} {T : σ → Tk} {b : σ} {F : Out → σ → Prop} (hT : ∀ b, TkOk t (T b)) {st : Stmt} {rest : List Stmt} (h : S1 C n fi st ℓ (fun o => andThenX C n fi t T rest F o b)) : SX C n fi t T (st :: rest) ℓ b F := SX.cons (SX1.of hT h fun _ h => h)
/-- what the maker's functions lean on -/
structure MkW (B : Bx) (K : Frag) (x : Addr) : Prop where
  regexM : MetJ B.c2 (.gen x) "_process_regex" fRegex
  regexI : IsFn B.c2 fRegex
  regexC : ∀ l k st, CallJ B.c2 1 (.ref fRegex) [.ext (.gen x), .ext (.plain l), .int k, .str st] (.ext (.mat l))
  tokenM : MetJ B.c2 (.gen x) "_process_token" fToken
  tokenI : IsFn B.c2 fToken
  tokenC : ∀ nm, CallJ B.c2 1 (.ref fToken) [.ext (.gen x), .ext (.tok nm)] (.ext (.tok nm))
  newM : MetJ B.c2 (.gen x) "_process_new_state" fNewState
  newI : IsFn B.c2 fNewState
  newC : ∀ (T : RawTab), RawOk T → ∀ (d : Addr) (mv : PyData), RawMove (T.map (·.1)) mv → mv ≠ .none → CallJ B.c2 3 (.ref fNewState) [.ext (.gen x), moveAV mv, rawAV T, .ext (.gen d)] (moveAV (procMove mv))
  flags : GetJ B.c2 (.gen x) "flags" (.int 8)
  gIs : B.c2.glb "isinstance" (.builtin "isinstance")
  gStr : B.c2.glb "str" (.type "str")
  gType : B.c2.glb "type" (.type "type")
  gTup : B.c2.glb "tuple" (.type "tuple")
  gLen : B.c2.glb "len" (.builtin "len")
  gIncl : B.c2.glb "include" (.ref cIncl)
  gInh : B.c2.glb "_inherit" (.ref cInh)
  gDeft : B.c2.glb "default" (.ref cDeft)
  cls : ∀ c, c = cIncl ∨ c = cInh ∨ c = cDeft → (clsIn K c).isSome = true ∧ typeIn K (.ref c) = some (.type "type")
theorem findK_raw {k : Str} : ∀ {T : RawTab} {p : Str × List Rule}, (T.map (·.1)).Nodup → p ∈ T → p.1 = k → findK k (T.map (·.1)) (T.map fun p => AV.lst (p.2.map rawRuleAV)) = some (.lst (p.2.map rawRuleAV))
  | q :: T, p, nd, h, e => by
    simp only [List.map_cons, findK]
    rw [List.map_cons, List.nodup_cons] at nd
    by_cases z : q.1 = k
    · rw [if_pos z]
      rcases List.mem_cons.mp h with h | h
      · rw [h]
      · exact absurd (by rw [z, ← e]; exact List.mem_map_of_mem h) nd.1
    · rw [if_neg z]
      rcases List.mem_cons.mp h with h | h
      · exact absurd (by rw [← h]; exact e) z
      · exact findK_raw nd.2 h e
section
variable {B : Bx} {K : Frag} (hK : K.In B.h₀)
include hK
theorem state_rule {x d t : Addr} (W : MkW B K x) {T : RawTab} (hT : RawOk T) {p : Str × List Rule} (hp : p ∈ T) {n : Nat} (hn : 3 ≤ n) {name qual : Str} {doc pm : Value} {an : Option Addr} {cdv ct : Value} {L : Addr}
    (F : (fiOf (fnOf name qual pstateF.params pstateF.body pstateF.scope .none .none doc pm an cdv ct) L fPState ((["cls", "unprocessed", "processed", "state"] : List Str) ++ (["tokens", "rflags", "tdef", "new_state", "rex", "token"] : List Str))).Ok) {a6 a7 a8 a9 : Slot} {r : Rule} (hr : r ∈ p.2) {β : List AV} (hβ : β.length ≤ 100) :
    ∃ ℓ', TJ B.c2 n (fiOf (fnOf name qual pstateF.params pstateF.body pstateF.scope .none .none doc pm an cdv ct) L fPState ((["cls", "unprocessed", "processed", "state"] : List Str) ++ (["tokens", "rflags", "tdef", "new_state", "rex", "token"] : List Str))) (.Name "tdef" ⟨317, 12, 317, 16⟩) (rawRuleAV r)
        [.fz (.ext (.gen x)), .fz (rawAV T), .fz (.ext (.gen d)), .fz (.str p.1), .fz (.ext (.gen t)), .fz (.int 8), a6, a7, a8, a9] ℓ' ∧
      SX B.c2 n (fiOf (fnOf name qual pstateF.params pstateF.body pstateF.scope .none .none doc pm an cdv ct) L fPState ((["cls", "unprocessed", "processed", "state"] : List Str) ++ (["tokens", "rflags", "tdef", "new_state", "rex", "token"] : List Str))) t (LT B.c2 t) (forBody (nth pstateF.body 5)) ℓ' β
        (fun o b => ∃ a6 a7 a8 a9, o = .nxt [.fz (.ext (.gen x)), .fz (rawAV T), .fz (.ext (.gen d)), .fz (.str p.1), .fz (.ext (.gen t)), .fz (.int 8), a6, a7, a8, a9] ∧ b = β ++ [ruleAV (procRule r)]) := by
  have zz := sz_eq
  have tk := LT.ok (C := B.c2) (t := t)
  obtain ⟨l, nm, mv⟩ := r
  have hraw := (hT.rules p hp).2 _ hr
  have hlen : ([AV.ext (.plain l), .ext (.tok nm)] ++ mvTail mv).length ≤ sz := by
    have : (mvTail mv).length ≤ 1 := by cases mv <;> simp [mvTail]
    simp only [List.length_append, List.length_cons, List.length_nil]; omega
  refine ⟨_, TJ.name F (i := 6) rfl, ?_⟩
  refine SX.st tk (S1.ifF (BJ.isinstC hK F W.gIs (EJ.var F at6 at6) W.gIncl (W.cls _ (.inl rfl)).1 (W.cls _ (.inl rfl)).2 rfl rfl (by decide) (fun _ => rfl)) (SW.nil ?_))
  refine SX.st tk (S1.ifF (BJ.isinstC hK F W.gIs (EJ.var F at6 at6) W.gInh (W.cls _ (.inr (.inl rfl))).1 (W.cls _ (.inr (.inl rfl))).2 rfl rfl (by decide) (fun _ => rfl)) (SW.nil ?_))
  refine SX.st tk (S1.ifF (BJ.isinstC hK F W.gIs (EJ.var F at6 at6) W.gDeft (W.cls _ (.inr (.inr rfl))).1 (W.cls _ (.inr (.inr rfl))).2 rfl rfl (by decide) (fun _ => rfl)) (SW.nil ?_))
  refine SX.st tk (S1.assertT (BJ.typeIsTup F W.gType (EJ.var F at6 at6) W.gTup rfl rfl (fun _ => rfl) (by with_unfolding_all rfl)) ?_)
  have i0 : opIdx (.tup ([AV.ext (.plain l), .ext (.tok nm)] ++ mvTail mv)) (.int 0) = some (.ext (.plain l)) := by
    show (if decide (_ ≤ sz) = true then _ else none) = _
    rw [if_pos (decide_eq_true hlen)]; rfl
  have i1 : opIdx (.tup ([AV.ext (.plain l), .ext (.tok nm)] ++ mvTail mv)) (.int 1) = some (.ext (.tok nm)) := by
    show (if decide (_ ≤ sz) = true then _ else none) = _
    rw [if_pos (decide_eq_true hlen)]; rfl
  refine SX.st tk (S1.assign (a := .ext (.mat l)) F at8 (EJ.meth (EJ.var F at0 at0) W.regexM W.regexI (LJ.cons (EJ.idx (EJ.var F at6 at6) (EJ.int 0) i0 (fun _ _ _ _ h => by cases h)) (LJ.cons (EJ.var F at5 at5) (LJ.cons (EJ.var F at3 at3) LJ.nil (fun _ => rfl)) (fun _ => rfl)) (fun _ => rfl)) ((W.regexC l 8 p.1).less (by omega)) (fun _ => rfl) rfl (fun _ => rfl) (fun _ => rfl)) ?_ (.inl rfl) rfl)
  refine SX.st tk (S1.assign (a := .ext (.tok nm)) F at9 (EJ.meth (EJ.var F at0 at0) W.tokenM W.tokenI (LJ.cons (EJ.idx (EJ.var F at6 at6) (EJ.int 1) i1 (fun _ _ _ _ h => by cases h)) LJ.nil (fun _ => rfl)) ((W.tokenC nm).less (by omega)) (fun _ => rfl) rfl (fun _ => rfl) (fun _ => rfl)) ?_ (.inl rfl) rfl)
  have fin : ∀ v, v = moveAV (procMove mv) → SX B.c2 n (fiOf (fnOf name qual pstateF.params pstateF.body pstateF.scope .none .none doc pm an cdv ct) L fPState ((["cls", "unprocessed", "processed", "state"] : List Str) ++ (["tokens", "rflags", "tdef", "new_state", "rex", "token"] : List Str))) t (LT B.c2 t) [nth (forBody (nth pstateF.body 5)) 7] [.fz (.ext (.gen x)), .fz (rawAV T), .fz (.ext (.gen d)), .fz (.str p.1), .fz (.ext (.gen t)), .fz (.int 8), .fz (rawRuleAV (l, nm, mv)), .fz v, .fz (.ext (.mat l)), .fz (.ext (.tok nm))] β (fun o b => ∃ a6 a7 a8 a9, o = .nxt [.fz (.ext (.gen x)), .fz (rawAV T), .fz (.ext (.gen d)), .fz (.str p.1), .fz (.ext (.gen t)), .fz (.int 8), a6, a7, a8, a9] ∧ b = β ++ [ruleAV (procRule (l, nm, mv))]) := fun v ev => by
    subst ev
    refine SX.cons (SX1.append F at4 at4 (EJ.tup (LJ.cons (EJ.var F at8 at8) (LJ.cons (EJ.var F at9 at9) (LJ.cons (EJ.var F at7 at7) LJ.nil (fun _ => rfl)) (fun _ => rfl)) (fun _ => rfl)) (show 3 ≤ sz by decide)) (SX.nil ?_) rfl (by omega) rfl (fun _ => rfl) (fun _ => rfl))
    exact ⟨_, _, _, _, rfl, rfl⟩
  refine SX.st tk (F := _) (S1.ifs (b := ((([AV.ext (.plain l), .ext (.tok nm)] ++ mvTail mv).length : Int) == 2)) (BJ.cmp (EJ.lenT F W.gLen (EJ.var F at6 at6) hlen rfl (fun _ => rfl)) (EJ.int 2) rfl (by with_unfolding_all rfl)) (fun e => ?_) fun e => ?_)
  · have e : (2 + (mvTail mv).length) = 2 := by
      have := (beq_iff_eq).mp e
      simp only [List.length_append, List.length_cons, List.length_nil] at this
      omega
    refine SW.cons (S1.assign (a := .none) F at7 EJ.none (SW.nil (fin _ ?_)) (.inl rfl) rfl)
    cases mv <;> first | rfl | (simp [mvTail] at e)
  · have hmv : mvTail mv = [moveAV mv] := by
      cases mv <;> first | rfl | (simp [mvTail] at e)
    have hne : mv ≠ .none := fun z => by subst z; cases hmv
    have i2 : opIdx (.tup ([AV.ext (.plain l), .ext (.tok nm)] ++ mvTail mv)) (.int 2) = some (moveAV mv) := by
      show (if decide (_ ≤ sz) = true then _ else none) = _
      rw [if_pos (decide_eq_true hlen), hmv]; rfl
    refine SW.cons (S1.assign (a := moveAV (procMove mv)) F at7 (EJ.meth (EJ.var F at0 at0) W.newM W.newI (LJ.cons (EJ.idx (EJ.var F at6 at6) (EJ.int 2) i2 (fun _ _ _ _ h => by cases h)) (LJ.cons (EJ.var F at1 at1) (LJ.cons (EJ.var F at2 at2) LJ.nil (fun _ => rfl)) (fun _ => rfl)) (fun _ => rfl)) ((W.newC T hT d mv hraw hne).less hn) (fun _ => rfl) rfl (fun _ => rfl) (fun _ => rfl)) (SW.nil (fin _ rfl)) (.inl rfl) rfl)
end
end
section
variable {C : Cx}
theorem fz_map4 (a b c d : AV) : (List.map Slot.fz [a, b, c, d] ++ List.map (fun _ => Slot.un) (["tokens", "rflags", "tdef", "new_state", "rex", "token"] : List Str)) = [.fz a, .fz b, .fz c, .fz d, .un, .un, .un, .un, .un, .un] := rfl
section
variable {B : Bx} {K : Frag} (hK : K.In B.h₀)
include hK
theorem pstate_ok {x d : Addr} (W : MkW B K x) {T : RawTab} (hT : RawOk T) {p : Str × List Rule} (hp : p ∈ T) (hf : FnAt B.c2 pstateF fPState) {A : Around} {M : List Addr} {s : Shared} {vs : List Value} {ks : List Str} {ws : List Value} {R : Result → Shared → Prop} (ak : AOk 5 A) (h0 : Sub B.h₀ (hid s.heap M)) (hM : ∀ a ∈ M, ∃ o, s.heap.get? a = some o) (hM0 : ∀ a ∈ M, B.h₀.get? a = none) (dM : d ∈ M)
    (hds : (d == sysModules) = false) (hD : s.heap.DictOf (sK B.c2) d (ks.zip ws)) (hlen : ks.length = ws.length) (hnew : p.1 ∉ ks) (hz : ks.length ≤ 100) (rl : RepL B.c2 (hid s.heap M) [.ext (.gen x), rawAV T, .ext (.gen d), .str p.1] vs)
    (q : ∀ s' t v, Mv s s' → (∀ b o, b ≠ d → s.heap.get? b = some o → s'.heap.get? b = some o) → s'.heap.DictOf (sK B.c2) d ((ks ++ [p.1]).zip (ws ++ [.ref t])) → Rep B.c2 (hid s'.heap M) (.lst (p.2.map fun r => ruleAV (procRule r))) (.ref t) → R (.ok (.ret v)) s') :
    codeAny (model B.prog B.w) A (.call (.ref fPState) ⟨vs, []⟩) R s := by
  have zz := sz_eq
  obtain ⟨name, qual, oc, od, osl, doc, pm, an, cdv, ct, ho, hcd⟩ := hf
  have hkd : ∀ x ∈ (((["cls", "unprocessed", "processed", "state"] : List Str) ++ (["tokens", "rflags", "tdef", "new_state", "rex", "token"] : List Str))), pstateF.scope.names.lookup x = some .local ∨ pstateF.scope.names.lookup x = some .cell := by decide
  refine call_begin (C := B.c2) (n := 4) (args := ⟨vs, []⟩) (fd := fnOf name qual pstateF.params pstateF.body pstateF.scope .none .none doc pm an cdv ct) (ps := ["cls", "unprocessed", "processed", "state"]) (xs := ["tokens", "rflags", "tdef", "new_state", "rex", "token"]) ho rfl hcd rfl rfl rfl rfl rfl rfl rfl
    (BindJ.plain (C := B.c2) (as := [.ext (.gen x), rawAV T, .ext (.gen d), .str p.1]) ?_ rl) rfl (by decide) hkd (by decide) ak h0 hM hM0 fun L s0 s1 M1 m1 cv1 F ow g0 g1 ak1 R1 E1 => ?_
  · obtain ⟨v1, v2, v3, v4, rfl⟩ : ∃ a b c d, vs = [a, b, c, d] := match vs, rl.length with | [a, b, c, d], _ => ⟨a, b, c, d, rfl⟩
    rfl
  rw [fz_map4] at R1
  obtain ⟨od0, hod0, hdo0⟩ := DO.of (dictOf_mono g0.keep hD)
  -- two asserts
  refine wpAny_execs_cons (S1.raw (S1.assertT (BJ.isinst F W.gIs (EJ.var F at3 at3) W.gStr (T := "str") rfl rfl rfl (by decide) (fun _ => rfl)) rfl) ak1 ow R1 fun s2 M2 m2 cv2 ad2 mv2 R2 => ?_)
  obtain ⟨c0, hc0, hcne⟩ : ∃ c : Str, opIdx (.str p.1) (.int 0) = some (.str c) ∧ opCmp .NotEq (.str c) (.str "#") = some (.bool true) := by
    rcases hT.plain p.1 (List.mem_map_of_mem hp) with e | e | e <;> rw [e]
    · exact ⟨"r", by with_unfolding_all rfl, by with_unfolding_all rfl⟩
    · exact ⟨"p", by with_unfolding_all rfl, by with_unfolding_all rfl⟩
    · exact ⟨"q", by with_unfolding_all rfl, by with_unfolding_all rfl⟩
  refine wpAny_execs_cons (S1.raw (S1.assertT (BJ.cmp (EJ.idx (EJ.var F at3 at3) (EJ.int 0) hc0 (fun _ _ _ _ h => by cases h)) (EJ.str _) hcne (by with_unfolding_all rfl)) rfl) ak1 ow R2 fun s3 M3 m3 cv3 ad3 mv3 R3 => ?_)
  -- if state in processed
  refine wpAny_execs_cons (wpAny_If (wpAny_isTrue_Compare1 ((EJ.var F at3 at3) _ _ _ _ _ _ _ _ ak1 R3 _ _ fun v s4 g4 rx => (EJ.var F at2 at2) _ _ _ _ _ _ _ _ ak1 (R3.grow g4) _ _ fun v' s5 g5 ry => ?_) (by with_unfolding_all rfl)))
  obtain ⟨tk, rfl⟩ := rx.str_
  have ed : v' = .ref d := B.c2.gen.mp ry.ext_
  subst ed
  have R5 := (R3.grow g4).grow g5
  refine wpAny_in_of (knd := sK B.c2) (k := p.1) (strKind_is _ _ _ _) hds (hdo0 _ (R5.base _ _ hod0)).mapOf (wpAny_truthy_bool ?_)
  have en : (valueAt (ks.zip ws) p.1).isSome = false := by rw [value_some hlen, decide_eq_false hnew]
  rw [en]
  have R6 := R5.grow (.toks (s5.toks + 1))
  refine wpAny_execs_nil (wpAny_execs_cons ?_)
  refine set_new (ℓ := [.fz (.ext (.gen x)), .fz (rawAV T), .fz (.ext (.gen d)), .fz (.str p.1), .un, .un, .un, .un, .un, .un]) (d := d) (key := p.1) F rfl at4 (by simp) (fun t => EJ.var F at2 at2) (fun t => EJ.var F at3 at3) ak1 ow R6 (o0 := { cls := .type "list", data := .seq #[] }) (fun Q E q => wpAny_List_spliced (Calls.spliced_nil ⟨by simp, q⟩)) rfl dM hod0 hdo0 hlen hnew (by omega) rfl rfl fun s7 M7 m7 cv7 ad7 t od' mv7 nt _ ow7 R7 hdo' => ?_
  refine wpAny_execs_cons (S1.raw (ℓ' := _) (S1.assign (a := .int 8) (n := 4) F at5 (EJ.attr (EJ.var F at0 at0) W.flags (fun _ => rfl)) rfl (.inl rfl) rfl) ak1 ow7 R7 fun s8 M8 m8 cv8 ad8 mv8 R8 => ?_)
  have nd : d ≠ t := fun z => by
    have := R6.base _ _ hod0
    rw [z, nt] at this; cases this
  have et8 := R8.base t _ (.inl ⟨rfl, rfl⟩)
  have R9 : Rel B.c2 (fun b x => b ≠ t ∧ (if b = d then x = od' else s0.heap.get? b = some x)) (t :: M) _ M8 m8 cv8 ad8 _ s8 := R8.back (fun b x h => .inr h.2) (fun _ h => h) fun b h => .inl h
  have tk := LT.ok (C := B.c2) (t := t)
  have hrules := (hT.rules p hp).1
  have main : SX B.c2 4 (fiOf (fnOf name qual pstateF.params pstateF.body pstateF.scope .none .none doc pm an cdv ct) L fPState ((["cls", "unprocessed", "processed", "state"] : List Str) ++ (["tokens", "rflags", "tdef", "new_state", "rex", "token"] : List Str))) t (LT B.c2 t) (pstateF.body.drop 5)
      [.fz (.ext (.gen x)), .fz (rawAV T), .fz (.ext (.gen d)), .fz (.str p.1), .fz (.ext (.gen t)), .fz (.int 8), .un, .un, .un, .un] [] (fun o β => o = .ret (.ext (.gen t)) ∧ β = p.2.map fun r => ruleAV (procRule r)) := by
    refine SX.cons (SX1.for_ tk F (EJ.idx (EJ.var F at1 at1) (EJ.var F at3 at3) (findK_raw hT.nd hp rfl) (fun _ _ _ _ h => by cases h)) rfl
      (fun rest ℓ β => ∃ j a6 a7 a8 a9, ℓ = [.fz (.ext (.gen x)), .fz (rawAV T), .fz (.ext (.gen d)), .fz (.str p.1), .fz (.ext (.gen t)), .fz (.int 8), a6, a7, a8, a9] ∧ rest = (p.2.drop j).map rawRuleAV ∧ β = (p.2.take j).map (fun r => ruleAV (procRule r)) ∧ j ≤ p.2.length)
      ⟨0, .un, .un, .un, .un, rfl, rfl, rfl, Nat.zero_le _⟩ (fun a rest ℓ β hP => ?_) (fun ℓ β hP => ?_) (fun _ _ => rfl))
    · obtain ⟨j, a6, a7, a8, a9, rfl, hr, rfl, hj⟩ := hP
      obtain ⟨r, hrj⟩ : ∃ r, p.2[j]? = some r := by
        cases e : p.2[j]? with
        | some r => exact ⟨r, rfl⟩
        | none => rw [List.drop_eq_nil_of_le (List.getElem?_eq_none_iff.mp e)] at hr; cases hr
      have hlt := (List.getElem?_eq_some_iff.mp hrj).1
      rw [List.drop_eq_getElem_cons hlt, (List.getElem?_eq_some_iff.mp hrj).2] at hr
      injection hr with hr1 hr2
      subst hr1; subst hr2
      obtain ⟨ℓ', h1, h2⟩ := state_rule (d := d) (t := t) (name := name) (qual := qual) (doc := doc) (pm := pm) (an := an) (cdv := cdv) (ct := ct) (L := L) (a6 := a6) (a7 := a7) (a8 := a8) (a9 := a9) (r := r) hK W hT hp (n := 4) (by decide) F (List.mem_of_getElem? hrj) (β := (p.2.take j).map (fun r => ruleAV (procRule r))) (by rw [List.length_map, List.length_take]; omega)
      refine ⟨ℓ', h1, h2.mono fun o b hb => ?_⟩
      obtain ⟨b6, b7, b8, b9, rfl, rfl⟩ := hb
      refine ⟨j + 1, b6, b7, b8, b9, rfl, rfl, ?_, hlt⟩
      rw [List.take_add_one, hrj, List.map_append]; rfl
    · obtain ⟨j, a6, a7, a8, a9, rfl, hr, rfl, hj⟩ := hP
      have : p.2.length ≤ j := by
        have := congrArg List.length hr
        simp at this
        omega
      rw [List.take_of_length_le this]
      exact SX.st tk (S1.ret (EJ.var F at4 at4) ⟨rfl, rfl⟩)
  refine main _ _ (t :: M) M8 m8 cv8 ad8 s8 ak1 ow7 (.head _) (fun x z => z.1 rfl) R9 ⟨[], ⟨0, et8⟩, .nil⟩ _ _ fun o β f s9 hoβ af => ?_
  obtain ⟨rfl, rfl⟩ := hoβ
  cases f <;> first | exact af.elim | skip
  obtain ⟨mv9, G, ws9, la, rl9⟩ := af
  have ntM : t ∉ M := fun z => by
    obtain ⟨o, e⟩ := R6.has t (R6.mO _ z)
    rw [nt] at e; cases e
  have ed9 : s9.heap.get? d = some od' := G.base d od' ⟨nd, by rw [if_pos rfl]⟩
  refine q s9 t _ ((g0.mv.trans g1.mv).trans (mv2.trans (mv3.trans (g4.mv.trans (g5.mv.trans ((Grow.toks (s5.toks + 1)).mv.trans (mv7.trans (mv8.trans mv9)))))))) (fun b o nb e => ?_) (hdo' _ ed9) ?_
  · refine G.base b o ⟨fun z => ?_, ?_⟩
    · subst z
      have := R6.base _ _ (g0.keep _ _ e)
      rw [nt] at this; cases this
    · rw [if_neg nb]; exact g0.keep _ _ e
  · obtain ⟨k, ek⟩ := la
    exact .lst ⟨k, hid_get ek ntM⟩ (rl9.mono (hid_mono (fun _ _ _ e => e) fun b h => .tail _ h))
end
end
section
variable {C : Cx}
/-! ## process_tokendef -/
def ptokF : Fn := fnIn PySem.Challenge.pw_bf5016_01 37 4
def fPTok : Addr := 541
theorem EJ.orD {C : Cx} {n : Nat} {fi : Fi} {ℓ : List Slot} {pos : Pos} {e e2 : Expr} {rest : List Expr} {ks : List Str} {l : List AV} (h : EJ C n fi ℓ e (.dS ks l)) (hne : ks ≠ []) (hz : ks.length ≤ sz) : EJ C n fi ℓ (.BoolOp .Or (e :: e2 :: rest) pos) (.dS ks l) := fun A hb Mo M m cv ad s ak R Q E q =>
  BoolOp_or (h A hb Mo M m cv ad s ak R _ _ fun v s' g rv => by
    obtain ⟨d, ws, rfl, hds, hlen, hD, rl⟩ := id rv.dS_
    have kl : (ks.zip ws).length = ks.length := by rw [List.length_zip]; omega
    refine wpAny_truthy_dict hds (dictOf_mono (hid_sub _ _) hD) (by rw [kl]; have := sz_eq; omega) ?_
    have e : (ks.zip ws).isEmpty = false := by
      cases z : ks.zip ws with
      | nil => rw [z] at kl; exact absurd (List.length_eq_zero_iff.mp kl.symm) hne
      | cons _ _ => rfl
    rw [e]
    exact q _ _ (g.trans (.toks _)) rv)
/-- a dict that is held by more than one name -/
def DT (C : Cx) (d : Addr) (β : List Str × List AV) : Tk := fun h M => ∃ ws, β.1.length = ws.length ∧ h.DictOf (sK C) d (β.1.zip ws) ∧ RepL C (hid h M) β.2 ws
theorem DT.ok {C : Cx} {d : Addr} (β : List Str × List AV) : TkOk d (DT C d β) := fun h h' M M' ⟨ws, hl, ⟨o, es, ep, e, t⟩, rl⟩ k kt => ⟨ws, hl, ⟨o, es, ep, kt _ e, t⟩, rl.mono k⟩
def rulesAV (p : Str × List Rule) : AV := .lst (p.2.map fun r => ruleAV (procRule r))
theorem tok_eq (T : RawTab) : tokAV (procTab T) = .dS (T.map (·.1)) (T.map rulesAV) := by
  unfold tokAV procTab rulesAV
  simp only [List.map_map, Function.comp_def]
section
variable {B : Bx} {K : Frag} (hK : K.In B.h₀)
include hK
/-- cls._process_state(tokendefs, processed, state), a statement -/
theorem pstate_call {x d : Addr} (W : MkW B K x) (psM : MetJ B.c2 (.gen x) "_process_state" fPState) (hf : FnAt B.c2 pstateF fPState) {T : RawTab} (hT : RawOk T) {p : Str × List Rule} (hp : p ∈ T) (hds : (d == sysModules) = false) {n : Nat} (hn : 5 ≤ n) {fi : Fi} {ℓ : List Slot} (F : fi.Ok) (hown : fi.own = true) {e0 e1 e2 e3 : Expr} {p2 p3 pos : Pos}
    (h0 : EJ B.c2 n fi ℓ e0 (.ext (.gen x))) (h1 : EJ B.c2 n fi ℓ e1 (rawAV T)) (h2 : EJ B.c2 n fi ℓ e2 (.ext (.gen d))) (h3 : EJ B.c2 n fi ℓ e3 (.str p.1)) {β : List Str × List AV} (hnew : p.1 ∉ β.1) (hz : β.1.length ≤ 100) {G : Out → List Str × List AV → Prop} (h : G (.nxt ℓ) (β.1 ++ [p.1], β.2 ++ [rulesAV p]))
    (hbase : ∀ env, attributeBase e0 "_process_state" env (eval e0 env) = eval e0 env) (hline : (p2.endLine == p3.line) = true)
    (hfew : ∀ env, ((backTo p3 (starEach [e1, e2, e3] env)).all (fun x => !x.1) && (backToKw p3 (keywordEach [] env)).all (fun x => x.1.isSome)
      && decide ([e1, e2, e3].length + ([] : List Keyword).length + (if ([] : List Keyword).isEmpty then 0 else 1) < 30)) = true)
    (hq1 : ∀ env, starEach [e1, e2, e3] env = (false, eval e1 env) :: starEach [e2, e3] env) (hq2 : ∀ env, starEach [e2, e3] env = (false, eval e2 env) :: starEach [e3] env) (hq3 : ∀ env, starEach [e3] env = (false, eval e3 env) :: starEach [] env)
    (hint : ∀ env, env.scope.kind = .function → interactive env = false := by intro env h; unfold interactive; rw [h]; rfl) :
    SX1 B.c2 n fi d (DT B.c2 d) (.Expr (.Call (.Attribute e0 "_process_state" p2) [e1, e2, e3] [] p3) pos) ℓ β G := fun A hb Mo M m cv ad s ak ow ht hn0 R hT0 Q E q => by
  refine wpAny_Expr_any ?_ (hint _ F.fn) rfl
  refine meth_core (C := B.c2) (hbase _) (hfew _) hline (h0 A hb Mo M m cv ad s ak R _ _ fun v s1 g1 rv => ⟨.ref fPState, fun pl Q E q => psM A M s1 v pl Q E (R.grow g1).glob rv.ext_ q, ?_⟩)
  obtain ⟨fd, ob, e1', e2'⟩ : ∃ fd ob, B.c2.h₀.get? fPState = some ob ∧ ob.data = .func fd := by
    obtain ⟨name, qual, oc, od, osl, doc, pm, an, cdv, ct, ho, hcd⟩ := hf
    exact ⟨_, _, ho, rfl⟩
  have R1 := R.grow g1
  refine Calls.callWith_function (o := ob) (fd := fd) (args_ok (C := B.c2) (LJ.cons h1 (LJ.cons h2 (LJ.cons h3 LJ.nil hq3) hq2) hq1) ak R1 hq1 _ _ fun a s2 g2 ra => ⟨⟨(R1.grow g2).base0 _ _ e1', e2'⟩, ?_⟩)
  rw [ra.1]
  have R2 := R1.grow g2
  obtain ⟨ws, hlen, hD, rl⟩ := DT.ok β _ _ _ _ hT0 (hid_grow (g1.trans g2).keep) fun o e => (g1.trans g2).keep _ _ e
  have dM := R2.mO d ht
  refine wpAny_call (pstate_ok hK W hT hp hf (ak.less hn) R2.glob R2.has R2.new0 dM hds hD hlen hnew hz (.cons (rv.mono (hid_grow g2.keep)) ra.2) fun s3 t v mv3 k3 hD3 r3 => ?_)
  have R3 := R2.shift (s' := s3) (hb' := hb) (Mo' := Mo) (fun b x nb e => k3 b x (fun z => nb (z ▸ ht)) e) (fun b h => .inl h) (fun b hb' => by
    by_cases z : b = d
    · obtain ⟨o, es, ep, e, _⟩ := hD3
      exact ⟨o, z ▸ e⟩
    · obtain ⟨o, e⟩ := R2.has b (R2.mO b hb')
      exact ⟨o, k3 b o z e⟩) (fun b x z => k3 b x (fun w => hn0 x (w ▸ z)) (R2.base b x z)) (fun b hm hnm x z => ((R2.new b hm).resolve_left hnm) x z) (fun i x c e => ow hown i x c e)
  have sub : ∀ b, b ∈ Mo ++ M.filter (fun b => decide (b ∉ Mo)) → b ∈ M := fun b h => by
    rcases List.mem_append.mp h with z | z
    · exact R2.mO b z
    · exact (List.mem_filter.mp z).1
  show Q .next s3
  refine q _ _ _ _ h ⟨(g1.trans g2).mv.trans mv3, _, m, cv, ad, R3, ws ++ [.ref t], by simp [hlen], hD3, ?_⟩
  refine (rl.mono fun b x e => ?_).snoc (r3.mono (hid_mono (fun _ _ _ e => e) sub))
  exact hid_get (k3 b x (fun z => hid_not e (z ▸ dM)) (hid_sub _ _ _ _ e)) fun z => hid_not e (sub b z)
end
end
section
variable {C : Cx}
theorem fz_map3 (a b c : AV) : (List.map Slot.fz [a, b, c] ++ List.map (fun _ => Slot.un) (["processed", "state"] : List Str)) = [.fz a, .fz b, .fz c, .un, .un] := rfl
section
variable {B : Bx} {K : Frag} (hK : K.In B.h₀)
include hK
theorem ptok_ok {x e : Addr} (W : MkW B K x) (psM : MetJ B.c2 (.gen x) "_process_state" fPState) (hf : FnAt B.c2 pstateF fPState) (hft : FnAtD B.c2 ptokF fPTok .none) (gAll : GetJ B.c2 (.gen x) "_all_tokens" (.ext (.gen e))) (gList : B.c2.glb "list" (.type "list")) {T : RawTab} (hT : RawOk T)
    {A : Around} {M : List Addr} {s : Shared} {vs : List Value} {R : Result → Shared → Prop} (ak : AOk 6 A) (h0 : Sub B.h₀ (hid s.heap M)) (hM : ∀ a ∈ M, ∃ o, s.heap.get? a = some o) (hM0 : ∀ a ∈ M, B.h₀.get? a = none) (eM : e ∈ M)
    (hD : s.heap.DictOf (sK B.c2) e []) (rl : RepL B.c2 (hid s.heap M) [.ext (.gen x), .str "", rawAV T] vs)
    (q : ∀ s' v, Mv s s' → (∀ b o, b ≠ e → s.heap.get? b = some o → s'.heap.get? b = some o) → (∃ o, s'.heap.get? e = some o) → Rep B.c2 (hid s'.heap M) (tokAV (procTab T)) v → R (.ok (.ret v)) s') :
    codeAny (model B.prog B.w) A (.call (.ref fPTok) ⟨vs, []⟩) R s := by
  have zz := sz_eq
  obtain ⟨name, qual, oc, od, osl, doc, pm, an, cdv, ct, dT, oT, dv, k, ho, hcd, hoT, hdT, rd⟩ := hft
  have few := hT.few
  have hkd : ∀ x ∈ ((["cls", "name", "tokendefs"] : List Str) ++ (["processed", "state"] : List Str)), ptokF.scope.names.lookup x = some .local ∨ ptokF.scope.names.lookup x = some .cell := by decide
  refine call_begin (C := B.c2) (n := 5) (args := ⟨vs, []⟩) (fd := fnOf name qual ptokF.params ptokF.body ptokF.scope (.ref dT) .none doc pm an cdv ct) (ps := ["cls", "name", "tokendefs"]) (xs := ["processed", "state"]) ho rfl hcd rfl rfl rfl rfl rfl rfl rfl
    (as := [.ext (.gen x), .str "", rawAV T]) (fun A' Q' E' q' => ?_) rfl (by decide) hkd (by decide) ak h0 hM hM0 fun L s0 s1 M1 m1 cv1 F ow g0 g1 ak1 R1 E1 => ?_
  · obtain ⟨v1, v2, v3, rfl⟩ := three_of rl.length.symm
    exact BindsTo.of_defaults (s := s) (binds := (["cls", "name", "tokendefs"] : List Str).zip [v1, v2, v3]) rfl (hid_sub _ _ _ _ (h0 _ _ hoT)) hdT rfl rfl _ _ _ _ (q' _ _ (.refl _) ⟨_, rfl, rl⟩)
  rw [fz_map3] at R1
  obtain ⟨oe0, hoe0, hdo0⟩ := DO.of (dictOf_mono g0.keep hD)
  refine wpAny_execs_cons ?_
  refine set_new (ℓ := [.fz (.ext (.gen x)), .fz (.str ""), .fz (rawAV T), .un, .un]) (d := e) (key := "") (ks := []) (ws := []) F rfl at3 (by simp) (fun t => EJ.attr (EJ.var F at0 at0) gAll (fun _ => rfl)) (fun t => EJ.var F at1 at1) ak1 ow R1 (o0 := { cls := .type "dict", data := .dict #[] }) (fun Q E q => wpAny_Dict_empty q) rfl eM hoe0 hdo0 rfl (by simp) (by simp) rfl rfl fun s7 M7 m7 cv7 ad7 d oe' mv7 nd nsys ow7 R7 hdo' => ?_
  have ne : e ≠ d := fun z => by
    have := R1.base _ _ hoe0
    rw [z, nd] at this; cases this
  have hks : T.map (·.1) ≠ [] := fun z => by have := hT.root; rw [z] at this; cases this
  refine wpAny_execs_cons (S1.raw (ℓ' := _) (S1.assign (a := rawAV T) (n := 5) F at2 (EJ.orD (EJ.var F at2 at2) hks (by simp; omega)) rfl (.inl rfl) rfl) ak1 ow7 R7 fun s8 M8 m8 cv8 ad8 mv8 R8 => ?_)
  have ed8 := R8.base d _ (.inl ⟨rfl, rfl⟩)
  have R9 : Rel B.c2 (fun b x => b ≠ d ∧ (if b = e then x = oe' else s0.heap.get? b = some x)) (d :: M) _ M8 m8 cv8 ad8 _ s8 := R8.back (fun b x h => .inr h.2) (fun _ h => h) fun b h => .inl h
  have tk := DT.ok (C := B.c2) (d := d)
  have main : SX B.c2 5 (fiOf (fnOf name qual ptokF.params ptokF.body ptokF.scope (.ref dT) .none doc pm an cdv ct) L fPTok ((["cls", "name", "tokendefs"] : List Str) ++ (["processed", "state"] : List Str))) d (DT B.c2 d) (ptokF.body.drop 2)
      [.fz (.ext (.gen x)), .fz (.str ""), .fz (rawAV T), .fz (.ext (.gen d)), .un] ([], []) (fun o β => o = .ret (.ext (.gen d)) ∧ β = (T.map (·.1), T.map rulesAV)) := by
    refine SX.cons (SX1.for_ tk F (EJ.callT F gList (LJ.cons (EJ.var F at2 at2) LJ.nil (fun _ => rfl)) (list_keys (ks := T.map fun p : Str × List Rule => p.1) (l := T.map fun p : Str × List Rule => AV.lst (p.2.map rawRuleAV)) (by simp; omega)) rfl (by decide) (fun _ => rfl) (fun _ _ => rfl)) rfl
      (fun rest ℓ β => ∃ j a4, ℓ = [.fz (.ext (.gen x)), .fz (.str ""), .fz (rawAV T), .fz (.ext (.gen d)), a4] ∧ rest = (T.drop j).map (fun p => AV.str p.1) ∧ β = ((T.take j).map (·.1), (T.take j).map rulesAV) ∧ j ≤ T.length)
      ⟨0, .un, rfl, by rw [List.map_map]; rfl, rfl, Nat.zero_le _⟩ (fun a rest ℓ β hP => ?_) (fun ℓ β hP => ?_) (fun _ _ => rfl))
    · obtain ⟨j, a4, rfl, hr, rfl, hj⟩ := hP
      obtain ⟨p, hpj⟩ : ∃ p, T[j]? = some p := by
        cases e : T[j]? with
        | some r => exact ⟨r, rfl⟩
        | none => rw [List.drop_eq_nil_of_le (List.getElem?_eq_none_iff.mp e)] at hr; cases hr
      have hlt := (List.getElem?_eq_some_iff.mp hpj).1
      have hpe := (List.getElem?_eq_some_iff.mp hpj).2
      rw [List.drop_eq_getElem_cons hlt, hpe] at hr
      injection hr with hr1 hr2
      subst hr1; subst hr2
      have hp : p ∈ T := List.mem_of_getElem? hpj
      have tk1 : T.take (j + 1) = T.take j ++ [p] := by rw [List.take_add_one, hpj]; rfl
      have hnew : p.1 ∉ (T.take j).map (·.1) := fun z => by
        have nd := hT.nd
        have e : T.map (·.1) = (T.take j).map (·.1) ++ p.1 :: (T.drop (j + 1)).map (·.1) := by
          rw [← List.map_cons, ← List.map_append]
          congr 1
          rw [← hpe, ← List.drop_eq_getElem_cons hlt, List.take_append_drop]
        rw [e] at nd
        exact (List.nodup_append.mp nd).2.2 _ z _ (.head _) rfl
      refine ⟨_, TJ.name F (i := 4) rfl, SX.cons (pstate_call hK W psM hf hT hp nsys (by decide) F rfl (EJ.var F at0 at0) (EJ.var F at2 at2) (EJ.var F at3 at3) (EJ.var F at4 at4) hnew (by simp; omega) ?_ (fun _ => rfl) rfl (fun _ => rfl) (fun _ => rfl) (fun _ => rfl) (fun _ => rfl))⟩
      refine SX.nil ⟨j + 1, _, rfl, rfl, ?_, hlt⟩
      rw [tk1, List.map_append, List.map_append]; rfl
    · obtain ⟨j, a4, rfl, hr, rfl, hj⟩ := hP
      have : T.length ≤ j := by
        have := congrArg List.length hr
        simp at this
        omega
      rw [List.take_of_length_le this]
      exact SX.st tk (S1.ret (EJ.var F at3 at3) ⟨rfl, rfl⟩)
  refine main _ _ (d :: M) M8 m8 cv8 ad8 s8 ak1 ow7 (.head _) (fun x z => z.1 rfl) R9 ⟨[], rfl, ?_, .nil⟩ _ _ fun o β f s9 hoβ af => ?_
  · obtain ⟨o, es, ep, e, t⟩ := Heap.DictOf.new (knd := sK B.c2) s8.heap
    rw [Heap.get?_push_size _ rfl] at e
    cases e
    exact ⟨_, es, ep, ed8, t⟩
  obtain ⟨rfl, rfl⟩ := hoβ
  cases f <;> first | exact af.elim | skip
  obtain ⟨mv9, G, ws9, hl9, hD9, rl9⟩ := af
  have ntM : d ∉ M := fun z => by
    obtain ⟨o, e⟩ := R1.has d (R1.mO _ z)
    rw [nd] at e; cases e
  have ev := B.c2.gen.mp G.val.ext_
  subst ev
  refine q s9 _ ((g0.mv.trans g1.mv).trans (mv7.trans (mv8.trans mv9))) (fun b o nb e => ?_) ⟨oe', G.base e oe' ⟨ne, by rw [if_pos rfl]⟩⟩ ?_
  · refine G.base b o ⟨fun z => ?_, ?_⟩
    · subst z
      have := R1.base _ _ (g0.keep _ _ e)
      rw [nd] at this; cases this
    · rw [if_neg nb]; exact g0.keep _ _ e
  · rw [tok_eq]
    obtain ⟨o, es, ep, eo, t⟩ := hD9
    exact .dS nsys hl9 ⟨o, es, ep, hid_get eo ntM, t⟩ (rl9.mono (hid_mono (fun _ _ _ e => e) fun b h => .tail _ h))
end
end
section
variable {C : Cx}
/-! ## Lexer.__init__ -/
def lexInitF : Fn := fnIn PySem.Challenge.pw_bf5016_01 27 1
def fLexInit : Addr := 275
def initF : Fn := fnIn PySem.Challenge.pw_bf5016_01 38 2
def fInit : Addr := 568
theorem no_sys {C : Cx} {s : Shared} (k : Sub C.h₀ s.heap) : (s.heap.objs.size == sysModules) = false := by
  obtain ⟨o, es, ep, e, _⟩ := C.hmg
  have := Heap.lt_size (k _ _ e)
  show decide (s.heap.objs.size = 1) = false
  have : (3 : Nat) < s.heap.objs.size := this
  exact decide_eq_false (by omega)
theorem kw_new {C : Cx} {M : List Addr} {s : Shared} (hM : ∀ a ∈ M, ∃ o, s.heap.get? a = some o) (ns : (s.heap.objs.size == sysModules) = false) : Rep C (hid (s.heap.push { cls := .type "dict", data := .dict #[] }) M) (.dS [] []) (.ref s.heap.objs.size) := by
  obtain ⟨o, es, ep, e, t⟩ := Heap.DictOf.new (knd := sK C) s.heap
  exact .dS (vs := []) ns rfl ⟨o, es, ep, hid_get e (fun z => by
    obtain ⟨o', e'⟩ := hM _ z
    rw [get_new] at e'; cases e'), t⟩ .nil
theorem bind1 {C : Cx} {name qual : Str} {doc pm : Value} {an : Option Addr} {cdv ct : Value} {M : List Addr} {s : Shared} {x : Addr} (hM : ∀ a ∈ M, ∃ o, s.heap.get? a = some o) (k0 : Sub C.h₀ s.heap) :
    BindJ C (fnOf name qual lexInitF.params lexInitF.body lexInitF.scope .none .none doc pm an cdv ct) ⟨[.ref x], []⟩ M s ["self", "options"] [.ext (.gen x), .dS [] []] := fun A Q E q => by
  show wpAny _ _ (alloc { cls := .type "dict", data := .dict #[] } >>= fun d => pure [(("self" : Str), Value.ref x), (("options" : Str), .ref d)]) _ _ s
  refine wpAny_bind (wpAny_alloc (wpAny_pure (q _ _ (.push _) ⟨[.ref x, .ref s.heap.objs.size], rfl, .cons (.ext (C.gen.mpr rfl)) (.cons (kw_new hM (no_sys k0)) .nil)⟩)))
theorem bind2 {C : Cx} {name qual : Str} {doc pm : Value} {an : Option Addr} {cdv ct : Value} {M : List Addr} {s : Shared} {x : Addr} {v : Value} {a : AV} (hM : ∀ a ∈ M, ∃ o, s.heap.get? a = some o) (k0 : Sub C.h₀ s.heap) (r : Rep C (hid s.heap M) a v) :
    BindJ C (fnOf name qual initF.params initF.body initF.scope .none .none doc pm an cdv ct) ⟨[.ref x, v], []⟩ M s ["self", "tables", "options"] [.ext (.gen x), .tup [a], .dS [] []] := fun A Q E q => by
  show wpAny _ _ (newTuple [v] >>= fun t => alloc { cls := .type "dict", data := .dict #[] } >>= fun d => pure [(("self" : Str), Value.ref x), (("tables" : Str), t), (("options" : Str), .ref d)]) _ _ s
  refine wpAny_bind (tuple_new hM (l := [a]) (.cons r .nil) (show 1 ≤ sz by decide) fun t s1 g rt => ?_)
  have hM1 : ∀ a ∈ M, ∃ o, s1.heap.get? a = some o := fun a h => let ⟨o, e⟩ := hM a h; ⟨o, g.keep _ _ e⟩
  exact wpAny_bind (wpAny_alloc (wpAny_pure (q _ _ (g.trans (.push _)) ⟨[.ref x, t, .ref s1.heap.objs.size], rfl, .cons (.ext (C.gen.mpr rfl)) (.cons (rt.mono (hid_grow (Grow.push _).keep)) (.cons (kw_new hM1 (no_sys (k0.trans g.keep))) .nil))⟩)))
section
variable {C : Cx} {hb : Base} {Mo : List Addr} {fi : Fi} {M : List Addr} {m : Str → Option Value} {cv : Nat → Option Value} {ad : Nat → List Addr} {ℓ : List Slot} {s : Shared} {n : Nat} {A : Around}
/-- the store of a value in an attribute of the thing that is being made -/
theorem store_attr {K : Frag} (hK : K.In C.h₀) {x dx c : Addr} {l : List (Str × Value)} {i : Nat} {y name : Str} {lo : Loc} {p1 : Pos} {v : Value} {Q : Unit → Shared → Prop} {E : Value → Shared → Prop} (hc : Cls K c) (hf : FreeK K c name)
    (F : fi.Ok) (ak : AOk n A) (ow : Own fi Mo) (hown : fi.own = true) (R : Rel C hb Mo fi M m cv ad ℓ s) (I : IW hb Mo x dx c l) (hi : fi.vs[i]? = some (y, lo)) (hv : ℓ[i]? = some (.fz (.ext (.gen x)))) (hn : l.lookup name = none) (hlen : l.length ≤ 900)
    (h : ∀ s' od', Mv s s' → Rel C (upd hb dx od') Mo fi M m cv ad ℓ s' → IW (upd hb dx od') Mo x dx c (l ++ [(name, v)]) → AttrsAre od' (l ++ [(name, v)]) → s'.heap.get? dx = some od' → (∀ b o, b ≠ dx → s.heap.get? b = some o → s'.heap.get? b = some o) → Q () s') :
    wpAny (model C.prog C.w) A (eval (.Name y p1) fi.env) (fun ov s2 => wpAny (model C.prog C.w) A (setAttr ov name v) Q E s2) E s := by
  refine (EJ.var F hi hv) A hb Mo M m cv ad s ak R _ _ fun ov s2 g2 ro => ?_
  have R2 := R.grow g2
  have eo := C.gen.mp ro.ext_
  subst eo
  obtain ⟨od, hod, ha⟩ := I.at_
  have X : K.In s2.heap := Frag.In.keeps hK R2.base0
  refine set_at X (R2.base _ _ I.inst) (R2.base _ _ hod) ha hn hlen hc.sa hc.po ?_ hc.hd fun h' od' tk hs' hod' ha' => ?_
  · unfold takerIn
    rw [show findIn K (.ref c) name = some none from hf]; rfl
  · have hcell : ∀ (i : Nat) z cc, fi.vs[i]? = some (z, .cel cc) → cc ≠ dx := fun i z cc e q => ow hown i z cc e (q ▸ I.mo)
    have R3 := R2.rebase (tk := tk) I.mo hcell hs' hod'
    exact h _ od' (g2.mv.trans (.same rfl rfl)) R3 (I.step ha') ha' hod' fun b o nb e => (hs'.2 b nb).trans (g2.keep _ _ e)
end
section
variable {B : Bx} {K : Frag} (hK : K.In B.h₀)
include hK
theorem lexInit_ok (hc : Cls K kLex) (hf : FnAt B.c2 lexInitF fLexInit) (f1 : FreeK K kLex "options") (f2 : FreeK K kLex "stripnl") (f3 : FreeK K kLex "stripall") (f4 : FreeK K kLex "ensurenl") (f5 : FreeK K kLex "filters") {A : Around} {M : List Addr} {s : Shared} {R : Result → Shared → Prop} {x dx : Addr} {od0 : Obj} (ak : AOk 2 A) (h0 : Sub B.h₀ (hid s.heap M)) (hM : ∀ a ∈ M, ∃ o, s.heap.get? a = some o) (hM0 : ∀ a ∈ M, B.h₀.get? a = none)
    (hx : s.heap.get? x = some (instObj kLex dx)) (hd : s.heap.get? dx = some od0) (ha : AttrsAre od0 []) (dM : dx ∈ M) (ne : x ≠ dx)
    (q : ∀ s' od' v1 v2 v3 v4 v5, Mv s s' → (∀ b o, b ≠ dx → s.heap.get? b = some o → s'.heap.get? b = some o) → s'.heap.get? dx = some od' → AttrsAre od' [("options", v1), ("stripnl", v2), ("stripall", v3), ("ensurenl", v4), ("filters", v5)] → R (.ok (.ret .none)) s') :
    codeAny (model B.prog B.w) A (.call (.ref fLexInit) ⟨[.ref x], []⟩) R s := by
  obtain ⟨name, qual, oc, od, osl, doc, pm, an, cdv, ct, ho, hcd⟩ := hf
  have hkd : ∀ x ∈ ((["self", "options"] : List Str) ++ (["filter_"] : List Str)), lexInitF.scope.names.lookup x = some .local ∨ lexInitF.scope.names.lookup x = some .cell := by decide
  refine call_begin (C := B.c2) (n := 1) (args := ⟨[.ref x], []⟩) (fd := fnOf name qual lexInitF.params lexInitF.body lexInitF.scope .none .none doc pm an cdv ct) (ps := ["self", "options"]) (xs := ["filter_"]) ho rfl hcd rfl rfl rfl rfl rfl rfl rfl
    (bind1 hM (h0.trans (hid_sub _ _))) rfl (by decide) hkd (by decide) ak h0 hM hM0 fun L s0 s1 M1 m1 cv1 F ow g0 g1 ak1 R1 E1 => ?_
  have I1 : IW (fun b x => s0.heap.get? b = some x) M x dx kLex [] := ⟨g0.keep _ _ hx, ⟨od0, g0.keep _ _ hd, ha⟩, dM, ne⟩
  have R1 : Rel B.c2 (fun b x => s0.heap.get? b = some x) M _ M1 m1 cv1 (fun _ => []) [.fz (.ext (.gen x)), .fz (.dS [] []), .un] s1 := R1
  refine wpAny_execs_cons (init_attr hK hc f1 F ak1 ow rfl R1 I1 (i := 0) (a := .dS [] []) rfl rfl (EJ.var F at1 at1) rfl (by decide) rfl fun s2 od2 v2 mv2 R2 I2 _ _ => ?_)
  refine wpAny_execs_cons (init_attr hK hc f2 F ak1 ow rfl R2 I2 (i := 0) (a := .bool true) rfl rfl (EJ.get0 (EJ.var F at1 at1) (EJ.str _) (EJ.bool true) rfl (fun _ => rfl) (fun _ => rfl) (fun _ => rfl)) (by rfl) (show 1 ≤ 900 by decide) rfl fun s3 od3 v3 mv3 R3 I3 _ _ => ?_)
  refine wpAny_execs_cons (init_attr hK hc f3 F ak1 ow rfl R3 I3 (i := 0) (a := .bool false) rfl rfl (EJ.get0 (EJ.var F at1 at1) (EJ.str _) (EJ.bool false) rfl (fun _ => rfl) (fun _ => rfl) (fun _ => rfl)) (by rfl) (show 2 ≤ 900 by decide) rfl fun s4 od4 v4 mv4 R4 I4 _ _ => ?_)
  refine wpAny_execs_cons (init_attr hK hc f4 F ak1 ow rfl R4 I4 (i := 0) (a := .bool true) rfl rfl (EJ.get0 (EJ.var F at1 at1) (EJ.str _) (EJ.bool true) rfl (fun _ => rfl) (fun _ => rfl) (fun _ => rfl)) (by rfl) (show 3 ≤ 900 by decide) rfl fun s5 od5 v5 mv5 R5 I5 _ _ => ?_)
  refine wpAny_execs_cons (init_attr hK hc f5 F ak1 ow rfl R5 I5 (i := 0) (a := .lst []) rfl rfl (EJ.lst LJ.nil (by decide)) (by rfl) (show 4 ≤ 900 by decide) rfl fun s6 od6 v6 mv6 R6 I6 _ _ => ?_)
  refine wpAny_execs_cons (S1.raw (ℓ' := [.fz (.ext (.gen x)), .fz (.dS [] []), .un]) (S1.for_ (a := .tup []) (l := []) F (EJ.get0 (EJ.var F at1 at1) (EJ.str _) (EJ.tup LJ.nil (by decide)) rfl (fun _ => rfl) (fun _ => rfl) (fun _ => rfl)) rfl (fun rest ℓ => rest = [] ∧ ℓ = [.fz (.ext (.gen x)), .fz (.dS [] []), .un]) ⟨rfl, rfl⟩ (fun y rest ℓ hP => nomatch hP.1) (fun ℓ hP => by rw [hP.2]) (fun _ _ => rfl)) ak1 ow R6 fun s7 M7 m7 cv7 ad7 mv7 R7 => wpAny_execs_nil ?_)
  obtain ⟨od7, e7, a7⟩ := I6.at_
  refine q s7 od7 v2 v3 v4 v5 v6 ((g0.mv.trans g1.mv).trans (mv2.trans (mv3.trans (mv4.trans (mv5.trans (mv6.trans mv7)))))) (fun b o nb e => R7.base b o ?_) (R7.base _ _ e7) a7
  unfold upd
  rw [if_neg nb, if_neg nb, if_neg nb, if_neg nb, if_neg nb]
  exact g0.keep _ _ e
end
end
section
variable {C : Cx}
/-! ## the lexer is made -/
theorem fn_there {C : Cx} {f : Fn} {a : Addr} (h : FnAt C f a) : IsFn C a := by
  obtain ⟨name, qual, oc, od, osl, doc, pm, an, cdv, ct, ho, hcd⟩ := h
  exact ⟨_, _, ho, rfl⟩
theorem Rel.moved {C : Cx} {hb : Base} {Mo M : List Addr} {fi : Fi} {m : Str → Option Value} {cv : Nat → Option Value} {ad : Nat → List Addr} {ℓ : List Slot} {s s' : Shared} {dx : Addr} {od' : Obj} (R : Rel C hb Mo fi M m cv ad ℓ s) (dM : dx ∈ Mo) (ow : Own fi Mo) (hown : fi.own = true) (k : ∀ b o, b ≠ dx → s.heap.get? b = some o → s'.heap.get? b = some o) (e : s'.heap.get? dx = some od') :
    ∃ M', (∀ b, b ∈ M' ↔ b ∈ M) ∧ Rel C (upd hb dx od') Mo fi M' m cv ad ℓ s' := by
  refine ⟨_, fun b => ?_, R.shift (s' := s') (hb' := upd hb dx od') (Mo' := Mo) (fun b x nb e => k b x (fun z => nb (z ▸ dM)) e) (fun b h => .inl h) (fun b hb' => ?_) (fun b x z => ?_) (fun b hm hnm x z => ?_) (fun i x c e => ow hown i x c e)⟩
  · constructor
    · intro h
      rcases List.mem_append.mp h with z | z
      · exact R.mO b z
      · exact (List.mem_filter.mp z).1
    · intro h
      by_cases z : b ∈ Mo
      · exact List.mem_append_left _ z
      · exact List.mem_append_right _ (List.mem_filter.mpr ⟨h, by simpa using z⟩)
  · by_cases z : b = dx
    · exact ⟨od', z ▸ e⟩
    · obtain ⟨o, e⟩ := R.has b (R.mO b hb')
      exact ⟨o, k b o z e⟩
  · unfold upd at z
    by_cases w : b = dx
    · subst w; rw [if_pos rfl] at z; subst z; exact e
    · rw [if_neg w] at z; exact k b x w (R.base b x z)
  · unfold upd at z
    rw [if_neg (show ¬ b = dx from fun w => hnm (w ▸ dM))] at z
    exact ((R.new b hm).resolve_left hnm) x z
theorem hid_eq {h : Heap} {M M' : List Addr} (e : ∀ b, b ∈ M' ↔ b ∈ M) : Sub (hid h M) (hid h M') := hid_mono (fun _ _ _ x => x) fun b z => (e b).mp z
theorem empty_dict {K : Type} [DecidableEq K] {prog : Program} {w : World} {knd : KeyKind prog w K} {h : Heap} {a : Addr} (d : h.DictOf knd a []) : ∃ o ep, h.get? a = some o ∧ o.cls = .type "dict" ∧ o.data = .dict #[] ep := by
  obtain ⟨o, es, ep, e, ex, hd, ks, ps, nd⟩ := id d
  have : es = #[] := by
    obtain ⟨l⟩ := es
    cases ps
    rfl
  subst this
  exact ⟨o, ep, e, ex.1, hd⟩
/-- what the making of a lexer leans on -/
structure MkL (B : Bx) (K : Frag) : Prop where
  cls : Cls K kLex
  init : MethK K kLex "__init__" fInit
  hinit : FnAt B.c2 initF fInit
  hlex : FnAt B.c2 lexInitF fLexInit
  free : ∀ y : Str, y ∈ (["options", "stripnl", "stripall", "ensurenl", "filters", "tables", "_all_tokens", "_tmpname", "_tokens"] : List Str) → FreeK K kLex y
  gLexer : B.c2.glb "Lexer" (.ref 307)
  lexR : readsIn K 307 (.type "type") = true
  lexV : findCls K (.ref 307) (.type "type") "__init__" = some (.val (.ref fLexInit))
  ptM : MethK K kLex "process_tokendef" fPTok
  hpt : FnAtD B.c2 ptokF fPTok .none
  gdM : MethK K kLex "get_tokendefs" fGetDefs
  hgd : FnAt B.c2 getDefsF fGetDefs
  hme : FnAt B.c2 mergedF fMerged
  hinh : FnAt B.c2 inhF fInh
  psM : MethK K kLex "_process_state" fPState
  hps : FnAt B.c2 pstateF fPState
  nsM : MethK K kLex "_process_new_state" fNewState
  hns : FnAt B.c2 newStateF fNewState
  rgM : MethK K kLex "_process_regex" fRegex
  hrg : FnAt B.c2 regexF fRegex
  tkM : MethK K kLex "_process_token" fToken
  htk : FnAt B.c2 tokenF fToken
  fl : ∃ t, findIn K (.ref kLex) "flags" = some (some (.int 8 t)) ∧ specialIn K (.int 8 t) "__get__" = some none
  cpl : Cls K kPlain
  mtM : MethK K kPlain "match" fMatch
  mtG : specialIn K (.ref fMatch) "__get__" = some (some (.builtin "function.__get__"))
  mtT : takesIn K (.ref fMatch) = some false
  clss : ∀ c, c = cIncl ∨ c = cInh ∨ c = cDeft ∨ c = cComb → (clsIn K c).isSome = true ∧ typeIn K (.ref c) = some (.type "type")
  gIncl : B.c2.glb "include" (.ref cIncl)
  gInh : B.c2.glb "_inherit" (.ref cInh)
  gDeft : B.c2.glb "default" (.ref cDeft)
  gComb : B.c2.glb "combined" (.ref cComb)
  gMerged : B.c2.glb "merged_tokendefs" (.ref fMerged)
  gInhP : B.c2.glb "inherit_place" (.ref fInh)
  gTok : B.c2.glb "_TokenType" (.ref kTok)
  gEn : B.c2.glb "enumerate" (.type "enumerate")
  gIs : B.c2.glb "isinstance" (.builtin "isinstance")
  gStr : B.c2.glb "str" (.type "str")
  gInt : B.c2.glb "int" (.type "int")
  gType : B.c2.glb "type" (.type "type")
  gTup : B.c2.glb "tuple" (.type "tuple")
  gLen : B.c2.glb "len" (.builtin "len")
  gList : B.c2.glb "list" (.type "list")
theorem FnAt.up {B : Bx} {h : Heap} (k : Sub B.h₀ h) {f : Fn} {a : Addr} (x : FnAt B.c2 f a) : FnAt (B.up h k).c2 f a := by
  obtain ⟨name, qual, oc, od, osl, doc, pm, an, cdv, ct, ho, hcd⟩ := x
  exact ⟨name, qual, oc, od, osl, doc, pm, an, cdv, ct, k _ _ ho, hcd.keeps k⟩
theorem FnAtD.up {B : Bx} {h : Heap} (k : Sub B.h₀ h) {f : Fn} {a : Addr} (x : FnAtD B.c2 f a .none) : FnAtD (B.up h k).c2 f a .none := by
  obtain ⟨name, qual, oc, od, osl, doc, pm, an, cdv, ct, dT, oT, dv, n, ho, hcd, hoT, hdT, rd⟩ := x
  refine ⟨name, qual, oc, od, osl, doc, pm, an, cdv, ct, dT, oT, dv, n, k _ _ ho, hcd.keeps k, k _ _ hoT, hdT, ?_⟩
  cases rd
  exact .none
theorem MkL.up {B : Bx} {K : Frag} {h : Heap} (k : Sub B.h₀ h) (L : MkL B K) : MkL (B.up h k) K :=
  { L with
    hinit := L.hinit.up k, hlex := L.hlex.up k, hpt := L.hpt.up k, hgd := L.hgd.up k, hme := L.hme.up k, hinh := L.hinh.up k, hps := L.hps.up k, hns := L.hns.up k, hrg := L.hrg.up k, htk := L.htk.up k }
theorem MkL.mk' {B : Bx} {K : Frag} (hK : K.In B.h₀) (L : MkL B K) {x : Addr} {l : List (Str × Value)} (i : InstOf B.h₀ kLex x l) (hl : ∀ y : Str, y ∈ (["_process_regex", "_process_token", "_process_new_state", "flags"] : List Str) → l.lookup y = none) : MkW B K x where
  regexM := gen_meth hK L.cls L.rgM i (hl _ (by simp))
  regexI := fn_there L.hrg
  regexC := fun l k st => regex_ok hK L.hrg L.cpl L.mtM L.mtG L.mtT x l k st
  tokenM := gen_meth hK L.cls L.tkM i (hl _ (by simp))
  tokenI := fn_there L.htk
  tokenC := fun nm => token_ok hK L.htk L.gType L.gTok x nm
  newM := gen_meth hK L.cls L.nsM i (hl _ (by simp))
  newI := fn_there L.hns
  newC := fun T hT d mv hm hn => new_state_ok hK L.hns L.gIs L.gStr L.gInt L.gTup L.gComb (L.clss _ (.inr (.inr (.inr rfl)))).1 (L.clss _ (.inr (.inr (.inr rfl)))).2 T hT x d mv hm hn
  flags := by
    obtain ⟨t, h1, h2⟩ := L.fl
    exact gen_int hK L.cls h1 h2 (by decide) i (hl _ (by simp))
  gIs := L.gIs
  gStr := L.gStr
  gType := L.gType
  gTup := L.gTup
  gLen := L.gLen
  gIncl := L.gIncl
  gInh := L.gInh
  gDeft := L.gDeft
  cls := fun c h => L.clss c (h.elim .inl fun z => z.elim (fun y => .inr (.inl y)) fun y => .inr (.inr (.inl y)))

section
variable {B : Bx} {K : Frag} (hK : K.In B.h₀)
include hK
theorem lex_make (L : MkL B K) {T : RawTab} (hT : RawOk T) : CallJ B.c2 40 (.ref kLex) [rawAV T] (.ext (.lexer (procTab T))) := fun A M s vs ak h0 hM hM0 rl Q E q => by
  obtain ⟨v, rfl, r⟩ := rl.one
  obtain ⟨name, qual, oc, od, osl, doc, pm, an, cdv, ct, ho, hcd⟩ := L.hinit
  refine wpAny_call (make_inst hK L.cls L.init h0 fun s1 x dx g nx nd1 ne hx hdx => ?_)
  have hnx : x ∉ M := fun z => by obtain ⟨o, e⟩ := hM x z; rw [nx] at e; cases e
  have hnd : dx ∉ M := fun z => by obtain ⟨o, e⟩ := hM dx z; rw [nd1] at e; cases e
  have kk : Sub (hid s.heap M) (hid s1.heap (dx :: M)) := hid_cons g.keep nd1
  have hM1 : ∀ a ∈ dx :: M, ∃ o, s1.heap.get? a = some o := fun a h => by
    rcases List.mem_cons.mp h with rfl | h
    · exact ⟨_, hdx⟩
    · obtain ⟨o, e⟩ := hM a h; exact ⟨o, g.keep _ _ e⟩
  have hM10 : ∀ a ∈ dx :: M, B.c2.h₀.get? a = none := fun a h => by
    rcases List.mem_cons.mp h with rfl | h
    · exact Sub.none (h0.trans (hid_sub _ _)) nd1
    · exact hM0 a h
  have hkd : ∀ x ∈ ((["self", "tables", "options"] : List Str) ++ ([] : List Str)), initF.scope.names.lookup x = some .local ∨ initF.scope.names.lookup x = some .cell := by decide
  refine call_begin (C := B.c2) (n := 38) (args := ⟨[.ref x, v], []⟩) (fd := fnOf name qual initF.params initF.body initF.scope .none .none doc pm an cdv ct) (ps := ["self", "tables", "options"]) (xs := []) ho rfl hcd rfl rfl rfl rfl rfl rfl rfl
    (bind2 hM1 ((h0.trans kk).trans (hid_sub _ _)) (r.mono kk)) rfl (by decide) hkd (by decide) (AOk.tc ak) (h0.trans kk) hM1 hM10 fun L0 s0 s2 M2 m2 cv2 F ow g0 g1 ak2 R2 E2 => ?_
  have I2 : IW (fun b x => s0.heap.get? b = some x) (dx :: M) x dx kLex [] := ⟨g0.keep _ _ hx, ⟨emptyDict, g0.keep _ _ hdx, AttrsAre.nil⟩, .head _, ne⟩
  have R2 : Rel B.c2 (fun b x => s0.heap.get? b = some x) (dx :: M) _ M2 m2 cv2 (fun _ => []) [.fz (.ext (.gen x)), .fz (.tup [rawAV T]), .fz (.dS [] [])] s2 := R2
  have hint : ∀ env : Env, env.scope.kind = .function → interactive env = false := by intro env h; unfold interactive; rw [h]; rfl
  -- Lexer.__init__(self, **options)
  refine wpAny_execs_cons (wpAny_Expr_any ?_ (hint _ F.fn) rfl)
  rw [arm_eval_Call]
  refine wpAny_bind (glb_at F R2 L.gLexer rfl (by decide) (wpAny_bind (wpAny_standAt ?_)))
  unfold methodCall
  refine wpAny_bind (wpAny_holding ?_)
  show wpAny _ _ (getAttr (.ref 307) "__init__" true >>= fun y => pure (y, [])) _ _ _
  refine wpAny_bind (cls_value (kAt hK R2.base0) L.lexR L.lexV rfl (wpAny_pure ?_))
  refine wpAny_bind (wpAny_pure ?_)
  obtain ⟨obL, fdL, eL1, eL2⟩ := fn_there L.hlex
  refine callWith_function_kw (o := obL) (fd := fdL) (evalArgs_kw0 (Calls.spliced_cons ((EJ.var F at0 at0) _ _ _ _ _ _ _ _ ak2 (R2.grow (.toks _)) _ _ fun xv s3 g3 rx3 => Calls.spliced_nil ?_)))
  have ex3 := B.c2.gen.mp rx3.ext_
  subst ex3
  have gp : Grow s3 { s3 with heap := s3.heap.push { cls := .type "dict", data := .dict #[] } } := .push _
  have R3 := ((R2.grow (.toks _)).grow g3).grow gp
  refine wpAny_bind ((EJ.var F at2 at2) _ _ _ _ _ _ _ _ ak2 R3 _ _ fun v4 s4 g4 r4 => wpAny_bind (wpAny_standAt (wpAny_pure ?_)))
  obtain ⟨b, ws, rfl, hds, hlen, hD, _⟩ := r4.dS_
  obtain ⟨ob4, ep4, eb4, hc4, hd4⟩ := empty_dict (dictOf_mono (hid_sub _ _) (show Heap.DictOf (sK B.c2) (hid s4.heap M2) b [] from hD))
  have R4 := R3.grow g4
  refine ⟨b, ob4, ep4, rfl, hds, eb4, hc4, hd4, g4.keep _ _ (Heap.get?_push_size _ rfl), ⟨R4.base0 _ _ eL1, eL2⟩, ?_⟩
  have dM2 := R4.mO dx (.head _)
  refine wpAny_call (lexInit_ok hK L.cls L.hlex (L.free _ (by simp)) (L.free _ (by simp)) (L.free _ (by simp)) (L.free _ (by simp)) (L.free _ (by simp)) (ak2.less (by decide)) R4.glob R4.has R4.new0 (R4.base _ _ I2.inst) (R4.base dx emptyDict (g0.keep _ _ hdx)) AttrsAre.nil dM2 ne fun s5 od5 w1 w2 w3 w4 w5 mv5 k5 e5 a5 => ?_)
  obtain ⟨M5, eM5, R5⟩ := R4.moved (.head _) ow rfl k5 e5
  have I5 := I2.step a5
  have f9 : ∀ y : Str, y ∈ (["options", "stripnl", "stripall", "ensurenl", "filters", "tables", "_all_tokens", "_tmpname", "_tokens"] : List Str) → FreeK K kLex y := L.free
  refine (show wpAny _ _ (execs _ _) _ _ _ from wpAny_execs_cons (init_attr hK L.cls (f9 "tables" (by simp)) F ak2 ow rfl R5 I5 (i := 0) (a := .tup [rawAV T]) rfl rfl (EJ.var F at1 at1) (by rfl) (show 5 ≤ 900 by decide) rfl fun s6 od6 vt mv6 R6 I6 rt6 k6 => ?_))
  -- self._all_tokens = {}
  refine wpAny_execs_cons (plainObj_wpAny_Assign_Attribute (wpAny_Dict_empty ?_) rfl)
  have ne6 : s6.heap.get? s6.heap.objs.size = none := get_new
  have ge6 : (s6.heap.push { cls := .type "dict", data := .dict #[] }).get? s6.heap.objs.size = some { cls := .type "dict", data := .dict #[] } := Heap.get?_push_size _ rfl
  have g6 : Grow s6 { s6 with heap := s6.heap.push { cls := .type "dict", data := .dict #[] } } := .push _
  generalize s6.heap.objs.size = e at ne6 ge6
  have R7 := R6.around g6 ne6 ge6
  have xe : x ≠ e := fun z => by have := R6.base _ _ I6.inst; rw [z, ne6] at this; cases this
  have dxe : dx ≠ e := fun z => by
    obtain ⟨o, h, _⟩ := I6.at_
    have := R6.base _ _ h
    rw [z, ne6] at this; cases this
  have ow7 : Own (fiOf (fnOf name qual initF.params initF.body initF.scope .none .none doc pm an cdv ct) L0 fInit ((["self", "tables", "options"] : List Str) ++ ([] : List Str))) (e :: dx :: M) := fun w i y c q z => by
    rcases List.mem_cons.mp z with z | z
    · obtain ⟨o, e2⟩ := R6.has c (R6.mC i y c q).1
      rw [z, ne6] at e2; cases e2
    · exact ow w i y c q z
  have I7 : IW (fun b y => upd (upd (fun b x => s0.heap.get? b = some x) dx od5) dx od6 b y ∨ (b = e ∧ y = ({ cls := .type "dict", data := .dict #[] } : Obj))) (e :: dx :: M) x dx kLex _ := ⟨.inl I6.inst, (let ⟨o, h, a⟩ := I6.at_; ⟨o, .inl h, a⟩), .tail _ I6.mo, I6.ne⟩
  refine store_attr hK L.cls (f9 "_all_tokens" (by simp)) F ak2 ow7 rfl R7 I7 (i := 0) rfl rfl (by rfl) (show 6 ≤ 900 by decide) fun s8 od8 mv8 R8 I8 a8 e8 k8 => ?_
  refine wpAny_execs_cons (init_attr hK L.cls (f9 "_tmpname" (by simp)) F ak2 ow7 rfl R8 I8 (i := 0) (a := .int 0) rfl rfl (EJ.int 0) (by rfl) (show 7 ≤ 900 by decide) rfl fun s9 od9 vn mv9 R9 I9 rn9 k9 => ?_)
  refine wpAny_execs_cons (plainObj_wpAny_Assign_Attribute ?_ rfl)
  -- the same world, later
  obtain ⟨od9', e9, a9⟩ := I9.at_
  have M5sub : ∀ b, b ∈ M → b ∈ M5 := fun b h => R5.mO b (.tail _ h)
  have dM5 : dx ∈ M5 := R5.mO dx (.head _)
  have eM5 : e ∉ M5 := fun z => by obtain ⟨o, q⟩ := R6.has e z; rw [ne6] at q; cases q
  have xM5 : x ∉ M5 := fun z => by
    rcases R5.new x z with w | w
    · rcases List.mem_cons.mp w with w | w
      · exact ne w
      · exact hnx w
    · exact w _ I5.inst
  generalize hMd : (e :: M5).filter (fun b => decide (b ≠ dx)) = Md
  have mdM : ∀ b, b ∈ Md → b ∈ e :: M5 := fun b z => by rw [← hMd] at z; exact (List.mem_filter.mp z).1
  have mdN : ∀ b, b ∈ e :: M5 → b ≠ dx → b ∈ Md := fun b z n => by rw [← hMd]; exact List.mem_filter.mpr ⟨z, by simpa using n⟩
  have dMd : dx ∉ Md := fun z => by rw [← hMd] at z; simpa using (List.mem_filter.mp z).2
  have eMd : e ∈ Md := mdN e (.head _) (fun z => dxe z.symm)
  have xMd : x ∉ Md := fun z => by
    rcases List.mem_cons.mp (mdM x z) with w | w
    · exact xe w
    · exact xM5 w
  have kup : Sub B.h₀ (hid s9.heap Md) := R9.glob.trans (hid_mono (fun _ _ _ e => e) mdM)
  have L' := L.up kup
  have hK' : K.In (B.up _ kup).h₀ := kAt hK kup
  have inst : InstOf (B.up _ kup).h₀ kLex x _ := ⟨dx, od9', hid_get (R9.base _ _ I9.inst) xMd, hid_get (R9.base _ _ e9) dMd, a9⟩
  have sub69 : Sub (hid s6.heap M5) (hid s9.heap Md) := fun b o h => by
    have nb : b ≠ dx := fun z => hid_not h (z ▸ dM5)
    refine hid_get (k9 b o nb (k8 b o nb (g6.keep _ _ (hid_sub _ _ _ _ h)))) fun z => ?_
    rcases List.mem_cons.mp (mdM b z) with w | w
    · rw [w] at h
      have := hid_sub _ _ _ _ h
      rw [ne6] at this; cases this
    · exact hid_not h w
  have rt9 : Rep (B.up _ kup).c2 (B.up _ kup).h₀ (.tup [rawAV T]) vt := Rep.lift (C := B.c2) (C' := (B.up _ kup).c2) rfl rfl (fun x v => RXup x v) (rt6.mono sub69)
  obtain ⟨ta, tvs, rfl, _, _⟩ := id rt9.tup_
  have gt : GetJ (B.up _ kup).c2 (.gen x) "tables" (.tup [rawAV T]) := gen_get hK' L'.cls (f9 "tables" (by simp)) inst (by rfl) rfl rt9
  have gAll : GetJ (B.up _ kup).c2 (.gen x) "_all_tokens" (.ext (.gen e)) := gen_get hK' L'.cls (f9 "_all_tokens" (by simp)) inst (by rfl) rfl (gen_rep e)
  have W : MkW (B.up _ kup) K x := L'.mk' hK' inst (by
    intro y hy
    simp only [List.mem_cons, List.not_mem_nil, or_false] at hy
    rcases hy with rfl | rfl | rfl | rfl <;> rfl)
  have psM := gen_meth hK' L'.cls L'.psM inst (by rfl)
  have inst9 : ∀ {s' : Shared}, Grow s9 s' → InstOf s'.heap kLex x _ := fun g => ⟨dx, od9', g.keep _ _ (R9.base _ _ I9.inst), g.keep _ _ (R9.base _ _ e9), a9⟩
  obtain ⟨obP, fdP, eP1, eP2⟩ : IsFn B.c2 fPTok := by
    obtain ⟨name, qual, oc, od, osl, doc, pm, an, cdv, ct, dT, oT, dv, n, ho, _⟩ := L.hpt
    exact ⟨_, _, ho, rfl⟩
  obtain ⟨obG, fdG, eG1, eG2⟩ := fn_there L.hgd
  refine meth_core (C := B.c2) rfl rfl rfl ((EJ.var F at0 at0) _ _ _ _ _ _ _ _ ak2 R9 _ _ fun ov s10 g10 ro => ?_)
  have eov := B.c2.gen.mp ro.ext_
  subst eov
  refine ⟨.ref fPTok, fun pl Q E q => inst_meth (kAt hK (R9.grow g10).base0) L.cls L.ptM (inst9 g10) (by rfl) q, ?_⟩
  refine PySem.Calls.callWith_function (o := obP) (fd := fdP) (PySem.Calls.evalArgs_plain (PySem.Calls.spliced_cons ((EJ.str (k := 0) (pos := ⟨356, 45, 356, 47⟩) "") _ _ _ _ _ _ _ _ ak2 (R9.grow g10) _ _ fun sv s11 g11 rs11 => PySem.Calls.spliced_cons ?_)))
  have g911 := g10.trans g11
  refine meth_core (C := B.c2) rfl rfl rfl ((EJ.var F at0 at0) _ _ _ _ _ _ _ _ ak2 (R9.grow g911) _ _ fun ov s12 g12 ro2 => ?_)
  have eov := B.c2.gen.mp ro2.ext_
  subst eov
  have g912 := g911.trans g12
  refine ⟨.ref fGetDefs, fun pl Q E q => inst_meth (kAt hK (R9.grow g912).base0) L.cls L.gdM (inst9 g912) (by rfl) q, ?_⟩
  refine PySem.Calls.callWith_function (o := obG) (fd := fdG) (PySem.evalArgs_none ⟨⟨(R9.grow g912).base0 _ _ eG1, eG2⟩, ?_⟩)
  have has9 : ∀ a ∈ Md, ∃ o, s9.heap.get? a = some o := fun a h => R9.has a (mdM a h)
  have new9 : ∀ a ∈ Md, (B.up _ kup).c2.h₀.get? a = none := fun a h => hid_none h
  refine (defs_ok hK' L'.hgd L'.hme L'.hinh L'.gEn L'.gIs L'.gInh (L'.clss _ (.inr (.inl rfl))).1 (L'.clss _ (.inr (.inl rfl))).2 L'.gList L'.gInhP L'.gMerged T hT x gt) _ Md s12 [.ref x] (ak2.less (by decide)) (hid_grow g912.keep) (fun a h => let ⟨o, e⟩ := has9 a h; ⟨o, g912.keep _ _ e⟩) new9 (.cons (gen_rep x) .nil) _ _ fun tv s13 g13 rtv => ?_
  have g913 := g912.trans g13
  refine PySem.Calls.spliced_nil ⟨⟨(R9.grow g913).base0 _ _ eP1, eP2⟩, ?_⟩
  obtain ⟨stk, rfl⟩ := rs11.str_
  have ee9 : s9.heap.get? e = some { cls := .type "dict", data := .dict #[] } := by
    have : ∀ {h : Base} {d : Addr} {o o' : Obj}, e ≠ d → h e o → upd h d o' e o := fun n z => by unfold upd; rw [if_neg n]; exact z
    exact R9.base e _ (this (fun z => dxe z.symm) (this (fun z => dxe z.symm) (.inr ⟨rfl, rfl⟩)))
  have hDe : s13.heap.DictOf (sK (B.up _ kup).c2) e [] := by
    obtain ⟨o, es, ep, q, t⟩ := Heap.DictOf.new (knd := sK (B.up _ kup).c2) s8.heap
    rw [Heap.get?_push_size _ rfl] at q
    cases q
    exact ⟨_, es, ep, g913.keep _ _ ee9, t⟩
  refine wpAny_call (ptok_ok hK' W psM L'.hps L'.hpt gAll L'.gList hT (ak2.less (by decide)) (hid_grow g913.keep) (fun a h => let ⟨o, e⟩ := has9 a h; ⟨o, g913.keep _ _ e⟩) new9 eMd hDe (.cons (gen_rep x) (.cons (.str _ _) (.cons rtv .nil))) fun s14 v14 mv14 k14 he14 r14 => ?_)
  obtain ⟨oe, he14⟩ := he14
  obtain ⟨M14, eM14, R14⟩ := (R9.grow g913).moved (.head _) ow7 rfl k14 he14
  have uN : ∀ {h : Base} {d : Addr} {b : Addr} {o o' : Obj}, b ≠ d → h b o → upd h d o' b o := fun n z => by unfold upd; rw [if_neg n]; exact z
  have I14 : IW (upd _ e oe) (e :: dx :: M) x dx kLex _ := ⟨uN xe I9.inst, ⟨od9', uN dxe e9, a9⟩, .tail _ (.head _), ne⟩
  have ed14 : s14.heap.get? dx = some od9' := R14.base dx _ (uN dxe e9)
  refine store_attr hK L.cls (f9 "_tokens" (by simp)) F ak2 ow7 rfl R14 I14 (i := 0) rfl rfl (by rfl) (show 8 ≤ 900 by decide) fun s15 od15 mv15 R15 I15 a15 e15 k15 => wpAny_execs_nil ?_
  have MMd : ∀ b, b ∉ Md → b ≠ dx → b ∉ M := fun b h n z => h (mdN b (.tail _ (M5sub b z)) n)
  have io : InstOf (hid s15.heap M) kLex x _ := ⟨dx, od15, hid_get (R15.base _ _ I15.inst) hnx, hid_get e15 hnd, a15⟩
  have tm := tok_move (B := B.up _ kup) (B' := B) (H := hid s14.heap Md) (H' := hid s15.heap M) (hid_get ed14 dMd) a9 (fun b o nb h => hid_get (k15 b o nb (hid_sub _ _ _ _ h)) (MMd b (fun z => hid_not h z) nb)) ⟨rfl, rfl⟩ (by rfl) (by rfl) (by rfl) (T := procTab T) (by rw [procTab_keys]; exact hT.root) r14
  have gg : Grow s s15 := by
    have mvA : Mv s s15 := g.mv.trans (g0.mv.trans (g1.mv.trans (.trans (Grow.toks (s := s2) _).mv (g3.mv.trans (gp.mv.trans (g4.mv.trans (mv5.trans (mv6.trans (g6.mv.trans (mv8.trans (mv9.trans (g913.mv.trans (mv14.trans mv15)))))))))))))
    refine ⟨fun b o h => ?_, mvA.gens, mvA.bare, mvA.os⟩
    · have nb : b ≠ dx := fun z => by rw [z, nd1] at h; cases h
      have h6 : s6.heap.get? b = some o := R6.base b o (uN nb (uN nb (g0.keep _ _ (g.keep _ _ h))))
      have nbe : b ≠ e := fun z => by rw [z, ne6] at h6; cases h6
      exact k15 b o nb (k14 b o nbe (g913.keep _ _ (k9 b o nb (k8 b o nb (g6.keep _ _ h6)))))
  exact ⟨rfl, q _ _ gg (.ext (show RX2 B (hid s15.heap M) (.lexer (procTab T)) (.ref x) from ⟨x, _, v14, rfl, io, by rfl, by rfl, tm⟩))⟩
end
end
section
variable {C : Cx}
/-! ## what stands written at the head of the law -/
def FnK (K : Frag) (f : Fn) (a : Addr) : Prop := ∃ name qual oc od osl doc pm an cdv ct, K.lookup a = some ⟨oc, od, .func (fnOf name qual f.params f.body f.scope .none .none doc pm an cdv ct), osl⟩ ∧ codeIn K cdv qual = true
def FnKD (K : Frag) (f : Fn) (a : Addr) (P : Value → Prop) : Prop := ∃ name qual oc od osl doc pm an cdv ct dT oT dv n, K.lookup a = some ⟨oc, od, .func (fnOf name qual f.params f.body f.scope (.ref dT) .none doc pm an cdv ct), osl⟩ ∧ codeIn K cdv qual = true ∧ K.lookup dT = some oT ∧ oT.data = .seq #[dv] n ∧ P dv
def TokK (K : Frag) (a : Addr) (nm : List Str) : Prop := ∃ dx od t vs n, K.lookup a = some (instObj kTok dx) ∧ K.lookup dx = some od ∧ AttrsAre od [("names", .ref t)] ∧ K.lookup t = some { cls := .type "tuple", data := .seq (List.toArray vs) n } ∧ StrsV nm vs
inductive IntsV : List Int → List Value → Prop
  | nil : IntsV [] []
  | cons {i : Int} {t : Tok} {l vs} : IntsV l vs → IntsV (i :: l) (.int i t :: vs)
def TupSK (K : Frag) (a : Addr) (l : List Str) : Prop := ∃ vs n, K.lookup a = some { cls := .type "tuple", data := .seq (List.toArray vs) n } ∧ StrsV l vs
def TupIK (K : Frag) (a : Addr) (l : List Int) : Prop := ∃ vs n, K.lookup a = some { cls := .type "tuple", data := .seq (List.toArray vs) n } ∧ IntsV l vs
def MgK (K : Frag) (x : Str) (v : Value) : Prop := nsIn K mainGlobals x = some (some v)
def BiK (K : Frag) (x : Str) (v : Value) : Prop := nsIn K mainGlobals x = some none ∧ (x == ("__name__" : Str)) = false ∧ bootBuiltins x = some v
structure KF (p : Params) (K : Frag) : Prop where
  cTok : Cls K kTok
  cPM : Cls K kPM
  cPl : Cls K kPlain
  cLx : Cls K kLex
  tokNames : FreeK K kTok "names"
  plRows : FreeK K kPlain "rows"
  pmPlace : FreeK K kPM "place"
  pmPieces : FreeK K kPM "pieces"
  pmBool : FreeK K kPM "__bool__"
  pmLen : FreeK K kPM "__len__"
  lxFree : ∀ y : Str, y ∈ (["options", "stripnl", "stripall", "ensurenl", "filters", "tables", "_all_tokens", "_tmpname", "_tokens"] : List Str) → FreeK K kLex y
  mTokI : MethK K kTok "__init__" fTokInit
  mChild : MethK K kTok "child" fChild
  mPMI : MethK K kPM "__init__" fPMInit
  mGroup : MethK K kPM "group" fGroup
  mEnd : MethK K kPM "end" fEnd
  mPlI : MethK K kPlain "__init__" fPlainInit
  mMatch : MethK K kPlain "match" fMatch
  mLxI : MethK K kLex "__init__" fInit
  mGen : MethK K kLex "get_tokens_unprocessed" 577
  mPT : MethK K kLex "process_tokendef" fPTok
  mGD : MethK K kLex "get_tokendefs" fGetDefs
  mPS : MethK K kLex "_process_state" fPState
  mNS : MethK K kLex "_process_new_state" fNewState
  mRG : MethK K kLex "_process_regex" fRegex
  mTK : MethK K kLex "_process_token" fToken
  hTokI : FnK K tokInitF fTokInit
  hChild : FnK K childF fChild
  hPMI : FnK K pmInitF fPMInit
  hGroup : FnKD K groupF fGroup (fun v => ∃ t, v = .int 0 t)
  hEnd : FnKD K endF fEnd (fun v => ∃ t, v = .int 0 t)
  hPlI : FnK K plainInitF fPlainInit
  hMatch : FnKD K matchF fMatch (· = .none)
  hLxI : FnK K initF fInit
  hLexI : FnK K lexInitF fLexInit
  hGen : FnKD K genF 577 (fun _ => True)
  hPT : FnKD K ptokF fPTok (· = .none)
  hGD : FnK K getDefsF fGetDefs
  hME : FnK K mergedF fMerged
  hIN : FnK K inhF fInh
  hPS : FnK K pstateF fPState
  hNS : FnK K newStateF fNewState
  hRG : FnK K regexF fRegex
  hTK : FnK K tokenF fToken
  lexR : readsIn K 307 (.type "type") = true
  lexV : findCls K (.ref 307) (.type "type") "__init__" = some (.val (.ref fLexInit))
  fl : ∃ t, findIn K (.ref kLex) "flags" = some (some (.int 8 t)) ∧ specialIn K (.int 8 t) "__get__" = some none
  mtG : specialIn K (.ref fMatch) "__get__" = some (some (.builtin "function.__get__"))
  mtT : takesIn K (.ref fMatch) = some false
  isf : isFn K (.ref fMatch) = true
  clIncl : (clsIn K cIncl).isSome = true ∧ typeIn K (.ref cIncl) = some (.type "type")
  clInh : (clsIn K cInh).isSome = true ∧ typeIn K (.ref cInh) = some (.type "type")
  clDeft : (clsIn K cDeft).isSome = true ∧ typeIn K (.ref cDeft) = some (.type "type")
  clComb : (clsIn K cComb).isSome = true ∧ typeIn K (.ref cComb) = some (.type "type")
  tName : TokK K 101 ["Name"]
  tWs : TokK K 93 ["Text", "Whitespace"]
  tErr : TokK K 97 ["Error"]
  gLexer : MgK K "Lexer" (.ref 307)
  gIncl : MgK K "include" (.ref cIncl)
  gInh : MgK K "_inherit" (.ref cInh)
  gDeft : MgK K "default" (.ref cDeft)
  gComb : MgK K "combined" (.ref cComb)
  gMerged : MgK K "merged_tokendefs" (.ref fMerged)
  gInhP : MgK K "inherit_place" (.ref fInh)
  gTok : MgK K "_TokenType" (.ref kTok)
  gWs : MgK K "Whitespace" (.ref 93)
  gErr : MgK K "Error" (.ref 97)
  gName : MgK K "Name" (.ref 101)
  gPlain : MgK K "Plain" (.ref kPlain)
  gPM : MgK K "PlainMatch" (.ref kPM)
  gLex : MgK K "PlainLexer" (.ref kLex)
  gStates : MgK K "_law_states" (.ref 672)
  tStates : TupSK K 672 st3
  bEn : BiK K "enumerate" (.type "enumerate")
  bIs : BiK K "isinstance" (.builtin "isinstance")
  bStr : BiK K "str" (.type "str")
  bInt : BiK K "int" (.type "int")
  bType : BiK K "type" (.type "type")
  bTup : BiK K "tuple" (.type "tuple")
  bLen : BiK K "len" (.builtin "len")
  bAbs : BiK K "abs" (.builtin "abs")
  bList : BiK K "list" (.type "list")
  bRange : BiK K "range" (.type "range")
  -- the law's own
  gTold : MgK K "_law_told" (.ref 687)
  hTold : FnK K toldF 687
  gDraws : MgK K "_law_draws" (.ref 680)
  hDraws : FnK K drawsF 680
  gTags : MgK K "_law_tags" (.ref 673)
  tTags : ∃ ep t1 t2 t3 u1 u2 u3, K.lookup 673 = some { cls := .type "dict", data := .dict #[⟨PyData.keyHash p "root", .str "root" t1, .str "R" u1⟩, ⟨PyData.keyHash p "p", .str "p" t2, .str "P" u2⟩, ⟨PyData.keyHash p "q", .str "q" t3, .str "Q" u3⟩] ep }
  gUps : MgK K "_law_ups" (.ref 674)
  tUps : TupIK K 674 [0, 4, 5, 2]
  gDowns : MgK K "_law_downs" (.ref 675)
  tDowns : TupIK K 675 [1, 1, 3, 2]
  gMove : MgK K "_law_move" (.ref 694)
  hMove : FnK K moveF 694
  gStep : MgK K "_law_step" (.ref 701)
  hStep : FnK K stepF 701
  gBelow : MgK K "_law_below" (.ref 708)
  hBelow : FnK K belowF 708
  gPumps : MgK K "_law_pumps" (.ref 715)
  hPumps : FnK K pumpsF 715
  hLaw : FnK K lawF 720
end
section
variable {C : Cx}
section
variable {B : Bx} {K : Frag} (hK : K.In B.h₀)
include hK
theorem FnK.at {f : Fn} {a : Addr} (h : FnK K f a) : FnAt B.c2 f a := by
  obtain ⟨name, qual, oc, od, osl, doc, pm, an, cdv, ct, e, c⟩ := h
  exact ⟨name, qual, oc, od, osl, doc, pm, an, cdv, ct, hK _ _ e, codeRec_of hK c⟩
theorem FnKD.at {f : Fn} {a : Addr} {P : Value → Prop} {d : AV} (h : FnKD K f a P) (r : ∀ v, P v → Rep B.c2 B.h₀ d v) : FnAtD B.c2 f a d := by
  obtain ⟨name, qual, oc, od, osl, doc, pm, an, cdv, ct, dT, oT, dv, n, e, c, e2, e3, p⟩ := h
  exact ⟨name, qual, oc, od, osl, doc, pm, an, cdv, ct, dT, oT, dv, n, hK _ _ e, codeRec_of hK c, hK _ _ e2, e3, r _ p⟩
theorem TokK.at {a : Addr} {nm : List Str} (h : TokK K a nm) : Rep B.c2 B.c2.h₀ (.ext (.tok nm)) (.ref a) := by
  obtain ⟨dx, od, t, vs, n, e1, e2, e3, e4, e5⟩ := h
  exact .ext (show RTok B.h₀ nm (.ref a) from ⟨a, t, vs, rfl, ⟨dx, od, hK _ _ e1, hK _ _ e2, e3⟩, ⟨n, hK _ _ e4⟩, e5⟩)
theorem TupSK.at {a : Addr} {l : List Str} (h : TupSK K a l) : Rep B.c2 B.c2.h₀ (.tup (l.map .str)) (.ref a) := by
  obtain ⟨vs, n, e, s⟩ := h
  exact .tup ⟨n, hK _ _ e⟩ (strs_rep s)
theorem ints_rep {H : Heap} : ∀ {l : List Int} {vs : List Value}, IntsV l vs → RepL B.c2 H (l.map .int) vs
  | [], _, .nil => .nil
  | _ :: _, _, .cons s => .cons (.int _ _) (ints_rep s)
theorem TupIK.at {a : Addr} {l : List Int} (h : TupIK K a l) : Rep B.c2 B.c2.h₀ (.tup (l.map .int)) (.ref a) := by
  obtain ⟨vs, n, e, s⟩ := h
  exact .tup ⟨n, hK _ _ e⟩ (ints_rep hK s)
theorem MgK.at {x : Str} {v : Value} (h : MgK K x v) : B.c2.glb x v := .inl (mg_of hK B.hmg h)
theorem BiK.at (hb : ∀ x : Str, x ≠ "__name__" → B.mb x = bootBuiltins x) {x : Str} {v : Value} (h : BiK K x v) : B.c2.glb x v := .inr ⟨mg_none_of hK B.hmg h.1, (hb x (by simpa using h.2.1)).trans h.2.2⟩
theorem mkl_of (hb : ∀ x : Str, x ≠ "__name__" → B.mb x = bootBuiltins x) {p : Params} (k : KF p K) : MkL B K where
  cls := k.cLx
  init := k.mLxI
  hinit := k.hLxI.at hK
  hlex := k.hLexI.at hK
  free := k.lxFree
  gLexer := k.gLexer.at hK
  lexR := k.lexR
  lexV := k.lexV
  ptM := k.mPT
  hpt := k.hPT.at hK fun v e => by subst e; exact .none
  gdM := k.mGD
  hgd := k.hGD.at hK
  hme := k.hME.at hK
  hinh := k.hIN.at hK
  psM := k.mPS
  hps := k.hPS.at hK
  nsM := k.mNS
  hns := k.hNS.at hK
  rgM := k.mRG
  hrg := k.hRG.at hK
  tkM := k.mTK
  htk := k.hTK.at hK
  fl := k.fl
  cpl := k.cPl
  mtM := k.mMatch
  mtG := k.mtG
  mtT := k.mtT
  clss := fun c h => by
    rcases h with rfl | rfl | rfl | rfl
    · exact k.clIncl
    · exact k.clInh
    · exact k.clDeft
    · exact k.clComb
  gIncl := k.gIncl.at hK
  gInh := k.gInh.at hK
  gDeft := k.gDeft.at hK
  gComb := k.gComb.at hK
  gMerged := k.gMerged.at hK
  gInhP := k.gInhP.at hK
  gTok := k.gTok.at hK
  gEn := k.bEn.at hK hb
  gIs := k.bIs.at hK hb
  gStr := k.bStr.at hK hb
  gInt := k.bInt.at hK hb
  gType := k.bType.at hK hb
  gTup := k.bTup.at hK hb
  gLen := k.bLen.at hK hb
  gList := k.bList.at hK hb
/-- a match's letter -/
theorem pm_call {n : Nat} {f : Addr} {p : Int} {l : Str} {r : AV} (h : ∀ c, l = ⟨#[c]⟩ → CallJ B.c2 n (.ref f) [.ext (.pm p l)] r) : CallJ B.c2 n (.ref f) [.ext (.pm p l)] r := fun A M s vs ak h0 hM hM0 rl Q E q => by
  obtain ⟨v, rfl, rv⟩ := id rl.one
  obtain ⟨⟨c, e⟩, _⟩ := (show RPm _ _ _ _ from rv.ext_)
  exact h c e A M s [v] ak h0 hM hM0 rl Q E q
theorem lex_of (hb : ∀ x : Str, x ≠ "__name__" → B.mb x = bootBuiltins x) {p : Params} (k : KF p K) : Nonempty (Lex B.c2) := by
  have hG := k.hGroup.at (B := B) (d := .int 0) hK fun v ⟨t, e⟩ => by subst e; exact .int _ _
  have hE := k.hEnd.at (B := B) (d := .int 0) hK fun v ⟨t, e⟩ => by subst e; exact .int _ _
  have hMt := k.hMatch.at (B := B) (d := .none) hK fun v e => by subst e; exact .none
  have hGf : IsFn B.c2 fGroup := by
    obtain ⟨name, qual, oc, od, osl, doc, pm, an, cdv, ct, dT, oT, dv, n, ho, _⟩ := hG
    exact ⟨_, _, ho, rfl⟩
  have hEf : IsFn B.c2 fEnd := by
    obtain ⟨name, qual, oc, od, osl, doc, pm, an, cdv, ct, dT, oT, dv, n, ho, _⟩ := hE
    exact ⟨_, _, ho, rfl⟩
  have gLen := k.bLen.at (B := B) hK hb
  exact ⟨{
    gType := k.bType.at hK hb, gLen := gLen, gIs := k.bIs.at hK hb, gTup := k.bTup.at hK hb, gInt := k.bInt.at hK hb, gStr := k.bStr.at hK hb, gAbs := k.bAbs.at hK hb, gList := k.bList.at hK hb
    kTok := kTok, gTok := k.gTok.at hK
    vWs := _, gWs := k.gWs.at hK, rWs := k.tWs.at hK
    vErr := _, gErr := k.gErr.at hK, rErr := k.tErr.at hK
    typ := typ_tok hK
    tokens := fun T => lexer_get hK k.cLx (k.lxFree _ (by simp)) T
    names := fun nm => names_get hK k.cTok k.tokNames nm
    mat := fun l text pos h1 h2 => mat_call hK k.cPl k.plRows k.cPM k.mPMI (k.hPMI.at hK) k.pmPlace k.pmPieces hMt gLen (k.gPM.at hK) l text pos h1 h2
    matK := fun l => mat_keeper hK k.isf (by
      obtain ⟨name, qual, oc, od, osl, doc, pm, an, cdv, ct, dT, oT, dv, n, ho, _⟩ := k.hMatch
      exact ⟨_, _, _, _, ho⟩) l
    pmT := fun p l => pm_true hK k.pmBool k.pmLen p l
    grp := fGroup, grpM := fun p l => pm_meth hK k.cPM k.mGroup (by decide) (by decide) p l, grpF := hGf
    grpC := fun p l _ => pm_call hK fun c e => by subst e; exact (group_ok hK k.cPM k.pmPieces hG p c).less (by decide)
    fin := fEnd, finM := fun p l => pm_meth hK k.cPM k.mEnd (by decide) (by decide) p l, finF := hEf
    finC := fun p l _ => pm_call hK fun c e => by subst e; exact end_ok hK k.cPM k.pmPlace k.pmPieces k.mGroup hG hGf hE gLen p c }⟩
theorem lawy_of (hb : ∀ x : Str, x ≠ "__name__" → B.mb x = bootBuiltins x) {p : Params} (k : KF p K) : Nonempty (Lawy B.c2) := by
  obtain ⟨lx⟩ := lex_of hK hb k
  exact ⟨{
    lex := lx
    gRange := k.bRange.at hK hb
    vName := _, gName := k.gName.at hK, rName := k.tName.at hK
    child := fChild, childM := tok_meth hK k.cTok k.mChild (by decide) _, childF := fn_there (k.hChild.at hK)
    childC := fun t ht => child_ok hK k.cTok k.mTokI (k.hTokI.at hK) k.tokNames (k.hChild.at hK) (k.gTok.at hK) ht
    cPlain := kPlain, gPlain := k.gPlain.at hK, kPlain := cls_keeper hK k.cPl, plainC := fun c => plain_make hK k.cPl k.mPlI (k.hPlI.at hK) k.plRows c
    cLex := kLex, gLex := k.gLex.at hK, kLex := cls_keeper hK k.cLx, lexC := fun T hT => lex_make hK (mkl_of hK hb k) hT
    aGen := 577
    hGen := by
      obtain ⟨name, qual, oc, od, osl, doc, pm, an, cdv, ct, dT, oT, dv, n, e, c, e2, e3, _⟩ := k.hGen
      exact ⟨name, qual, oc, od, osl, doc, pm, an, cdv, ct, dT, oT, dv, n, hK _ _ e, codeRec_of hK c, hK _ _ e2, e3⟩
    genM := fun T => lexer_meth hK k.cLx k.mGen T
    aTold := 687, hTold := k.hTold.at hK, gTold := k.gTold.at hK
    aDraws := 680, hDraws := k.hDraws.at hK, gDraws := k.gDraws.at hK
    vStates := _, gStates := k.gStates.at hK, rStates := k.tStates.at hK }⟩
theorem law1_of (hb : ∀ x : Str, x ≠ "__name__" → B.mb x = bootBuiltins x) (k : KF B.w.params K) : Nonempty (Law1 B.c2) := by
  obtain ⟨y⟩ := lawy_of hK hb k
  exact ⟨{
    y := y
    vTags := _, gTags := k.gTags.at hK
    rTags := by
      obtain ⟨ep, t1, t2, t3, u1, u2, u3, e⟩ := k.tTags
      refine .dS (vs := [.str "R" u1, .str "P" u2, .str "Q" u3]) (by decide) rfl ⟨_, _, _, hK _ _ e, ⟨rfl, rfl, rfl⟩, rfl, ?_, ?_, (show (["root", "p", "q"] : List Str).Nodup by decide)⟩ (.cons (.str _ _) (.cons (.str _ _) (.cons (.str _ _) .nil)))
      · intro en h
        simp only [List.mem_toArray, List.mem_cons, List.not_mem_nil, or_false] at h
        rcases h with rfl | rfl | rfl
        · exact ⟨"root", strKind_is _ _ _ _, rfl⟩
        · exact ⟨"p", strKind_is _ _ _ _, rfl⟩
        · exact ⟨"q", strKind_is _ _ _ _, rfl⟩
      · exact .cons (strKind_is _ _ _ _) rfl (.cons (strKind_is _ _ _ _) rfl (.cons (strKind_is _ _ _ _) rfl .nil))
    vUps := _, gUps := k.gUps.at hK, rUps := k.tUps.at hK
    vDowns := _, gDowns := k.gDowns.at hK, rDowns := k.tDowns.at hK
    aMove := 694, hMove := k.hMove.at hK, gMove := k.gMove.at hK
    aStep := 701, hStep := k.hStep.at hK, gStep := k.gStep.at hK
    aBelow := 708, hBelow := k.hBelow.at hK, gBelow := k.gBelow.at hK
    aPumps := 715, hPumps := k.hPumps.at hK, gPumps := k.gPumps.at hK }⟩
end
end
section
variable {C : Cx}
/-! ## the end -/
theorem ints_are {C : Cx} {H : Heap} : ∀ {ws : List Value} {ns : List Int}, IntsAre ws ns → RepL C H (ns.map .int) ws
  | _, _, .nil => .nil
  | _, _, .cons _ _ r => .cons (.int _ _) (ints_are r)
theorem law1_end {p : Program} {w : World} {K : Frag} {s₁ : Shared} {mg mb : Str → Option Value} {fa a : Addr} {ns : List Int} {ws : List Value} {Q E : Value → Shared → Prop} (KX : K.In s₁.heap) (k : KF w.params K) (g : s₁.heap.Ns mainGlobals mg) (b : s₁.heap.Ns builtinsNs mb) (nl : s₁.heap.NoLimit)
    (hb : ∀ x : Str, x ≠ "__name__" → mb x = bootBuiltins x) (hfa : mg "law" = some (.ref fa)) (gl : MgK K "law" (.ref 720)) (hL : ListAt s₁.heap a ws) (hI : IntsAre ws ns) (hlen : ns.length ≤ 63)
    (q : ∀ s', Grow s₁ s' → Q (.bool true) s') : wpAny (model p w) callerA (call (.ref fa) [.ref a]) Q E s₁ := by
  have e := mg_of KX g gl
  rw [hfa] at e
  cases e
  let B : Bx := { prog := p, w := w, h₀ := s₁.heap, mg := mg, mb := mb, hmg := g, hmb := b, nolim := nl }
  have hK : K.In B.h₀ := KX
  obtain ⟨X⟩ := law1_of (B := B) hK hb k
  have h0 : Sub B.c2.h₀ (hid s₁.heap []) := fun b o e => hid_get e (by simp)
  obtain ⟨n, el⟩ := hL
  have ak : AOk 41 callerA := ⟨rfl, by decide, by decide⟩
  refine law_ok (C := B.c2) (k.hLaw.at hK) X (n := 40) (by decide) (s := ns) (by omega) callerA [] s₁ [.ref a] ak h0 (fun a h => nomatch h) (fun a h => nomatch h) (.cons (.lst ⟨n, h0 _ _ el⟩ (ints_are hI)) .nil) Q E fun v s' gr rv => ?_
  rw [rv.bool_]
  exact q s' gr
theorem good_end {c : ClaimW} {cl : Str → Option Addr} {mean : ExcName → Option Value} {args : List WData} {s₁ s' : Shared} (g : Grow s₁ s') (hg : s₁.gens = #[]) (hr : ∀ cls, c.raises args cls = false) (hp : c.post args (.bool true) args = true) :
    GoodWG c cl mean args s₁ (.ok (.ret (.bool true))) s' :=
  ⟨.inl ⟨_, _, [], rfl, hr, ReadsW.bool true, hp, fun _ => ⟨List.nodup_nil, fun _ hm => (nomatch hm)⟩⟩, .of_keep g.keep, g.os, g.bare (.of_eq hg)⟩
end
end Mine
end
section
open PySem PySem.W PySem.W.X PySem.W.ZRun PyProof.Rows
set_option Elab.async true
def Mine.zha.tw17183413109058038442 : Unit := ()
def Mine.zha.tw2156414595965093468 : Unit := ()
def Mine.zha.tw3699288548583892184 : Unit := ()
def Mine.zha.tw4477018113541726834 : Unit := ()
set_option maxRecDepth 100000 in
set_option maxHeartbeats 0 in
theorem Mine.zha : PySem.Challenge.rw_bf5016_01.Holds := by
  w_on; o_law; z_head; (case hw => w_witness2)
  k_fill
  intro w s₀ s₁ mg mb G y fa o pm cd doc dV kV ho hd hcd hD hmg hg args vals as L hpre hlay hrd hwl hlo
  z_open y L KX ZH ZN ZT
  refine Ground.open G ?_
  intro T B D TE TW
  wrow_args hpre hlay hrd hwl hlo
  rename_i ns hs0 hlay0 hLay hr1 hl2 as4 as3 a ws as0 hL ra w1 r0 hI hr0 hcond htr
  show wpAny (model PySem.Challenge.rw_bf5016_01.row.prog w) callerA (call (.ref fa) [.ref a]) _ _ s₁
  refine Mine.law1_end KX ?zkf T.g T.b T.nolimit T.builtins hmg (by rfl) ⟨_, script_obj L hL⟩ hI (by omega) ?zend
  case zend => exact fun s' g => Mine.good_end g hg (fun _ => rfl) (by wrow_post)
  case zkf => exact {
    cTok := ⟨by rfl, by rfl, by rfl, by rfl, by rfl, by rfl, by rfl⟩
    cPM := ⟨by rfl, by rfl, by rfl, by rfl, by rfl, by rfl, by rfl⟩
    cPl := ⟨by rfl, by rfl, by rfl, by rfl, by rfl, by rfl, by rfl⟩
    cLx := ⟨by rfl, by rfl, by rfl, by rfl, by rfl, by rfl, by rfl⟩
    tokNames := by rfl
    plRows := by rfl
    pmPlace := by rfl
    pmPieces := by rfl
    pmBool := by rfl
    pmLen := by rfl
    lxFree := by
      intro y hy
      simp only [List.mem_cons, List.not_mem_nil, or_false] at hy
      rcases hy with rfl | rfl | rfl | rfl | rfl | rfl | rfl | rfl | rfl <;> rfl
    mTokI := ⟨by rfl, by rfl⟩
    mChild := ⟨by rfl, by rfl⟩
    mPMI := ⟨by rfl, by rfl⟩
    mGroup := ⟨by rfl, by rfl⟩
    mEnd := ⟨by rfl, by rfl⟩
    mPlI := ⟨by rfl, by rfl⟩
    mMatch := ⟨by rfl, by rfl⟩
    mLxI := ⟨by rfl, by rfl⟩
    mGen := ⟨by rfl, by rfl⟩
    mPT := ⟨by rfl, by rfl⟩
    mGD := ⟨by rfl, by rfl⟩
    mPS := ⟨by rfl, by rfl⟩
    mNS := ⟨by rfl, by rfl⟩
    mRG := ⟨by rfl, by rfl⟩
    mTK := ⟨by rfl, by rfl⟩
    hTokI := ⟨_, _, _, _, _, _, _, _, _, _, rfl, by rfl⟩
    hChild := ⟨_, _, _, _, _, _, _, _, _, _, rfl, by rfl⟩
    hPMI := ⟨_, _, _, _, _, _, _, _, _, _, rfl, by rfl⟩
    hGroup := ⟨_, _, _, _, _, _, _, _, _, _, _, _, _, _, rfl, by rfl, rfl, rfl, ⟨_, rfl⟩⟩
    hEnd := ⟨_, _, _, _, _, _, _, _, _, _, _, _, _, _, rfl, by rfl, rfl, rfl, ⟨_, rfl⟩⟩
    hPlI := ⟨_, _, _, _, _, _, _, _, _, _, rfl, by rfl⟩
    hMatch := ⟨_, _, _, _, _, _, _, _, _, _, _, _, _, _, rfl, by rfl, rfl, rfl, rfl⟩
    hLxI := ⟨_, _, _, _, _, _, _, _, _, _, rfl, by rfl⟩
    hLexI := ⟨_, _, _, _, _, _, _, _, _, _, rfl, by rfl⟩
    hGen := ⟨_, _, _, _, _, _, _, _, _, _, _, _, _, _, rfl, by rfl, rfl, rfl, trivial⟩
    hPT := ⟨_, _, _, _, _, _, _, _, _, _, _, _, _, _, rfl, by rfl, rfl, rfl, rfl⟩
    hGD := ⟨_, _, _, _, _, _, _, _, _, _, rfl, by rfl⟩
    hME := ⟨_, _, _, _, _, _, _, _, _, _, rfl, by rfl⟩
    hIN := ⟨_, _, _, _, _, _, _, _, _, _, rfl, by rfl⟩
    hPS := ⟨_, _, _, _, _, _, _, _, _, _, rfl, by rfl⟩
    hNS := ⟨_, _, _, _, _, _, _, _, _, _, rfl, by rfl⟩
    hRG := ⟨_, _, _, _, _, _, _, _, _, _, rfl, by rfl⟩
    hTK := ⟨_, _, _, _, _, _, _, _, _, _, rfl, by rfl⟩
    lexR := by rfl
    lexV := by rfl
    fl := ⟨_, rfl, rfl⟩
    mtG := by rfl
    mtT := by rfl
    isf := by rfl
    clIncl := ⟨by rfl, by rfl⟩
    clInh := ⟨by rfl, by rfl⟩
    clDeft := ⟨by rfl, by rfl⟩
    clComb := ⟨by rfl, by rfl⟩
    tName := ⟨_, _, _, _, _, rfl, rfl, ⟨_, _, rfl, .cons .nil⟩, rfl, .cons .nil⟩
    tWs := ⟨_, _, _, _, _, rfl, rfl, ⟨_, _, rfl, .cons .nil⟩, rfl, .cons (.cons .nil)⟩
    tErr := ⟨_, _, _, _, _, rfl, rfl, ⟨_, _, rfl, .cons .nil⟩, rfl, .cons .nil⟩
    gLexer := by rfl
    gIncl := by rfl
    gInh := by rfl
    gDeft := by rfl
    gComb := by rfl
    gMerged := by rfl
    gInhP := by rfl
    gTok := by rfl
    gWs := by rfl
    gErr := by rfl
    gName := by rfl
    gPlain := by rfl
    gPM := by rfl
    gLex := by rfl
    gStates := by rfl
    tStates := ⟨_, _, rfl, .cons (.cons (.cons .nil))⟩
    bEn := ⟨by rfl, by decide, by rfl⟩
    bIs := ⟨by rfl, by decide, by rfl⟩
    bStr := ⟨by rfl, by decide, by rfl⟩
    bInt := ⟨by rfl, by decide, by rfl⟩
    bType := ⟨by rfl, by decide, by rfl⟩
    bTup := ⟨by rfl, by decide, by rfl⟩
    bLen := ⟨by rfl, by decide, by rfl⟩
    bAbs := ⟨by rfl, by decide, by rfl⟩
    bList := ⟨by rfl, by decide, by rfl⟩
    bRange := ⟨by rfl, by decide, by rfl⟩
    gTold := by rfl
    hTold := ⟨_, _, _, _, _, _, _, _, _, _, rfl, by rfl⟩
    gDraws := by rfl
    hDraws := ⟨_, _, _, _, _, _, _, _, _, _, rfl, by rfl⟩
    gTags := by rfl
    tTags := ⟨_, _, _, _, _, _, _, rfl⟩
    gUps := by rfl
    tUps := ⟨_, _, rfl, .cons (.cons (.cons (.cons .nil)))⟩
    gDowns := by rfl
    tDowns := ⟨_, _, rfl, .cons (.cons (.cons (.cons .nil)))⟩
    gMove := by rfl
    hMove := ⟨_, _, _, _, _, _, _, _, _, _, rfl, by rfl⟩
    gStep := by rfl
    hStep := ⟨_, _, _, _, _, _, _, _, _, _, rfl, by rfl⟩
    gBelow := by rfl
    hBelow := ⟨_, _, _, _, _, _, _, _, _, _, rfl, by rfl⟩
    gPumps := by rfl
    hPumps := ⟨_, _, _, _, _, _, _, _, _, _, rfl, by rfl⟩
    hLaw := ⟨_, _, _, _, _, _, _, _, _, _, rfl, by rfl⟩ }
end
theorem PySem.Challenge.cw_bf5016_01_holds : PySem.Challenge.rw_bf5016_01.Holds :=
  Mine.zha
